import PyProof.Rows.All
import Wide.All
import OpenK.AllK
import Wide.FinOn
import Lean
import PySem.Challenge.RW_te0050_01
set_option maxRecDepth 100000
set_option maxHeartbeats 0
set_option genInjectivity false
set_option genSizeOf false
set_option genCtorIdx false
set_option tactic.hygienic false
set_option linter.unusedVariables false
noncomputable section
namespace Mine.Internal
theorem U.{u}{α:Sort u}{a:α}:a=a:=rfl
theorem R0:type_of% @List.length_cons:=@List.length_cons
theorem R4:type_of% @List.getElem?_append_right:=@List.getElem?_append_right
theorem R5:type_of% @List.map_append:=@List.map_append
theorem R6:type_of% @List.lookup_cons:=@List.lookup_cons
theorem R7:type_of% @Nat.lt_of_succ_lt_succ:=@Nat.lt_of_succ_lt_succ
theorem R8:type_of% @Nat.le_of_lt:=@Nat.le_of_lt
theorem R9:type_of% @Nat.sub_add_cancel:=@Nat.sub_add_cancel
theorem Sa:type_of% @List.getElem?_append_left:=@List.getElem?_append_left
theorem Sb:type_of% @List.length_nil:=@List.length_nil
theorem Sd:type_of% @List.getElem?_set_ne:=@List.getElem?_set_ne
theorem Se:type_of% @Nat.add_le_add_right:=@Nat.add_le_add_right
theorem Sf:type_of% @List.getElem?_map:=@List.getElem?_map
theorem Sg:type_of% @List.flatten_append:=@List.flatten_append
theorem Sh:type_of% @List.map_cons:=@List.map_cons
theorem Si:type_of% @List.getElem?_eq_none:=@List.getElem?_eq_none
theorem Sj:type_of% @Nat.lt_irrefl:=@Nat.lt_irrefl
theorem Sl:type_of% @Nat.sub_self:=@Nat.sub_self
theorem Sm:type_of% @Nat.min_eq_left:=@Nat.min_eq_left
theorem Sn:type_of% @List.length_take:=@List.length_take
theorem So:type_of% @Nat.lt_succ_self:=@Nat.lt_succ_self
theorem Sp:type_of% @Bool.and_false:=@Bool.and_false
theorem Sq:type_of% @Int.le_refl:=@Int.le_refl
theorem Sr:type_of% @Int.natCast_nonneg:=@Int.natCast_nonneg
theorem Ss:type_of% @List.head?_drop:=@List.head?_drop
theorem Su:type_of% @List.getElem?_toArray:=@List.getElem?_toArray
theorem Sv:type_of% @Nat.le_succ_of_le:=@Nat.le_succ_of_le
theorem Sw:type_of% @List.cons_append:=@List.cons_append
theorem Sx:type_of% @Eq.symm:=@Eq.symm
theorem Sy:type_of% @List.length_drop:=@List.length_drop
theorem Sz:type_of% @List.flatten_cons:=@List.flatten_cons
theorem SA:type_of% @List.drop_drop:=@List.drop_drop
theorem SD:type_of% @List.drop_left:=@List.drop_left
theorem SE:type_of% @Nat.zero_add:=@Nat.zero_add
theorem SF:type_of% @Nat.ne_of_gt:=@Nat.ne_of_gt
theorem SG:type_of% @Nat.lt_trans:=@Nat.lt_trans
theorem SH:type_of% @Nat.ne_of_lt:=@Nat.ne_of_lt
theorem SI:type_of% @Bool.false_ne_true:=@Bool.false_ne_true
theorem SJ:type_of% @List.take_of_length_le:=@List.take_of_length_le
theorem SK:type_of% @List.getElem?_set_self:=@List.getElem?_set_self
theorem SM:type_of% @List.mem_map_of_mem:=@List.mem_map_of_mem
theorem SN:type_of% @Int.le_of_lt:=@Int.le_of_lt
theorem SO:type_of% @Nat.add_assoc:=@Nat.add_assoc
theorem SP:type_of% @List.dropLast_concat:=@List.dropLast_concat
theorem SQ:type_of% @List.size_toArray:=@List.size_toArray
theorem SR:type_of% @Bool.eq_iff_iff:=@Bool.eq_iff_iff
theorem SU:type_of% @List.nil_append:=@List.nil_append
theorem SV:type_of% @List.map_map:=@List.map_map
theorem SW:type_of% @List.cons.inj:=@List.cons.inj
theorem SX:type_of% @Nat.le_of_not_lt:=@Nat.le_of_not_lt
theorem SY:type_of% @List.mapM_cons:=@List.mapM_cons
theorem S0:type_of% @PyProof.Rows.tail_any:=@PyProof.Rows.tail_any
theorem S1:type_of% @List.length_replicate:=@List.length_replicate
theorem S2:type_of% @Int.zero_add:=@Int.zero_add
theorem S3:type_of% @List.getElem?_of_mem:=@List.getElem?_of_mem
theorem S4:type_of% @Nat.lt_succ_of_le:=@Nat.lt_succ_of_le
theorem S5:type_of% @Bool.or_true:=@Bool.or_true
theorem S6:type_of% @List.map_congr_left:=@List.map_congr_left
theorem S7:type_of% @List.dropWhile_cons:=@List.dropWhile_cons
theorem S8:type_of% @Nat.add_le_add:=@Nat.add_le_add
theorem S9:type_of% @Eq.refl:=@Eq.refl
theorem Ta:type_of% @Int.le_trans:=@Int.le_trans
theorem Tb:type_of% @Nat.succ.inj:=@Nat.succ.inj
theorem Tc:type_of% @List.lookup_append:=@List.lookup_append
theorem Td:type_of% @Nat.add_comm:=@Nat.add_comm
theorem Te:type_of% @Nat.lt_or_eq_of_le:=@Nat.lt_or_eq_of_le
theorem Tf:type_of% @Nat.min_le_left:=@Nat.min_le_left
theorem Tg:type_of% @Bool.true_and:=@Bool.true_and
theorem Th:type_of% @List.reverse_cons:=@List.reverse_cons
theorem Ti:type_of% @Prod.mk.inj:=@Prod.mk.inj
theorem kc.{u}{α:Type u}{a b:α}(h:some a=some b):a=b:=Option.some.inj h
theorem ke{n m k:Nat}(a:n<=m)(b:m<=k):n<=k:=Nat.le_trans a b
theorem kg.{u,v}{α:Sort u}{β:Sort v}{NI Qj:α}(f:α->β)(h:NI=Qj):f NI=f Qj:=congrArg f h
theorem kh.{u}{α:Type u}{l:List α}{i:Nat}{a:α}(h:l[i]?=some a):∃h:i<l.length,l[i]=a:=List.getElem?_eq_some_iff.mp h
theorem kj{p:Prop}[i:Decidable p](h:decide p=true):p:=of_decide_eq_true h
theorem kl.{u}{α:Type u}{a b:α}{l:List α}(h:a∈b::l):a=b∨a∈l:=List.mem_cons.mp h
theorem km.{u}{α:Type u}{a b:α}(h:a∈[b]):a=b:=List.mem_singleton.mp h
theorem kq.{u}{α:Type u}{l:List α}{i:Nat}(h:i<l.length):l[i]?=some l[i]:=List.getElem?_eq_getElem h
theorem ku.{u}{α:Type u}{as bs:List α}:(as++bs).length=as.length+bs.length:=List.length_append
theorem ld.{u}{α:Type u}[BEq α][LawfulBEq α]{a b:α}(h:(a==b)=true):a=b:=beq_iff_eq.mp h
theorem lf.{u,v}{α:Type u}{β:Type v}{as:List α}(f:α->β):(as.map f).length=as.length:=List.length_map f
theorem lg.{u}{α:Type u}{a:α}{s t:List α}(h:a∈s∨a∈t):a∈s++t:=List.mem_append.mpr h
theorem lh{n m k:Nat}(a:n<m)(b:m<=k):n<k:=Nat.lt_of_lt_of_le a b
theorem li{n m k:Nat}(a:n<=m)(b:m<k):n<k:=Nat.lt_of_le_of_lt a b
theorem lj{n m:Nat}(h:Nat.ble n m=true):n<=m:=Nat.le_of_ble_eq_true h
theorem lm{b:Bool}(h:(!b)=true):b=false:=(Bool.not_eq_true' b).mp h
theorem lq.{u}{α:Type u}(as bs cs:List α):as++bs++cs=as++(bs++cs):=List.append_assoc as bs cs
theorem lu(n k:Nat):n<=n+k:=Nat.le_add_right n k
theorem lw{n m:Nat}(h:n=m):n<=m:=Nat.le_of_eq h
theorem lx.{u}{α:Type u}{l:List α}{i:Nat}{a:α}(h:l[i]?=some a):a∈l:=List.mem_of_getElem? h
theorem ly{a b:Bool}(h:(a&&b)=true):a=true/\b=true:=Bool.and_eq_true_iff.mp h
theorem ma.{u}{α:Type u}{p:α->Bool}{l:List α}(h:l.all p=true):∀x∈l,p x=true:=List.all_eq_true.mp h
theorem mc{n m:Nat}(h:n<=m)(k:Nat):k+n<=k+m:=Nat.add_le_add_left h k
theorem mf(n:Nat):n<=n:=Nat.le_refl n
theorem mh.{u}{α:Type u}(l:List α):l++[]=l:=List.append_nil l
theorem mj(n:Nat):0<=n:=Nat.zero_le n
theorem mn{n m:Nat}(h:n<=m):n.succ<=m.succ:=Nat.succ_le_succ h
theorem mo.{u}{α:Type u}{a:α}:¬a∈([]:List α):=List.not_mem_nil
theorem mq{n m:Nat}(h:n.succ<=m):n<=m:=Nat.le_of_succ_le h
theorem mu(n m:Nat):n<=m+n:=Nat.le_add_left n m
theorem mw(n:Nat):n<=n.succ:=Nat.le_succ n
theorem mx.{u}{α:Type u}{a:α}{s t:List α}(h:a∈s++t):a∈s∨a∈t:=List.mem_append.mp h
theorem my{a b:Bool}(h:(a||b)=true):a=true∨b=true:=Bool.or_eq_true_iff.mp h
abbrev Zs:=PySem.Str
section
open PySem PySem.W PySem.Calls PyProof.Rows
noncomputable def dP:Pos:=⟨0,0,0,0⟩
noncomputable def dE:Expr:=.Name "" dP
structure Vw where
 t:Nat
 ks:List Expr
 ck:List Keyword
 kn:Nat
 sc:Scope
 id:Zs
 c:Const
noncomputable def Kz:Scope:=⟨.function,[],false,false,[]⟩
noncomputable def HR:PySem.UnaryOp->Nat | .Not=>1 | _=>0
noncomputable def Mk:Expr->Vw
 | .BoolOp _ l _=>⟨1,l,[],0,Kz, "",.none⟩
 | .BinOp a _ b _=>⟨0,[a,b],[],0,Kz, "",.none⟩
 | .UnaryOp o a _=>⟨HR o,[a],[],0,Kz, "",.none⟩
 | .IfExp a b c _=>⟨1,[a,b,c],[],0,Kz, "",.none⟩
 | .Dict ks vs _=>⟨6,ks.map (·.getD dE)++vs,[],0,Kz, "",.none⟩
 | .ListComp e gs sc _=>⟨3,e::gs.flatMap λg=>[g.target,g.iter],[],0,sc, "",.none⟩
 | .Compare a _ l _=>⟨1,a::l,[],0,Kz, "",.none⟩
 | .Call f l k _=>⟨0,f::l,k,0,Kz, "",.none⟩
 | .Attribute a _ _=>⟨5,[a],[],0,Kz, "",.none⟩
 | .Subscript a b _=>⟨5,[a,b],[],0,Kz, "",.none⟩
 | .List l _=>⟨0,l,[],0,Kz, "",.none⟩
 | .Tuple l k _=>⟨4,l,[],k,Kz, "",.none⟩
 | .Slice a b _ _=>⟨2,[a.getD dE,b.getD dE],[],0,Kz, "",.none⟩
 | .JoinedStr l _=>⟨0,l,[],0,Kz, "",.none⟩
 | .FormattedValue a _ _ _=>⟨0,[a],[],0,Kz, "",.none⟩
 | .Constant c k _=>⟨5,[],[],k,Kz, "",c⟩
 | .Name x _=>⟨5,[],[],0,Kz,x,.none⟩
 | .Starred .. | .SetComp .. | .DictComp .. | .Set ..=>⟨2,[],[],0,Kz, "",.none⟩
 | _=>⟨0,[],[],0,Kz, "",.none⟩
structure VS where
 ks:List Expr
 a:List Stmt
 b:List Stmt
 k:Nat
 nm:Zs
 as:Arguments
 sc:Scope
 sa:List Zs
noncomputable def Qk:Arguments:=⟨[],[],none,[],[],none,[]⟩
noncomputable def Qu:Stmt->VS
 | .Return v _=>⟨[v.getD dE],[],[],0, "",Qk,Kz,[]⟩
 | .Assign ts v _=>⟨v::ts,[],[],3, "",Qk,Kz,[]⟩
 | .AugAssign t _ v _=>⟨[v,t],[],[],0, "",Qk,Kz,[]⟩
 | .For t i b _ _=>⟨[t,i],b,[],0, "",Qk,Kz,[]⟩
 | .While t b _ _=>⟨[t],b,[],0, "",Qk,Kz,[]⟩
 | .If t a b _=>⟨[t],a,b,0, "",Qk,Kz,[]⟩
 | .Expr x _=>⟨[x],[],[],0, "",Qk,Kz,[]⟩
 | .FunctionDef nm as b _ _ _ sc _ _ _=>⟨[],b,[],1,nm,as,sc,[]⟩
 | .ClassDef nm bs _ b _ _ _ _ _ sa _=>⟨bs,b,[],2,nm,Qk,Kz,sa⟩
 | _=>⟨[],[],[],0, "",Qk,Kz,[]⟩
structure Mi where
 T:BT
 n:Nat
 k:Nat
noncomputable def Mi.al(s:Mi)(o:Obj):Mi:=⟨s.T.ins s.n o,s.n+1,s.k⟩
noncomputable def Mi.up(s:Mi)(a:Nat)(f:Obj->Obj):Mi:=⟨s.T.set a f,s.n,s.k⟩
noncomputable def Mi.RK(s:Mi)(l:List Obj):Mi:=l.foldl Mi.al s
noncomputable def sv(x:Zs)(t:Nat):Value:=.str x t
noncomputable def iv(n:Nat):Value:=.int n 0
noncomputable def OF(P:Params)(x:Zs)(t:Nat)(v:Value):DictEntry:=⟨PyData.keyHash P x,.str x t,v⟩
noncomputable def lN(l:List Value):Obj:=⟨.type "tuple",none,.seq l.toArray 0,#[]⟩
noncomputable def mX(c:Value)(l:List Value):Obj:=⟨c,none,.fields l.toArray,#[]⟩
noncomputable def C8(l:List DictEntry)(n:Nat):Obj:=⟨.type "dict",none,.dict l.toArray n,#[]⟩
noncomputable def Ge:Zs := "/claim/cut.py"
noncomputable def Db(nm ql:Zs)(k a:Nat)(p:Pos)(np fl:Nat)(fn:Bool)(tab:Nat)(more:List Value)(k':Nat):Obj:=
 mX (.type "code") ([sv nm k,sv ql (k+1),sv Ge (k+2),iv p.line,iv np,iv 0,iv 0,iv fl,.ref a,.bool fn,iv 181,.ref tab,.none]++more++[iv k',iv p.line,sv Ge (k'+1)])
noncomputable def fnO(c:Value)(nm ql:Zs)(as:Arguments)(b:List Stmt)(sc:Scope)(g:Nat)(df:Value)(md cd:Value):Obj:=
 ⟨c,none,.func { name:=nm,qualname:=ql,params:=as,body:=.stmts b,scope:=sc,globals:=g,closure:=[],defaults:=df,kwdefaults:=.none,pyModule:=md,code:=cd},#[]⟩
noncomputable def dfV(e:Expr):Value:=match (Mk e).c with | .bool b=>.bool b | _=>.none
noncomputable def BQ(k:Nat):List Zs->List Value
 | []=>[] | x::r=>sv x k::BQ (k+1) r
noncomputable def FK(sc:Scope):List Zs:=sc.names.filterMap λx=>bif x.2==.local then some x.1 else none
noncomputable def yh(f:DictEntry):Obj->Obj
 | ⟨c,d,.dict es n,s⟩=>⟨c,d,.dict (es.push f) (n+1),s⟩ | o=>o
noncomputable def GD(l:List Value):Obj->Obj
 | ⟨c,d,.fields vs,s⟩=>⟨c,d,.fields (l.foldl Array.push vs),s⟩ | o=>o
noncomputable def Gc(P:Params)(md:Value)(pre:Zs)(ns tab:Nat)(s:Mi)(nm:Zs)(as:Arguments)(b:List Stmt)(sc:Scope)(p:Pos)(cmp:Bool):Mi:=
 let df:=as.defaults.map dfV
 let s:=bif df.isEmpty then s else s.al (lN df)
 let a:=s.n
 let k:=s.k
 let fs:=bif cmp then [] else FK sc
 let f:=bif cmp then a+2 else a+4
 let k':=k+3+fs.length
 let ql:=pre++nm
 let s:=(s.RK [lN [],mX .none []]).RK (bif cmp then [] else [lN (BQ (k+3) fs),lN []])
 let s:=s.RK [fnO .none nm ql as b sc 0 .none .none .none,Db nm ql k a p as.args.length 3 true (a+1) (bif cmp then [.none,.none,.ref f] else [.ref (a+2),.ref (a+3),.ref f]) k',
  fnO (.type "function") nm ql as b sc 3 (bif df.isEmpty then .none else .ref (a - 1)) md (.ref (f+1))]
 let s:=(s.up tab (GD [iv p.line,iv p.col,.ref (f+1)])).up ns (yh (OF P nm (k'+2) (.ref (f+2))))
 ⟨s.T,s.n,k'+3⟩
noncomputable def Gb(P:Params)(k:Nat):List (Expr×Expr)->List DictEntry
 | []=>[]
 | x::r=>(match (Mk x.1).c,(Mk x.2).c with | .str a,.str b=>OF P a k (sv b (k+1))::Gb P (k+2) r | _,_=>[])
noncomputable def HV(P:Params)(md:Value)(pre:Zs)(ns tab:Nat)(s:Mi)(t:Stmt):Mi:=
 let w:=Qu t
 let d:=w.ks.headD dE
 bif Nat.beq w.k 1 then Gc P md pre ns tab s w.nm w.as w.a w.sc t.pos false else bif Nat.beq (Mk d).t 6 then
  let n:=(Mk d).ks.length / 2
  let l:=Gb P s.k (((Mk d).ks.take n).zip ((Mk d).ks.drop n))
  let k:=s.k+3*l.length
  let s:=(s.al (C8 l l.length)).up ns (yh (OF P (Mk (w.ks.tail.headD dE)).id k (.ref s.n)))
  ⟨s.T,s.n,k+1⟩
 else s
noncomputable def Ik(a:Nat)(nm:Zs)(bs mro:List Value)(k k':Nat)(bt:Value)(nw:String):Obj:=
 ⟨.type "type",none,.cls { name:=nm,bases:=bs,mro:=.ref a::mro,ns:=a - 1,qualname:=nm,subclasses:=[]},#[bif bt==.none then none else some bt,none,some (sv nm k),some (sv nm k'),some (.builtin nw),some (.bool true)]⟩
noncomputable def Ho(v:Value):Obj->Obj
 | ⟨c,d,.cls x,s⟩=>⟨c,d,.cls { x with subclasses:=x.subclasses++[v]},s⟩ | o=>o
noncomputable def HT:Option Obj->List Value
 | some ⟨_,_,.cls x,_⟩=>x.mro | _=>[]
noncomputable def FZ(x:Zs):Option Obj->Value
 | some ⟨_,_,.dict es _,_⟩=>((es.toList.find? λe=>match e.key with | .str y _=>x==y | _=>false).map (·.val)).getD .none | _=>.none
noncomputable def Ft(x:String)(a k:Nat)(g h:Value):Obj:=mX (.type "getset_descriptor") [sv (PySem.Str.ofString x) k,.ref a,g,h]
noncomputable def Ij(P:Params)(md:Value)(s:Mi)(nm:Zs)(bs:List Expr)(b:List Stmt)(sa:List Zs)(p:Pos):Mi:=
 let bv:Value:=match bs with
  | [b]=>(match FZ (Mk b).id (s.T.get 3) with | .none=>.type (Mk b).id.toString | v=>v)
  | _=>.type "object"
 let isR:Bool:=match bv with | .ref _=>true | _=>false
 let isX:Bool:=match bv with | .type x=>x == "Exception" | _=>false
 let ba:Nat:=match bv with | .ref x=>x | _=>0
 let mro:List Value:=bif isR then HT (s.T.get ba) else bif isX then [.type "Exception",.type "BaseException",.type "object"] else [.type "object"]
 let nw:=bif mro.any (·==.type "Exception") then "Exception.__new__" else "object.__new__"
 let a:=s.n+1
 let k:=s.k
 let s:=s.al (lN (bif bs.isEmpty then [] else [bv]))
 let e1:=OF P "__module__" (k+7) md
 let e2:=OF P "__qualname__" (k+9) (sv nm (k+8))
 let e3:=OF P "__firstlineno__" (k+11) (.int p.line (k+10))
 let s:=(s.RK [mX (.type "builtin_function_or_method") [.builtin "type.__prepare__",.type "type"],C8 [e1,e2,e3] 3,lN [],mX .none [],Db nm nm (k+2) (a+2) p 0 0 false (a+3) [.none,.none,.none] (k+5),
  ⟨.type "frame",none,.plain,#[some (.ref (a+4)),some (.ref 3),some (.ref (a+1)),none,some md,none,some (.ref 0)]⟩]).up 12 (GD [iv p.line,iv p.col,.ref (a+4)])
 let s:=b.foldl (HV P md (nm ++ ".") (a+1) (a+3)) ⟨s.T,s.n,k+12⟩
 let k₂:=s.k+sa.length
 let t:=s.n
 let c:=t+2
 let e4:=OF P "__static_attributes__" k₂ (.ref t)
 let s:=(s.al (lN (BQ s.k sa))).up (a+1) (yh e4)
 let ms:=match s.T.get (a+1) with | some ⟨_,_,.dict es _,_⟩=>es.toList | _=>[]
 let gs:=bif isR then [] else bif isX then [("__weakref__",Value.builtin "ExceptionGroup.__weakref__",Value.none)] else [("__dict__",Value.builtin "function.__dict__",Value.builtin "function.__dict__#set"),("__weakref__",Value.builtin "ExceptionGroup.__weakref__",Value.none)]
 let g:=gs.length
 let P5:=k₂+1+2*g
 let s:=s.RK ([C8 (e1::ms.tail.tail++(gs.zipIdx.map λq=>OF P (PySem.Str.ofString q.1.1) (k₂+2+2*q.2) (.ref (c+1+q.2)))++[OF P "__doc__" P5 .none]) (2+g),
  Ik c nm [bv] mro k (k+8) (bif bs.isEmpty then .none else .ref (a - 1)) nw]++(gs.zipIdx.map λq=>Ft q.1.1 c (k₂+1+2*q.2) q.1.2.1 q.1.2.2)++
  [mX (.type "super") [.ref c,.ref c,.ref c],mX (.type "builtin_function_or_method") [.builtin "object.__init_subclass__",.ref c]])
 let s:=bif isR then s.up ba (Ho (.ref c)) else s
 let s:=bif isX then s.up 2 λ_=>⟨.none,none,.dict #[OF P "type.__subclasses__.Exception.0" (P5+1) (iv c),OF P "type.__subclasses__.Exception.n" (P5+2) (iv 1)] 2,#[]⟩ else s
 let k₄:=P5+(bif isX then 4 else 2)
 let s:=s.up 3 (yh (OF P nm k₄ (.ref c)))
 ⟨s.T,s.n,k₄+1⟩
noncomputable def Er(v:Value):Obj->Obj
 | ⟨c,d,.dict es n,s⟩=>⟨c,d,.dict (match es.toList with | e::r=>({ e with val:=v}::r).toArray | []=>es) n,s⟩ | o=>o
noncomputable def Hm(P:Params)(s:Mi)(t:Stmt):Mi:=
 let w:=Qu t
 let m:=FZ "__name__" (s.T.get 3)
 bif Nat.beq w.k 1 then Gc P m "" 3 12 s w.nm w.as w.a w.sc t.pos (w.nm == "_law_moved" || w.nm == "law") else bif Nat.beq w.k 2 then Ij P m s w.nm w.ks w.a w.sa t.pos else
  match (Mk (w.ks.headD dE)).c with | .str x=>⟨s.T.set 3 (Er (sv x s.k)),s.n,s.k+2⟩ | _=>s
noncomputable def Cg(l:List Obj):Mi:=(⟨.nil,0,0⟩:Mi).RK l
noncomputable def Go(P:Params):Mi:=
 let s:=Cg (boot_heap P).objs.toList
 let s:=s.RK [lN [],mX .none [],Db "<module>" "<module>" 182 11 ⟨1,0,0,0⟩ 0 0 false 12 [.none,.none,.none] 185,⟨.type "frame",none,.plain,#[some (.ref 13),some (.ref 3),some (.ref 3),none,some (sv "__main__" 164),none,some (.ref 0)]⟩]
 ⟨s.T,s.n,187⟩
noncomputable abbrev pw:Program:=PySem.Challenge.pw_te0050_01
noncomputable def wR:List Stmt:=behindTheImports pw
noncomputable def ent:Env:={ scope:=pw.main.scope,locals:=mainNs,globals:=mainNs,cells:=[],code:=.ref 13,frame:=some 14}
noncomputable def zP:Pos:=⟨0,0,0,0⟩
noncomputable abbrev Qh:Code:=.body wR ent
noncomputable abbrev nC:Option Value:=some (.ref 6)
noncomputable def Rh(a k:Nat):List Stmt:=(wR.drop a).take k
noncomputable def gS(i:Nat)(P:Params):Mi:=(wR.take i).foldl (Hm P) (Go P)
noncomputable def Pu(s:Mi)(os:OsState):SharedT:=⟨s.T,s.n,{},Array.mk [],boot_drawn,s.k,os⟩
noncomputable abbrev seg:=PySem.W.Fast.tw10110043849684766642
theorem B6:@segRunT=@seg:=PySem.W.Fast.te10110043849684766642
abbrev ga(w:World)(a k n:Nat)(p p':Pos):Prop:=∀os,segRunT treeTable pw w 11 nC 1 n (Pu (gS a w.params) os) (piecesOf (Rh a k) ent Qh p [topFrame zP])=some (.next,Pu (gS (a+k) w.params) os,Qh,p')
theorem du{w:World}{a k n:Nat}{p p':Pos}(h:(λos=>seg treeTable pw w 11 nC 1 n (Pu (gS a w.params) os) (piecesOf (Rh a k) ent Qh p [topFrame zP]))=λos=>some (.next,Pu (gS (a+k) w.params) os,Qh,p')):ga w a k n p p':=λos=>by
 rw[B6];exact congrFun h os
theorem pc1(w:World):ga w 0 8 1300 zP ⟨31,0,32,8⟩:=du (by kernel_rfl)
theorem pc2(w:World):ga w 8 8 2000 ⟨31,0,32,8⟩ ⟨69,0,70,8⟩:=du (by kernel_rfl)
theorem pc3(w:World):ga w 16 5 1000 ⟨69,0,70,8⟩ ⟨78,0,88,38⟩:=du (by kernel_rfl)
theorem HQ(w:World):ga (w.withFollow "special-get-raises" false) 21 1 2500 ⟨78,0,88,38⟩ ⟨89,0,962,20⟩:=du (by kernel_rfl)
theorem HP(w:World):ga (w.withFollow "special-get-raises" true) 21 1 2500 ⟨78,0,88,38⟩ ⟨89,0,962,20⟩:=du (by kernel_rfl)
theorem pc4(w:World):ga w 21 1 2500 ⟨78,0,88,38⟩ ⟨89,0,962,20⟩:=byRow2 "special-get-raises" (P:=λw=>ga w 21 1 2500 ⟨78,0,88,38⟩ ⟨89,0,962,20⟩) HQ HP w
theorem pc5(w:World):ga w 22 11 800 ⟨89,0,962,20⟩ ⟨1037,0,1093,78⟩:=du (by kernel_rfl)
theorem HN(w:World)(os:OsState):topGo treeTable pw w 11 nC 12 ⟨boot_heap w.params,Array.mk [],boot_drawn,boot_toks,os⟩ (topStub pw)=some ((Pu (gS 0 w.params) os).abs,⟨denote treeTable Qh,Qh,zP,[topFrame zP]⟩):=by kernel_rfl
theorem Ip(w:World)(os:OsState):segRun treeTable pw w 11 nC 1 1 (Pu (gS 0 w.params) os).abs (blockOf wR ent Qh zP [topFrame zP])=some (.next,(Pu (gS 0 w.params) os).abs,Qh,zP):=by kernel_rfl
theorem Ic(w:World)(os:OsState):topRun treeTable pw w 11 nC 2 (Pu (gS 33 w.params) os).abs ⟨doneF .next,Qh,⟨1037,0,1093,78⟩,[topFrame zP]⟩=some (Pu (gS 33 w.params) os).abs:=by kernel_rfl
theorem Ii:wR=Rh 0 8++(Rh 8 8++(Rh 16 5++(Rh 21 1++(Rh 22 11++[])))):=by kernel_rfl
noncomputable def fL(P:Params):Heap:=absHeap (gS 33 P).T 836 {}
theorem HL(w:World)(os:OsState):topRun treeTable pw w 11 nC (12+(1+(1300+(2000+(1000+(2500+(800+2))))))) ⟨boot_heap w.params,Array.mk [],boot_drawn,boot_toks,os⟩ (topStub pw)=some (Pu (gS 33 w.params) os).abs:=by
 refine go_top (HN w os) (piece_block (env:=ent) (Ip w os) ?_)
 rw[Ii]
 exact piece_app (segRun_of (pc1 w os)) (piece_app (segRun_of (pc2 w os)) (piece_app (segRun_of (pc3 w os)) (piece_app (segRun_of (pc4 w os)) (piece_app (segRun_of (pc5 w os)) (piece_nil (Ic w os))))))
theorem HK(w:World)(os:OsState):topRun treeTable pw w 11 nC (12+(1+(1300+(2000+(1000+(2500+(800+2))))))) ⟨boot_heap w.params,Array.mk [],boot_drawn,boot_toks,os⟩ (topStub pw)=some ⟨fL w.params,Array.mk [],boot_drawn,1411,os⟩:=
 (HL w os).trans (by kernel_rfl)
theorem EO:∀w:World,(fencedOpening treeTable pw w 20000).map (λs=>(s.heap,s.gens,s.drawn,s.toks))=some (boot_heap w.params,Array.mk [],boot_drawn,boot_toks):=
 boot_open (by kernel_rfl) (by kernel_rfl) λs=>by kernel_rfl
theorem El(w:World):((boot_heap w.params).isNs mainGlobals&&(Array.mk []:Array GenState).size==0,(boot_heap w.params).objs.size,(boot_heap w.params).nsMap mainGlobals "__annotations__")=(true,11,nC):=by kernel_rfl
noncomputable def HX(t:Stmt):Bool:=match (Mk ((Qu t).ks.headD dE)).c with | .str _=>true | _=>false
noncomputable def Fk(t:Stmt):Bool:=Nat.beq (Qu t).k 1||(Nat.beq (Qu t).k 2||HX t)
noncomputable def vw:Program:={ pw with main:={ pw.main with body:=pw.main.body.filter Fk}}
noncomputable def loo:List Zs:=["Event", "NodeEvent", "CollectionStartEvent", "StreamStartEvent", "DocumentStartEvent", "DocumentEndEvent", "ScalarEvent", "Emitter", "_law_put"]
noncomputable def XtF(s:Shared):Bool:=xlAt vw [] s&&recOk [] s
noncomputable abbrev KJ:=PySem.W.Fast.tw4187177175401517315
theorem Cc:@openSeen=@KJ:=PySem.W.Fast.te4187177175401517315
theorem HJ(w:World)(os:OsState):openSeen vw loo (importedModules pw.main.body) XtF true ⟨fL w.params,Array.mk [],boot_drawn,1411,os⟩=openGood vw loo:=by
 rw[Cc];kernel_rfl
theorem Eg(w:World)(os:OsState):(staticsOk (importedModules pw.main.body) (boot_heap w.params) (fL w.params)&&namesBound pw (fL w.params)&&gensDone ⟨fL w.params,Array.mk [],boot_drawn,1411,os⟩&&laidKept (boot_heap w.params) (fL w.params))=true:=by kernel_rfl
theorem E9:LeftO pw vw loo XtF (λs=>s.heap) (λw=>fL w.params) 20000:=LeftO.of_pieces EO El HK (by kernel_rfl) λw=>funext λos=>by rw[Eg,HJ]
noncomputable def okO(o:Obj):Bool:=bif o.cls==.none then false else match o.data with | .freed=>false | _=>true
noncomputable def kF(P:Params):Frag:=(List.range 836).filterMap λa=>((gS 33 P).T.get a).bind λo=>bif okO o then some (a,o) else none
theorem pZ{α:Type}{a:Nat}{o:α}:∀{l:List (Nat×α)},l.lookup a=some o->(a,o)∈l
 | (b,x)::r,h=>by
  rw[R6]at h
  cases e:a==b with
  | true=>rw[e]at h;obtain rfl:=kc h;obtain rfl:=ld e;exact .head _
  | false=>rw[e]at h;exact .tail _ (pZ h)
theorem Ff(P:Params):(kF P).In (fL P):=λa o h=>by
 obtain⟨b,hb,h⟩:=List.mem_filterMap.mp (pZ h)
 obtain⟨x,hx,h⟩:=Option.bind_eq_some_iff.mp h
 cases e:okO x with
 | false=>rw[e]at h;cases h
 | true=>
  rw[e]at h;cases h
  refine(abs_get (List.mem_range.mp hb) hx).trans ?_
  obtain⟨c,d,dt,sl⟩:=o
  cases dt <;> first | rfl | (exfalso;revert e;unfold okO;cases (Value.none==c:Bool) <;> simp_all)
theorem Zq0{a b:Bool}(h:a=true)(k:b=true):(a&&b)=true:=by rw[h,k];rfl
noncomputable abbrev Zq1:=PySem.Challenge.rw_te0050_01.prog
theorem Zq2:PySem.W.Fast.tw8326940854005059898 { strict:=!PySem.W.R.allR (PySem.W.Fast.tw5923862056798008813 Zq1.main.body) (PySem.W.Fast.tw3471404346716756564 PySem.W.Fast.tw17691160309236699985),foot:=none,bare:=PySem.W.R.filterR (PySem.W.Fast.tw13343964577679436407 Zq1 Zq1.main.body) ["vars","dir","locals"] } Zq1.main.body=true:=by kernel_rfl
theorem Zq3:PySem.W.Fast.tw8377067652309620493 Zq1=true:=by kernel_rfl
theorem Zq4:(PySem.W.Fast.tw17119622794617984870 Zq1 Zq1.main.body fun _ n=>PySem.W.Fast.tw17868728402115742887 n)=true:=by kernel_rfl
theorem Zq5:PySem.W.Fast.tw12908688711261696721 Zq1=true:=Zq0 (Zq0 (Zq0 (Zq0 (by kernel_rfl) Zq3) (by kernel_rfl)) Zq2) Zq4
theorem Zq6:PySem.W.Fast.tw2436336058641802641 (PySem.W.Fast.tw2368527892694137696 PySem.Challenge.rw_te0050_01)=true:=by
 iterate 13 refine Zq0 ?_ (by kernel_rfl)
 exact Zq5
theorem Eu:PySem.Challenge.rw_te0050_01.wellSaid=true:=by
 rw[show @OpenLaw.wellSaid=@PySem.W.Fast.tw9446332074065402090 from PySem.W.Fast.te9446332074065402090]
 iterate 18 refine Zq0 ?_ (by kernel_rfl)
 exact Zq0 (Zq0 Zq6 (by kernel_rfl)) (by kernel_rfl)
end
inductive X where
 | v (i:Nat) | c (n:Nat) | a (x y:X) | m (k:Nat) (x:X) | w (x:X) (k:Nat)
noncomputable def lz(l:List Nat)(i:Nat):Nat:=Nat.rec (motive:=λJ=>List Nat->Nat) (λl=>l.headD 0) (λJ f l=>f l.tail) i l
noncomputable def X.den(l:List Nat):X->Nat
 | .v i=>lz l i
 | .c n=>n
 | .a x y=>x.den l+y.den l
 | .m k x=>k*x.den l
 | .w x k=>x.den l*k
noncomputable def oW:List Nat->List Nat->List Nat
 | [],l=>l
 | a::r,l=>(a+l.headD 0)::oW r l.tail
noncomputable def uJ:Nat->List Nat
 | 0=>[1]
 | n+1=>0::uJ n
noncomputable def dy:List Nat->List Nat->Nat
 | [],_=>0
 | a::r,l=>a*l.headD 0+dy r l.tail
noncomputable def X.nf:X->List Nat
 | .v i=>0::uJ i
 | .c n=>[n]
 | .a x y=>oW x.nf y.nf
 | .m k x=>x.nf.map (k*·)
 | .w x k=>x.nf.map (k*·)
theorem kW:∀a b l,dy (oW a b) l=dy a l+dy b l
 | [],b,l=>(SE _).symm
 | a::r,[],l=>by show(a+0)*_+dy (oW r []) _=_;rw[kW];rfl
 | a::r,b::q,l=>by show(a+b)*_+dy (oW r q) _=_;rw[kW,Nat.add_mul,Nat.add_add_add_comm];rfl
theorem oI(k:Nat):∀a l,dy (a.map (k*·)) l=k*dy a l
 | [],l=>rfl
 | a::r,l=>by show k*a*_+dy (r.map _) _=k*(a*_+dy r _);rw[oI,Nat.mul_add,Nat.mul_assoc]
theorem wb:∀i l,dy (uJ i) l=lz l i
 | 0,l=>Nat.one_mul _
 | i+1,l=>by show 0*_+dy (uJ i) _=_;rw[wb,Nat.zero_mul,SE];rfl
theorem gp(l:List Nat):∀x:X,dy x.nf (1::l)=x.den l
 | .v i=>by show 0*1+dy (uJ i) l=_;rw[wb,Nat.zero_mul,SE];rfl
 | .c n=>Nat.mul_one n
 | .a x y=>by show dy (oW _ _) _=x.den l+y.den l;rw[kW,gp l x,gp l y]
 | .m k x=>by show dy (x.nf.map _) _=k*x.den l;rw[oI,gp l x]
 | .w x k=>by show dy (x.nf.map _) _=x.den l*k;rw[oI,gp l x,Nat.mul_comm]
noncomputable def geL:List Nat->List Nat->Bool
 | _,[]=>true
 | a,b::q=>Nat.ble b (a.headD 0)&&geL a.tail q
theorem vK:∀a b l,geL a b=true->dy b l<=dy a l
 | _,[],l,_=>mj _
 | [],b::q,l,h=>by
  have:=vK [] q l.tail (ly h).2
  rw[show b=0 from Nat.le_zero.mp (lj (ly h).1)]
  show 0*_+dy q _<=0
  rw[Nat.zero_mul,SE];exact this
 | a::r,b::q,l,h=>S8 (Nat.mul_le_mul_right _ (lj (ly h).1)) (vK r q l.tail (ly h).2)
abbrev Cn:=Nat×X×X
def imp(l:List Nat)(G:Prop)(cs:List Cn):Prop:=cs.foldr (λc g=>c.2.1.den l<=c.2.2.den l->g) G
noncomputable def BO(cs:List Cn):X×X:=cs.foldr (λc s=>(.a (.m c.1 c.2.1) s.1,.a (.m c.1 c.2.2) s.2)) (.c 0,.c 0)
noncomputable def bad(s:X×X):Bool:=geL s.1.nf (oW s.2.nf [1])
theorem vg{l:List Nat}{G:Prop}:∀{cs:List Cn},((BO cs).1.den l<=(BO cs).2.den l->G)->imp l G cs
 | [],h=>h (mf _)
 | c::cs,h=>λhc=>vg (cs:=cs) λhs=>h (S8 (Nat.mul_le_mul_left _ hc) hs)
theorem Dg{l:List Nat}{s:X×X}(hb:bad s=true)(h:s.1.den l<=s.2.den l):False:=by
 have:=vK _ _ (1::l) hb
 rw[kW,gp,gp]at this
 exact Nat.not_succ_le_self _ (ke this h)
theorem Mr(l:List Nat)(k:Nat)(x y:X)(cs:List Cn)(h:bad (BO ((k,.a y (.c 1),x)::cs))=true):imp l (x.den l<=y.den l) cs:=
 vg λhs=>SX λhn=>Dg h (S8 (Nat.mul_le_mul_left _ hn) hs)
noncomputable abbrev Y0:X:=.v 0
noncomputable abbrev Y1:X:=.v 1
noncomputable abbrev Y2:X:=.v 2
noncomputable abbrev Y3:X:=.v 3
noncomputable abbrev Y4:X:=.v 4
noncomputable abbrev Y5:X:=.v 5
theorem nS{α:Type}{G:Prop}{a:α}(h:none=some a):G:=nomatch h
theorem J4{G:Prop}(h:false=true):G:=nomatch h
theorem LA{p:Prop}(h:¬ p->False):p:=Classical.byContradiction h
theorem cN{d k:Nat}(h:k<=d):∃d',d=d'+k:=⟨d - k,(R9 h).symm⟩
section
open PySem
abbrev Tx:=List Nat
noncomputable abbrev yT:Tx:=[116,97,103,58,121,97,109,108,46,111,114,103,44,50,48,48,50,58]
set_option genCtorIdx true in
inductive NL | add | sub | mul | mod | fdiv
set_option genCtorIdx true in
inductive NK | lt | le | gt | ge | eq | ne | LO | nin
inductive B | nul | bool(b:Bool) | int(i:Int) | str(s:Tx) | bb(a b:Bool)
inductive V | uu | b(x:B) | rc(c:Nat)(f:List (Nat×B)) | JA(k i:Nat) | ref(i:Nat) | em(j i:Nat) | Ma | Kh(a r:V)
set_option genCtorIdx true in
inductive Ob | lst(l:List V) | Md(l:List (Tx×Tx)) | ins(c:Nat)(f:List (Nat×V))
structure St where
 cur:List Ob
 JR:List (List Ob)
inductive O0 | stuck | cst(x:B) | neg(i:Nat) | loc(n:Nat)
inductive O1 | not | isNone(y:Bool) | JY(n:Nat) | len | KZ(tup:Bool)(cs:List Nat) | keys | join | pop(fr:Bool) | LH(k:Nat) | Me | Mw
set_option genCtorIdx true in
inductive Fm2 | ss
inductive O2 | cmp(o:NK) | bin(o:NL) | idx | NH(t:Fm2) | starts | Ly | pair | Oc | RF | LN
inductive E
 | n0 (o:O0) | u1 (o:O1) (a:E) | b2 (o:O2) (a b:E)
 | slice (a lo hi:E) | and (a b:E) | or (a b:E) | Ju (t a b:E) | Ku (o p:NK) (a b c:E)
 | new (c:Nat) (as:E) | call (k:Nat) (a as:E) | Lh (n:Nat) (a:E) | JG (k:Nat) (as:E) | K4 (k:Nat) (a as:E) | LL (k q:Nat) (as:E)
 | lst (as:E) | tup (as:E) | comp (en:Bool) (cs:List Nat) (s b:E) | Qf (a:E) (k:Nat)
 | nil | pos (e r:E) | kw (k:Nat) (e r:E)
inductive S
 | nil | cons (s r:S) | stuck | pass | expr (e:E) | asg (ns:List Nat) (e:E) | Mu (k:Nat) (e:E) | Nf (k:Nat) (cs:List Nat) (s b:E) | Pq (ns:List Nat) (e:E) | JD (n:Nat) (o e:E)
 | K5 (n:Nat) (o:NL) (e:E) | KU (n:Nat) (p:NL) (o e:E) | app (o e:E) | ext (o e:E)
 | Ju (t:E) (a b:S) | while (t:E) (b:S) | for (n:Nat) (e:E) (b:S) | forR (n:Nat) (fr:Bool) (e:E) (b:S) | ret (e:E) | MJ
noncomputable def af(b:Bool)(x:α):Option α:=bif b then some x else none
noncomputable def Mv:V->Option B | .b x=>some x | _=>none
noncomputable def B.str?:B->Option Tx | .str s=>some s | _=>none
noncomputable def B.int?:B->Option Int | .int s=>some s | _=>none
noncomputable def B.bb?:B->Option (Bool×Bool) | .bb a b=>some (a,b) | _=>none
noncomputable def B.isNul:B->Bool | .nul=>true | _=>false
noncomputable def one:Tx->Option Nat | [c]=>some c | _=>none
noncomputable def aU(v:V):Option Tx:=(Mv v).bind B.str?
noncomputable def Dk(v:V):Option Nat:=(aU v).bind one
noncomputable def gN(v:V):Option Int:=(Mv v).bind B.int?
noncomputable def GC(v:V):Option (Bool×Bool):=(Mv v).bind B.bb?
noncomputable def jK:V->Option Nat | .ref i=>some i | _=>none
noncomputable def oS:V->Option (Nat×List (Nat×B)) | .rc c f=>some (c,f) | _=>none
noncomputable def Dj:V->Option (Nat×Nat) | .em j i=>some (j,i) | _=>none
noncomputable def lD:V->Option (Nat×Nat) | .JA j i=>some (j,i) | _=>none
noncomputable def ae:V->Bool | .uu=>true | _=>false
noncomputable def bf(v:V):Bool:=(Mv v).any B.isNul
noncomputable def qT:Ob->Option (List V) | .lst l=>some l | _=>none
noncomputable def nB:Ob->Option (List (Tx×Tx)) | .Md l=>some l | _=>none
noncomputable def nA:Ob->Option (Nat×List (Nat×V)) | .ins c f=>some (c,f) | _=>none
noncomputable def OB:V->Bool
 | .b _=>true | .rc _ _=>true | .Ma=>true | .Kh a r=>OB a&&OB r | _=>false
noncomputable def JL:Nat:=2 ^ 24
noncomputable def alloc(st:St)(o:Ob):V×St:=(.ref st.cur.length,{ st with cur:=st.cur++[o]})
noncomputable def bx(st:St)(i:Nat)(o:Ob):St:={ st with cur:=st.cur.set i o}
noncomputable def aI(st:St)(v:V):Option (Nat×List V):=(jK v).bind λi=>(st.cur[i]?).bind λo=>(qT o).map λl=>(i,l)
noncomputable def gK(st:St)(v:V):Option (Nat×List (Tx×Tx)):=(jK v).bind λi=>(st.cur[i]?).bind λo=>(nB o).map λl=>(i,l)
noncomputable def cT(st:St)(v:V):Option (Nat×Nat×List (Nat×V)):=(jK v).bind λi=>(st.cur[i]?).bind λo=>(nA o).map λl=>(i,l)
noncomputable def LY(st:St)(v:V):Option ((Nat×Nat)×Nat×List (Nat×V)):=(Dj v).bind λp=>(st.JR[p.1]?).bind λR=>(R[p.2]?).bind λo=>(nA o).map λl=>(p,l)
noncomputable def B.truth:B->Bool
 | .nul=>false | .bool b=>b | .int i=>i != 0 | .str s=>s != [] | .bb _ _=>true
noncomputable def truth(st:St)(v:V):Option Bool:=
 ((Mv v).map B.truth).or (((oS v).map λJ=>true).or (((aI st v).map λp=>!p.2.isEmpty).or ((gK st v).map λp=>!p.2.isEmpty)))
noncomputable def Nk(a b:Tx):Bool:=decide (a < b)
noncomputable def Gh(o:NK)(a b:Int):Option Bool:=match o with
 | .lt=>some (decide (a < b)) | .le=>some (decide (a<=b)) | .gt=>some (decide (b < a)) | .ge=>some (decide (b<=a))
 | .eq=>some (a==b) | .ne=>some (a != b) | _=>none
noncomputable def Gf(o:NK)(a b:Tx):Option Bool:=match o with
 | .lt=>some (Nk a b) | .le=>some (!Nk b a) | .eq=>some (a==b) | .ne=>some (a != b)
 | .LO=>(one a).map λc=>decide (c∈b) | .nin=>(one a).map λc=>!decide (c∈b) | _=>none
noncomputable def Gg(o:NK)(x y:V):Option Bool:=match o with
 | .eq=>af ((bf x&&(aU y).isSome)||((aU x).isSome&&bf y)) false
 | .ne=>af ((bf x&&(aU y).isSome)||((aU x).isSome&&bf y)) true
 | _=>none
noncomputable def cop(o:NK)(x y:V):Option Bool:=
 ((gN x).bind λa=>(gN y).bind λb=>Gh o a b).or (((aU x).bind λa=>(aU y).bind λb=>Gf o a b).or (Gg o x y))
noncomputable def Im(o:NL)(a b:Int):Option V:=match o with
 | .add=>some (.b (.int (a+b)))
 | .sub=>some (.b (.int (a - b)))
 | .mod=>af (decide (0 < b)) (.b (.int (a.fmod b)))
 | .fdiv=>af (decide (0 < b)&&decide (b<=1000000)) (.b (.int (a.fdiv b)))
 | .mul=>af (a==2||(a==6||b==2)) (.b (.int (a*b)))
noncomputable def Df(o:NL)(a b:Tx):Option V:=match o with
 | .add=>af (decide (a.length+b.length<=JL)) (.b (.str (a++b)))
 | _=>none
noncomputable def sO(o:NL)(a:Tx)(n:Int):Option V:=match o with
 | .mul=>af (!a.isEmpty&&decide (-1000000<=n)&&decide (a.length*n.toNat<=JL)) (.b (.str (List.replicate n.toNat a).flatten))
 | _=>none
noncomputable def bop(o:NL)(x y:V):Option V:=
 ((gN x).bind λa=>(gN y).bind λb=>Im o a b).or (((aU x).bind λa=>(aU y).bind λb=>Df o a b).or ((aU x).bind λa=>(gN y).bind λb=>sO o a b))
noncomputable def Il(o:NL)(x y:V)(st:St):Option (V×St):=
 ((bop o x y).map λv=>(v,st)).or (match o with
  | .add=>(aI st x).bind λp=>(aI st y).bind λq=>af (decide (p.2.length+q.2.length<=JL)) (alloc st (.lst (p.2++q.2)))
  | _=>none)
noncomputable def kP(l:List α)(i:Int):Option α:=if 0<=i then l[i.toNat]? else if 0<=i+l.length then l[(i+l.length).toNat]? else none
noncomputable def J2(n:Nat)(i:Int):Nat:=if i < 0 then(i+n).toNat else min i.toNat n
noncomputable def Na(n:Nat):Option Int->Nat
 | some i=>J2 n i
 | none=>0
noncomputable def NW(n:Nat):Option Int->Nat
 | some i=>J2 n i
 | none=>n
noncomputable def ag(l:List α)(lo hi:Option Int):List α:=(l.drop (Na l.length lo)).take (NW l.length hi - Na l.length lo)
noncomputable def B.Mb:B->Option (Option Int) | .nul=>some none | .int i=>some (some i) | _=>none
noncomputable def Mb(v:V):Option (Option Int):=(Mv v).bind B.Mb
noncomputable def sr(x:Tx):List Tx->List Tx
 | []=>[x]
 | y::r=>if Nk y x then y::sr x r else x::y::r
noncomputable def jj(l:List Tx):List Tx:=l.foldr sr []
noncomputable def aq(l:List Tx):List V:=l.map λt=>.b (.str t)
noncomputable def gz:List (Nat×Nat):=[(0,48),(7,97),(8,98),(9,116),(10,110),(11,118),(12,102),(13,114),(27,101),(34,34),(92,92),(133,78),(160,95),(8232,76),(8233,80)]
noncomputable def dX(c:Nat):Option Tx:=(gz.lookup c).map λd=>[d]
noncomputable def Fw(t:Fm2)(x y:V):Option Tx:=match t with
 | .ss=>(aU x).bind λa=>(aU y).bind λb=>af (decide (a.length<=1000)&&decide (b.length<=1000)) (a++b)
noncomputable def aQ:List (Tx×Tx):=[([33],[33]),(yT,[33,33])]
noncomputable def jb(n:Nat)(v:V):List (Nat×V)->List (Nat×V)
 | []=>[(n,v)]
 | p::r=>bif p.1==n then(n,v)::r else p::jb n v r
structure Fn where
 name:String
 slots:List String
 JT:Nat
 dflt:List B
 own:Nat
 body:S
noncomputable def i4(f:Fn)(pos:List V)(kw:List (Nat×V))(i:Nat):Option V:=
 (pos[i]?).or ((kw.lookup i).or (bif decide (f.JT<=i+f.dflt.length) then(f.dflt[i+f.dflt.length - f.JT]?).map .b else none))
noncomputable def dZ:List Nat->Bool
 | []=>true
 | x::r=>!r.contains x&&dZ r
noncomputable def aM(f:Fn)(pos:List V)(kw:List (Nat×V)):Option (List V):=
 bif decide (pos.length<=f.JT)&&kw.all (λp=>decide (pos.length<=p.1)&&decide (p.1 < f.JT))&&dZ (kw.map (·.1)) then(List.range f.JT).mapM (i4 f pos kw) else none
structure Cx where
 fns:List Fn
 Kd:List (Fn×List Nat)
 sup:List (List Nat)
 Jv:Nat->List V->St->Option (V×St)
 wf:Nat
noncomputable def tQ(c:Cx)(a b:Nat):Bool:=(c.sup[a]?).any λl=>l.contains b
noncomputable def A3(j:Nat):V->Option V
 | .b x=>some (.b x) | .rc a f=>some (.rc a f) | .ref i=>some (.em j i) | _=>none
noncomputable def f0(c:Cx)(o:O0)(l:List V)(st:St):Option (V×St):=match o with
 | .stuck=>none
 | .cst v=>some (.b v,st)
 | .neg i=>some (.b (.int (-(i:Int))),st)
 | .loc n=>l[n]?.bind λv=>af (!ae v) (v,st)
noncomputable def iN(n:Nat)(v:V)(st:St):Option V:=
 ((oS v).bind λp=>(p.2.lookup n).map .b).or (((cT st v).bind λp=>p.2.2.lookup n).or ((LY st v).bind λp=>(p.2.2.lookup n).bind (A3 p.1.1)))
noncomputable def gG:V->Option (List V)
 | .Ma=>some [] | .Kh a r=>(gG r).map λl=>a::l | _=>none
noncomputable def B.bool?:B->Option Bool | .bool b=>some b | _=>none
noncomputable def f1(c:Cx)(o:O1)(v:V)(st:St):Option (V×St):=match o with
 | .not=>(truth st v).map λb=>(.b (.bool !b),st)
 | .isNone y=>af (!ae v) (.b (.bool (bif bf v then y else !y)),st)
 | .JY n=>(iN n v st).map λx=>(x,st)
 | .len=>((aU v).map λs=>(.b (.int s.length),st)).or ((aI st v).map λp=>(.b (.int p.2.length),st))
 | .KZ _ cs=>(oS v).map λp=>(.b (.bool (cs.any λk=>tQ c p.1 k)),st)
 | .keys=>((gK st v).map λp=>p.2).map λt=>alloc st (.lst (aq (jj (t.map (·.1)))))
 | .join=>(aI st v).bind λp=>(p.2.mapM aU).bind λss=>af (decide (ss.flatten.length<=JL)) (.b (.str ss.flatten),st)
 | .pop fr=>(aI st v).bind λp=>bif fr then p.2.head?.map λx=>(x,bx st p.1 (.lst p.2.tail)) else p.2.getLast?.map λx=>(x,bx st p.1 (.lst p.2.dropLast))
 | .LH k=>(cT st v).bind λp=>af (p.2.1==0&&(p.2.2.lookup k).isNone) (.JA k p.1,st)
 | .Me=>(cT st v).bind λp=>af (p.2.1==0&&(p.2.2.lookup 127).isNone) (alloc st (.Md aQ))
 | .Mw=>(aI st v).bind λp=>(p.2.mapM λv=>(Mv v).bind B.bool?).map λbs=>(.b (.bool (bs.all id)),st)
noncomputable def FX(x i:V)(st:St):Option V:=
 ((gN i).bind λk=>((aU x).bind λs=>(kP s k).map λz=>.b (.str [z])).or
  (((GC x).bind λp=>if k=0 then some (.b (.bool p.1)) else af (decide (k=1)) (.b (.bool p.2))).or ((aI st x).bind λp=>af (decide (0<=k)) () |>.bind λJ=>p.2[k.toNat]?))).or
 ((aU i).bind λk=>((gK st x).map λp=>p.2).bind λt=>(t.lookup k).map λs=>.b (.str s))
noncomputable def eqB:B->B->Option Bool
 | .int a,.int b=>some (a==b) | .str a,.str b=>some (a==b) | .nul,.str _=>some false | _,_=>none
noncomputable def a9(s:Tx):List Tx->Tx
 | []=>[] | [t]=>t | t::r=>t++(s++a9 s r)
noncomputable def f2(o:O2)(x y:V)(st:St):Option (V×St):=match o with
 | .cmp o=>(cop o x y).map λb=>(.b (.bool b),st)
 | .bin o=>Il o x y st
 | .idx=>(FX x y st).map λv=>(v,st)
 | .NH t=>(Fw t x y).map λs=>(.b (.str s),st)
 | .starts=>(aU x).bind λs=>(aU y).map λt=>(.b (.bool (t.isPrefixOf s)),st)
 | .pair=>((Mv x).bind B.bool?).bind λa=>((Mv y).bind B.bool?).map λb=>(.b (.bb a b),st)
 | .Oc=>(Mv x).bind λa=>(aI st y).bind λp=>(p.2.mapM λv=>(Mv v).bind (eqB a)).map λbs=>(.b (.bool (bs.any id)),st)
 | .RF=>(aI st x).bind λp=>(aI st y).bind λq=>af q.2.isEmpty (.b (.bool p.2.isEmpty),st)
 | .LN=>(aU x).bind λs=>(aI st y).bind λp=>(p.2.mapM aU).bind λss=>af (decide ((a9 s ss).length+s.length*(ss.length+1)<=JL)) (.b (.str (a9 s ss)),st)
 | .Ly=>(Dk x).bind λc=>(cT st y).bind λp=>af (p.2.1==0&&(p.2.2.lookup 126).isNone) (.b (.bool (dX c).isSome),st)
noncomputable def Br:V->Option V | .Kh .uu r=>some r | _=>none
noncomputable def f3(a x y:V)(st:St):Option (V×St):=(Mb x).bind λp=>(Mb y).bind λq=>
 ((aU a).map λs=>(.b (.str (ag s p q)),st)).or (((aI st a).map λl=>alloc st (.lst (ag l.2 p q))).or (((Br a).bind gG).map λl=>alloc st (.lst (ag l p q))))
noncomputable def gQ:List V->V
 | []=>.Ma
 | a::r=>.Kh a (gQ r)
noncomputable def itemAt(v:V)(st:St)(i:Nat):Option (Option V):=
 ((aU v).map λs=>(s[i]?).map λx=>.b (.str [x])).or ((aI st v).map λp=>p.2[i]?)
noncomputable def fD(fr:Bool)(n:Int)(_:St)(i:Nat):Option (Option V):=some (if ((i+fr.toNat:Nat):Int) < n then some (.b (.int ((i+fr.toNat:Nat):Int))) else none)
noncomputable def fm(en:Bool)(i:Nat)(x:V)(r:List V):List V:=bif en then .b (.int i)::x::r else x::r
noncomputable def oN(l:List V):List Nat->Option (List V)
 | []=>some []
 | k::r=>(l[k]?).bind λv=>(af (!ae v) ()).bind λJ=>(oN l r).map λq=>v::q
noncomputable def da(it:St->Nat->Option (Option V))(b:Nat->V->St->Option (V×St)):Nat->Nat->St->List V->Option (List V×St)
 | 0,_,_,_=>none
 | n+1,i,st,acc=>(it st i).bind λo=>match o with
  | none=>af (decide (acc.length<=JL)) (acc,st)
  | some x=>(b i x st).bind λq=>af (!ae q.1) () |>.bind λJ=>da it b n (i+1) q.2 (acc++[q.1])
noncomputable def y5(c:Cx)(k:Nat)(v:V)(st:St):Option Fn:=(cT st v).bind λp=>(c.fns[k]?).bind λf=>af (f.own==p.2.1&&(p.2.2.lookup k).isNone) f
noncomputable def vJ(c:Cx)(k:Nat)(v:V)(st:St):Option (Fn×Nat×Nat):=(LY st v).bind λp=>(c.fns[k]?).bind λf=>af (f.own==p.2.1&&(p.2.2.lookup k).isNone) (f,p.1)
noncomputable def GB(l:List V):Option (List B):=l.mapM Mv
noncomputable def okA(r:List V×List (Nat×V)):Bool:=r.1.all OB&&r.2.all λp=>OB p.2
noncomputable def ce3(c:Cx)(k:Nat)(vs:List V)(f:Fn×Nat×Nat)(r:(List V×List (Nat×V))×St):Option (V×St):=(r.2.JR[f.2.1]?).bind λR=>(c.Jv k vs ⟨R,[]⟩).bind λq=>af (OB q.1&&q.2.JR.isEmpty) (q.1,{ r.2 with JR:=r.2.JR.set f.2.1 q.2.cur})
noncomputable def ce2(c:Cx)(k:Nat)(f:Fn×Nat×Nat)(r:(List V×List (Nat×V))×St):Option (V×St):=(aM f.1 (.ref f.2.2::r.1.1) r.1.2).bind λvs=>af (okA r.1) () |>.bind λJ=>ce3 c k vs f r
noncomputable def nw3(c:Cx)(q:Nat)(vs:List V)(w:V×St)(r:(List V×List (Nat×V))×St):Option (V×St):=(c.Jv q vs ⟨w.2.cur++[.ins 0 []],[]⟩).bind λu=>af (bf u.1&&u.2.JR.isEmpty) (.em r.2.JR.length w.2.cur.length,{ r.2 with JR:=r.2.JR++[u.2.cur]})
noncomputable def nw2(c:Cx)(q:Nat)(w:V×St)(r:(List V×List (Nat×V))×St):Option (V×St):=(c.fns[q]?).bind λf=>(aM f [.ref w.2.cur.length,.ref 0] r.1.2).bind λvs=>af (okA r.1&&r.1.1.isEmpty) () |>.bind λJ=>nw3 c q vs w r
noncomputable def cv2(c:Cx)(o:V×St)(p:Nat×Nat×List (Nat×V))(m:Nat×Nat):Option (V×St):=(c.fns[m.1]?).bind λf=>(aM f [.ref m.2] []).bind λvs=>af (p.2.1==0) () |>.bind λJ=>c.Jv m.1 vs o.2
mutual
noncomputable def Jq(c:Cx)(e:E)(l:List V)(st:St):Option (V×St):=match e with
 | .n0 o=>f0 c o l st
 | .u1 o a=>(Jq c a l st).bind λr=>f1 c o r.1 r.2
 | .b2 o a b=>(Jq c a l st).bind λr=>(Jq c b l r.2).bind λq=>f2 o r.1 q.1 q.2
 | .slice a x y=>(Jq c a l st).bind λr=>(Jq c x l r.2).bind λp=>(Jq c y l p.2).bind λq=>f3 r.1 p.1 q.1 q.2
 | .and a b=>(Jq c a l st).bind λr=>(truth r.2 r.1).bind λt=>bif t then Jq c b l r.2 else some r
 | .or a b=>(Jq c a l st).bind λr=>(truth r.2 r.1).bind λt=>bif t then some r else Jq c b l r.2
 | .Ju t a b=>(Jq c t l st).bind λr=>(truth r.2 r.1).bind λt=>bif t then Jq c a l r.2 else Jq c b l r.2
 | .Ku o p a b d=>(Jq c a l st).bind λr=>(Jq c b l r.2).bind λq=>(cop o r.1 q.1).bind λt=>
   bif t then(Jq c d l q.2).bind λu=>(cop p q.1 u.1).map λw=>(.b (.bool w),u.2) else some (.b (.bool false),q.2)
 | .new k as=>(Kv c as l st).bind λr=>(c.Kd[k]?).bind λq=>(aM q.1 (.uu::r.1.1) r.1.2).bind λvs=>(GB vs.tail).map λbs=>(.rc k (q.2.zip bs),r.2)
 | .call k a as=>(Jq c a l st).bind λo=>(y5 c k o.1 o.2).bind λf=>(Kv c as l o.2).bind λr=>(aM f (o.1::r.1.1) r.1.2).bind λvs=>c.Jv k vs r.2
 | .Lh n a=>(Jq c a l st).bind λo=>(cT o.2 o.1).bind λp=>(p.2.2.lookup n).bind λv=>(lD v).bind λm=>cv2 c o p m
 | .JG k as=>(Kv c as l st).bind λr=>(c.fns[k]?).bind λf=>(aM f r.1.1 r.1.2).bind λvs=>af (f.own==2) () |>.bind λJ=>c.Jv k vs r.2
 | .K4 k a as=>(Jq c a l st).bind λo=>(vJ c k o.1 o.2).bind λf=>(Kv c as l o.2).bind λr=>ce2 c k f r
 | .LL k q as=>(c.fns[k]?).bind λg=>(aM g [.ref 0] []).bind λQv=>(c.Jv k Qv ⟨[.ins 1 []],[]⟩).bind λw=>af (bf w.1&&w.2.JR.isEmpty) () |>.bind λJ=>(Kv c as l st).bind λr=>nw2 c q w r
 | .lst as=>(Kv c as l st).bind λr=>af (r.1.2.isEmpty&&decide (r.1.1.length<=JL)) (alloc r.2 (.lst r.1.1))
 | .tup as=>(Kv c as l st).bind λr=>af (r.1.2.isEmpty&&decide (r.1.1.length<=JL)) (gQ r.1.1,r.2)
 | .comp en cs s b=>(oN l cs).bind λcp=>(Jq c s l st).bind λr=>(aI r.2 r.1).bind λJ=>(da (itemAt r.1) (λi x st=>Jq c b (fm en i x cp) st) c.wf 0 r.2 []).map λq=>alloc q.2 (.lst q.1)
 | .Qf a k=>(Jq c a l st).bind λr=>l[k]?.bind λv=>(Dk v).bind λd=>(cT r.2 r.1).bind λp=>af (p.2.1==0&&(p.2.2.lookup 126).isNone) () |>.bind λJ=>(dX d).map λz=>(.b (.str z),r.2)
 | _=>none
noncomputable def Kv(c:Cx)(e:E)(l:List V)(st:St):Option ((List V×List (Nat×V))×St):=match e with
 | .nil=>some (([],[]),st)
 | .pos e r=>(Jq c e l st).bind λq=>(Kv c r l q.2).map λp=>((q.1::p.1.1,p.1.2),p.2)
 | .kw k e r=>(Jq c e l st).bind λq=>(Kv c r l q.2).bind λp=>bif p.1.1.isEmpty then some (([],(k,q.1)::p.1.2),p.2) else none
 | _=>none
end
inductive LD | next | ret(v:V)
abbrev Kf:=Option (LD×List V×St)
noncomputable def thn(q:LD×List V×St)(f:List V->St->Kf):Kf:=match q.1 with
 | .next=>f q.2.1 q.2.2
 | .ret _=>some q
noncomputable def cQ(t:List V->St->Option (V×St))(b:List V->St->Kf):Nat->List V->St->Kf
 | 0,_,_=>none
 | n+1,l,st=>(t l st).bind λr=>(truth r.2 r.1).bind λu=>bif u then(b l r.2).bind λq=>thn q (cQ t b n) else some (.next,l,r.2)
noncomputable def cy(k:Nat)(it:St->Nat->Option (Option V))(b:List V->St->Kf):Nat->Nat->List V->St->Kf
 | 0,_,_,_=>none
 | n+1,i,l,st=>(it st i).bind λo=>match o with
  | none=>some (.next,l,st)
  | some x=>(b (l.set k x) st).bind λq=>thn q (cy k it b n (i+1))
noncomputable def io(l:List V)(v:V):List Nat->List V
 | []=>l
 | n::r=>io (l.set n v) v r
noncomputable def jY(l:List V):List Nat->List V->List V
 | n::r,v::vs=>jY (l.set n v) r vs
 | _,_=>l
noncomputable def DW(v:V):Option (List V):=(gG v).bind λl=>af (l.all λv=>!ae v) l
noncomputable def B5(n:Nat)(o v:V)(st:St):Option St:=(cT st o).bind λp=>af (decide (p.2.2.length < 100)&&decide (n < 128)&&!ae v) (bx st p.1 (.ins p.2.1 (jb n v p.2.2)))
noncomputable def BS(v:V):Nat:=((aU v).map List.length).getD 0
noncomputable def JJ(c:Cx)(s:S)(l:List V)(st:St):Kf:=match s with
 | .nil=>some (.next,l,st)
 | .cons s r=>(JJ c s l st).bind λq=>thn q (JJ c r)
 | .pass=>some (.next,l,st)
 | .expr e=>(Jq c e l st).map λr=>(.next,l,r.2)
 | .asg ns e=>(Jq c e l st).map λr=>(.next,io l r.1 ns,r.2)
 | .Mu k e=>(Jq c e l st).bind λr=>af (ae ((l[k]?).getD .Ma)) (.next,l.set k r.1,r.2)
 | .Nf k cs s b=>(Jq c (.comp false cs s b) l st).map λr=>(.next,l.set k r.1,r.2)
 | .Pq ns e=>(Jq c e l st).bind λr=>(DW r.1).bind λvs=>af (decide (vs.length=ns.length)&&(ns.all λk=>ae ((l[k]?).getD .Ma))) (.next,jY l ns vs,r.2)
 | .JD n o e=>(Jq c e l st).bind λr=>(Jq c o l r.2).bind λq=>(B5 n q.1 r.1 q.2).map λs=>(.next,l,s)
 | .K5 n o e=>l[n]?.bind λx=>(Jq c e l st).bind λr=>(bop o x r.1).map λz=>(.next,l.set n z,r.2)
 | .KU n p o e=>(Jq c o l st).bind λq=>(iN n q.1 q.2).bind λx=>(Jq c e l q.2).bind λr=>(bop p x r.1).bind λz=>(B5 n q.1 z r.2).map λs=>(.next,l,s)
 | .app o e=>(Jq c o l st).bind λq=>(aI q.2 q.1).bind λJ=>(Jq c e l q.2).bind λr=>(aI r.2 q.1).bind λp=>af (decide (p.2.length < JL)&&!ae r.1) (.next,l,bx r.2 p.1 (.lst (p.2++[r.1])))
 | .ext o e=>(Jq c o l st).bind λq=>(aI q.2 q.1).bind λJ=>(Jq c e l q.2).bind λr=>(aI r.2 q.1).bind λp=>(aI r.2 r.1).bind λw=>af (decide (p.2.length+w.2.length<=JL)&&!(p.1==w.1)) (.next,l,bx r.2 p.1 (.lst (p.2++w.2)))
 | .Ju t a b=>(Jq c t l st).bind λr=>(truth r.2 r.1).bind λu=>bif u then JJ c a l r.2 else JJ c b l r.2
 | .while t b=>cQ (Jq c t) (JJ c b) c.wf l st
 | .for n e b=>(Jq c e l st).bind λr=>cy n (itemAt r.1) (JJ c b) (c.wf+BS r.1) 0 l r.2
 | .forR n fr e b=>(Jq c e l st).bind λr=>(gN r.1).bind λi=>af (decide (-1000000<=i)&&decide (i<=1000000)) () |>.bind λJ=>cy n (fD fr i) (JJ c b) c.wf 0 l r.2
 | .ret e=>(Jq c e l st).map λr=>(.ret r.1,l,r.2)
 | .MJ=>some (.ret (.b .nul),l,st)
 | _=>none
noncomputable def EA:LD->Option V
 | .next=>some (.b .nul)
 | .ret v=>af (!ae v) v
noncomputable def Ew(c:Cx)(k:Nat)(vs:List V)(st:St):Option (V×St):=(c.fns[k]?).bind λf=>
 (JJ c f.body (vs++List.replicate (f.slots.length - f.JT) .uu) st).bind λq=>(EA q.1).map λv=>(v,q.2.2)
noncomputable def cxN(fns:List Fn)(Kd:List (Fn×List Nat))(sup:List (List Nat))(wf:Nat):Nat->Cx
 | 0=>⟨fns,Kd,sup,λJ J J=>none,wf⟩
 | n+1=>⟨fns,Kd,sup,Ew (cxN fns Kd sup wf n),wf⟩
end
theorem nv{α β:Type}{o:Option α}{f:α->Option β}{b:β}(h:o.bind f=some b):∃a,o=some a/\f a=some b:=Option.bind_eq_some_iff.mp h
theorem kE{α β:Type}{o:Option α}{f:α->β}{b:β}(h:o.map f=some b):∃a,o=some a/\f a=b:=Option.map_eq_some_iff.mp h
section
open PySem
noncomputable abbrev V.tt:V:=.b (.bool true)
noncomputable abbrev V.ff:V:=.b (.bool false)
noncomputable abbrev V.s(x:Tx):V:=.b (.str x)
noncomputable abbrev V.i(x:Int):V:=.b (.int x)
noncomputable abbrev V.o(x:Bool):V:=.b (.bool x)
noncomputable abbrev cL(r s m k:Bool):List V:=[.ref 2,.o r,.o s,.o m,.o k]
noncomputable abbrev I0:E:=.n0 (.loc 0)
noncomputable abbrev I1:E:=.n0 (.cst (.bool true))
noncomputable abbrev I2:E:=.n0 (.loc 1)
noncomputable abbrev I3:E:=.n0 (.cst (.bool false))
noncomputable abbrev I4:E:=.n0 (.cst (.int 1))
noncomputable abbrev I5:E:=.u1 (.JY 69) I0
noncomputable abbrev I6:E:=.n0 (.cst .nul)
noncomputable abbrev I7:E:=.n0 (.loc 2)
noncomputable abbrev I8:E:=.n0 (.loc 4)
noncomputable abbrev I9:E:=.n0 (.loc 5)
noncomputable abbrev Lm:E:=.n0 (.cst (.int 0))
noncomputable abbrev Kp:E:=.n0 (.loc 6)
noncomputable abbrev Kr:E:=.n0 (.loc 3)
noncomputable abbrev Ll:E:=.n0 (.cst (.str [32]))
noncomputable abbrev Lv:E:=.n0 (.loc 9)
noncomputable abbrev LV:E:=.n0 (.cst (.int 2))
noncomputable abbrev Nh:E:=.u1 (.JY 82) I0
noncomputable abbrev s8:E:=.u1 .not Nh
noncomputable abbrev NJ:E:=.u1 (.JY 66) I0
noncomputable abbrev DM:S:=.expr (.call 10 I0 (.kw 3 I1 (.kw 4 I1 .nil)))
noncomputable abbrev OJ:E:=.pos I1 .nil
noncomputable abbrev tf:E:=.kw 3 I1 .nil
noncomputable abbrev I54:S:=.cons (.expr (.call 10 I0 tf)) .nil
noncomputable abbrev I16:S:=.Ju (.and s8 (.call 32 I0 .nil)) (.cons (.app NJ (.u1 (.LH 19) I0)) (.cons DM .nil)) (.cons (.expr (.call 46 I0 (.pos (.n0 (.cst (.str [63]))) OJ))) (.cons (.app NJ (.u1 (.LH 20) I0)) I54))
noncomputable abbrev pa:E:=.u1 (.JY 78) I0
noncomputable abbrev I68:E:=.b2 (.cmp .gt) pa (.u1 (.JY 85) I0)
noncomputable abbrev OL:S:=.expr (.call 47 I0 .nil)
noncomputable abbrev tz:S:=.cons OL .nil
noncomputable abbrev I17:S:=.Ju (.or Nh I68) tz .nil
noncomputable abbrev Mo:E:=.n0 (.loc 22)
noncomputable abbrev DL:S:=.cons (.asg [3] I1) (.cons (.asg [2] I1) .nil)
noncomputable abbrev N0:E:=.n0 (.loc 13)
noncomputable abbrev G0:S:=.cons (.asg [3] I1) (.cons (.Ju N0 (.cons (.asg [2] I1) .nil) .nil) .nil)
noncomputable abbrev I18:S:=.cons (.Ju (.b2 (.cmp .LO) Mo (.n0 (.cst (.str [35,44,91,93,123,125,38,42,33,124,62,39,34,37,64,96])))) DL .nil) (.cons (.Ju (.b2 (.cmp .LO) Mo (.n0 (.cst (.str [63,58])))) G0 .nil) (.cons (.Ju (.and (.b2 (.cmp .eq) Mo (.n0 (.cst (.str [45])))) N0) DL .nil) .nil))
noncomputable abbrev MY:E:=.u1 (.JY 90) I0
noncomputable abbrev RX:E:=.n0 (.cst (.int 5))
noncomputable abbrev L7:E:=.n0 (.loc 7)
noncomputable abbrev I23:E:=.or (.Ku .le .le Ll I8 (.n0 (.cst (.str [126])))) (.and (.u1 (.JY 83) I0) (.or (.Ku .le .le (.n0 (.cst (.str [160]))) I8 (.n0 (.cst (.str [55295])))) (.Ku .le .le (.n0 (.cst (.str [57344]))) I8 (.n0 (.cst (.str [65533]))))))
noncomputable abbrev MX:S:=.cons .stuck .nil
noncomputable abbrev xn:E:=.n0 (.cst (.str [58]))
noncomputable abbrev nJ:E:=.n0 (.loc 12)
noncomputable abbrev I25:S:=.cons (.Ju (.b2 (.cmp .LO) Mo (.n0 (.cst (.str [44,63,91,93,123,125])))) (.cons (.asg [3] I1) .nil) .nil) (.cons (.Ju (.b2 (.cmp .eq) Mo xn) G0 .nil) (.cons (.Ju (.and (.b2 (.cmp .eq) Mo (.n0 (.cst (.str [35])))) nJ) DL .nil) .nil))
noncomputable abbrev xk:E:=.n0 (.cst (.str [97]))
noncomputable abbrev tB:E:=.n0 (.cst (.str [33]))
noncomputable abbrev I26:E:=.or (.Ku .le .le (.n0 (.cst (.str [48]))) Lv (.n0 (.cst (.str [57])))) (.or (.Ku .le .le (.n0 (.cst (.str [65]))) Lv (.n0 (.cst (.str [90])))) (.or (.Ku .le .le xk Lv (.n0 (.cst (.str [122])))) (.or (.b2 (.cmp .LO) Lv (.n0 (.cst (.str [45,59,47,63,58,64,38,61,43,36,44,95,46,126,42,39,40,41,91,93])))) (.and (.b2 (.cmp .eq) Lv tB) (.b2 (.cmp .ne) I7 tB)))))
noncomputable abbrev I27:S:=.cons (.JD 67 I0 (.u1 (.pop false) NJ)) .nil
noncomputable abbrev OK:E:=.n0 (.cst (.str [10]))
noncomputable abbrev MI:E:=.u1 (.JY 68) I0
noncomputable abbrev I31:E:=.and (.or (.b2 (.cmp .eq) Mo (.n0 (.cst (.str [133])))) (.or (.Ku .le .le (.n0 (.cst (.str [160]))) Mo (.n0 (.cst (.str [55295])))) (.or (.Ku .le .le (.n0 (.cst (.str [57344]))) Mo (.n0 (.cst (.str [65533])))) (.Ku .le .lt (.n0 (.cst (.str [65536]))) Mo (.n0 (.cst (.str [1114111]))))))) (.b2 (.cmp .ne) Mo (.n0 (.cst (.str [65279]))))
noncomputable abbrev DE:E:=.b2 (.cmp .eq) (.b2 (.bin .add) I9 I4) Lv
noncomputable abbrev LU:E:=.u1 .len I2
noncomputable abbrev I32:E:=.and DE (.and I68 (.and I7 (.and (.b2 (.cmp .ne) I9 Lm) (.b2 (.cmp .ne) Lv LU))))
noncomputable abbrev Aq:E:=.b2 (.cmp .eq) I7 RX
noncomputable abbrev G5:E:=.Ju Aq (.n0 (.cst (.str [45,32]))) (.n0 (.cst (.str [107,58,32])))
noncomputable abbrev N1:E:=.n0 (.loc 20)
noncomputable abbrev I33:E:=.b2 (.bin .add) G5 N1
noncomputable abbrev RT:E:=.n0 (.cst (.str [123]))
noncomputable abbrev tC:E:=.n0 (.cst (.str [91]))
noncomputable abbrev I34:E:=.Ju nJ (.tup (.pos RT (.pos (.n0 (.cst (.str [125]))) .nil))) (.tup (.pos tC (.pos (.n0 (.cst (.str [93]))) .nil)))
noncomputable abbrev MW:E:=.n0 (.neg 1)
noncomputable abbrev I35:E:=.b2 .Oc (.slice I7 MW I6) (.lst (.pos tC (.pos RT .nil)))
noncomputable abbrev Ra:S:=.JD 71 I0 (.u1 (.pop false) (.u1 (.JY 70) I0))
noncomputable abbrev o6:E:=.n0 (.loc 28)
noncomputable abbrev I37:E:=.b2 (.bin .add) (.b2 (.bin .add) (.n0 (.loc 26)) (.b2 .LN (.n0 (.cst (.str [44,32]))) (.comp false [] o6 (.slice I0 I4 MW)))) (.n0 (.loc 27))
noncomputable abbrev ti:S:=.JD 79 I0 I3
noncomputable abbrev th:S:=.JD 80 I0 I3
noncomputable abbrev tu:E:=.slice I2 I9 Lv
noncomputable abbrev o0:E:=.u1 .len Kp
noncomputable abbrev Qt:E:=.u1 (.JY 64) I0
noncomputable abbrev I77:S:=.cons (.KU 78 .add I0 o0) (.cons (.expr (.call 57 Qt (.pos Kp .nil))) .nil)
noncomputable abbrev I38:S:=.Ju (.and DE (.and I68 I7)) (.cons OL (.cons ti (.cons th .nil))) (.cons (.asg [6] tu) I77)
noncomputable abbrev Du:E:=.n0 (.cst (.str [45,45,45,32]))
noncomputable abbrev I40:E:=.b2 (.bin .add) Du (.n0 (.loc 30))
noncomputable abbrev pf:E:=.n0 (.cst (.int 8))
noncomputable abbrev I42:E:=.b2 (.bin .mod) (.b2 (.bin .fdiv) Kr RX) (.Ju I7 pf (.n0 (.cst (.int 12))))
noncomputable abbrev I43:E:=.b2 (.bin .add) (.b2 (.bin .add) (.n0 (.loc 31)) (.u1 .join (.comp false [31] o6 (.slice I0 LU MW)))) (.n0 (.loc 27))
noncomputable abbrev I44:E:=.u1 .not (.or (.Ku .le .le (.n0 (.cst (.str [48]))) I7 (.n0 (.cst (.str [57])))) (.or (.Ku .le .le (.n0 (.cst (.str [65]))) I7 (.n0 (.cst (.str [90])))) (.or (.Ku .le .le xk I7 (.n0 (.cst (.str [122])))) (.b2 (.cmp .LO) I7 (.n0 (.cst (.str [45,95])))))))
noncomputable abbrev Qs:E:=.n0 (.cst (.str [10,133,8232,8233]))
noncomputable abbrev Ow:E:=.n0 (.loc 17)
noncomputable abbrev I47:E:=.b2 (.bin .add) (.n0 (.loc 21)) Ow
noncomputable abbrev Po:E:=.pos I3 .nil
noncomputable abbrev I48:S:=.expr (.call 46 I0 (.pos (.n0 (.cst (.str [44]))) Po))
noncomputable abbrev Ax:S:=.cons (.expr (.call 48 I0 .nil)) .nil
noncomputable abbrev I49:S:=.Ju (.b2 (.cmp .eq) (.b2 .idx I2 I9) OK) Ax .nil
noncomputable abbrev I50:E:=.pos Kr (.pos I8 (.pos (.u1 (.isNone true) I8) (.kw 6 I7 .nil)))
noncomputable abbrev pg:E:=.u1 (.isNone true) I2
noncomputable abbrev N3:E:=.u1 (.JY 91) I0
noncomputable abbrev PM:E:=.n0 (.cst (.str []))
noncomputable abbrev xb:E:=.u1 (.JY 98) I5
noncomputable abbrev xt:E:=.b2 .idx xb Lm
noncomputable abbrev I51:E:=.and (.or s8 pg) (.or (.and (.b2 (.cmp .eq) N3 PM) xt) (.and (.b2 (.cmp .ne) N3 PM) (.b2 .idx xb I4)))
noncomputable abbrev xc:E:=.u1 (.JY 88) I0
noncomputable abbrev xg:E:=.u1 (.JY 96) I5
noncomputable abbrev I52:S:=.Ju (.u1 (.isNone true) xc) (.cons (.JD 88 I0 (.call 41 I0 (.pos xg .nil))) .nil) .nil
noncomputable abbrev RW:S:=.cons .stuck (.cons .stuck MX)
noncomputable abbrev I55:E:=.Ju (.b2 (.cmp .eq) I7 LV) (.n0 (.cst (.str [93]))) (.n0 (.cst (.str [125])))
noncomputable abbrev Au:E:=.u1 (.KZ false [9]) I5
noncomputable abbrev Ao:E:=.u1 (.JY 102) MY
noncomputable abbrev I56:E:=.and (.b2 (.cmp .lt) I2 (.n0 (.cst (.int 128)))) (.or (.u1 (.KZ false [8]) I5) (.or (.and Au (.and (.u1 .not (.u1 (.JY 101) MY)) (.u1 .not Ao))) (.or (.call 29 I0 .nil) (.call 30 I0 .nil))))
noncomputable abbrev lG:E:=.n0 (.loc 8)
noncomputable abbrev nG:E:=.pos Lv .nil
noncomputable abbrev I57:E:=.pos L7 (.pos (.n0 (.cst (.int 1000))) (.pos lG nG))
noncomputable abbrev I59:E:=.and (.Ku .lt .lt Lm Kp (.b2 (.bin .sub) LU I4)) (.and (.or (.b2 (.cmp .eq) I8 Ll) (.b2 (.cmp .ge) Kr Kp)) (.and (.b2 (.cmp .gt) (.b2 (.bin .add) pa (.b2 (.bin .sub) Kp Kr)) (.u1 (.JY 85) I0)) I7))
noncomputable abbrev N4:E:=.n0 (.loc 16)
noncomputable abbrev Qr:S:=.cons (.asg [5] Lv) .nil
noncomputable abbrev GZ:E:=.JG 68 (.pos (.JG 66 (.pos I40 nG)) (.pos (.n0 (.loc 29)) .nil))
noncomputable abbrev I62:E:=.and (.u1 (.isNone false) (.n0 (.loc 30))) (.b2 (.cmp .eq) GZ (.b2 (.bin .add) Du N1))
noncomputable abbrev GY:S:=.cons (.JD 90 I0 (.call 42 I0 (.pos (.u1 (.JY 99) I5) .nil))) .nil
noncomputable abbrev I63:S:=.Ju (.u1 (.isNone true) MY) GY .nil
noncomputable abbrev PN:E:=.n0 (.cst (.str [39]))
noncomputable abbrev RV:E:=.n0 (.cst (.str [92]))
noncomputable abbrev sZ:E:=.pos I9 .nil
noncomputable abbrev I67:S:=.expr (.call 57 Qt sZ)
noncomputable abbrev Aw:E:=.n0 (.cst (.str [45,45,45]))
noncomputable abbrev DO:E:=.n0 (.cst (.str [46,46,46]))
noncomputable abbrev I69:E:=.or (.b2 .starts I2 Aw) (.b2 .starts I2 DO)
noncomputable abbrev I71:E:=.pos (.n0 (.loc 18)) (.pos (.n0 (.loc 19)) .nil)
noncomputable abbrev I73:S:=.for 8 tu (.cons (.Ju (.b2 (.cmp .eq) lG OK) Ax (.cons (.expr (.call 48 I0 (.pos lG .nil))) .nil)) .nil)
noncomputable abbrev xd:E:=.u1 (.JY 94) I5
noncomputable abbrev I74:S:=.asg [2] (.and I2 (.and (.u1 .not xd) (.and s8 (.and (.u1 .not (.u1 (.JY 92) I5)) (.and (.u1 .not (.u1 (.JY 93) I5)) (.u1 .not (.call 31 I0 .nil)))))))
noncomputable abbrev I75:E:=.n0 (.cst (.str [0,32,9,13,10,133,8232,8233]))
noncomputable abbrev RU:E:=.b2 (.bin .mod) Kr RX
noncomputable abbrev I80:S:=.KU 78 .add I0 (.u1 .len I9)
noncomputable abbrev I81:E:=.b2 (.bin .sub) (.u1 .len I9) (.u1 .len L7)
noncomputable abbrev I82:E:=.tup (.pos I3 (.pos L7 (.pos (.n0 (.loc 29)) (.pos lG nG))))
noncomputable abbrev PL:E:=.u1 (.JY 72) I0
noncomputable abbrev DB:S:=.expr (.call 57 Qt (.pos L7 .nil))
noncomputable abbrev I86:S:=.Ju (.b2 (.cmp .lt) I9 Lv) (.cons (.asg [7] tu) (.cons (.KU 78 .add I0 (.u1 .len L7)) (.cons DB Qr))) .nil
noncomputable abbrev I87:S:=.Ju I32 tz (.cons (.asg [7] tu) (.cons (.KU 78 .add I0 (.u1 .len L7)) (.cons DB .nil)))
noncomputable abbrev Qq:E:=.pos I2 .nil
noncomputable abbrev PK:E:=.u1 (.JY 100) MY
noncomputable abbrev Av:E:=.u1 .not (.u1 (.JY 79) I0)
noncomputable abbrev I90:E:=.or (.u1 .not (.u1 (.JY 80) I0)) (.or (.b2 (.cmp .gt) pa I2) (.and (.b2 (.cmp .eq) pa I2) Av))
noncomputable abbrev tj:E:=.u1 (.JY 95) I5
noncomputable abbrev I91:S:=.Ju (.or PL (.or Nh (.or tj (.call 29 I0 .nil)))) (.cons (.expr (.call 13 I0 .nil)) .nil) (.cons (.expr (.call 21 I0 .nil)) .nil)
noncomputable abbrev I92:S:=.Ju (.or PL (.or Nh (.or tj (.call 30 I0 .nil)))) (.cons (.expr (.call 16 I0 .nil)) .nil) (.cons (.expr (.call 24 I0 .nil)) .nil)
noncomputable abbrev Q9:E:=.n0 (.cst (.str [34]))
noncomputable abbrev Dq:E:=.n0 (.cst (.str [13,10]))
noncomputable abbrev I94:E:=.b2 .idx (.lst (.pos I6 (.pos OK (.pos (.n0 (.cst (.str [13]))) (.pos Dq (.pos (.n0 (.cst (.str [120]))) .nil)))))) RU
noncomputable abbrev I95:S:=.cons (.Ju (.b2 (.cmp .le) I8 (.n0 (.cst (.str [255])))) MX (.cons (.Ju (.b2 (.cmp .le) I8 (.n0 (.cst (.str [65535])))) MX MX) .nil)) .nil
noncomputable abbrev o8:E:=.n0 (.loc 15)
noncomputable abbrev fj:E:=.lst .nil
noncomputable abbrev lH:E:=.n0 (.loc 23)
noncomputable abbrev I96:E:=.Ju (.b2 .RF o8 fj) lH (.b2 (.bin .add) (.b2 (.bin .add) (.n0 (.cst (.str [63,32]))) lH) Ll)
noncomputable abbrev I97:E:=.b2 (.bin .mod) I0 (.n0 (.cst (.int 1000003)))
noncomputable abbrev xj:E:=.u1 (.isNone true) I9
noncomputable abbrev Hh:E:=.new 9 (.pos I8 (.pos I9 (.pos (.b2 .pair xj xj) (.pos lG (.kw 7 Lv .nil)))))
noncomputable abbrev nF:E:=.n0 (.loc 10)
noncomputable abbrev Hg:S:=.asg [29] (.b2 (.bin .add) (.b2 (.bin .add) (.b2 (.bin .mul) LV nF) I4) (.b2 (.bin .mod) I8 (.n0 (.cst (.int 30)))))
noncomputable abbrev DV:E:=.b2 (.bin .mod) (.b2 (.bin .fdiv) Kr RX) (.n0 (.cst (.int 3)))
noncomputable abbrev DU:E:=.Ju (.b2 (.cmp .eq) (.slice I8 I6 I4) RV) (.slice I8 I4 I6) I8
noncomputable abbrev Hf:E:=.b2 .idx (.lst (.pos OK (.pos OK (.pos (.n0 (.cst (.str [13]))) (.pos Dq (.pos OK .nil)))))) RU
noncomputable abbrev xm:E:=.u1 (.isNone true) Kp
noncomputable abbrev He:E:=.or xm (.or (.b2 (.cmp .LO) Kp (.n0 (.cst (.str [32,10,133,8232,8233])))) (.b2 (.cmp .eq) Kp PN))
noncomputable abbrev DT:E:=.lst (.pos (.new 4 .nil) (.pos (.new 6 tf) .nil))
noncomputable abbrev DQ:E:=.lst (.pos (.new 7 tf) (.pos (.new 5 .nil) .nil))
noncomputable abbrev DP:S:=.cons .stuck (.cons .stuck (.cons .stuck (.cons .stuck RW)))
noncomputable abbrev Hc:E:=.or (.u1 (.isNone true) I8) (.or (.b2 (.cmp .LO) I8 (.n0 (.cst (.str [34,92,133,8232,8233,65279])))) (.u1 .not I23))
noncomputable abbrev xq:E:=.lst (.pos I4 (.pos LV .nil))
noncomputable abbrev Hb:S:=.cons (.Ju (.b2 (.cmp .eq) (.b2 .idx I2 Kr) Ll) (.cons (.asg [5] RV) (.cons I80 (.cons I67 .nil))) .nil) .nil
noncomputable abbrev gF:E:=.u1 .not I2
noncomputable abbrev tA:E:=.b2 (.cmp .lt) Kr Kp
noncomputable abbrev Ha:E:=.b2 (.cmp .le) (.b2 (.bin .sub) (.u1 .len (.b2 .idx I0 (.b2 (.bin .sub) Kr I4))) (.Ju I9 I4 Lm)) I2
noncomputable abbrev DN:S:=.expr (.call 10 I0 (.kw 2 I1 .nil))
noncomputable abbrev lI:E:=.n0 (.loc 11)
noncomputable abbrev nI:E:=.b2 .idx MI Lm
noncomputable abbrev nH:E:=.u1 (.JY 91) I5
noncomputable abbrev G9:E:=.or (.u1 (.isNone true) L7) (.b2 (.cmp .LO) L7 (.n0 (.cst (.str [32,10,133,8232,8233]))))
noncomputable abbrev G8:E:=.b2 (.cmp .eq) (.JG 65 (.pos (.n0 (.loc 25)) I71)) (.b2 (.bin .add) (.n0 (.loc 33)) I55)
noncomputable abbrev xp:E:=.u1 (.KZ false [11]) I5
noncomputable abbrev xo:E:=.u1 (.KZ false [13]) I5
noncomputable abbrev G7:E:=.u1 .not (.or (.b2 (.cmp .eq) Mo OK) (.Ku .le .le Ll Mo (.n0 (.cst (.str [126])))))
noncomputable abbrev Dr:S:=.cons (.asg [3] Kp) .nil
noncomputable abbrev G6:S:=.cons (.asg [5] (.slice I2 Kr Kp)) (.cons I80 (.cons I67 Dr))
noncomputable abbrev pe:E:=.u1 (.JY 84) I0
noncomputable abbrev pc:E:=.u1 (.JY 89) I0
noncomputable abbrev DK:S:=.cons (.JD 91 I0 (.call 35 I0 .nil)) .nil
noncomputable abbrev DJ:E:=.b2 (.cmp .eq) N4 (.b2 (.bin .sub) LU I4)
noncomputable abbrev DH:E:=.pos (.b2 (.bin .add) I2 I4) (.pos I7 .nil)
noncomputable abbrev DG:E:=.b2 (.bin .add) (.b2 (.bin .mul) Ll I7) I2
noncomputable abbrev DF:E:=.Ku .le .le LV L7 (.n0 (.cst (.int 9)))
noncomputable abbrev G4:S:=.asg [13] (.or (.b2 (.cmp .eq) LU I4) (.b2 (.cmp .LO) (.b2 .idx I2 I4) I75))
noncomputable abbrev DD:E:=.b2 (.cmp .lt) I2 (.n0 (.cst (.int 3)))
noncomputable abbrev xh:S:=.cons (.ret I3) .nil
noncomputable abbrev tw:E:=.u1 (.JY 71) I0
noncomputable abbrev DC:E:=.slice I0 I8 (.b2 (.bin .add) I8 LU)
noncomputable abbrev xf:S:=.KU 72 .sub I0 I4
noncomputable abbrev o9:E:=.kw 1 I1 .nil
noncomputable abbrev GX:S:=.cons (.expr (.call 46 I0 (.pos (.n0 (.cst (.str [125]))) Po))) I27
noncomputable abbrev DA:E:=.lst (.pos (.slice I0 Kr I6) .nil)
noncomputable abbrev Dz:E:=.b2 (.bin .add) (.n0 (.loc 26)) Lv
noncomputable abbrev GW:E:=.and (.or (.u1 (.JY 92) I5) (.u1 (.JY 93) I5)) (.u1 (.JY 81) I0)
noncomputable abbrev GV:S:=.cons (.expr (.call 46 I0 (.pos (.n0 (.cst (.str [93]))) Po))) I27
noncomputable abbrev GU:E:=.and (.u1 (.isNone false) N1) (.b2 (.cmp .eq) (.n0 (.loc 25)) I33)
noncomputable abbrev Dy:E:=.JG 66 (.pos I0 (.pos I7 .nil))
noncomputable abbrev Dx:E:=.JG 64 (.pos Ow (.pos I3 Po))
noncomputable abbrev Dv:E:=.JG 64 (.pos I47 (.pos I1 Po))
noncomputable abbrev GT:S:=.cons I17 (.cons (.app NJ (.u1 (.LH 15) I0)) (.cons DN .nil))
noncomputable abbrev GS:E:=.b2 (.bin .mod) (.b2 (.bin .fdiv) lI LV) (.n0 (.cst (.int 4)))
noncomputable abbrev GR:E:=.and (.b2 (.cmp .eq) (.b2 (.bin .mod) Kr LV) I4) (.u1 .not I9)
noncomputable abbrev GQ:S:=.Ju I69 (.cons (.asg [2] I1) (.cons (.asg [3] I1) .nil)) .nil
noncomputable abbrev As:E:=.b2 (.cmp .eq) N4 Lm
noncomputable abbrev oZ:E:=.pos I6 .nil
noncomputable abbrev Ar:E:=.b2 (.cmp .lt) I7 LV
noncomputable abbrev GP:E:=.JG 65 (.pos Ow (.pos (.n0 (.loc 24)) (.pos Ll .nil)))
noncomputable abbrev Dt:S:=.Ju Nh (.cons I48 tz) .nil
noncomputable abbrev xa:E:=.u1 (.JY 76) I0
noncomputable abbrev GO:S:=.Ju (.u1 (.JY 73) I0) (.cons (.JD 81 I0 I1) .nil) .nil
noncomputable abbrev GN:E:=.b2 (.bin .add) (.b2 (.bin .add) I7 (.Ju I35 PM Ll)) I8
noncomputable abbrev GM:E:=.and (.u1 (.KZ false [1]) I5) (.u1 (.isNone false) xg)
noncomputable abbrev te:E:=.JG 62 Qq
noncomputable abbrev td:E:=.n0 (.loc 32)
noncomputable abbrev Ap:E:=.n0 (.cst (.int 10))
noncomputable abbrev Ds:E:=.b2 .idx (.JG 61 .nil) I42
noncomputable abbrev GL:E:=.pos (.JG 64 (.pos I0 Qq)) (.pos I7 (.pos Kr .nil))
noncomputable abbrev GK:S:=.cons (.asg [5] (.b2 (.bin .add) RV (.Qf I0 4))) .nil
noncomputable abbrev w9:E:=.b2 .pair I1 I1
noncomputable abbrev GJ:E:=.b2 (.cmp .lt) (.u1 .len MI) (.b2 (.bin .add) I2 I4)
noncomputable abbrev GI:S:=.cons (.JD 90 I0 I6) (.cons (.JD 91 I0 I6) .nil)
noncomputable abbrev GH:E:=.or (.b2 (.cmp .eq) I0 Lm) (.b2 (.cmp .eq) I2 PM)
noncomputable abbrev w8:S:=.JD 89 I0 I6
noncomputable abbrev GG:S:=.cons (.expr (.call 46 I0 (.pos DO OJ))) tz
noncomputable abbrev GF:E:=.b2 (.bin .add) (.b2 (.bin .add) nJ DO) nJ
noncomputable def b_0:S:=(.cons (.app MI I2) (.cons (.while (.u1 .not (.call 1 I0 .nil)) (.cons (.JD 69 I0 (.u1 (.pop true) MI)) (.cons (.expr (.Lh 67 I0)) (.cons (.JD 69 I0 I6) .nil)))) .nil))
noncomputable def RD:Fn:=⟨"emit",["self", "event"],2,[],0,b_0⟩
noncomputable def b_1:S:=(.cons (.Ju (.u1 .not MI) (.cons (.ret I1) .nil) .nil) (.cons (.asg [1] nI) (.cons (.Ju (.u1 (.KZ false [6]) I2) (.cons (.ret (.call 2 I0 (.pos I4 .nil))) .nil) (.cons (.Ju (.u1 (.KZ false [10]) I2) (.cons (.ret (.call 2 I0 (.pos LV .nil))) .nil) (.cons (.Ju (.u1 (.KZ false [12]) I2) (.cons (.ret (.call 2 I0 (.pos (.n0 (.cst (.int 3))) .nil))) .nil) xh) .nil)) .nil)) .nil)))
noncomputable def f_1:Fn:=⟨"need_more_events",["self", "event"],1,[],0,b_1⟩
noncomputable def b_2:S:=(.cons (.asg [2] Lm) (.cons (.for 3 (.slice MI I4 I6) (.cons (.Ju (.u1 (.KZ true [6,2]) Kr) (.cons (.K5 2 .add I4) .nil) (.cons (.Ju (.u1 (.KZ true [7,3]) Kr) (.cons (.K5 2 .sub I4) .nil) (.cons (.Ju (.u1 (.KZ false [5]) Kr) (.cons (.asg [2] MW) .nil) .nil) .nil)) .nil)) (.cons (.Ju (.b2 (.cmp .lt) I7 Lm) xh .nil) .nil))) (.cons (.ret GJ) .nil)))
noncomputable def f_2:Fn:=⟨"need_events",["self", "count", "level", "event"],2,[],0,b_2⟩
noncomputable def b_3:S:=(.cons (.app (.u1 (.JY 70) I0) tw) (.cons (.Ju (.u1 (.isNone true) tw) (.cons (.Ju I2 (.cons (.JD 71 I0 pe) .nil) (.cons (.JD 71 I0 Lm) .nil)) .nil) (.cons (.Ju (.u1 .not I7) (.cons (.KU 71 .add I0 pe) .nil) .nil) .nil)) .nil))
noncomputable def Pc:Fn:=⟨"increase_indent",["self", "flow", "indentless"],3,[(.bool false),(.bool false)],0,b_3⟩
noncomputable def b_4:S:=(.cons (.Ju (.u1 (.KZ false [4]) I5) (.cons (.expr (.call 44 I0 .nil)) (.cons (.JD 67 I0 (.u1 (.LH 6) I0)) .nil)) MX) .nil)
noncomputable def f_4:Fn:=⟨"expect_stream_start",["self"],1,[],0,b_4⟩
noncomputable def b_5:S:=MX
noncomputable def f_5:Fn:=⟨"expect_nothing",["self"],1,[],0,b_5⟩
noncomputable def b_6:S:=(.cons (.ret (.call 7 I0 o9)) .nil)
noncomputable def f_6:Fn:=⟨"expect_first_document_start",["self"],1,[],0,b_6⟩
noncomputable def b_7:S:=(.cons (.Ju (.u1 (.KZ false [6]) I5) (.cons (.Ju GW (.cons .stuck MX) .nil) (.cons (.Ju (.u1 (.JY 92) I5) (.cons .stuck MX) .nil) (.cons (.JD 87 I0 (.u1 .Me I0)) (.cons (.Ju (.u1 (.JY 93) I5) (.cons .stuck MX) .nil) (.cons I74 (.cons (.Ju (.u1 .not I7) (.cons OL (.cons (.expr (.call 46 I0 (.pos Aw OJ))) (.cons (.Ju Nh tz .nil) .nil))) .nil) (.cons (.JD 67 I0 (.u1 (.LH 9) I0)) .nil))))))) (.cons (.Ju (.u1 (.KZ false [5]) I5) (.cons (.Ju (.u1 (.JY 81) I0) GG .nil) (.cons (.expr (.call 45 I0 .nil)) (.cons (.JD 67 I0 (.u1 (.LH 5) I0)) .nil))) MX) .nil)) .nil)
noncomputable def f_7:Fn:=⟨"expect_document_start",["self", "first", "implicit", "version_text", "handles", "handle", "prefix", "handle_text", "prefix_text"],2,[(.bool false)],0,b_7⟩
noncomputable def b_8:S:=(.cons (.Ju (.u1 (.KZ false [7]) I5) (.cons OL (.cons (.Ju xd GG .nil) (.cons (.expr (.call 43 I0 .nil)) (.cons (.JD 67 I0 (.u1 (.LH 7) I0)) .nil)))) MX) .nil)
noncomputable def f_8:Fn:=⟨"expect_document_end",["self"],1,[],0,b_8⟩
noncomputable def b_9:S:=(.cons (.app NJ (.u1 (.LH 8) I0)) (.cons (.expr (.call 10 I0 o9)) .nil))
noncomputable def f_9:Fn:=⟨"expect_document_root",["self"],1,[],0,b_9⟩
noncomputable def Jf:S:=(.cons (.JD 73 I0 I2) (.cons (.JD 74 I0 I7) (.cons (.JD 75 I0 Kr) (.cons (.JD 76 I0 I8) (.cons (.Ju (.u1 (.KZ false [8]) I5) (.cons (.expr (.call 11 I0 .nil)) .nil) (.cons (.Ju (.u1 (.KZ true [9,2]) I5) (.cons (.expr (.call 33 I0 (.pos (.n0 (.cst (.str [38]))) .nil))) (.cons (.expr (.call 34 I0 .nil)) (.cons (.Ju Au (.cons (.expr (.call 12 I0 .nil)) .nil) (.cons (.Ju (.u1 (.KZ false [10]) I5) (.cons I91 .nil) (.cons (.Ju (.u1 (.KZ false [12]) I5) (.cons I92 .nil) .nil) .nil)) .nil)) .nil))) MX) .nil)) .nil)))))
noncomputable def je:Fn:=⟨"expect_node",["self", "root", "sequence", "mapping", "simple_key"],5,[(.bool false),(.bool false),(.bool false),(.bool false)],0,Jf⟩
noncomputable def Je:S:=(.cons (.Ju (.u1 (.isNone true) xg) MX .nil) (.cons (.expr (.call 33 I0 (.pos (.n0 (.cst (.str [42]))) .nil))) I27))
noncomputable def zD:Fn:=⟨"expect_alias",["self"],1,[],0,Je⟩
noncomputable def Jd:S:=(.cons (.expr (.call 3 I0 o9)) (.cons (.expr (.call 36 I0 .nil)) (.cons Ra I27)))
noncomputable def zC:Fn:=⟨"expect_scalar",["self"],1,[],0,Jd⟩
noncomputable def Jc:S:=(.cons (.expr (.call 46 I0 (.pos tC (.pos I1 tf)))) (.cons (.KU 72 .add I0 I4) (.cons (.expr (.call 3 I0 o9)) (.cons (.JD 67 I0 (.u1 (.LH 14) I0)) .nil))))
noncomputable def zB:Fn:=⟨"expect_flow_sequence",["self"],1,[],0,Jc⟩
noncomputable def Jb:S:=(.cons (.Ju xp (.cons Ra (.cons xf GV)) GT) .nil)
noncomputable def zA:Fn:=⟨"expect_first_flow_sequence_item",["self"],1,[],0,Jb⟩
noncomputable def Ja:S:=(.cons (.Ju xp (.cons Ra (.cons xf (.cons Dt GV))) (.cons I48 GT)) .nil)
noncomputable def zy:Fn:=⟨"expect_flow_sequence_item",["self"],1,[],0,Ja⟩
noncomputable def IZ:S:=(.cons (.expr (.call 46 I0 (.pos RT (.pos I1 tf)))) (.cons (.KU 72 .add I0 I4) (.cons (.expr (.call 3 I0 o9)) (.cons (.JD 67 I0 (.u1 (.LH 17) I0)) .nil))))
noncomputable def zx:Fn:=⟨"expect_flow_mapping",["self"],1,[],0,IZ⟩
noncomputable def IY:S:=(.cons (.Ju xo (.cons Ra (.cons xf GX)) (.cons I17 (.cons I16 .nil))) .nil)
noncomputable def zw:Fn:=⟨"expect_first_flow_mapping_key",["self"],1,[],0,IY⟩
noncomputable def IX:S:=(.cons (.Ju xo (.cons Ra (.cons xf (.cons Dt GX))) (.cons I48 (.cons I17 (.cons I16 .nil)))) .nil)
noncomputable def zu:Fn:=⟨"expect_flow_mapping_key",["self"],1,[],0,IX⟩
noncomputable def IW:S:=(.cons (.expr (.call 46 I0 (.pos xn Po))) (.cons (.app NJ (.u1 (.LH 18) I0)) I54))
noncomputable def CZ:Fn:=⟨"expect_flow_mapping_simple_value",["self"],1,[],0,IW⟩
noncomputable def IV:S:=(.cons I17 (.cons (.expr (.call 46 I0 (.pos xn OJ))) (.cons (.app NJ (.u1 (.LH 18) I0)) I54)))
noncomputable def CY:Fn:=⟨"expect_flow_mapping_value",["self"],1,[],0,IV⟩
noncomputable def IU:S:=(.cons (.asg [1] (.and (.u1 (.JY 75) I0) (.u1 .not (.u1 (.JY 80) I0)))) (.cons (.expr (.call 3 I0 (.kw 1 I3 (.kw 2 I2 .nil)))) (.cons (.JD 67 I0 (.u1 (.LH 22) I0)) .nil)))
noncomputable def zt:Fn:=⟨"expect_block_sequence",["self", "indentless"],1,[],0,IU⟩
noncomputable def IS:S:=(.cons (.ret (.call 23 I0 o9)) .nil)
noncomputable def CX:Fn:=⟨"expect_first_block_sequence_item",["self"],1,[],0,IS⟩
noncomputable def IR:S:=(.cons (.Ju (.and gF xp) (.cons Ra I27) (.cons OL (.cons (.expr (.call 46 I0 (.pos (.n0 (.cst (.str [45]))) (.pos I1 (.kw 4 I1 .nil))))) (.cons (.app NJ (.u1 (.LH 23) I0)) (.cons DN .nil))))) .nil)
noncomputable def v8:Fn:=⟨"expect_block_sequence_item",["self", "first"],2,[(.bool false)],0,IR⟩
noncomputable def IQ:S:=(.cons (.expr (.call 3 I0 (.kw 1 I3 .nil))) (.cons (.JD 67 I0 (.u1 (.LH 25) I0)) .nil))
noncomputable def zr:Fn:=⟨"expect_block_mapping",["self"],1,[],0,IQ⟩
noncomputable def IP:S:=(.cons (.ret (.call 26 I0 o9)) .nil)
noncomputable def CW:Fn:=⟨"expect_first_block_mapping_key",["self"],1,[],0,IP⟩
noncomputable def IO:S:=(.cons (.Ju (.and gF xo) (.cons Ra I27) (.cons OL (.cons (.Ju (.call 32 I0 .nil) (.cons (.app NJ (.u1 (.LH 27) I0)) (.cons DM .nil)) (.cons (.expr (.call 46 I0 (.pos (.n0 (.cst (.str [63]))) (.pos I1 (.kw 4 I1 .nil))))) (.cons (.app NJ (.u1 (.LH 28) I0)) I54))) .nil))) .nil)
noncomputable def sI:Fn:=⟨"expect_block_mapping_key",["self", "first"],2,[(.bool false)],0,IO⟩
noncomputable def IN:S:=(.cons (.expr (.call 46 I0 (.pos xn Po))) (.cons (.app NJ (.u1 (.LH 26) I0)) I54))
noncomputable def CV:Fn:=⟨"expect_block_mapping_simple_value",["self"],1,[],0,IN⟩
noncomputable def IM:S:=(.cons OL (.cons (.expr (.call 46 I0 (.pos xn (.pos I1 (.kw 4 I1 .nil))))) (.cons (.app NJ (.u1 (.LH 26) I0)) I54)))
noncomputable def FW:Fn:=⟨"expect_block_mapping_value",["self"],1,[],0,IM⟩
noncomputable def IL:S:=(.cons (.ret (.and (.u1 (.KZ false [10]) I5) (.and MI (.u1 (.KZ false [11]) nI)))) .nil)
noncomputable def zq:Fn:=⟨"check_empty_sequence",["self"],1,[],0,IL⟩
noncomputable def IK:S:=(.cons (.ret (.and (.u1 (.KZ false [12]) I5) (.and MI (.u1 (.KZ false [13]) nI)))) .nil)
noncomputable def zp:Fn:=⟨"check_empty_mapping",["self"],1,[],0,IK⟩
noncomputable def IJ:S:=(.cons (.Ju (.or (.u1 .not (.u1 (.KZ false [6]) I5)) (.u1 .not MI)) xh .nil) (.cons (.asg [1] nI) (.cons (.ret (.and (.u1 (.KZ false [9]) I2) (.and (.u1 (.isNone true) (.u1 (.JY 96) I2)) (.and (.u1 (.isNone true) (.u1 (.JY 97) I2)) (.and (.u1 (.JY 98) I2) (.b2 (.cmp .eq) (.u1 (.JY 99) I2) PM)))))) .nil)))
noncomputable def FV:Fn:=⟨"check_empty_document",["self", "event"],1,[],0,IJ⟩
noncomputable def Aa:S:=(.cons (.asg [1] Lm) (.cons (.Ju GM (.cons I52 (.cons (.K5 1 .add (.u1 .len xc)) .nil)) .nil) (.cons (.Ju (.and (.u1 (.KZ true [9,2]) I5) (.u1 (.isNone false) (.u1 (.JY 97) I5))) (.cons (.Ju (.u1 (.isNone true) pc) (.cons (.JD 89 I0 (.call 40 I0 (.pos (.u1 (.JY 97) I5) .nil))) .nil) .nil) (.cons (.K5 1 .add (.u1 .len pc)) .nil)) .nil) (.cons (.Ju Au (.cons I63 (.cons (.K5 1 .add (.u1 .len PK)) .nil)) .nil) (.cons (.ret I56) .nil)))))
noncomputable def v7:Fn:=⟨"check_simple_key",["self", "length"],1,[],0,Aa⟩
noncomputable def II:S:=(.cons (.Ju (.u1 (.isNone true) xg) (.cons (.JD 88 I0 I6) (.cons .MJ .nil)) .nil) (.cons I52 (.cons (.Ju xc (.cons (.expr (.call 46 I0 (.pos (.b2 (.bin .add) I2 xc) OJ))) .nil) .nil) (.cons (.JD 88 I0 I6) .nil))))
noncomputable def mY:Fn:=⟨"process_anchor",["self", "indicator"],2,[],0,II⟩
noncomputable def z9:S:=(.cons (.asg [1] (.u1 (.JY 97) I5)) (.cons (.Ju Au (.cons (.Ju (.u1 (.isNone true) N3) DK .nil) (.cons (.Ju I51 (.cons w8 (.cons .MJ .nil)) .nil) (.cons (.Ju (.and xt pg) (.cons (.asg [1] tB) (.cons w8 .nil)) .nil) .nil))) (.cons (.Ju (.and (.or s8 pg) xb) (.cons w8 (.cons .MJ .nil)) .nil) .nil)) (.cons (.Ju pg MX .nil) (.cons (.Ju (.u1 (.isNone true) pc) (.cons (.JD 89 I0 (.call 40 I0 Qq)) .nil) .nil) (.cons (.Ju pc (.cons (.expr (.call 46 I0 (.pos pc OJ))) .nil) .nil) (.cons w8 .nil))))))
noncomputable def jd:Fn:=⟨"process_tag",["self", "tag"],1,[],0,z9⟩
noncomputable def sS:S:=(.cons I63 (.cons (.Ju (.or (.b2 (.cmp .eq) nH Q9) Nh) (.cons (.ret Q9) .nil) .nil) (.cons (.Ju (.and (.u1 .not nH) xt) (.cons (.Ju (.and (.u1 .not (.and xa (.or (.u1 (.JY 101) MY) Ao))) (.or (.and PL (.u1 (.JY 103) MY)) (.and (.u1 .not PL) (.u1 (.JY 104) MY)))) (.cons (.ret PM) .nil) .nil) .nil) .nil) (.cons (.Ju (.and nH (.b2 (.cmp .LO) nH (.n0 (.cst (.str [124,62]))))) (.cons (.Ju (.and (.u1 .not PL) (.and (.u1 .not xa) (.u1 (.JY 105) MY))) (.cons (.ret nH) .nil) .nil) .nil) .nil) (.cons (.Ju (.or (.u1 .not nH) (.b2 (.cmp .eq) nH PN)) (.cons (.Ju (.and (.u1 (.JY 106) MY) (.u1 .not (.and xa Ao))) (.cons (.ret PN) .nil) .nil) .nil) .nil) (.cons (.ret Q9) .nil))))))
noncomputable def zo:Fn:=⟨"choose_scalar_style",["self"],1,[],0,sS⟩
noncomputable def z8:S:=(.cons I63 (.cons (.Ju (.u1 (.isNone true) N3) DK .nil) (.cons (.asg [1] (.u1 .not xa)) (.cons (.Ju (.b2 (.cmp .eq) N3 Q9) (.cons (.expr (.call 52 I0 (.pos PK Qq))) .nil) (.cons (.Ju (.b2 (.cmp .eq) N3 PN) (.cons (.expr (.call 51 I0 (.pos PK Qq))) .nil) (.cons (.Ju (.b2 (.cmp .eq) N3 (.n0 (.cst (.str [62])))) (.cons (.expr (.call 54 I0 (.pos PK .nil))) .nil) (.cons (.Ju (.b2 (.cmp .eq) N3 (.n0 (.cst (.str [124])))) (.cons (.expr (.call 55 I0 (.pos PK .nil))) .nil) (.cons (.expr (.call 56 I0 (.pos PK Qq))) .nil)) .nil)) .nil)) .nil)) GI))))
noncomputable def zn:Fn:=⟨"process_scalar",["self", "split"],1,[],0,z8⟩
noncomputable def IH:S:=RW
noncomputable def FU:Fn:=⟨"prepare_version",["self", "version", "major", "minor"],2,[],0,IH⟩
noncomputable def IG:S:=(.cons .stuck RW)
noncomputable def FT:Fn:=⟨"prepare_tag_handle",["self", "handle", "ch"],2,[],0,IG⟩
noncomputable def IF:S:=DP
noncomputable def FS:Fn:=⟨"prepare_tag_prefix",["self", "prefix", "chunks", "start", "ch", "data", "end"],2,[],0,IF⟩
noncomputable def wU:S:=(.cons (.Ju gF MX .nil) (.cons (.Ju (.b2 (.cmp .eq) I2 tB) (.cons (.ret I2) .nil) .nil) (.cons (.asg [2] I6) (.cons (.asg [3] I2) (.cons (.asg [4] (.u1 .keys (.u1 (.JY 87) I0))) (.cons (.for 5 I8 (.cons (.Ju (.and (.b2 .starts I2 I9) (.or (.b2 (.cmp .eq) I9 tB) (.b2 (.cmp .lt) (.u1 .len I9) LU))) (.cons (.asg [2] (.b2 .idx (.u1 (.JY 87) I0) I9)) (.cons (.asg [3] (.slice I2 (.u1 .len I9) I6)) .nil)) .nil) .nil)) (.cons (.asg [6] fj) (.cons (.asg [7,11] Lm) (.cons (.while (.b2 (.cmp .lt) lI (.u1 .len Kr)) (.cons (.asg [9] (.b2 .idx Kr lI)) (.cons (.Ju I26 (.cons (.K5 11 .add I4) .nil) (.cons .stuck RW)) .nil))) (.cons (.Ju (.b2 (.cmp .lt) L7 lI) (.cons (.app Kp (.slice Kr L7 lI)) .nil) .nil) (.cons (.asg [8] (.u1 .join Kp)) (.cons (.Ju I7 (.cons (.ret (.b2 (.NH .ss) I7 lG)) .nil) MX) .nil))))))))))))
noncomputable def v6:Fn:=⟨"prepare_tag",["self", "tag", "handle", "suffix", "prefixes", "prefix", "chunks", "start", "suffix_text", "ch", "data", "end"],2,[],0,wU⟩
noncomputable def GA:S:=(.cons (.Ju gF MX .nil) (.cons (.for 2 I2 (.cons (.Ju I44 MX .nil) .nil)) (.cons (.ret I2) .nil)))
noncomputable def zm:Fn:=⟨"prepare_anchor",["self", "anchor", "ch"],2,[],0,GA⟩
noncomputable def Di:S:=(.cons (.Ju gF (.cons (.ret (.new 14 (.kw 1 I2 (.kw 2 I1 (.kw 3 I3 (.kw 4 I3 (.kw 5 I1 (.kw 6 I1 (.kw 7 I1 (.kw 8 I3 .nil)))))))))) .nil) .nil) (.cons (.asg [2] I3) (.cons (.asg [3] I3) (.cons (.asg [4] I3) (.cons (.asg [5] I3) (.cons (.asg [6] I3) (.cons (.asg [7] I3) (.cons (.asg [8] I3) (.cons (.asg [9] I3) (.cons (.asg [10] I3) (.cons (.asg [11] I3) (.cons GQ (.cons (.asg [12] I1) (.cons G4 (.cons (.asg [14] I3) (.cons (.asg [15] I3) (.cons (.asg [16] Lm) (.cons (.while (.b2 (.cmp .lt) N4 LU) (.cons (.asg [22] (.b2 .idx I2 N4)) (.cons (.Ju As I18 I25) (.cons (.Ju (.b2 (.cmp .LO) Mo Qs) (.cons (.asg [4] I1) .nil) .nil) (.cons (.Ju G7 (.cons (.Ju I31 (.cons (.asg [23] I1) (.cons (.Ju (.u1 .not (.u1 (.JY 83) I0)) (.cons (.asg [5] I1) .nil) .nil) .nil)) (.cons (.asg [5] I1) .nil)) .nil) .nil) (.cons (.Ju (.b2 (.cmp .eq) Mo Ll) (.cons (.Ju As (.cons (.asg [6] I1) .nil) .nil) (.cons (.Ju DJ (.cons (.asg [8] I1) .nil) .nil) (.cons (.Ju o8 (.cons (.asg [10] I1) .nil) .nil) (.cons (.asg [14] I1) (.cons (.asg [15] I3) .nil))))) (.cons (.Ju (.b2 (.cmp .LO) Mo Qs) (.cons (.Ju As (.cons (.asg [7] I1) .nil) .nil) (.cons (.Ju DJ (.cons (.asg [9] I1) .nil) .nil) (.cons (.Ju (.n0 (.loc 14)) (.cons (.asg [11] I1) .nil) .nil) (.cons (.asg [14] I3) (.cons (.asg [15] I1) .nil))))) (.cons (.asg [14] I3) (.cons (.asg [15] I3) .nil))) .nil)) (.cons (.K5 16 .add I4) (.cons (.asg [12] (.b2 (.cmp .LO) Mo I75)) (.cons (.asg [13] (.or (.b2 (.cmp .ge) (.b2 (.bin .add) N4 I4) LU) (.b2 (.cmp .LO) (.b2 .idx I2 (.b2 (.bin .add) N4 I4)) I75))) .nil))))))))) (.cons (.asg [17] I1) (.cons (.asg [18] I1) (.cons (.asg [19] I1) (.cons (.asg [20] I1) (.cons (.asg [21] I1) (.cons (.Ju (.or Kp (.or L7 (.or lG Lv))) (.cons (.asg [17,18] I3) .nil) .nil) (.cons (.Ju lG (.cons (.asg [21] I3) .nil) .nil) (.cons (.Ju nF (.cons (.asg [17,18,19] I3) .nil) .nil) (.cons (.Ju (.or lI I9) (.cons (.asg [17,18,19,21] I3) .nil) .nil) (.cons (.Ju I8 (.cons (.asg [17,18] I3) .nil) .nil) (.cons (.Ju Kr (.cons (.asg [17] I3) .nil) .nil) (.cons (.Ju I7 (.cons (.asg [18] I3) .nil) .nil) (.cons (.ret (.new 14 (.kw 1 I2 (.kw 2 I3 (.kw 3 I8 (.kw 4 Ow (.kw 5 (.n0 (.loc 18)) (.kw 6 (.n0 (.loc 19)) (.kw 7 N1 (.kw 8 (.n0 (.loc 21)) .nil)))))))))) .nil)))))))))))))))))))))))))))))))
noncomputable def vZ:Fn:=⟨"analyze_scalar",["self", "scalar", "block_indicators", "flow_indicators", "line_breaks", "special_characters", "leading_space", "leading_break", "trailing_space", "trailing_break", "break_space", "space_break", "preceded_by_whitespace", "followed_by_whitespace", "previous_space", "previous_break", "index", "allow_flow_plain", "allow_block_plain", "allow_single_quoted", "allow_double_quoted", "allow_block", "ch", "unicode_characters"],2,[],0,Di⟩
noncomputable def IE:S:=(.cons .pass .nil)
noncomputable def sH:Fn:=⟨"flush_stream",["self"],1,[],0,IE⟩
noncomputable def ID:S:=(.cons .pass .nil)
noncomputable def zl:Fn:=⟨"write_stream_start",["self"],1,[],0,ID⟩
noncomputable def IC:S:=(.cons (.expr (.call 43 I0 .nil)) .nil)
noncomputable def zk:Fn:=⟨"write_stream_end",["self"],1,[],0,IC⟩
noncomputable def Gz:S:=(.cons (.Ju (.or (.u1 (.JY 79) I0) (.u1 .not I7)) (.cons (.asg [5] I2) .nil) (.cons (.asg [5] (.b2 (.bin .add) Ll I2)) .nil)) (.cons (.JD 79 I0 Kr) (.cons (.JD 80 I0 (.and (.u1 (.JY 80) I0) I8)) (.cons I80 (.cons (.JD 81 I0 I3) (.cons I67 .nil))))))
noncomputable def gy:Fn:=⟨"write_indicator",["self", "indicator", "need_whitespace", "whitespace", "indention", "data"],5,[(.bool false),(.bool false)],0,Gz⟩
noncomputable def z7:S:=(.cons (.asg [1] (.or tw Lm)) (.cons (.Ju I90 Ax .nil) (.cons (.Ju (.b2 (.cmp .lt) pa I2) (.cons (.JD 79 I0 I1) (.cons (.asg [2] (.b2 (.bin .mul) Ll (.b2 (.bin .sub) I2 pa))) (.cons (.JD 78 I0 I2) (.cons (.expr (.call 57 Qt (.pos I7 .nil))) .nil)))) .nil) .nil)))
noncomputable def kU:Fn:=⟨"write_indent",["self", "indent", "data"],1,[],0,z7⟩
noncomputable def Dh:S:=(.cons (.Ju pg (.cons (.asg [1] (.u1 (.JY 86) I0)) .nil) .nil) (.cons (.JD 79 I0 I1) (.cons (.JD 80 I0 I1) (.cons (.KU 77 .add I0 I4) (.cons (.JD 78 I0 Lm) (.cons (.expr (.call 57 Qt Qq)) .nil))))))
noncomputable def oH:Fn:=⟨"write_line_break",["self", "data"],2,[.nul],0,Dh⟩
noncomputable def IB:S:=RW
noncomputable def FQ:Fn:=⟨"write_version_directive",["self", "version_text", "data"],2,[],0,IB⟩
noncomputable def IA:S:=RW
noncomputable def FP:Fn:=⟨"write_tag_directive",["self", "handle_text", "prefix_text", "data"],3,[],0,IA⟩
noncomputable def Gy:S:=(.cons (.expr (.call 46 I0 (.pos PN OJ))) (.cons (.asg [3] I3) (.cons (.asg [4] I3) (.cons (.asg [5,9] Lm) (.cons (.while (.b2 (.cmp .le) Lv LU) (.cons (.asg [6] I6) (.cons (.Ju (.b2 (.cmp .lt) Lv LU) (.cons (.asg [6] (.b2 .idx I2 Lv)) .nil) .nil) (.cons (.Ju Kr (.cons (.Ju (.or xm (.b2 (.cmp .ne) Kp Ll)) (.cons I87 Qr) .nil) .nil) (.cons (.Ju I8 (.cons (.Ju (.or xm (.b2 (.cmp .nin) Kp Qs)) (.cons I49 (.cons I73 (.cons OL Qr))) .nil) .nil) (.cons (.Ju He (.cons I86 .nil) .nil) .nil)) .nil)) (.cons (.Ju (.b2 (.cmp .eq) Kp PN) (.cons (.asg [7] (.n0 (.cst (.str [39,39])))) (.cons (.KU 78 .add I0 LV) (.cons DB (.cons (.asg [5] (.b2 (.bin .add) Lv I4)) .nil)))) .nil) (.cons (.Ju (.u1 (.isNone false) Kp) (.cons (.asg [3] (.b2 (.cmp .eq) Kp Ll)) (.cons (.asg [4] (.b2 (.cmp .LO) Kp Qs)) .nil)) .nil) (.cons (.K5 9 .add I4) .nil))))))) (.cons (.expr (.call 46 I0 (.pos PN Po))) .nil))))))
noncomputable def zj:Fn:=⟨"write_single_quoted",["self", "text", "split", "spaces", "breaks", "start", "ch", "data", "br", "end"],3,[(.bool true)],0,Gy⟩
noncomputable def Gx:S:=(.cons (.expr (.call 46 I0 (.pos Q9 OJ))) (.cons (.asg [3,6] Lm) (.cons (.while (.b2 (.cmp .le) Kp LU) (.cons (.asg [4] I6) (.cons (.Ju (.b2 (.cmp .lt) Kp LU) (.cons (.asg [4] (.b2 .idx I2 Kp)) .nil) .nil) (.cons (.Ju Hc (.cons (.Ju tA G6 .nil) (.cons (.Ju (.u1 (.isNone false) I8) (.cons (.Ju (.b2 .Ly I8 I0) GK I95) (.cons I80 (.cons I67 (.cons (.asg [3] (.b2 (.bin .add) Kp I4)) .nil)))) .nil) .nil)) .nil) (.cons (.Ju I59 (.cons (.asg [5] (.b2 (.bin .add) (.slice I2 Kr Kp) RV)) (.cons (.Ju tA Dr .nil) (.cons I80 (.cons I67 (.cons OL (.cons ti (.cons th Hb))))))) .nil) (.cons (.K5 6 .add I4) .nil)))))) (.cons (.expr (.call 46 I0 (.pos Q9 Po))) .nil))))
noncomputable def zi:Fn:=⟨"write_double_quoted",["self", "text", "split", "start", "ch", "data", "end"],3,[(.bool true)],0,Gx⟩
noncomputable def Iz:S:=RW
noncomputable def FO:Fn:=⟨"determine_block_hints",["self", "text", "hints"],2,[],0,Iz⟩
noncomputable def Iy:S:=(.cons .stuck (.cons .stuck DP))
noncomputable def FN:Fn:=⟨"write_folded",["self", "text", "hints", "leading_space", "spaces", "breaks", "start", "ch", "br", "data", "end"],2,[],0,Iy⟩
noncomputable def Ix:S:=DP
noncomputable def FM:Fn:=⟨"write_literal",["self", "text", "hints", "breaks", "start", "ch", "br", "data", "end"],2,[],0,Ix⟩
noncomputable def Gw:S:=(.cons GO (.cons (.Ju gF (.cons .MJ .nil) .nil) (.cons (.Ju Av (.cons (.asg [6] Ll) I77) .nil) (.cons ti (.cons th (.cons (.asg [3] I3) (.cons (.asg [4] I3) (.cons (.asg [5,9] Lm) (.cons (.while (.b2 (.cmp .le) Lv LU) (.cons (.asg [7] I6) (.cons (.Ju (.b2 (.cmp .lt) Lv LU) (.cons (.asg [7] (.b2 .idx I2 Lv)) .nil) .nil) (.cons (.Ju Kr (.cons (.Ju (.b2 (.cmp .ne) L7 Ll) (.cons I38 Qr) .nil) .nil) (.cons (.Ju I8 (.cons (.Ju (.b2 (.cmp .nin) L7 Qs) (.cons I49 (.cons I73 (.cons OL (.cons ti (.cons th Qr))))) .nil) .nil) (.cons (.Ju G9 (.cons (.asg [6] tu) (.cons (.KU 78 .add I0 o0) (.cons (.expr (.call 57 Qt (.pos Kp .nil))) Qr))) .nil) .nil)) .nil)) (.cons (.Ju (.u1 (.isNone false) L7) (.cons (.asg [3] (.b2 (.cmp .eq) L7 Ll)) (.cons (.asg [4] (.b2 (.cmp .LO) L7 Qs)) .nil)) .nil) (.cons (.K5 9 .add I4) .nil)))))) .nil)))))))))
noncomputable def vY:Fn:=⟨"write_plain",["self", "text", "split", "spaces", "breaks", "start", "data", "ch", "br", "end"],3,[(.bool true)],0,Gw⟩
noncomputable def Gv:S:=(.cons (.app (.u1 (.JY 107) I0) I2) .nil)
noncomputable def zh:Fn:=⟨"write",["self", "data"],2,[],1,Gv⟩
noncomputable def Iw:S:=(.cons (.ret (.u1 .join (.u1 (.JY 107) I0))) .nil)
noncomputable def zg:Fn:=⟨"text",["self"],1,[],1,Iw⟩
noncomputable def Iv:S:=(.cons (.JD 107 I0 fj) .nil)
noncomputable def CU:Fn:=⟨"__init__",["self"],1,[],1,Iv⟩
noncomputable def wT:S:=(.cons (.JD 64 I0 I2) (.cons (.JD 65 I0 I6) (.cons (.JD 66 I0 fj) (.cons (.JD 67 I0 (.u1 (.LH 4) I0)) (.cons (.JD 68 I0 fj) (.cons (.JD 69 I0 I6) (.cons (.JD 70 I0 fj) (.cons (.JD 71 I0 I6) (.cons (.JD 72 I0 Lm) (.cons (.JD 73 I0 I3) (.cons (.JD 74 I0 I3) (.cons (.JD 75 I0 I3) (.cons (.JD 76 I0 I3) (.cons (.JD 77 I0 Lm) (.cons (.JD 78 I0 Lm) (.cons (.JD 79 I0 I1) (.cons (.JD 80 I0 I1) (.cons (.JD 81 I0 I3) (.cons (.JD 82 I0 I7) (.cons (.JD 83 I0 I9) (.cons (.JD 84 I0 LV) (.cons (.Ju (.and Kr (.Ku .lt .lt I4 Kr Ap)) (.cons (.JD 84 I0 Kr) .nil) .nil) (.cons (.JD 85 I0 (.n0 (.cst (.int 80)))) (.cons (.Ju (.and I8 (.b2 (.cmp .gt) I8 (.b2 (.bin .mul) pe LV))) (.cons (.JD 85 I0 I8) .nil) .nil) (.cons (.JD 86 I0 OK) (.cons (.Ju (.b2 .Oc Kp (.lst (.pos (.n0 (.cst (.str [13]))) (.pos OK (.pos Dq .nil))))) (.cons (.JD 86 I0 Kp) .nil) .nil) (.cons (.JD 87 I0 I6) (.cons (.JD 88 I0 I6) (.cons w8 GI)))))))))))))))))))))))))))))
noncomputable def zf:Fn:=⟨"__init__",["self", "stream", "canonical", "indent", "width", "allow_unicode", "line_break"],7,[.nul,.nul,.nul,.nul,.nul],0,wT⟩
noncomputable def Iu:S:=(.cons (.ret (.lst (.pos (.tup (.pos xk oZ)) (.pos (.tup (.pos (.n0 (.cst (.str [98,32,99]))) oZ)) (.pos (.tup (.pos PM oZ)) (.pos (.tup (.pos (.n0 (.cst (.str [120,58,32,121]))) oZ)) (.pos (.tup (.pos (.n0 (.cst (.str [100,32,101,32,102]))) (.pos Q9 .nil))) (.pos (.tup (.pos (.n0 (.cst (.str [105,116,39,115]))) (.pos PN .nil))) (.pos (.tup (.pos (.n0 (.cst (.str [103,32,104,32,105,32,106]))) oZ)) (.pos (.tup (.pos (.n0 (.cst (.str [107]))) (.pos (.n0 (.cst (.str [124]))) .nil))) (.pos (.tup (.pos (.n0 (.cst (.str [109,10,110]))) (.pos PN .nil))) (.pos (.tup (.pos (.n0 (.cst (.str [116,9,98]))) oZ)) (.pos (.tup (.pos (.n0 (.cst (.str [111,10,112]))) (.pos Q9 .nil))) (.pos (.tup (.pos (.n0 (.cst (.str [35]))) oZ)) .nil)))))))))))))) .nil)
noncomputable def zd:Fn:=⟨"_law_VALUES",[],0,[],2,Iu⟩
noncomputable def It:S:=(.cons (.ret (.Ju I0 (.u1 (.pop true) I0) Lm)) .nil)
noncomputable def zb:Fn:=⟨"_law_next",["tape"],1,[],2,It⟩
noncomputable def wS:S:=(.cons (.asg [3] (.JG 62 (.pos I0 .nil))) (.cons (.asg [4] (.Ju (.b2 (.cmp .eq) (.b2 (.bin .mod) Kr (.n0 (.cst (.int 7)))) (.n0 (.cst (.int 6)))) xk I6)) (.cons (.asg [5] (.Ju (.b2 (.cmp .eq) (.b2 (.bin .mod) Kr (.n0 (.cst (.int 11)))) Ap) (.n0 (.cst (.str [33,116]))) I6)) (.cons (.Ju (.b2 (.cmp .eq) RU (.n0 (.cst (.int 4)))) (.cons (.ret (.lst (.pos (.new 8 (.pos (.n0 (.cst (.str [121]))) .nil)) .nil))) .nil) .nil) (.cons (.Ju (.and (.b2 .Oc RU xq) DD) (.cons (.asg [6] fj) (.cons (.forR 7 false DV (.cons (.Ju I0 (.cons (.ext Kp (.JG 63 (.pos I0 DH))) (.cons (.Ju (.b2 (.cmp .eq) RU LV) (.cons (.ext Kp (.JG 63 (.pos I0 DH))) .nil) .nil) .nil)) .nil) .nil)) (.cons (.ret (.JG 64 (.pos Kp (.pos (.b2 (.cmp .eq) RU LV) (.pos (.b2 (.cmp .eq) (.b2 (.bin .mod) Kr LV) Lm) (.pos I8 sZ)))))) .nil))) .nil) (.cons (.Pq [8,9] Ds) (.cons (.ret (.lst (.pos Hh .nil))) .nil)))))))
noncomputable def vX:Fn:=⟨"_law_node",["tape", "depth", "small", "n", "anchor", "tag", "inner", "_", "value", "style"],3,[],2,wS⟩
noncomputable def Ir:S:=(.cons (.Ju I2 (.cons (.ret (.b2 (.bin .add) (.b2 (.bin .add) (.lst (.pos (.new 12 I50) .nil)) I0) (.lst (.pos (.new 13 .nil) .nil)))) .nil) .nil) (.cons (.ret (.b2 (.bin .add) (.b2 (.bin .add) (.lst (.pos (.new 10 I50) .nil)) I0) (.lst (.pos (.new 11 .nil) .nil)))) .nil))
noncomputable def iM:Fn:=⟨"_law_put",["inner", "is_map", "flow", "anchor", "tag"],5,[(.bool true),.nul,.nul],2,Ir⟩
noncomputable def z6:S:=(.cons (.Pq [8,9,10,11,12] I2) (.cons (.asg [3] (.LL 59 60 (.kw 2 lG (.kw 3 Lv (.kw 4 nF (.kw 6 lI .nil)))))) (.cons (.for 4 (.b2 (.bin .add) (.b2 (.bin .add) DT I0) DQ) (.cons (.expr (.K4 0 Kr (.pos I8 .nil))) .nil)) (.cons (.asg [5] (.K4 58 (.u1 (.JY 64) Kr) .nil)) (.cons (.asg [6] (.b2 (.bin .add) Aw I7)) (.cons (.asg [7] GF) (.cons (.Ju (.or (.b2 (.cmp .ne) (.slice I9 I6 o0) Kp) (.b2 (.cmp .ne) (.slice I9 I81 I6) L7)) (.cons (.ret I6) .nil) .nil) (.cons (.ret (.slice I9 o0 I81)) .nil))))))))
noncomputable def kT:Fn:=⟨"_law_text",["node", "told", "front", "emitter", "event", "text", "head", "tail", "canonical", "indent", "width", "line", "end"],3,[],2,z6⟩
noncomputable def Gu:S:=(.cons (.asg [2] fj) (.cons (.asg [3] Lm) (.cons (.asg [4] Lm) (.cons (.while (.b2 (.cmp .lt) I8 (.u1 .len I0)) (.cons (.Ju (.b2 (.cmp .eq) DC I2) (.cons (.app I7 (.slice I0 Kr I8)) (.cons (.K5 4 .add LU) (.cons (.asg [3] I8) .nil))) (.cons (.K5 4 .add I4) .nil)) .nil)) (.cons (.ret (.b2 (.bin .add) I7 DA)) .nil)))))
noncomputable def vW:Fn:=⟨"_law_rows",["text", "end", "rows", "start", "place"],2,[],2,Gu⟩
noncomputable def Iq:S:=(.cons (.ret (.b2 .LN I7 (.comp true [1] Dy (.Ju GH I2 DG)))) .nil)
noncomputable def za:Fn:=⟨"_law_moved",["text", "step", "end"],3,[],2,Iq⟩
noncomputable def Gs:S:=(.cons (.asg [2] (.b2 .idx I0 Lm)) (.cons (.forR 3 true (.u1 .len I0) (.cons (.asg [4] (.b2 .idx I0 Kr)) (.cons (.while (.b2 (.cmp .eq) (.slice I8 I6 I4) Ll) (.cons (.asg [4] (.slice I8 I4 I6)) .nil)) (.cons (.asg [5] (.b2 (.cmp .eq) (.slice I7 MW I6) RV)) (.cons (.Ju Ha (.cons (.ret I6) .nil) .nil) (.cons (.Ju I9 (.cons (.asg [2] (.b2 (.bin .add) (.slice I7 I6 MW) DU)) .nil) (.cons (.asg [2] GN) .nil)) .nil)))))) (.cons (.ret I7) .nil)))
noncomputable def y9:Fn:=⟨"_law_joined",["rows", "most", "text", "i", "row", "cut"],2,[],2,Gs⟩
noncomputable def cF:S:=(.cons (.Nf 1 [] (.slice I0 I6 pf) I97) (.cons (.asg [2] (.b2 (.bin .mod) te pf)) (.cons (.asg [3] te) (.cons (.asg [4] te) (.cons (.asg [5] (.b2 (.cmp .eq) I7 (.n0 (.cst (.int 7))))) (.cons (.asg [6] GR) (.cons (.asg [7] (.b2 (.bin .sub) (.b2 (.bin .mod) Kr (.n0 (.cst (.int 13)))) I4)) (.cons (.asg [8] I94) (.cons (.asg [9] Hf) (.cons (.asg [10] (.Ju DF L7 LV)) (.cons (.asg [11] te) (.cons (.Mu 12 (.b2 (.cmp .eq) (.b2 (.bin .mod) lI LV) I4)) (.cons (.asg [13] fj) (.cons (.forR 14 false GS (.cons (.Ju I2 (.cons (.asg [16] (.JG 63 (.pos I2 (.pos I4 sZ)))) (.cons (.Ju nJ (.cons (.ext N4 (.JG 63 (.pos I2 (.pos I4 sZ)))) .nil) .nil) (.cons (.app N0 N4) .nil))) .nil) .nil)) (.cons (.asg [15] fj) (.cons (.for 16 N0 (.cons (.ext o8 N4) .nil)) (.cons (.asg [17] (.JG 64 (.pos o8 (.pos nJ .nil)))) (.cons (.Mu 18 (.tup (.pos Kp I57))) (.cons (.Mu 19 (.Ju Kp Lv Ll)) (.cons (.asg [20] (.JG 65 (.pos Ow I71))) (.cons (.Ju (.u1 (.isNone true) N1) xh .nil) (.cons (.Pq [26,27] I34) (.cons (.Ju Ar (.cons (.Nf 28 [12,18,19] N0 (.JG 65 GL)) (.cons (.Ju (.b2 .Oc I6 o6) xh .nil) (.cons (.Ju (.and Kp N0) (.cons (.Mu 31 Dz) (.cons (.ret (.and (.u1 .Mw (.comp false [27,31] o6 (.and (.b2 (.cmp .eq) (.slice I0 I6 (.u1 .len I7)) I7) (.b2 (.cmp .eq) (.slice I0 MW I6) I2)))) (.b2 (.cmp .eq) N1 I43))) .nil)) .nil) (.cons (.ret (.and (.u1 .Mw (.comp false [26,27] o6 (.and (.b2 (.cmp .eq) (.slice I0 I6 I4) I2) (.b2 (.cmp .eq) (.slice I0 MW I6) I7)))) (.b2 (.cmp .eq) N1 I37))) .nil)))) .nil) (.cons (.Ju I9 (.cons Hg (.cons (.asg [30] (.JG 65 (.pos Ow (.pos I82 (.pos Ll .nil))))) (.cons (.ret I62) .nil))) .nil) (.cons (.asg [21] (.lst (.pos (.new 9 (.pos I6 (.pos I6 (.pos w9 (.pos (.n0 (.cst (.str [107]))) .nil))))) .nil))) (.cons (.asg [22] (.lst (.pos (.new 9 (.pos I6 (.pos I6 (.pos w9 (.pos (.n0 (.cst (.str [118]))) .nil))))) .nil))) (.cons (.asg [23] (.JG 67 (.pos N1 (.pos nF nG)))) (.cons (.Ju (.b2 (.cmp .lt) I7 RX) (.cons (.asg [25] (.b2 .idx (.lst (.pos (.JG 64 (.pos Ow Po)) (.pos (.JG 64 (.pos I47 OJ)) (.pos (.JG 64 (.pos (.b2 (.bin .add) Ow Mo) OJ)) .nil)))) (.b2 (.bin .sub) I7 LV))) (.cons (.Ju Kp (.cons (.asg [32] (.b2 (.bin .add) Lv (.b2 (.bin .mul) Ll nF))) (.cons (.asg [33] (.b2 (.bin .add) (.b2 (.bin .add) (.b2 .idx (.lst (.pos (.b2 (.bin .add) (.b2 (.bin .add) tC td) lH) (.pos (.b2 (.bin .add) (.b2 (.bin .add) (.b2 (.bin .add) (.b2 (.bin .add) (.b2 (.bin .add) RT td) (.n0 (.cst (.str [63,32,34,107,34])))) td) (.n0 (.cst (.str [58,32])))) lH) (.pos (.b2 (.bin .add) (.b2 (.bin .add) (.b2 (.bin .add) (.b2 (.bin .add) (.b2 (.bin .add) RT td) (.n0 (.cst (.str [63,32])))) lH) td) (.n0 (.cst (.str [58,32,34,118,34])))) .nil)))) (.b2 (.bin .sub) I7 LV)) (.n0 (.cst (.str [44])))) Lv)) .nil)) (.cons (.asg [33] (.b2 .idx (.lst (.pos (.b2 (.bin .add) tC lH) (.pos (.b2 (.bin .add) (.n0 (.cst (.str [123,107,58,32]))) lH) (.pos (.b2 (.bin .add) (.b2 (.bin .add) RT I96) (.n0 (.cst (.str [58,32,118])))) .nil)))) (.b2 (.bin .sub) I7 LV))) .nil)) (.cons (.ret G8) .nil))) .nil) (.cons (.asg [24] (.tup (.pos I3 I57))) (.cons (.asg [25] (.JG 65 (.pos (.Ju Aq Dx Dv) (.pos (.n0 (.loc 24)) nG)))) (.cons (.asg [20] GP) (.cons (.ret GU) .nil))))))))))))))))))))))))))))))))
noncomputable def FL:Fn:=⟨"law",["script", "tape", "mode", "o", "w", "small", "canonical", "indent", "line", "end", "step", "r", "is_map", "entries", "_", "inner", "entry", "flow", "told", "front", "text", "key", "value", "moved", "bare", "whole", "first", "last", "alone", "most", "narrow", "opening", "pad", "due"],1,[],2,cF⟩
noncomputable def fns:List Fn:=[RD,f_1,f_2,Pc,f_4,f_5,f_6,f_7,f_8,f_9,je,zD,zC,zB,zA,zy,zx,zw,zu,CZ,CY,zt,CX,v8,zr,CW,sI,CV,FW,zq,zp,FV,v7,mY,jd,zo,zn,FU,FT,FS,v6,zm,vZ,sH,zl,zk,gy,kU,oH,FQ,FP,zj,zi,FO,FN,FM,vY,zh,zg,CU,zf,zd,zb,vX,iM,kT,vW,za,y9,FL]
noncomputable def gx:List Fn:=[RD,f_1,f_2,Pc,f_4,f_5,f_6,f_7,f_8,f_9,je,zD,zC,zB,zA,zy,zx,zw,zu,CZ,CY,zt,CX,v8,zr,CW,sI,CV,FW,zq,zp,FV,v7,mY,jd,zo,zn,FU,FT,FS,v6,zm,vZ,sH,zl,zk,gy,kU,oH,FQ,FP,zj,zi,FO,FN,FM,vY,zh,zg,CU,zf,zd,zb,vX,iM,kT,vW,za,y9]
noncomputable def Kd:List (Fn×List Nat):=[(⟨"__init__",["self", "start_mark", "end_mark"],3,[.nul,.nul],2,.nil⟩,[108,109]),
 (⟨"__init__",["self", "anchor", "start_mark", "end_mark"],4,[.nul,.nul],2,.nil⟩,[96,108,109]),
 (⟨"__init__",["self", "anchor", "tag", "implicit", "start_mark", "end_mark", "flow_style"],7,[.nul,.nul,.nul],2,.nil⟩,[96,97,98,108,109,95]),
 (⟨"__init__",["self", "start_mark", "end_mark"],3,[.nul,.nul],2,.nil⟩,[108,109]),
 (⟨"__init__",["self", "start_mark", "end_mark", "encoding"],4,[.nul,.nul,.nul],2,.nil⟩,[108,109,65]),
 (⟨"__init__",["self", "start_mark", "end_mark"],3,[.nul,.nul],2,.nil⟩,[108,109]),
 (⟨"__init__",["self", "start_mark", "end_mark", "explicit", "version", "tags"],6,[.nul,.nul,.nul,.nul,.nul],2,.nil⟩,[108,109,94,92,93]),
 (⟨"__init__",["self", "start_mark", "end_mark", "explicit"],4,[.nul,.nul,.nul],2,.nil⟩,[108,109,94]),
 (⟨"__init__",["self", "anchor", "start_mark", "end_mark"],4,[.nul,.nul],2,.nil⟩,[96,108,109]),
 (⟨"__init__",["self", "anchor", "tag", "implicit", "value", "start_mark", "end_mark", "style"],8,[.nul,.nul,.nul],2,.nil⟩,[96,97,98,99,108,109,91]),
 (⟨"__init__",["self", "anchor", "tag", "implicit", "start_mark", "end_mark", "flow_style"],7,[.nul,.nul,.nul],2,.nil⟩,[96,97,98,108,109,95]),
 (⟨"__init__",["self", "start_mark", "end_mark"],3,[.nul,.nul],2,.nil⟩,[108,109]),
 (⟨"__init__",["self", "anchor", "tag", "implicit", "start_mark", "end_mark", "flow_style"],7,[.nul,.nul,.nul],2,.nil⟩,[96,97,98,108,109,95]),
 (⟨"__init__",["self", "start_mark", "end_mark"],3,[.nul,.nul],2,.nil⟩,[108,109]),
 (⟨"__init__",["self", "scalar", "empty", "multiline", "allow_flow_plain", "allow_block_plain", "allow_single_quoted", "allow_double_quoted", "allow_block"],9,[],2,.nil⟩,[100,101,102,103,104,106,110,105])]
noncomputable def ii:List (List Nat):=[[0],[1,0],[2,1,0],[3,0],[4,0],[5,0],[6,0],[7,0],[8,1,0],[9,1,0],[10,2,1,0],[11,3,0],[12,2,1,0],[13,3,0],[14]]
noncomputable def vR:List String:=["stream", "encoding", "states", "state", "events", "event", "indents", "indent", "flow_level", "root_context", "sequence_context", "mapping_context", "simple_key_context", "line", "column", "whitespace", "indention", "open_ended", "canonical", "allow_unicode", "best_indent", "best_width", "best_line_break", "tag_prefixes", "prepared_anchor", "prepared_tag", "analysis", "style", "version", "tags", "explicit", "flow_style", "anchor", "tag", "implicit", "value", "scalar", "empty", "multiline", "allow_flow_plain", "allow_block_plain", "allow_block", "allow_single_quoted", "rows", "start_mark", "end_mark", "allow_double_quoted"]
end
section
open PySem PySem.W PySem.Calls PyProof.Rows
noncomputable def J1(t:Tx):Zs:=⟨t.toArray⟩
structure Lay where
 P:Params
 K:Frag
 JW:Nat->Addr
 J7:Nat->Addr
 fn:Nat->Addr
 KO:Addr
 MK:Addr
 nm:Nat->Zs
 gn:Nat->Zs
 cn:Nat->Zs
 pn:Nat->List Zs
 cp:Nat->List Zs
 sa:Addr
 so:Obj
noncomputable def dd:Nat:=59
noncomputable def eX(e:Expr):List Expr:=(Mk e).ks
noncomputable def JC(n:Nat)(e:Expr):Expr:=(eX e).getD n dE
noncomputable def Lu(e:Expr):List Keyword:=(Mk e).ck
noncomputable def Mn(e:Expr):List Expr:=(eX e).tail
noncomputable def knd(e:Expr):Nat:=(Mk e).kn
noncomputable def OQ(e:Expr):Scope:=(Mk e).sc
noncomputable def nid(e:Expr):Zs:=(Mk e).id
noncomputable def iU:NK->CmpOp
 | .lt=>.Lt | .le=>.LtE | .gt=>.Gt | .ge=>.GtE | .eq=>.Eq | .ne=>.NotEq | .LO=>.In | .nin=>.NotIn
noncomputable def wN:NL->Operator
 | .add=>.Add | .sub=>.Sub | .mul=>.Mult | .mod=>.Mod | .fdiv=>.FloorDiv
noncomputable def isA(y:Bool):CmpOp:=bif y then .Is else .IsNot
noncomputable def cE(c:Const)(e:Expr):Expr:=.Constant c (knd e) e.pos
noncomputable def nE(x:Zs)(e:Expr):Expr:=.Name x e.pos
noncomputable def bJ(e:Expr):Bool:=Nat.beq (Mk e).t 5
noncomputable def Mz(e:Expr):Bool:=!Nat.beq (Mk e).t 2
noncomputable def noC(e:Expr):Bool:=!Nat.beq (Mk e).t 3
noncomputable def AW(e:Expr):Bool:=!Nat.beq (Mk e).t 4
noncomputable def eh(e:Expr):Bool:=!Nat.beq (Mk e).t 1
noncomputable def line(a b:Expr):Bool:=a.pos.endLine==b.pos.line
noncomputable def fb(sc:Scope)(g:Zs):Bool:=sc.names.lookup g==some .globalImplicit&&!(g==("__debug__" : Zs))
noncomputable def cst:B->Const
 | .bool b=>.bool b | .int i=>.int i | .str s=>.str (J1 s) | _=>.none
noncomputable def op0(sl:List Zs)(o:O0)(e:Expr):Expr:=match o with
 | .stuck=>e
 | .cst v=>cE (cst v) e
 | .neg i=>.UnaryOp .USub (cE (.int i) (JC 0 e)) e.pos
 | .loc n=>nE (sl.getD n "") e
noncomputable def ok0(o:O0)(e:Expr):Bool:=match o with
 | .stuck=>Mz e&&eh e
 | .cst v=>(match v with | .nul=>true | .bool _=>true | .int _=>true | .str s=>decide (s.length<=1000) | _=>false)
 | _=>true
noncomputable def xM(o:O1)(e:Expr):Expr:=match o with
 | .len=>JC 1 e | .Mw=>JC 1 e | .KZ _ _=>JC 1 e | .keys=>JC 0 (JC 0 (JC 1 e)) | .join=>JC 1 e | .pop _=>JC 0 (JC 0 e) | .Me=>JC 0 (JC 0 (JC 0 e)) | _=>JC 0 e
noncomputable def mE(x:Expr)(nm:Zs)(as:List Expr)(ks:List Keyword)(e:Expr):Expr:=.Call (.Attribute x nm (JC 0 e).pos) as ks e.pos
noncomputable def gE(g:Zs)(as:List Expr)(ks:List Keyword)(e:Expr):Expr:=.Call (nE g (JC 0 e)) as ks e.pos
noncomputable def op1(Y:Lay)(o:O1)(x e:Expr):Expr:=match o with
 | .not=>.UnaryOp .Not x e.pos
 | .isNone y=>.Compare x [isA y] [cE .none (JC 1 e)] e.pos
 | .JY n=>.Attribute x (Y.nm n) e.pos
 | .len=>gE "len" [x] [] e
 | .Mw=>gE "all" [x] [] e
 | .KZ tup cs=>gE "isinstance" [x,bif tup then .Tuple ((cs.zip (eX (JC 2 e))).map λp=>nE (Y.cn p.1) p.2) (knd (JC 2 e)) (JC 2 e).pos else nE (Y.cn (cs.headD 0)) (JC 2 e)] [] e
 | .keys=>gE "sorted" [mE x "keys" [] [] (JC 1 e)] [] e
 | .join=>mE (cE (.str "") (JC 0 (JC 0 e))) "join" [x] [] e
 | .pop fr=>mE x "pop" (bif fr then [cE (.int 0) (JC 1 e)] else []) [] e
 | .LH k=>.Attribute x (Y.nm k) e.pos
 | .Me=>mE (.Attribute x "DEFAULT_TAG_PREFIXES" (JC 0 (JC 0 e)).pos) "copy" [] [] e
noncomputable def ER(Y:Lay)(sc:Scope)(o:O1)(x e:Expr):Bool:=match o with
 | .JY n=>bJ x&&decide (64<=n/\n < 126)
 | .len=>fb sc "len"
 | .Mw=>fb sc "all"
 | .KZ tup cs=>fb sc "isinstance" && cs.all (λd=>decide (d < 14)&&fb sc (Y.cn d))&&(bif tup then decide (cs.length<=100)&&(eX (JC 2 e)).length==cs.length else cs.length==1)
 | .keys=>fb sc "sorted" && bJ x&&line (JC 0 (JC 1 e)) (JC 1 e)
 | .join=>line (JC 0 e) e
 | .pop _=>bJ x&&line (JC 0 e) e
 | .LH k=>bJ x&&decide (k < 57)
 | .Me=>bJ x&&line (JC 0 e) e
 | _=>true
noncomputable def pv(o:O2)(e:Expr):Expr:=match o with
 | .NH .ss=>JC 0 (JC 0 e) | .starts=>JC 0 (JC 0 e) | .LN=>JC 0 (JC 0 e) | _=>JC 0 e
noncomputable def pr(o:O2)(e:Expr):Expr:=match o with
 | .NH .ss=>JC 0 (JC 1 e) | .Ly=>JC 0 (JC 1 e) | _=>JC 1 e
noncomputable def fvE(x e:Expr):Expr:=.FormattedValue x 115 none e.pos
noncomputable def op2(o:O2)(x y e:Expr):Expr:=match o with
 | .cmp o=>.Compare x [iU o] [y] e.pos
 | .bin o=>.BinOp x (wN o) y e.pos
 | .idx=>.Subscript x y e.pos
 | .NH .ss=>.JoinedStr [fvE x (JC 0 e),fvE y (JC 1 e)] e.pos
 | .starts=>mE x "startswith" [y] [] e
 | .LN=>mE x "join" [y] [] e
 | .RF=>.Compare x [.Eq] [y] e.pos
 | .pair=>.Tuple [x,y] (knd e) e.pos
 | .Oc=>.Compare x [.In] [y] e.pos
 | .Ly=>.Compare x [.In] [.Attribute y "ESCAPE_REPLACEMENTS" (JC 1 e).pos] e.pos
noncomputable def uN(o:O2)(x y e:Expr):Bool:=match o with
 | .cmp o=>!behindInMarks (iU o) y | .Oc=>!behindInMarks .In y | .Ly=>bJ y | .RF=>!behindInMarks .Eq y | .starts=>bJ x&&line (JC 0 e) e | .LN=>bJ x&&line (JC 0 e) e | _=>true
noncomputable def kM:E->Bool
 | .n0 (.cst .nul)=>true | _=>false
noncomputable def vv(o:BoolOp):E->Bool
 | .and _ _=>o==.And | .or _ _=>o==.Or | _=>false
noncomputable def tlE(o:BoolOp)(e:Expr):Expr:=.BoolOp o (Mn e) e.pos
noncomputable def jz(e:Expr):Bool:=match eX e with | [_,_]=>true | _=>false
noncomputable def Q5(o:BoolOp)(x y e:Expr):Expr:=.BoolOp o (x::bif jz e then [y] else eX y) e.pos
noncomputable def NO(o:BoolOp)(e:Expr):Expr:=bif jz e then JC 1 e else tlE o e
noncomputable def Oz(sc:Scope):Scope:={ sc with names:=sc.names.map λy=>if y.2==.free then(y.1,.cell) else y}
noncomputable def EY(x:Zs):Bool:=!(x==("__debug__" : Zs))
noncomputable def EQ(Kz sc:Scope)(ts cs:List Zs):Bool:=sc.names.all (λy=>!(y.2==.cell)&&((!(y.2==.free)||Kz.names.lookup y.1==some .cell&&cs.contains y.1)&&(!(y.2==.local)||sc.names.lookup y.1==some .local)))&&(sc.kind==.function&&(decide (ts++cs).Nodup&&(ts.all (λx=>(Oz sc).names.lookup x==some .local&&EY x)&&cs.all λx=>(Oz sc).names.lookup x==some .cell&&EY x)))
noncomputable def tgN(en:Bool)(e:Expr):List Zs:=bif en then [nid (JC 0 (JC 1 e)),nid (JC 1 (JC 1 e))] else [nid (JC 1 e)]
noncomputable def tgE(en:Bool)(e:Expr):Expr:=bif en then .Tuple [nE (nid (JC 0 (JC 1 e))) (JC 0 (JC 1 e)),nE (nid (JC 1 (JC 1 e))) (JC 1 (JC 1 e))] (knd (JC 1 e)) (JC 1 e).pos else nE (nid (JC 1 e)) (JC 1 e)
noncomputable def sbC(en:Bool)(e:Expr):Expr:=bif en then JC 1 (JC 2 e) else JC 2 e
noncomputable def srE(en:Bool)(x e:Expr):Expr:=bif en then gE "enumerate" [x] [] (JC 2 e) else x
noncomputable def fZ(sl:List Zs)(cs:List Nat):List Zs:=cs.map λk=>sl.getD k ""
noncomputable def gw(as:List Expr)(ks:List Keyword):Expr:=.Call dE as ks dP
noncomputable def kwX(k:Option Zs)(x:Expr)(h:Expr):Keyword:=⟨k,x,((Lu h).headD ⟨none,dE,dP⟩).pos⟩
noncomputable def hdE(h:Expr):Expr:=(Mn h).headD dE
noncomputable def tlH(h:Expr):Expr:=gw (Mn h).tail (Lu h)
noncomputable def hdK(h:Expr):Expr:=((Lu h).headD ⟨none,dE,dP⟩).value
noncomputable def tlK(h:Expr):Expr:=gw (Mn h) (Lu h).tail
noncomputable def JK(Y:Lay):E->List Zs->List Zs->Expr->Expr
 | .n0 o,sl,_,e=>op0 sl o e
 | .u1 o a,sl,_,e=>op1 Y o (JK Y a sl [] (xM o e)) e
 | .b2 o a b,sl,_,e=>op2 o (JK Y a sl [] (pv o e)) (JK Y b sl [] (pr o e)) e
 | .slice a x y,sl,_,e=>.Subscript (JK Y a sl [] (JC 0 e)) (.Slice (bif kM x then none else some (JK Y x sl [] (JC 0 (JC 1 e)))) (bif kM y then none else some (JK Y y sl [] (JC 1 (JC 1 e)))) none (JC 1 e).pos) e.pos
 | .and a b,sl,_,e=>Q5 .And (JK Y a sl [] (JC 0 e)) (JK Y b sl [] (NO .And e)) e
 | .or a b,sl,_,e=>Q5 .Or (JK Y a sl [] (JC 0 e)) (JK Y b sl [] (NO .Or e)) e
 | .Ju t a b,sl,_,e=>.IfExp (JK Y t sl [] (JC 0 e)) (JK Y a sl [] (JC 1 e)) (JK Y b sl [] (JC 2 e)) e.pos
 | .Ku o p a b d,sl,_,e=>.Compare (JK Y a sl [] (JC 0 e)) [iU o,iU p] [JK Y b sl [] (JC 1 e),JK Y d sl [] (JC 2 e)] e.pos
 | .new c as,sl,_,e=>gE (Y.cn c) (Mn (JK Y as sl (Y.cp c) e)) (Lu (JK Y as sl (Y.cp c) e)) e
 | .call k a as,sl,_,e=>mE (JK Y a sl [] (JC 0 (JC 0 e))) (Y.nm k) (Mn (JK Y as sl (Y.pn k) e)) (Lu (JK Y as sl (Y.pn k) e)) e
 | .Lh k a,sl,_,e=>mE (JK Y a sl [] (JC 0 (JC 0 e))) (Y.nm k) [] [] e
 | .JG k as,sl,_,e=>gE (Y.gn k) (Mn (JK Y as sl (Y.pn k) e)) (Lu (JK Y as sl (Y.pn k) e)) e
 | .K4 k a as,sl,_,e=>mE (JK Y a sl [] (JC 0 (JC 0 e))) (Y.nm k) (Mn (JK Y as sl (Y.pn k) e)) (Lu (JK Y as sl (Y.pn k) e)) e
 | .LL _ q as,sl,_,e=>gE "Emitter" [gE "Rows" [] [] (JC 1 e)] (Lu (JK Y as sl (Y.pn q) (gw [] (Lu e)))) e
 | .lst as,sl,_,e=>.List (Mn (JK Y as sl [] (gw (eX e) []))) e.pos
 | .tup as,sl,_,e=>.Tuple (Mn (JK Y as sl [] (gw (eX e) []))) (knd e) e.pos
 | .comp en cs s b,sl,_,e=>.ListComp (JK Y b (tgN en e++fZ sl cs) [] (JC 0 e)) [⟨tgE en e,srE en (JK Y s sl [] (sbC en e)) e,[],0⟩] (OQ e) e.pos
 | .Qf a k,sl,_,e=>.Subscript (.Attribute (JK Y a sl [] (JC 0 (JC 0 e))) "ESCAPE_REPLACEMENTS" (JC 0 e).pos) (nE (sl.getD k "") (JC 1 e)) e.pos
 | .nil,_,_,_=>gw [] []
 | .pos a r,sl,ps,h=>gw (JK Y a sl [] (hdE h)::Mn (JK Y r sl ps (tlH h))) (Lu (JK Y r sl ps (tlH h)))
 | .kw k a r,sl,ps,h=>gw [] (kwX ps[k]? (JK Y a sl [] (hdK h)) h::Lu (JK Y r sl ps (tlK h)))
noncomputable def J9(Y:Lay)(sc:Scope):E->List Zs->List Zs->Expr->Bool
 | .n0 o,_,_,e=>ok0 o e
 | .u1 o a,sl,_,e=>J9 Y sc a sl [] (xM o e)&&ER Y sc o (JK Y a sl [] (xM o e)) e
 | .b2 o a b,sl,_,e=>J9 Y sc a sl [] (pv o e)&&(J9 Y sc b sl [] (pr o e)&&uN o (JK Y a sl [] (pv o e)) (JK Y b sl [] (pr o e)) e)
 | .slice a x y,sl,_,e=>J9 Y sc a sl [] (JC 0 e)&&(J9 Y sc x sl [] (JC 0 (JC 1 e))&&J9 Y sc y sl [] (JC 1 (JC 1 e)))
 | .and a b,sl,_,e=>J9 Y sc a sl [] (JC 0 e)&&(J9 Y sc b sl [] (NO .And e)&&(jz e||vv .And b))
 | .or a b,sl,_,e=>J9 Y sc a sl [] (JC 0 e)&&(J9 Y sc b sl [] (NO .Or e)&&(jz e||vv .Or b))
 | .Ju t a b,sl,_,e=>J9 Y sc t sl [] (JC 0 e)&&(J9 Y sc a sl [] (JC 1 e)&&J9 Y sc b sl [] (JC 2 e))
 | .Ku o p a b d,sl,_,e=>J9 Y sc a sl [] (JC 0 e)&&(J9 Y sc b sl [] (JC 1 e)&&(J9 Y sc d sl [] (JC 2 e)&&!lastMarks [iU o,iU p] [JK Y b sl [] (JC 1 e),JK Y d sl [] (JC 2 e)]))
 | .new c as,sl,_,e=>J9 Y sc as sl (Y.cp c) e&&fb sc (Y.cn c)
 | .call k a as,sl,_,e=>J9 Y sc a sl [] (JC 0 (JC 0 e))&&(J9 Y sc as sl (Y.pn k) e&&(bJ (JK Y a sl [] (JC 0 (JC 0 e)))&&(line (JC 0 e) e&&decide (k < dd/\(Mn (JK Y as sl (Y.pn k) e)).length+(Lu (JK Y as sl (Y.pn k) e)).length < 20))))
 | .Lh k a,sl,_,e=>J9 Y sc a sl [] (JC 0 (JC 0 e))&&(bJ (JK Y a sl [] (JC 0 (JC 0 e)))&&(line (JC 0 e) e&&decide (64<=k/\k < 126)))
 | .JG k as,sl,_,e=>J9 Y sc as sl (Y.pn k) e&&fb sc (Y.gn k)
 | .K4 k a as,sl,_,e=>J9 Y sc a sl [] (JC 0 (JC 0 e))&&(J9 Y sc as sl (Y.pn k) e&&(bJ (JK Y a sl [] (JC 0 (JC 0 e)))&&(line (JC 0 e) e&&decide (k < dd/\(Mn (JK Y as sl (Y.pn k) e)).length+(Lu (JK Y as sl (Y.pn k) e)).length < 20))))
 | .LL k q as,sl,_,e=>J9 Y sc as sl (Y.pn q) (gw [] (Lu e))&&(fb sc "Emitter" && (fb sc "Rows" && decide (k=dd/\q=dd+1)))
 | .lst as,sl,_,e=>J9 Y sc as sl [] (gw (eX e) [])
 | .tup as,sl,_,e=>J9 Y sc as sl [] (gw (eX e) [])
 | .comp en cs s b,sl,_,e=>J9 Y sc s sl [] (sbC en e)&&(J9 Y (Oz (OQ e)) b (tgN en e++fZ sl cs) [] (JC 0 e)&&(EQ sc (OQ e) (tgN en e) (fZ sl cs)&&(!en||fb sc "enumerate")&&cs.all λk=>decide (k < sl.length)))
 | .Qf a _,sl,_,e=>J9 Y sc a sl [] (JC 0 (JC 0 e))&&bJ (JK Y a sl [] (JC 0 (JC 0 e)))
 | .nil,_,_,_=>true
 | .pos a r,sl,ps,h=>J9 Y sc a sl [] (hdE h)&&J9 Y sc r sl ps (tlH h)
 | .kw k a r,sl,ps,h=>J9 Y sc a sl [] (hdK h)&&(J9 Y sc r sl ps (tlK h)&&decide (k < ps.length))
noncomputable def dS:Stmt:=.Pass dP
noncomputable def oV:NL->Bool
 | .add=>true | .sub=>true | _=>false
noncomputable def us(s:Stmt):List Expr:=(Qu s).ks
noncomputable def av(n:Nat)(s:Stmt):Expr:=(us s).getD n dE
noncomputable def cJ(s:Stmt):List Stmt:=(Qu s).a
noncomputable def Gq(s:Stmt):List Stmt:=(Qu s).b
noncomputable def bR(b:List Stmt):Stmt:=.While dE b [] dP
noncomputable def BN(nm:Zs)(k e:Expr):Bool:=k.pos.line==e.pos.line&&!((OQ e).names.any λy=>y.1==nm&&(y.2==.local||y.2==.cell))
noncomputable def OW(sc:Scope)(sl:List Zs)(k:Nat):Bool:=decide (k < sl.length)&&sc.names.lookup (sl.getD k "")==some .local
noncomputable def rgA(fr:Bool)(x e:Expr):List Expr:=bif fr then [cE (.int 1) (JC 1 e),x] else [x]
noncomputable def rgK(fr:Bool)(e:Expr):Expr:=bif fr then JC 2 e else JC 1 e
noncomputable def toS(Y:Lay)(sl:List Zs):S->Stmt->Stmt
 | .nil,_=>bR []
 | .cons s r,h=>bR (toS Y sl s ((cJ h).headD dS)::cJ (toS Y sl r (bR (cJ h).tail)))
 | .stuck,s=>s
 | .pass,s=>.Pass s.pos
 | .expr e,s=>.Expr (JK Y e sl [] (av 0 s)) s.pos
 | .asg ns e,s=>.Assign ((ns.zip (us s).tail).map λp=>nE (sl.getD p.1 "") p.2) (JK Y e sl [] (av 0 s)) s.pos
 | .Mu k e,s=>.Assign [nE (sl.getD k "") (av 1 s)] (JK Y e sl [] (av 0 s)) s.pos
 | .Nf k cs a b,s=>.Assign [nE (sl.getD k "") (av 1 s)] (JK Y (.comp false cs a b) sl [] (av 0 s)) s.pos
 | .Pq ns e,s=>.Assign [.Tuple ((ns.zip (eX (av 1 s))).map λp=>nE (sl.getD p.1 "") p.2) (knd (av 1 s)) (av 1 s).pos] (JK Y e sl [] (av 0 s)) s.pos
 | .JD n o e,s=>.Assign [.Attribute (JK Y o sl [] (JC 0 (av 1 s))) (Y.nm n) (av 1 s).pos] (JK Y e sl [] (av 0 s)) s.pos
 | .K5 n o e,s=>.AugAssign (nE (sl.getD n "") (av 1 s)) (wN o) (JK Y e sl [] (av 0 s)) s.pos
 | .KU n p o e,s=>.AugAssign (.Attribute (JK Y o sl [] (JC 0 (av 1 s))) (Y.nm n) (av 1 s).pos) (wN p) (JK Y e sl [] (av 0 s)) s.pos
 | .ext o e,s=>.Expr (mE (JK Y o sl [] (JC 0 (JC 0 (av 0 s)))) "extend" [JK Y e sl [] (JC 1 (av 0 s))] [] (av 0 s)) s.pos
 | .app o e,s=>.Expr (mE (JK Y o sl [] (JC 0 (JC 0 (av 0 s)))) "append" [JK Y e sl [] (JC 1 (av 0 s))] [] (av 0 s)) s.pos
 | .Ju t a b,s=>.If (JK Y t sl [] (av 0 s)) (cJ (toS Y sl a (bR (cJ s)))) (cJ (toS Y sl b (bR (Gq s)))) s.pos
 | .while t b,s=>.While (JK Y t sl [] (av 0 s)) (cJ (toS Y sl b (bR (cJ s)))) [] s.pos
 | .for n e b,s=>.For (nE (sl.getD n "") (av 0 s)) (JK Y e sl [] (av 1 s)) (cJ (toS Y sl b (bR (cJ s)))) [] s.pos
 | .forR n fr e b,s=>.For (nE (sl.getD n "") (av 0 s)) (gE "range" (rgA fr (JK Y e sl [] (rgK fr (av 1 s))) (av 1 s)) [] (av 1 s)) (cJ (toS Y sl b (bR (cJ s)))) [] s.pos
 | .ret e,s=>.Return (some (JK Y e sl [] (av 0 s))) s.pos
 | .MJ,s=>.Return none s.pos
noncomputable def toB(Y:Lay)(sl:List Zs)(i:S)(b:List Stmt):List Stmt:=cJ (toS Y sl i (bR b))
noncomputable def cR:S->Bool
 | .nil=>false | .cons _ _=>false | _=>true
noncomputable def OO:S->Bool
 | .cons s r=>cR s&&(OO s&&(!cR r&&OO r)) | .Ju _ a b=>!cR a&&(OO a&&(!cR b&&OO b)) | .while _ b=>!cR b&&OO b | .for _ _ b=>!cR b&&OO b | .forR _ _ _ b=>!cR b&&OO b
 | _=>true
noncomputable def gT(Y:Lay)(sl:List Zs)(sc:Scope):S->Stmt->Bool
 | .nil,_=>true
 | .cons s r,h=>gT Y sl sc s ((cJ h).headD dS)&&gT Y sl sc r (bR (cJ h).tail)
 | .stuck,_=>true
 | .pass,_=>true
 | .expr e,s=>J9 Y sc e sl [] (av 0 s)&&noC (JK Y e sl [] (av 0 s))
 | .asg ns e,s=>J9 Y sc e sl [] (av 0 s)&&(noC (JK Y e sl [] (av 0 s))&&decide (ns≠[]/\ns.length=(us s).tail.length)&&ns.all (OW sc sl))
 | .Mu k e,s=>J9 Y sc e sl [] (av 0 s)&&(noC (JK Y e sl [] (av 0 s))&&decide (k < sl.length))
 | .Nf k cs a b,s=>J9 Y sc (.comp false cs a b) sl [] (av 0 s)&&(OW sc sl k&&BN (sl.getD k "") (av 1 s) (av 0 s))
 | .Pq ns e,s=>J9 Y sc e sl [] (av 0 s)&&(AW (JK Y e sl [] (av 0 s))&&decide (ns.length=(eX (av 1 s)).length/\ns.Nodup)&&ns.all λk=>decide (k < sl.length))
 | .JD _ o e,s=>J9 Y sc o sl [] (JC 0 (av 1 s))&&(J9 Y sc e sl [] (av 0 s)&&noC (JK Y e sl [] (av 0 s)))
 | .K5 k o e,s=>J9 Y sc e sl [] (av 0 s)&&(oV o&&OW sc sl k)
 | .KU n p o e,s=>J9 Y sc o sl [] (JC 0 (av 1 s))&&(J9 Y sc e sl [] (av 0 s)&&(oV p&&decide (64<=n/\n < 126)))
 | .ext o e,s=>J9 Y sc o sl [] (JC 0 (JC 0 (av 0 s)))&&(J9 Y sc e sl [] (JC 1 (av 0 s))&&(bJ (JK Y o sl [] (JC 0 (JC 0 (av 0 s))))&&line (JC 0 (av 0 s)) (av 0 s)))
 | .app o e,s=>J9 Y sc o sl [] (JC 0 (JC 0 (av 0 s)))&&(J9 Y sc e sl [] (JC 1 (av 0 s))&&(bJ (JK Y o sl [] (JC 0 (JC 0 (av 0 s))))&&line (JC 0 (av 0 s)) (av 0 s)))
 | .Ju t a b,s=>J9 Y sc t sl [] (av 0 s)&&(gT Y sl sc a (bR (cJ s))&&gT Y sl sc b (bR (Gq s)))
 | .while t b,s=>J9 Y sc t sl [] (av 0 s)&&gT Y sl sc b (bR (cJ s))
 | .for k e b,s=>J9 Y sc e sl [] (av 1 s)&&(OW sc sl k&&gT Y sl sc b (bR (cJ s)))
 | .forR k fr e b,s=>J9 Y sc e sl [] (rgK fr (av 1 s))&&(OW sc sl k&&(fb sc "range" && gT Y sl sc b (bR (cJ s))))
 | .ret e,s=>J9 Y sc e sl [] (av 0 s)
 | .MJ,_=>true
noncomputable def okB(Y:Lay)(sl:List Zs)(sc:Scope)(i:S)(b:List Stmt):Bool:=gT Y sl sc i (bR b)
theorem dH(t:Tx):(J1 t).length=t.length:=rfl
theorem j4(t:Tx):(J1 t).cps.toList=t:=rfl
theorem j3{a b:Tx}(h:J1 a=J1 b):a=b:=kg (λs:Zs=>s.cps.toList) h
theorem nZ(x:Zs):J1 x.cps.toList=x:=rfl
theorem yc(a b:Tx):(J1 a==J1 b)=(a==b):=Bool.eq_iff_iff.mpr ⟨λh=>beq_iff_eq.mpr (j3 (ld h)),λh=>beq_iff_eq.mpr (kg J1 (ld h))⟩
theorem Jx{α β:Type}{G:Prop}{o:Option α}{f:α->Option β}{b:β}(h:o.bind f=some b)(k:∀a,o=some a->f a=some b->G):G:=let ⟨a,x,y⟩:=Option.bind_eq_some_iff.mp h;k a x y
theorem Kc{α β:Type}{G:Prop}{o:Option α}{f:α->β}{b:β}(h:o.map f=some b)(k:∀a,o=some a->f a=b->G):G:=let ⟨a,x,y⟩:=Option.map_eq_some_iff.mp h;k a x y
theorem Ml{α:Type}{G:Prop}{o p:Option α}{a:α}(h:o.or p=some a)(k:o=some a->G)(k':p=some a->G):G:=(Option.or_eq_some_iff.mp h).elim k λh=>k' h.2
theorem KN{α:Type}{G:Prop}{b:Bool}{x y:α}(h:af b x=some y)(k:b=true->x=y->G):G:=Bool.rec (motive:=λb=>af b x=some y->(b=true->x=y->G)->G) (λh J=>nS h) (λh k=>k U (kc h)) b h k
theorem yEl{α:Type}{G:Prop}{o:Option α}{p:α->Bool}(h:o.any p=true)(k:∀a,o=some a->p a=true->G):G:=Option.rec (motive:=λo=>o.any p=true->(∀a,o=some a->p a=true->G)->G) (λh J=>nomatch h) (λa h k=>k a U h) o h k
theorem aEl{a b:Bool}{G:Prop}(h:(a&&b)=true)(k:a=true->b=true->G):G:=k (ly h).1 (ly h).2
theorem dEl{p:Prop}{_:Decidable p}(h:decide p=true):p:=kj h
inductive Jp{α β:Type}(R:α->β->Prop):List α->List β->Prop
 | nil:Jp R [] []
 | cons {a b l k}:R a b->Jp R l k->Jp R (a::l) (b::k)
section
variable{α β:Type}{R R':α->β->Prop}{l l':List α}{k k':List β}
theorem Jp.mono(h:∀a b,R a b->R' a b)(x:Jp R l k):Jp R' l k:=by
 induction x with
 | nil=>exact .nil
 | cons r _ ih=>exact .cons (h _ _ r) ih
theorem Jp.length(x:Jp R l k):l.length=k.length:=by
 induction x with
 | nil=>rfl
 | cons _ _ ih=>exact kg (·+1) ih
theorem Jp.app(x:Jp R l k)(y:Jp R l' k'):Jp R (l++l') (k++k'):=by
 induction x with
 | nil=>exact y
 | cons r _ ih=>exact .cons r ih
theorem Jp.snoc{a b}(h:Jp R l k)(x:R a b):Jp R (l++[a]) (k++[b]):=h.app (.cons x .nil)
theorem Jp.rev(x:Jp R l k):Jp R l.reverse k.reverse:=by
 induction x with
 | nil=>exact .nil
 | cons r _ ih=>(refine(Th)▸?_;refine(Th).symm▸?_);exact ih.snoc r
theorem Jp.drop(x:Jp R l k):∀n,Jp R (l.drop n) (k.drop n):=by
 induction x with
 | nil=>intro n;(refine(List.drop_nil).symm▸?_;refine(List.drop_nil).symm▸?_);exact .nil
 | cons r x ih=>intro n;cases n with | zero=>exact .cons r x | succ n=>exact ih n
theorem Jp.take(x:Jp R l k):∀n,Jp R (l.take n) (k.take n):=by
 induction x with
 | nil=>intro n;(refine(List.take_nil).symm▸?_;refine(List.take_nil).symm▸?_);exact .nil
 | cons r x ih=>intro n;cases n with | zero=>exact .nil | succ n=>exact .cons r (ih n)
theorem Jp.set{a b}(x:Jp R l k)(r:R a b):∀i:Nat,Jp R (l.set i a) (k.set i b):=by
 induction x with
 | nil=>exact λJ=>.nil
 | cons r' x ih=>intro i;cases i with | zero=>exact .cons r x | succ i=>exact .cons r' (ih i)
theorem Jp.flip(x:Jp R l k):Jp (λb a=>R a b) k l:=by
 induction x with
 | nil=>exact .nil
 | cons r _ ih=>exact .cons r ih
theorem Jp.get{a}(x:Jp R l k){i:Nat}(h:l[i]?=some a):∃b,k[i]?=some b/\R a b:=by
 induction x generalizing i with
 | nil=>exact nS h
 | cons r x ih=>
  cases i with
  | zero=>obtain rfl:=kc h;exact⟨_,rfl,r⟩
  | succ i=>exact ih h
theorem Jp.mapL{γ:Type}{f:γ->α}{l:List γ}(x:Jp (λa b=>R (f a) b) l k):Jp R (l.map f) k:=by
 induction x with
 | nil=>exact .nil
 | cons r _ ih=>exact .cons r ih
theorem Jp.last{a}(x:Jp R l k)(h:l.getLast?=some a):∃b,k=k.dropLast++[b]/\R a b/\Jp R l.dropLast k.dropLast:=by
 have y:=x.rev
 rw[<- List.head?_reverse]at h
 (refine(List.reverse_reverse k)▸?_;refine(List.dropLast_reverse)▸?_;refine(List.reverse_reverse l)▸?_;refine(List.dropLast_reverse).symm▸?_)
 revert h
 generalize l.reverse=u at y
 generalize k.reverse=v at y
 cases y with
 | nil=>exact nS
 | cons r y=>intro h;obtain rfl:=kc h;exact⟨_,Th,r,y.rev⟩
theorem Jp.empty(h:Jp R l k):k.isEmpty=l.isEmpty:=by cases h <;> rfl
end
noncomputable abbrev BH(xs:List Value)(n:Nat):Obj:={ cls:=.type "tuple",data:=.seq xs.toArray n}
noncomputable abbrev aS(xs:List Value)(n:Nat):Obj:=listOf xs.toArray n
noncomputable abbrev Led:=List (Addr×Obj)
structure AM where
 cur:List Addr
 JR:List (List Addr)
abbrev AM.le(a b:AM):Prop:=
 (∀(i:Nat) x,a.cur[i]?=some x->b.cur[i]?=some x)/\
 (∀(j:Nat) l,a.JR[j]?=some l->∃l',b.JR[j]?=some l'/\∀(i:Nat) x,l[i]?=some x->l'[i]?=some x)
section
variable{a b:AM}(zz:AM.le a b)
def AM.le.cur:=zz.1
def AM.le.JR:=zz.2
end
theorem AM.le.rfl{a:AM}:a.le a:=⟨λJ J h=>h,λJ l h=>⟨l,h,λJ J h=>h⟩⟩
theorem AM.le.trans{a b c:AM}(h:a.le b)(k:b.le c):a.le c:=
 ⟨λi x e=>k.cur i x (h.cur i x e),λj l e=>(h.JR j l e).elim λl' p=>(k.JR j l' p.1).elim λl'' q=>⟨l'',q.1,λi x e=>q.2 i x (p.2 i x e)⟩⟩
inductive Ke(s:Tx):Value->Prop
 | mk (t:Tok):s.length<=JL->Ke s (.str (J1 s) t)
inductive dL(i:Int):Value->Prop
 | mk (t:Tok):dL i (.int i t)
inductive KW(φ:Led)(P:List Value->Prop):Value->Prop
 | mk {q xs n}:(q,BH xs n)∈φ->P xs->KW φ P (.ref q)
inductive K9(p:Value->Prop)(r:List Value->Prop):List Value->Prop
 | mk {y ys}:p y->r ys->K9 p r (y::ys)
structure EnR(P:Params)(p:Tx×Tx)(e:DictEntry):Prop where
 k:Ke p.1 e.key
 h:e.hash=PyData.keyHash P (J1 p.1)
 v:Ke p.2 e.val
abbrev dB(P:Params)(l:List (Tx×Tx))(es:List DictEntry):Prop:=Jp (EnR P) l es
structure DR(P:Params)(l:List (Tx×Tx))(es:List DictEntry):Prop where
 r:dB P l es
 le:l.length<=60
 nd:(l.map (·.1)).Nodup
def Mh(P:Params)(φ:Led):B->Value->Prop
 | .nul=>λx=>x=.none
 | .bool b=>λx=>x=.bool b
 | .int i=>dL i
 | .str s=>Ke s
 | .bb a b=>KW φ (·=[.bool a,.bool b])
inductive Qn(Y:Lay)(φ:Led)(c:Nat)(f:List (Nat×B)):Value->Prop
 | mk {q d es n}:c < 15->(q,instObj (Y.J7 c) d)∈φ->(d,dictOf es n)∈φ->(∀a v,f.lookup a=some v->a < 128/\∃y,getL (Y.nm a) es=some (some y)/\Mh Y.P φ v y)->Qn Y φ c f (.ref q)
inductive Dp(Y:Lay)(φ:Led)(am:AM)(k i:Nat):Value->Prop
 | mk {q a}:k < 57->am.cur[i]?=some a->(q,methodObj (.ref (Y.fn k)) (.ref a))∈φ->Dp Y φ am k i (.ref q)
inductive lF(am:AM)(i:Nat):Value->Prop
 | mk {a}:am.cur[i]?=some a->lF am i (.ref a)
inductive EmX(am:AM)(j i:Nat):Value->Prop
 | mk {l a}:am.JR[j]?=some l->l[i]?=some a->EmX am j i (.ref a)
inductive PJ(Y:Lay)(φ:Led)(a:V)(p:Value->Prop)(r:List Value->Prop):Value->Prop
 | tup {x}:KW φ (K9 p r) x->PJ Y φ a p r x
 | scr {xs}:a=.uu->(Y.so.cls=.type "list" /\ ∃n,Y.so.data=.seq xs.toArray n)->r xs->xs.length<=JL->PJ Y φ a p r (.ref Y.sa)
theorem PJ.t{Y:Lay}{φ:Led}{a:V}{p:Value->Prop}{r:List Value->Prop}{x:Value}(h:PJ Y φ a p r x)(n:ae a=false):KW φ (K9 p r) x:=by
 cases h with
 | tup h=>exact h
 | scr e=>subst e;cases n
noncomputable def VRT(Y:Lay)(φ:Led)(am:AM)(v:V):(Value->Prop)×(List Value->Prop):=
 V.rec (motive:=λJ=>(Value->Prop)×(List Value->Prop)) (λJ=>False,λJ=>False) (λy=>(Mh Y.P φ y,λJ=>False)) (λc f=>(Qn Y φ c f,λJ=>False))
  (λk i=>(Dp Y φ am k i,λJ=>False)) (λi=>(lF am i,λJ=>False)) (λj i=>(EmX am j i,λJ=>False))
  (KW φ (·=[]),(·=[])) (λa J p r=>(PJ Y φ a p.1 r.2,K9 p.1 r.2)) v
abbrev VR(Y:Lay)(φ:Led)(am:AM)(v:V)(x:Value):Prop:=(VRT Y φ am v).1 x
abbrev Mg(Y:Lay)(φ:Led)(am:AM)(v:V)(xs:List Value):Prop:=(VRT Y φ am v).2 xs
section
variable{Y:Lay}{φ La:Led}{am MQ:AM}
theorem KW.mono{P P':List Value->Prop}(h:∀p∈φ,p∈La)(k:∀xs,P xs->P' xs){x:Value}(r:KW φ P x):KW La P' x:=by cases r with | mk m c=>exact .mk (h _ m) (k _ c)
theorem Mh.mono{P:Params}(h:∀p∈φ,p∈La){v:B}{x:Value}:Mh P φ v x->Mh P La v x:=by
 cases v with
 | bb=>exact KW.mono h λJ=>id
 | _=>exact id
theorem Qn.mono(h:∀p∈φ,p∈La){c f x}(r:Qn Y φ c f x):Qn Y La c f x:=by
 cases r with | mk lt m m' g=>exact .mk lt (h _ m) (h _ m') λa v hv=>⟨(g a v hv).1,(g a v hv).2.imp λy r=>⟨r.1,r.2.mono h⟩⟩
theorem VRT.mono(h:∀p∈φ,p∈La)(v:V)(k:OB v=true∨am.le MQ):(∀x,VR Y φ am v x->VR Y La MQ v x)/\∀xs,Mg Y φ am v xs->Mg Y La MQ v xs:=by
 induction v with
 | uu=>exact⟨λJ=>id,λJ=>id⟩
 | b y=>exact⟨λJ=>Mh.mono (P:=Y.P) h,λJ=>id⟩
 | rc c f=>exact⟨λJ=>Qn.mono h,λJ=>id⟩
 | JA c i=>exact⟨λx r=>k.elim (λz=>nomatch z) λk=>by cases r with | mk l e m=>exact .mk l (k.cur _ _ e) (h _ m),λJ=>id⟩
 | ref i=>exact⟨λx r=>k.elim (λz=>nomatch z) λk=>by cases r with | mk e=>exact .mk (k.cur _ _ e),λJ=>id⟩
 | em j i=>exact⟨λx r=>k.elim (λz=>nomatch z) λk=>by cases r with | mk e e'=>exact(k.JR j _ e).elim λl' p=>.mk p.1 (p.2 _ _ e'),λJ=>id⟩
 | Ma=>exact⟨λx=>KW.mono h λJ=>id,λJ=>id⟩
 | Kh a r iha ihr=>
  have ha:=iha (k.imp (λe=>(ly e).1) id)
  have hr:=ihr (k.imp (λe=>(ly e).2) id)
  have hc:∀xs,K9 (VR Y φ am a) (Mg Y φ am r) xs->K9 (VR Y La MQ a) (Mg Y La MQ r) xs:=λxs r=>by cases r with | mk c d=>exact .mk (ha.1 _ c) (hr.2 _ d)
  exact⟨λx z=>by cases z with | tup z=>exact .tup (z.mono h hc) | scr e e' z l=>exact .scr e e' (hr.2 _ z) l,hc⟩
theorem K9.el{p:Value->Prop}{r:List Value->Prop}{G:List Value->Prop}{xs:List Value}(h:K9 p r xs)(k:∀y ys,p y->r ys->G (y::ys)):G xs:=by cases h with | mk a b=>exact k _ _ a b
theorem Mg.el{a r:V}{G:List Value->Prop}{xs:List Value}(h:Mg Y φ am (.Kh a r) xs)(k:∀y ys,VR Y φ am a y->Mg Y φ am r ys->G (y::ys)):G xs:=K9.el (p:=VR Y φ am a) (r:=Mg Y φ am r) h k
theorem Mg.mk{a b:V}{x:Value}{xs:List Value}(r:VR Y φ am a x)(q:Mg Y φ am b xs):Mg Y φ am (.Kh a b) (x::xs):=K9.mk (p:=VR Y φ am a) (r:=Mg Y φ am b) r q
theorem VR.scrE{r:V}{x:Value}{G:Value->Prop}(h:VR Y φ am (.Kh .uu r) x)(k:∀xs,(Y.so.cls=.type "list" /\ ∃n,Y.so.data=.seq xs.toArray n)->Mg Y φ am r xs->xs.length<=JL->G (.ref Y.sa)):G x:=by
 have h':PJ Y φ .uu (λJ=>False) (Mg Y φ am r) x:=h
 cases h' with
 | tup h=>cases h with | mk m c=>cases c with | mk c=>exact c.elim
 | scr _ o c l=>exact k _ o c l
theorem VR.mono(h:∀p∈φ,p∈La)(k:am.le MQ){v:V}{x:Value}(r:VR Y φ am v x):VR Y La MQ v x:=(VRT.mono h v (.inr k)).1 x r
theorem VR.free{v:V}{x:Value}(hv:OB v=true)(r:VR Y φ am v x):VR Y φ MQ v x:=(VRT.mono (λJ h=>h) v (.inl hv)).1 x r
noncomputable def adr(c:Led):Addr:=(c.head?.map (·.1)).getD 0
def FR(Y:Lay)(φ:Led)(am:AM)(f:List (Nat×V))(es:List DictEntry):Prop:=
 ∀n,n < 128->(∀v,f.lookup n=some v->∃y,getL (Y.nm n) es=some (some y)/\VR Y φ am v y)/\(f.lookup n=none->getL (Y.nm n) es=some none)
inductive OR(Y:Lay)(φ:Led)(am:AM):Ob->Led->Prop
 | lst {l a xs n}:Jp (VR Y φ am) l xs->l.length<=JL->OR Y φ am (.lst l) [(a,aS xs n)]
 | Md {l a es n}:DR Y.P l es->OR Y φ am (.Md l) [(a,dictOf es n)]
 | ins {k f a d es n}:k < 2->FR Y φ am f es->es.length<=f.length->f.length<=100->OR Y φ am (.ins k f) [(a,instObj (Y.JW k) d),(d,dictOf es n)]
theorem FR.mono{f:List (Nat×V)}{es:List DictEntry}(h:∀p∈φ,p∈La)(k:am.le MQ)(r:FR Y φ am f es):FR Y La MQ f es:=
 λn hn=>⟨λv hv=>((r n hn).1 v hv).imp λJ z=>⟨z.1,z.2.mono h k⟩,(r n hn).2⟩
theorem OR.mono{o:Ob}{c:Led}(h:∀p∈φ,p∈La)(k:am.le MQ)(r:OR Y φ am o c):OR Y La MQ o c:=by
 cases r with
 | lst r z=>exact .lst (r.mono λJ J q=>q.mono h k) z
 | Md d=>exact .Md d
 | ins a b c d=>exact .ins a (b.mono h k) c d
theorem OR.lstE{G:Prop}{l:List V}{c:Led}(r:OR Y φ am (.lst l) c)(k:∀a xs n,c=[(a,aS xs n)]->Jp (VR Y φ am) l xs->l.length<=JL->G):G:=by cases r with | lst r z=>exact k _ _ _ U r z
theorem OR.dctE{G:Prop}{l:List (Tx×Tx)}{c:Led}(r:OR Y φ am (.Md l) c)(k:∀a es n,c=[(a,dictOf es n)]->DR Y.P l es->G):G:=by cases r with | Md d=>exact k _ _ _ U d
theorem OR.LY{G:Prop}{i:Nat}{f:List (Nat×V)}{c:Led}(r:OR Y φ am (.ins i f) c)(k:∀a d es n,c=[(a,instObj (Y.JW i) d),(d,dictOf es n)]->i < 2->FR Y φ am f es->es.length<=f.length->f.length<=100->G):G:=by cases r with | ins a b c d=>exact k _ _ _ _ U a b c d
end
structure Ad where
 cur:List Led
 JR:List (List Led)
noncomputable def Ad.am(a:Ad):AM:=⟨a.cur.map adr,a.JR.map (·.map adr)⟩
noncomputable def Ad.led(a:Ad):Led:=a.cur.flatten++a.JR.flatten.flatten
section
variable{Y:Lay}{φ La:Led}{am MQ:AM}
def RR(Y:Lay)(φ:Led)(R:List Ob)(c:List Led):Prop:=Jp (OR Y φ ⟨c.map adr,[]⟩) R c
structure Rep(Y:Lay)(φ:Led)(st:St)(ad:Ad):Prop where
 cur:Jp (OR Y φ ad.am) st.cur ad.cur
 JR:Jp (RR Y φ) st.JR ad.JR
theorem RR.mono{R:List Ob}{c:List Led}(h:∀p∈φ,p∈La)(r:RR Y φ R c):RR Y La R c:=Jp.mono (λJ J q=>q.mono h .rfl) r
theorem Rep.mono{st:St}{ad:Ad}(h:∀p∈φ,p∈La)(r:Rep Y φ st ad):Rep Y La st ad:=⟨r.cur.mono λJ J q=>q.mono h .rfl,r.JR.mono λJ J q=>q.mono h⟩
end
abbrev Inv(hB:Heap)(L:Addr)(m:Zs->Option Value)(h:Heap)(ad:Ad)(φ:Led):Prop:=
 Fr hB L h m/\
 News hB L h (ad.led++φ)/\
 ((ad.led++φ).map (·.1)).Nodup/\
 (∀p∈ad.led++φ,hB.objs.size<=p.1)
section
variable{hB:Heap}{L:Addr}{m:Zs->Option Value}{h:Heap}{ad:Ad}{φ:Led}(zz:Inv hB L m h ad φ)
def Inv.fr:=zz.1
def Inv.nw:=zz.2.1
def Inv.nd:=zz.2.2.1
def Inv.lo:=zz.2.2.2
end
theorem cM(n:Zs)(e:DictEntry)(r:List DictEntry):getL n (e::r)=bif e.key.isStr n then some (some e.val) else bif e.refKey then(getL n r).bind (Option.rec none λv=>some (some v)) else getL n r:=by
 unfold getL
 (refine(List.find?_cons)▸?_;refine(List.any_cons)▸?_)
 cases e.key.isStr n with
 | true=>rfl
 | false=>
  cases r.find? _ with
  | some e'=>cases e.refKey <;> rfl
  | none=>cases e.refKey <;> cases r.any _ <;> rfl
theorem si{v:Value}{a b:Zs}(h1:v.isStr a=true)(h2:v.isStr b=true):a=b:=by
 cases v with
 | str s t=>exact(ld h1).symm.trans (ld h2)
 | _=>exact J4 h1
theorem jo(n:Zs)(hs:Int)(k v:Value)(e:DictEntry)(r:List DictEntry):putL n hs k v (e::r)=bif e.key.isStr n then⟨e.hash,e.key,v⟩::r else e::putL n hs k v r:=by
 show(if e.key.isStr n=true then _ else _)=_
 cases e.key.isStr n with | true=>rfl | false=>rfl
theorem eG(n o:Zs)(hs:Int)(t:Tok)(v:Value)(es:List DictEntry):getL o (putL n hs (.str n t) v es)=bif n==o then some (some v) else getL o es:=by
 induction es with
 | nil=>show getL o [⟨hs,.str n t,v⟩]=_;rw[cM];rfl
 | cons e r ih=>
  rw[jo]
  cases h:e.key.isStr n with
  | true=>
   rw[cond_true,cM,cM]
   show(bif e.key.isStr o then some (some v) else bif e.refKey then _ else _)=_
   cases ho:e.key.isStr o with
   | true=>(refine(si h ho).symm▸?_;rw[beq_self_eq_true]);rfl
   | false=>
    cases NU:n==o with
    | true=>rw[ld NU,ho]at h;exact J4 h
    | false=>rfl
  | false=>
   (rewrite[cond_false];rewrite[cM];rewrite[cM];refine(ih)▸?_)
   cases NU:n==o with
   | true=>(refine(ld NU)▸?_;refine(h)▸?_);cases e.refKey <;> rfl
   | false=>rfl
theorem ip(n:Zs)(hs:Int)(t:Tok)(v:Value)(es:List DictEntry):(putL n hs (.str n t) v es).length<=es.length+1/\(∀y,getL n es=some (some y)->(putL n hs (.str n t) v es).length=es.length):=by
 induction es with
 | nil=>exact⟨mf 1,λy h=>nomatch h⟩
 | cons e r ih=>
  rw[jo,cM]
  cases h:e.key.isStr n with
  | true=>exact⟨mw _,λJ J=>rfl⟩
  | false=>
   refine⟨mn ih.1,λy h=>kg (·+1) ?_⟩
   cases he:e.refKey with
   | false=>rw[he]at h;exact ih.2 y h
   | true=>
    rw[he]at h
    refine Jx h λa h1 h2=>?_
    cases a with
    | none=>exact nS h2
    | some z=>exact ih.2 z h1
section
variable{Y:Lay}{φ La:Led}{am MQ:AM}{v:V}{x:Value}{G:Prop}
theorem lE{x:B}:Mv v=some x->v=.b x:=V.casesOn (motive:=λv=>Mv v=some x->v=.b x) v nS (λJ h=>kg _ (kc h)) (λJ J=>nS) (λJ J=>nS) (λJ=>nS) (λJ J=>nS) nS (λJ J=>nS)
theorem sW{x:Nat}:jK v=some x->v=.ref x:=V.casesOn (motive:=λv=>jK v=some x->v=.ref x) v nS (λJ=>nS) (λJ J=>nS) (λJ J=>nS) (λJ h=>kg _ (kc h)) (λJ J=>nS) nS (λJ J=>nS)
theorem oT{p:Nat×Nat}:lD v=some p->v=.JA p.1 p.2:=V.casesOn (motive:=λv=>lD v=some p->v=.JA p.1 p.2) v nS (λJ=>nS) (λJ J=>nS) (λa b h=>kg (λp:Nat×Nat=>V.JA p.1 p.2) (kc h)) (λJ=>nS) (λJ J=>nS) nS (λJ J=>nS)
theorem wW{p:Nat×Nat}:Dj v=some p->v=.em p.1 p.2:=V.casesOn (motive:=λv=>Dj v=some p->v=.em p.1 p.2) v nS (λJ=>nS) (λJ J=>nS) (λJ J=>nS) (λJ=>nS) (λa b h=>kg (λp:Nat×Nat=>V.em p.1 p.2) (kc h)) nS (λJ J=>nS)
theorem wV{p:Nat×List (Nat×B)}:oS v=some p->v=.rc p.1 p.2:=V.casesOn (motive:=λv=>oS v=some p->v=.rc p.1 p.2) v nS (λJ=>nS) (λa b h=>kg (λp:Nat×List (Nat×B)=>V.rc p.1 p.2) (kc h)) (λJ J=>nS) (λJ=>nS) (λJ J=>nS) nS (λJ J=>nS)
theorem sX{o:Ob}{x:List V}:qT o=some x->o=.lst x:=Ob.casesOn (motive:=λo=>qT o=some x->o=.lst x) o (λJ h=>kg _ (kc h)) (λJ=>nS) (λJ J=>nS)
theorem sY{o:Ob}{x:List (Tx×Tx)}:nB o=some x->o=.Md x:=Ob.casesOn (motive:=λo=>nB o=some x->o=.Md x) o (λJ=>nS) (λJ h=>kg _ (kc h)) (λJ J=>nS)
theorem jM{o:Ob}{p:Nat×List (Nat×V)}:nA o=some p->o=.ins p.1 p.2:=Ob.casesOn (motive:=λo=>nA o=some p->o=.ins p.1 p.2) o (λJ=>nS) (λJ=>nS) (λa b h=>kg (λp:Nat×List (Nat×V)=>Ob.ins p.1 p.2) (kc h))
theorem str?_inv{b:B}{x:Tx}:b.str?=some x->b=.str x:=B.casesOn (motive:=λb=>b.str?=some x->b=.str x) b nS (λJ=>nS) (λJ=>nS) (λJ h=>kg _ (kc h)) (λJ J=>nS)
theorem int?_inv{b:B}{x:Int}:b.int?=some x->b=.int x:=B.casesOn (motive:=λb=>b.int?=some x->b=.int x) b nS (λJ=>nS) (λJ h=>kg _ (kc h)) (λJ=>nS) (λJ J=>nS)
theorem bool?_inv{b:B}{x:Bool}:b.bool?=some x->b=.bool x:=B.casesOn (motive:=λb=>b.bool?=some x->b=.bool x) b nS (λJ h=>kg _ (kc h)) (λJ=>nS) (λJ=>nS) (λJ J=>nS)
theorem bb?_inv{b:B}{p:Bool×Bool}:b.bb?=some p->b=.bb p.1 p.2:=B.casesOn (motive:=λb=>b.bb?=some p->b=.bb p.1 p.2) b nS (λJ=>nS) (λJ=>nS) (λJ=>nS) (λa b h=>kg (λp:Bool×Bool=>B.bb p.1 p.2) (kc h))
theorem kA{s:Tx}{c:Nat}(h:one s=some c):s=[c]:=by
 cases s with
 | nil=>exact nS h
 | cons a r=>cases r with | nil=>obtain rfl:=kc h;rfl | cons=>exact nS h
theorem yn{b:B}(h:b.isNul=true):b=.nul:=by cases b <;> first | rfl | exact J4 h
theorem VR.B{b:B}(r:VR Y φ am v x)(h:Mv v=some b):Mh Y.P φ b x:=(lE h▸r:VR Y φ am (.b b) x)
theorem VR.int{i:Int}(r:VR Y φ am v x)(h:gN v=some i):dL i x:=Jx h λJ h1 h2=>(int?_inv h2▸r.B h1:Mh Y.P φ (.int i) x)
theorem VR.str{s:Tx}(r:VR Y φ am v x)(h:aU v=some s):Ke s x:=Jx h λJ h1 h2=>(str?_inv h2▸r.B h1:Mh Y.P φ (.str s) x)
theorem VR.bb{p:Bool×Bool}(r:VR Y φ am v x)(h:GC v=some p):KW φ (·=[.bool p.1,.bool p.2]) x:=Jx h λJ h1 h2=>(bb?_inv h2▸r.B h1:Mh Y.P φ (.bb p.1 p.2) x)
theorem VR.ch{c:Nat}(r:VR Y φ am v x)(h:Dk v=some c):Ke [c] x:=Jx h λJ h1 h2=>(kA h2▸r.str h1)
theorem uO(h:bf v=true):v=.b .nul:=yEl h λJ h1 h2=>yn h2▸lE h1
theorem VR.nul(r:VR Y φ am v x)(h:bf v=true):x=.none:=(uO h▸r:VR Y φ am (.b .nul) x)
theorem VR.rc{p:Nat×List (Nat×Internal.B)}(r:VR Y φ am v x)(h:oS v=some p):Qn Y φ p.1 p.2 x:=(wV h▸r:VR Y φ am (.rc p.1 p.2) x)
theorem VR.shape(r:VR Y φ am v x):(v=.b .nul/\x=.none)∨((∀i,x≠.builtin i)/\x≠.none/\handedIn x=true):=by
 have tup:∀{P},KW φ P x->(∀i,x≠.builtin i)/\x≠.none/\handedIn x=true:=λr=>by cases r;exact⟨nofun,nofun,rfl⟩
 cases v with
 | uu=>exact r.elim
 | b y=>
  cases y with
  | nul=>exact .inl ⟨rfl,r⟩
  | bool b=>cases r;exact .inr ⟨nofun,nofun,rfl⟩
  | int=>cases r;exact .inr ⟨nofun,nofun,rfl⟩
  | str=>cases r;exact .inr ⟨nofun,nofun,rfl⟩
  | bb=>exact .inr (tup r)
 | rc=>cases r;exact .inr ⟨nofun,nofun,rfl⟩
 | JA=>cases r;exact .inr ⟨nofun,nofun,rfl⟩
 | ref=>cases r;exact .inr ⟨nofun,nofun,rfl⟩
 | em=>cases r;exact .inr ⟨nofun,nofun,rfl⟩
 | Ma=>exact .inr (tup r)
 | Kh a b=>
  have r:PJ Y φ a (VR Y φ am a) (Mg Y φ am b) x:=r
  cases r with | tup r=>exact .inr (tup r) | scr=>exact .inr ⟨nofun,nofun,rfl⟩
theorem VR.handed(r:VR Y φ am v x):handedIn x=true:=r.shape.elim (λh=>h.2▸rfl) λh=>h.2.2
end
noncomputable def Ad.set(a:Ad)(i:Nat)(c:Led):Ad:=⟨a.cur.set i c,a.JR⟩
noncomputable def Ad.add(a:Ad)(c:Led):Ad:=⟨a.cur++[c],a.JR⟩
theorem il{α:Type}{l:List α}{i:Nat}{a:α}(h:l[i]?=some a):l.set i a=l:=(kh h).elim λhi e=>e▸List.set_getElem_self hi
theorem dg{α β:Type}{l:List α}{i:Nat}{a:α}(f:α->β)(h:l[i]?=some a):(l.map f)[i]?=some (f a):=by (refine(Sf)▸?_;refine(h)▸?_);rfl
theorem Ad.Rj{ad:Ad}{i:Nat}{c c':Led}(h:ad.cur[i]?=some c)(e:adr c'=adr c):(ad.set i c').am=ad.am:=by
 show(⟨(ad.cur.set i c').map adr,ad.am.JR⟩:AM)=ad.am
 (refine(List.map_set)▸?_;refine(e)▸?_;refine(il (dg adr h)).symm▸?_);rfl
theorem mD{p:Addr×Obj}{l:Led}{a:Addr}(h:p∈l)(e:p.1=a):a∈l.map (·.1):=e▸SM h
theorem Ad.MR{ad:Ad}{c:Led}:ad.am.le (ad.add c).am:=⟨λi x e=>by
 show((ad.cur++[c]).map adr)[i]?=_
 (refine(R5)▸?_);exact(Sa (kh e).1).trans e,λJ l h=>⟨l,h,λJ J h=>h⟩⟩
theorem Ad.split{ad:Ad}{i:Nat}{c:Led}(h:ad.cur[i]?=some c):∃A B:Led,ad.led=A++(c++B)/\∀c',(ad.set i c').led=A++(c'++B):=by
 have hi:=(kh h).1
 have go:∀c',(ad.set i c').led=(ad.cur.take i).flatten++(c'++((ad.cur.drop (i+1)).flatten++ad.JR.flatten.flatten)):=λc'=>by
  show(ad.cur.set i c').flatten++_=_
  (refine(List.set_eq_take_append_cons_drop)▸?_;refine(if_pos hi)▸?_;refine(Sg).symm▸?_;refine(Sz).symm▸?_;rewrite[lq];rw[lq]);rfl
 refine⟨_,_,?_,go⟩
 (refine(go c)▸?_)
 exact kg (λl:List Led=>l.flatten++ad.JR.flatten.flatten) (il h).symm
theorem Ad.mem{ad:Ad}{i:Nat}{c:Led}(h:ad.cur[i]?=some c){p:Addr×Obj}(hp:p∈c):p∈ad.led:=
 lg (.inl (List.mem_flatten.mpr ⟨c,lx h,hp⟩))
theorem Ad.memE{ad:Ad}{j i:Nat}{cs:List Led}{c:Led}(h:ad.JR[j]?=some cs)(h':cs[i]?=some c){p:Addr×Obj}(hp:p∈c):p∈ad.led:=
 lg (.inr (List.mem_flatten.mpr ⟨c,List.mem_flatten.mpr ⟨cs,lx h,lx h'⟩,hp⟩))
theorem Ad.LB{ad:Ad}{c φ:Led}:((ad.add c).led++φ).Perm (c++(ad.led++φ)):=by
 show(((ad.cur++[c]).flatten++ad.JR.flatten.flatten)++φ).Perm (c++((ad.cur.flatten++ad.JR.flatten.flatten)++φ))
 (refine(Sg).symm▸?_;refine(List.flatten_singleton)▸?_;rewrite[lq];rewrite[lq];rw[lq])
 exact List.perm_append_comm_assoc _ _ _
section
variable{hB:Heap}{L:Addr}{m m':Zs->Option Value}{h h':Heap}{ad RL:Ad}{φ La up:Led}{it:Addr}{o o':Obj}{G:Prop}
theorem Upd.at:∀(pre:Led){post:Led},((pre++(it,o)::post).map (·.1)).Nodup->Upd it o o' (pre++(it,o)::post) (pre++(it,o')::post)
 | [],_,h=>.head λp hp e=>(List.nodup_cons.mp h).1 (mD hp e)
 | _::pre,_,h=>.tail (λe=>(List.nodup_cons.mp h).1 (mD (lg (.inr (.head _)):(it,o)∈_) e.symm)) (Upd.at pre (List.nodup_cons.mp h).2)
theorem Inv.get(I:Inv hB L m h ad φ){a:Addr}{o:Obj}(k:(a,o)∈ad.led++φ):h.get? a=some o:=(I.nw _ k).1
theorem Inv.above(I:Inv hB L m h ad φ):hB.objs.size<=h.objs.size:=ke I.fr.above (R8 I.fr.ns.lt)
theorem Inv.perm{mid:Led}(I:Inv hB L m h ad φ)(e:(ad.led++φ).Perm (mid++(RL.led++La))):Inv hB L m h RL La:=by
 have hm:∀p∈RL.led++La,p∈ad.led++φ:=λp hp=>e.mem_iff.mpr (lg (.inr hp))
 have hn:=(e.map (·.1)).nodup_iff.mp I.nd
 rw[R5,List.nodup_append]at hn
 exact⟨I.fr,λp hp=>I.nw p (hm p hp),hn.2.1,λp hp=>I.lo p (hm p hp)⟩
theorem Inv.more{c:Led}(I:Inv hB L m h ad φ)(F':Fr hB L h' m)(N':News hB L h' (c++(ad.led++φ)))(hc:(c.map (·.1)).Nodup)(hn:∀p∈c,∀q∈ad.led++φ,q.1≠p.1)(hl:∀p∈c,hB.objs.size<=p.1)(e:(RL.led++La).Perm (c++(ad.led++φ))):Inv hB L m h' RL La:=by
 refine⟨F',λp hp=>N' p (e.mem_iff.mp hp),((e.map (·.1)).nodup_iff).mpr ?_,λp hp=>(mx (e.mem_iff.mp hp)).elim (hl p) (I.lo p)⟩
 (refine(R5)▸?_;rw[List.nodup_append])
 exact⟨hc,I.nd,λa ha b hb hab=>(List.mem_map.mp ha).elim λp hp=>(List.mem_map.mp hb).elim λq hq=>hn p hp.1 q hq.1 (hq.2.trans (hab.symm.trans hp.2.symm))⟩
theorem Inv.one(I:Inv hB L m h ad φ){q:Addr}(hq:h.objs.size<=q)(F':Fr hB L h' m)(N':News hB L h' ((q,o)::(ad.led++φ)))(e:(RL.led++La).Perm ((q,o)::(ad.led++φ))):Inv hB L m h' RL La:=
 I.more (c:=[(q,o)]) F' N' (List.nodup_cons.mpr ⟨mo,.nil⟩) (λp hp r hr e=>Sj _ (lh (Heap.lt_size (I.nw r hr).1) (e▸km hp▸hq))) (λp hp=>km hp▸ke I.above hq) e
theorem Inv.ext(I:Inv hB L m h ad φ)(hs:Heap.ExtBut h.objs.size h h'):Inv hB L m h' ad φ:=⟨I.fr.extBut hs (mf _),I.nw.extBut hs (mf _),I.nd,I.lo⟩
theorem Inv.push(I:Inv hB L m h ad φ)(o:Obj)(hf:o.isFreed=false:=by rfl):Inv hB L m (h.push o) ad φ:=⟨I.fr.push o,λp hp=>I.nw.push I.fr o hf p (.tail _ hp),I.nd,I.lo⟩
theorem Inv.upd{i:Nat}{pre post:Led}(I:Inv hB L m h ad φ)(hc:ad.cur[i]?=some (pre++(it,o)::post))(o':Obj)(k:Upd it o o' (ad.led++φ) ((ad.set i (pre++(it,o')::post)).led++φ)->
  (∀h',Fr hB L h' m->News hB L h' ((ad.set i (pre++(it,o')::post)).led++φ)->Inv hB L m h' (ad.set i (pre++(it,o')::post)) φ)->G):G:=by
 obtain⟨A,B,e1,e2⟩:=Ad.split hc
 have e3:∀o,A++(pre++(it,o)::post++B)++φ=(A++pre)++(it,o)::(post++(B++φ)):=λo=>by simp only[lq,Sw]
 have nd:=I.nd
 have lo:=I.lo
 rw[e1,e3]at nd lo
 have RZ:=Upd.at (o':=o') _ nd
 rw[<- e3,<- e3,<- e1,<- e2]at RZ
 refine k RZ λh' F' N'=>⟨F',N',?_,λq hq=>?_⟩
 ·(rewrite[e2];rewrite[e3];refine(R5)▸?_;refine(Sh)▸?_);rw[R5,Sh]at nd;exact nd
 ·rw[e2,e3]at hq
  exact(mx hq).elim (λh=>lo q (lg (.inl h))) λh=>(kl h).elim (λe=>e▸lo (it,o) (lg (.inr (.head _)))) λh=>lo q (lg (.inr (.tail _ h)))
theorem ax:(ad.led++(φ++(it,o)::up)).Perm ((it,o)::(ad.led++(φ++up))):=((List.perm_middle (l₁:=φ)).append_left _).trans List.perm_middle
theorem dN:((ad.led++(φ++(it,o)::up)).map (·.1)).Perm (it::(ad.led++(φ++up)).map (·.1)):=ax.map _
theorem Inv.addUp(I:Inv hB L m h ad (φ++up))(o:Obj)(hf:o.isFreed=false):Inv hB L m (h.push o) ad (φ++((h.objs.size,o)::up)):=I.one (mf _) (I.fr.push o) (I.nw.push I.fr o hf) ax
theorem Inv.LM(I:Inv hB L m h ad (φ++((it,o)::up))):(it ∉ (ad.led++(φ++up)).map (·.1))/\((ad.led++(φ++up)).map (·.1)).Nodup:=List.nodup_cons.mp (dN.nodup_iff.mp I.nd)
theorem Inv.KP(I:Inv hB L m h ad (φ++((it,o)::up))):h.get? it=some o/\it≠L/\hB.get? it=none:=I.nw _ (ax.mem_iff.mpr (.head _))
theorem Inv.L9(I:Inv hB L m h ad (φ++((it,o)::up)))(hs:Heap.SameBut it h h')(ho:h'.get? it=some o'):Inv hB L m h' ad (φ++((it,o')::up)):=by
 have z:=I.KP
 refine⟨I.fr.change hs z.2.1 z.2.2,λp hp=>?_,dN.nodup_iff.mpr (List.nodup_cons.mpr I.LM),λp hp=>?_⟩
 ·refine(kl (ax.mem_iff.mp hp)).elim (λe=>e▸⟨ho,z.2⟩) λhp=>?_
  have q:=I.nw p (ax.mem_iff.mpr (.tail _ hp))
  exact⟨(hs.2 _ λe=>I.LM.1 (mD hp e)).trans q.1,q.2⟩
 ·exact(kl (ax.mem_iff.mp hp)).elim (λe=>e▸I.lo (it,o) (ax.mem_iff.mpr (.head _))) λhp=>I.lo p (ax.mem_iff.mpr (.tail _ hp))
theorem Inv.NY(I:Inv hB L m h ad (φ++((it,o)::up)))(hs:Heap.ExtBut it h h'):Inv hB L m h' ad (φ++up):=by
 have z:=I.KP
 refine⟨⟨I.fr.ns.extBut hs (Ne.symm z.2.1),λb x e=>hs b x (λeb=>nomatch (eb▸e:hB.get? it=some x)▸z.2.2) (I.fr.keep b x e),I.fr.above⟩,λp hp=>?_,I.LM.2,λp hp=>I.lo p (ax.mem_iff.mpr (.tail _ hp))⟩
 have q:=I.nw p (ax.mem_iff.mpr (.tail _ hp))
 exact⟨hs _ _ (λe=>I.LM.1 (mD hp e)) q.1,q.2⟩
theorem Inv.Pe(I:Inv hB L m h ad (φ++((it,o)::up))):Inv hB L m h ad (φ++up):=I.NY (h':=h) λJ J J e=>e
end
structure Wd where
 prog:Program
 w:World
 Y0:Lay
 hB:Heap
 p:Program
 loose:List Zs
 mg:Zs->Option Value
 mb:Zs->Option Value
noncomputable abbrev Wd.Y(W:Wd):Lay:={ W.Y0 with P:=W.w.params}
structure Cf extends Wd where
 sl:List Zs
 sc:Scope
 cn:Zs
 L:Addr
 fa:Option Addr
 fr:Option Addr
 cd:Value
 c:Cx
 n:Nat
 hs:Bool
 cells:List (Zs×Addr):=[]
 top:Bool:=false
noncomputable abbrev Cf.M(C:Cf):Model:=model C.prog C.w
noncomputable abbrev Cf.env(C:Cf):Env:={ scope:=C.sc,locals:=C.L,globals:=mainGlobals,cells:=C.cells,qual:=C.cn,func:=C.fa,code:=C.cd,frame:=C.fr,builtins:=builtinsNs}
structure Bk where
 A:Around
 X:Value->Shared->Prop
 l:List V
 m:Zs->Option Value
noncomputable abbrev cW:=List (Bool×Addr×Obj)
structure Pt where
 s:Shared
 ad:Ad
 φ:Led
 up:cW
noncomputable abbrev Pt.ul(p:Pt):Led:=p.up.map (·.2)
noncomputable abbrev Pt.mv(p:Pt)(h:Heap)(tk:Tok)(ad:Ad)(φ:Led):Pt:=⟨{ p.s with heap:=h,toks:=tk},ad,φ,p.up⟩
noncomputable abbrev Pt.tk(p:Pt)(tk:Tok):Pt:=p.mv p.s.heap tk p.ad p.φ
abbrev Cf.V(C:Cf)(p:Pt)(v:V)(x:Value):Prop:=VR C.Y p.φ p.ad.am v x
structure At(C:Cf)(m:Zs->Option Value)(st:St)(p:Pt):Prop where
 inv:Inv C.hB C.L m p.s.heap p.ad (p.φ++p.ul)
 rep:Rep C.Y p.φ st p.ad
abbrev Nt(x y:Bool×Addr×Obj):Prop:=
 y.1=x.1/\
 y.2.1=x.2.1/\
 (y.2.2=x.2.2∨(x.1=true/\∃sl,y.2.2={ x.2.2 with slots:=sl}))
section
variable{x y:Bool×Addr×Obj}(zz:Nt x y)
def Nt.b:=zz.1
def Nt.a:=zz.2.1
def Nt.o:=zz.2.2
end
abbrev K7(u v:cW):Prop:=Jp Nt u v
theorem K7.rfl:∀{u:cW},K7 u u
 | []=>.nil
 | _::_=>.cons ⟨S9 _,S9 _,.inl (S9 _)⟩ K7.rfl
theorem Nt.trans{a b c:Bool×Addr×Obj}(h:Nt a b)(k:Nt b c):Nt a c:=⟨k.b.trans h.b,k.a.trans h.a,k.o.elim (λe=>e▸h.o) λ⟨d,sl,e⟩=>h.o.elim (λe'=>.inr ⟨h.b▸d,sl,e'▸e⟩) λ⟨d',sl',e'⟩=>.inr ⟨d',sl,by (refine(e)▸?_;exact(e')▸rfl)⟩⟩
theorem K7.trans{u v:cW}(h:K7 u v):∀{w:cW},K7 v w->K7 u w:=by
 induction h with
 | nil=>exact λk=>by cases k;exact .nil
 | cons r _ ih=>exact λk=>by cases k with | cons r' k=>exact .cons (r.trans r') (ih k)
structure To(p q:Pt):Prop where
 sub:∀z∈p.φ,z∈q.φ
 am:p.ad.am.le q.ad.am
 up:K7 p.up q.up
 sh:q.s={ p.s with heap:=q.s.heap,toks:=q.s.toks}
def CeL(C:Cf)(p:Pt)(n:Zs)(x:Value):Prop:=∃ca oc,C.cells.lookup n=some ca/\(ca,oc)∈p.φ++p.ul/\oc.data=.cell (some x)
def CeN(C:Cf)(p:Pt)(n:Zs):Prop:=∃ca oc,C.cells.lookup n=some ca/\C.top=true/\(true,ca,oc)∈p.up/\oc.data=.cell none
def Lies(C:Cf)(p:Pt)(m:Zs->Option Value)(n:Zs)(x:Value):Prop:=(C.sc.names.lookup n=some .local/\m n=some x)∨(C.sc.names.lookup n=some .cell/\CeL C p n x)
abbrev LR(C:Cf)(p:Pt)(l:List V)(m:Zs->Option Value):Prop:=
 (∀(i:Nat)(v:V),l[i]?=some v->v≠.uu->∃n x,C.sl[i]?=some n/\Lies C p m n x/\C.V p v x)/\
 ∀(i:Nat) n,l[i]?=some .uu->C.sl[i]?=some n->C.sc.names.lookup n=some .cell->CeN C p n
abbrev Q6(t:Bool)(x y:Bool×Addr×Obj):Prop:=Nt x y∨(t=true/\x.1=true/\y.1=x.1/\y.2.1=x.2.1)
structure MG(C:Cf)(p q:Pt):Prop where
 sub:∀z∈p.φ,z∈q.φ
 am:p.ad.am.le q.ad.am
 up:Jp (Q6 C.top) p.up q.up
 sh:q.s={ p.s with heap:=q.s.heap,toks:=q.s.toks}
abbrev K8(A:Around)(n:Nat):Prop:=
 A.depth+2*n+2 < recursionLimit/\
 A.units+20*n+20 < cLine/\
 A.handled=none
section
variable{A:Around}{n:Nat}(zz:K8 A n)
def K8.d:=zz.1
def K8.u:=zz.2.1
def K8.h:=zz.2.2
end
structure Pre(C:Cf)(K:Bk)(st:St)(p:Pt):Prop where
 rm:C.hs=true->K8 K.A C.n
 lr:LR C p K.l K.m
 at':At C K.m st p
variable{Q3 QG cells up φ:Led}{acc cp l l' vs:List Internal.V}{PQ ds first out xs ys:List Value}{fv x0 y:Value}{a i:E}{b en:Bool}{c:Cx}{L ca fI z:Addr}{Y:Lay}{MQ am:AM}{ob:Ob}{C D:Cf}{e0 e1 h0:Expr}{A:Around}{Jy st:St}{Q:Value->Shared->Prop}{ep j k kk q0:Nat}{q:Pt}{env:Env}{whole:Sem Value}{M:Model}{sc:Scope}{pos tp:Pos}{cl cs:List (Zs×Addr)}{W:Wd}{args:List (Bool×Sem Value)}{es:List DictEntry}{ss:List Tx}{binds kvs kws:List (Zs×Value)}{R:Unit->Shared->Prop}{rr w:(List Internal.V×List (Nat×Internal.V))×St}{G:Prop}{ns:List Nat}{cn ts:List Zs}{oi:Option (Array Value)}{prog:Program}{name self tn:Zs}{kw:List (Nat×Internal.V)}{o' oc oe:Obj}{h' hB:Heap}{cm m':Zs->Option Value}{t0:Tok}
section
variable{K:Bk}{m:Zs->Option Value}{st'':St}{p r:Pt}{v:V}{x:Value}
theorem To.rfl:To p p:=⟨λJ h=>h,.rfl,.rfl,S9 _⟩
theorem To.trans(a:To p q)(b:To q r):To p r:=⟨λz h=>b.sub z (a.sub z h),a.am.trans b.am,a.up.trans b.up,by (refine(b.sh)▸?_;rw[a.sh])⟩
theorem To.mv{h:Heap}{ad:Ad}(a:∀z∈p.φ,z∈φ)(b:p.ad.am.le ad.am):To p (p.mv h t0 ad φ):=⟨a,b,.rfl,S9 _⟩
theorem To.tk:To p (p.tk t0):=⟨λJ h=>h,.rfl,.rfl,S9 _⟩
theorem To.h{h:Heap}:To p (p.mv h t0 p.ad p.φ):=⟨λJ h=>h,.rfl,.rfl,S9 _⟩
theorem To.vr(t:To p q)(r:C.V p v x):C.V q v x:=r.mono t.sub t.am
theorem To.all(t:To p q)(r:Jp (C.V p) vs xs):Jp (C.V q) vs xs:=r.mono λJ J=>t.vr
theorem Jp.Rp{α β:Type}{R:α->β->Prop}{l:List α}{k:List β}{a:α}(h:Jp R l k)(m:a∈l):∃b∈k,R a b:=by
 induction h with
 | nil=>cases m
 | cons r _ ih=>exact(kl m).elim (λe=>⟨_,.head _,e▸r⟩) λm=>(ih m).imp λJ z=>⟨.tail _ z.1,z.2⟩
theorem Nt.data{x y:Bool×Addr×Obj}(h:Nt x y):y.2.2.data=x.2.2.data:=h.o.elim (λe=>by rw[e]) λ⟨_,_,e⟩=>by rw[e]
theorem CeL.to{n:Zs}(r:CeL C p n x)(t:To p q):CeL C q n x:=by
 obtain⟨ca,oc,h1,h2,h3⟩:=r
 rcases mx h2 with h2 | h2
 ·exact⟨ca,oc,h1,lg (.inl (t.sub _ h2)),h3⟩
 ·obtain⟨z,hz,e⟩:=List.mem_map.mp h2
  obtain⟨w,hw,r⟩:=t.up.Rp hz
  have ew:w.2=(ca,w.2.2):=Prod.ext (r.a.trans (by rw[e])) U
  exact⟨ca,w.2.2,h1,lg (.inr (ew▸SM hw)),r.data.trans (by rw[e];exact h3)⟩
theorem CeN.to{n:Zs}(r:CeN C p n)(t:To p q):CeN C q n:=by
 obtain⟨ca,oc,h1,ht,h2,h3⟩:=r
 obtain⟨w,hw,r⟩:=t.up.Rp h2
 have ew:w=(true,ca,w.2.2):=Prod.ext r.b (Prod.ext r.a U)
 exact⟨ca,w.2.2,h1,ht,ew▸hw,r.data.trans h3⟩
theorem Lies.to{n:Zs}(r:Lies C p m n x)(t:To p q):Lies C q m n x:=r.imp id λz=>⟨z.1,z.2.to t⟩
theorem LR.to(r:LR C p l m)(t:To p q):LR C q l m:=⟨λi v a b=>(r.1 i v a b).imp λJ=>Exists.imp λJ z=>⟨z.1,z.2.1.to t,t.vr z.2.2⟩,λi n a b c=>(r.2 i n a b c).to t⟩
theorem LR.mv(r:LR C p l m)(a:∀z∈p.φ,z∈q.φ)(b:∀z∈p.up,(∃v,z.2.2.data=.cell v)->z∈q.up)(c:p.ad.am.le q.ad.am):LR C q l m:=
 ⟨λi v h1 h2=>(r.1 i v h1 h2).imp λJ=>Exists.imp λJ z=>⟨z.1,z.2.1.imp id λ⟨k1,ca,oc,k2,k3,k4⟩=>⟨k1,ca,oc,k2,(mx k3).elim (λh=>lg (.inl (a _ h))) λh=>lg (.inr (by
   obtain⟨w,hw,e⟩:=List.mem_map.mp h
   exact List.mem_map.mpr ⟨w,b w hw ⟨_,by rw[e];exact k4⟩,e⟩)),k4⟩,z.2.2.mono a c⟩,
  λi n h1 h2 h3=>(r.2 i n h1 h2 h3).imp λJ=>Exists.imp λJ z=>⟨z.1,z.2.1,b _ z.2.2.1 ⟨_,z.2.2.2⟩,z.2.2.2⟩⟩
theorem To.s(t:To p q):MG C p q:=⟨t.sub,t.am,t.up.mono λJ J h=>.inl h,t.sh⟩
theorem Q6.trans{t:Bool}{a b c:Bool×Addr×Obj}(h:Q6 t a b)(k:Q6 t b c):Q6 t a c:=
 h.elim (λh=>k.elim (λk=>.inl (h.trans k)) λk=>.inr ⟨k.1,h.b▸k.2.1,k.2.2.1.trans h.b,k.2.2.2.trans h.a⟩) λh=>.inr ⟨h.1,h.2.1,(k.elim (·.b) (·.2.2.1)).trans h.2.2.1,(k.elim (·.a) (·.2.2.2)).trans h.2.2.2⟩
theorem UpC.trans{t:Bool}{u v:cW}(h:Jp (Q6 t) u v):∀{w:cW},Jp (Q6 t) v w->Jp (Q6 t) u w:=by
 induction h with
 | nil=>exact λk=>by cases k;exact .nil
 | cons r _ ih=>exact λk=>by cases k with | cons r' k=>exact .cons (r.trans r') (ih k)
theorem MG.trans(a:MG C p q)(b:MG C q r):MG C p r:=⟨λz h=>b.sub z (a.sub z h),a.am.trans b.am,UpC.trans a.up b.up,by (refine(b.sh)▸?_;rw[a.sh])⟩
theorem MG.vr(t:MG C p q)(r:C.V p v x):C.V q v x:=r.mono t.sub t.am
theorem MG.to(t:MG C p q)(h:C.top=false):To p q:=⟨t.sub,t.am,t.up.mono λJ J z=>z.elim id λz=>J4 (h.symm.trans z.1),t.sh⟩
theorem At.tk(a:At C m st p):At C m st (p.tk t0):=⟨a.inv,a.rep⟩
theorem Pre.to(P:Pre C K st p)(t:To p q)(a:At C K.m Jy q):Pre C K Jy q:=⟨P.rm,P.lr.to t,a⟩
theorem At.push(a:At C m st p)(o:Obj)(hf:o.isFreed=false:=by rfl):At C m st (p.mv (p.s.heap.push o) t0 p.ad p.φ):=⟨a.inv.push o hf,a.rep⟩
theorem At.h{h:Heap}(a:At C m st p)(F':Fr C.hB C.L h m)(N':News C.hB C.L h (p.ad.led++(p.φ++p.ul))):At C m st (p.mv h t0 p.ad p.φ):=⟨⟨F',N',a.inv.nd,a.inv.lo⟩,a.rep⟩
theorem At.ext{h:Heap}(a:At C m st p)(hs:Heap.ExtBut p.s.heap.objs.size p.s.heap h):At C m st (p.mv h t0 p.ad p.φ):=⟨a.inv.ext hs,a.rep⟩
theorem At.freeze{h:Heap}{o:Obj}(a:At C m st p)(hz:p.s.heap.objs.size<=z)(F':Fr C.hB C.L h m)(N':News C.hB C.L h ((z,o)::(p.ad.led++(p.φ++p.ul))))(k:To p (p.mv h t0 p.ad ((z,o)::p.φ))->At C m st (p.mv h t0 p.ad ((z,o)::p.φ))->G):G:=
 k (.mv (λJ h=>.tail _ h) .rfl) ⟨a.inv.one hz F' N' List.perm_middle,a.rep.mono λJ h=>.tail _ h⟩
theorem At.obj{i:Nat}{o:Ob}(a:At C m st p)(h:st.cur[i]?=some o)(r:lF p.ad.am i x)(k:∀c,p.ad.cur[i]?=some c->OR C.Y p.φ p.ad.am o c->x=.ref (adr c)->G):G:=by
 obtain⟨c,hc,hr⟩:=a.rep.cur.get h
 cases r with
 | mk ha=>exact k c hc hr (kg _ (kc (ha.symm.trans (dg adr hc))))
theorem VR.ref{i:Nat}(r:VR Y φ am v x)(h:jK v=some i):lF am i x:=(sW h▸r:VR Y φ am (.ref i) x)
theorem At.mem{c:Led}{i:Nat}{o:Obj}(hc:p.ad.cur[i]?=some c)(hm:(z,o)∈c):(z,o)∈p.ad.led++(p.φ++p.ul):=lg (.inl (Ad.mem hc hm))
theorem At.got{o:Obj}(a:At C m st p)(h:(z,o)∈p.φ):p.s.heap.get? z=some o:=a.inv.get (lg (.inr (lg (.inl h))))
@[elab_as_elim] theorem At.lst{P:Value->Prop}{q:Nat×List V}(a:At C m st p)(hl:aI st v=some q)(r:C.V p v x)(k:∀a xs n,p.ad.cur[q.1]?=some [(a,aS xs n)]->p.s.heap.get? a=some (aS xs n)->Jp (C.V p) q.2 xs->q.2.length<=JL->P (.ref a)):P x:=
 Jx hl λi h1 h=>Jx h λo h2 h=>Kc h λl h3 e=>a.obj h2 (r.ref h1) λc hc hr e2=>by
  subst e;rw[sX h3]at hr
  exact hr.lstE λz xs n e3 rx hz=>by subst e3;exact e2▸k z xs n hc (a.inv.get (At.mem hc (.head _))) rx hz
@[elab_as_elim] theorem At.Md{P:Value->Prop}{q:Nat×List (Tx×Tx)}(a:At C m st p)(hl:gK st v=some q)(r:C.V p v x)(k:∀a es n,p.ad.cur[q.1]?=some [(a,dictOf es n)]->p.s.heap.get? a=some (dictOf es n)->DR C.w.params q.2 es->P (.ref a)):P x:=
 Jx hl λi h1 h=>Jx h λo h2 h=>Kc h λl h3 e=>a.obj h2 (r.ref h1) λc hc hr e2=>by
  subst e;rw[sY h3]at hr
  exact hr.dctE λz es n e3 d=>by subst e3;exact e2▸k z es n hc (a.inv.get (At.mem hc (.head _))) d
@[elab_as_elim] theorem At.ins{P:Value->Prop}{q:Nat×Nat×List (Nat×V)}(a:At C m st p)(hl:cT st v=some q)(r:C.V p v x)
  (k:∀a d es n,p.ad.cur[q.1]?=some [(a,instObj (C.Y.JW q.2.1) d),(d,dictOf es n)]->InstAt p.s.heap a (instObj (C.Y.JW q.2.1) d) (C.Y.JW q.2.1) (some (dictOf es n))->q.2.1 < 2->FR C.Y p.φ p.ad.am q.2.2 es->es.length<=q.2.2.length->q.2.2.length<=100->P (.ref a)):P x:=
 Jx hl λi h1 h=>Jx h λo h2 h=>Kc h λl h3 e=>a.obj h2 (r.ref h1) λc hc hr e2=>by
  subst e;rw[jM h3]at hr
  exact hr.LY λz d es n e3 lt f1 f2 f3=>by subst e3;exact e2▸k z d es n hc ⟨a.inv.get (At.mem hc (.head _)),rfl,rfl,a.inv.get (At.mem hc (.tail _ (.head _)))⟩ lt f1 f2 f3
@[elab_as_elim] theorem At.rc{c:Nat}{f:List (Nat×B)}{P:Value->Prop}(a:At C m st p)(r:Qn C.Y p.φ c f x)
  (k:∀q d es n,c < 15->InstAt p.s.heap q (instObj (C.Y.J7 c) d) (C.Y.J7 c) (some (dictOf es n))->(∀a v,f.lookup a=some v->a < 128/\∃y,getL (C.Y.nm a) es=some (some y)/\Mh C.w.params p.φ v y)->P (.ref q)):P x:=by
 cases r with | mk lt m m' g=>exact k _ _ _ _ lt ⟨a.got m,rfl,rfl,a.got m'⟩ g
theorem At.turn{i:Nat}{pre post:Led}{o:Obj}(a:At C m st p)(hc:p.ad.cur[i]?=some (pre++(z,o)::post))(o':Obj)(he:adr (pre++(z,o')::post)=adr (pre++(z,o)::post))(r:OR C.Y p.φ p.ad.am ob (pre++(z,o')::post))
  (k:Upd z o o' (p.ad.led++(p.φ++p.ul)) ((p.ad.set i (pre++(z,o')::post)).led++(p.φ++p.ul))->(∀h tk,Fr C.hB C.L h m->News C.hB C.L h ((p.ad.set i (pre++(z,o')::post)).led++(p.φ++p.ul))->
   To p (p.mv h tk (p.ad.set i (pre++(z,o')::post)) p.φ)/\At C m (bx st i ob) (p.mv h tk (p.ad.set i (pre++(z,o')::post)) p.φ))->G):G:=
 a.inv.upd hc o' λRZ hI=>k RZ λh tk F' N'=>by
  have hme:=Ad.Rj hc he
  exact⟨.mv (λJ h=>h) (hme▸.rfl),hI h F' N',show Jp (OR _ _ (p.ad.set i _).am) _ _ from hme▸a.rep.cur.set r i,a.rep.JR⟩
theorem At.alloc{h:Heap}{c:Led}(a:At C m st p)(I':Inv C.hB C.L m h (p.ad.add c) (p.φ++p.ul))(r:OR C.Y p.φ (p.ad.add c).am ob c)(k:To p (p.mv h t0 (p.ad.add c) p.φ)->At C m (alloc st ob).2 (p.mv h t0 (p.ad.add c) p.φ)->C.V (p.mv h t0 (p.ad.add c) p.φ) (alloc st ob).1 (.ref (adr c))->G):G:=
 k (.mv (λJ h=>h) Ad.MR) ⟨I',(a.rep.cur.mono λJ J q=>q.mono (λJ h=>h) Ad.MR).snoc r,a.rep.JR⟩ (.mk (by
  show((p.ad.cur++[c]).map adr)[st.cur.length]?=_
  (refine(a.rep.cur.length)▸?_;refine(R5)▸?_;refine(R4 (lw (lf _)))▸?_;rewrite[lf];rw[Sl]);rfl))
theorem At.Rn{h:Heap}{n:Nat}(a:At C m st p)(hz:p.s.heap.objs.size<=z)(F':Fr C.hB C.L h m)(N':News C.hB C.L h ((z,aS xs n)::(p.ad.led++(p.φ++p.ul))))(r:Jp (C.V p) vs xs)(hl:vs.length<=JL)
  (k:To p (p.mv h t0 (p.ad.add [(z,aS xs n)]) p.φ)->At C m (Internal.alloc st (.lst vs)).2 (p.mv h t0 (p.ad.add [(z,aS xs n)]) p.φ)->C.V (p.mv h t0 (p.ad.add [(z,aS xs n)]) p.φ) (Internal.alloc st (.lst vs)).1 (.ref z)->G):G:=
 a.alloc (a.inv.one hz F' N' Ad.LB) (.lst (r.mono λJ J q=>q.mono (λJ h=>h) Ad.MR) hl) k
end
def LS(C:Cf)(K:Bk)(p:Pt)(r:V×St)(Q:Value->Shared->Prop):Prop:=∀x q,To p q->At C K.m r.2 q->C.V q r.1 x->Q x q.s
def Ng(C:Cf)(K:Bk)(p:Pt)(b:Bool)(st:St)(Q:Bool->Shared->Prop):Prop:=∀q,To p q->At C K.m st q->Q b q.s
def JB(C:Cf)(i:E):Prop:=∀e0,J9 C.Y C.sc i C.sl [] e0=true->∀{K:Bk}{st:St}{p:Pt}{r:V×St}{Q:Value->Shared->Prop},
 Jq C.c i K.l st=some r->Pre C K st p->LS C K p r Q->wpAny C.M K.A (eval (JK C.Y i C.sl [] e0) C.env) Q K.X p.s
def Kk(C:Cf)(i:E):Prop:=∀e0,J9 C.Y C.sc i C.sl [] e0=true->∀{K:Bk}{st:St}{p:Pt}{r:V×St}{b:Bool}{Q:Bool->Shared->Prop},
 Jq C.c i K.l st=some r->truth r.2 r.1=some b->Pre C K st p->Ng C K p b r.2 Q->wpAny C.M K.A (isTrue (JK C.Y i C.sl [] e0) C.env (eval (JK C.Y i C.sl [] e0) C.env)) Q K.X p.s
theorem JB.x(h:JB C i)(hc:J9 C.Y C.sc i C.sl [] e0=true){X:Value->Shared->Prop}{m:Zs->Option Value}{p:Pt}{r:V×St}(hv:Jq C.c i l st=some r)(rm:C.hs=true->K8 A C.n)(lr:LR C p l m)(a:At C m st p)
  (k:∀x q,To p q->At C m r.2 q->C.V q r.1 x->Q x q.s):wpAny C.M A (eval (JK C.Y i C.sl [] e0) C.env) Q X p.s:=h _ hc (K:=⟨A,X,l,m⟩) hv ⟨rm,lr,a⟩ k
theorem Kk.x(h:Kk C i)(hc:J9 C.Y C.sc i C.sl [] e0=true){X:Value->Shared->Prop}{m:Zs->Option Value}{p:Pt}{r:V×St}{Q:Bool->Shared->Prop}(hv:Jq C.c i l st=some r)(hb:truth r.2 r.1=some b)(rm:C.hs=true->K8 A C.n)(lr:LR C p l m)(a:At C m st p)
  (k:∀q,To p q->At C m r.2 q->Q b q.s):wpAny C.M A (isTrue (JK C.Y i C.sl [] e0) C.env (eval (JK C.Y i C.sl [] e0) C.env)) Q X p.s:=h _ hc (K:=⟨A,X,l,m⟩) hv hb ⟨rm,lr,a⟩ k
def i8(C:Cf)(K:Bk)(p:Pt)(x:Expr)(r:V×St):Prop:=∀tk {Q:Value->Shared->Prop},LS C K p r Q->wpAny C.M K.A (eval x C.env) Q K.X (p.tk tk).s
section
variable{K:Bk}{p:Pt}{r r':V×St}{b:E}{x:Value}{e:Expr}
theorem LS.after(P:LS C K p r Q)(t:To p q):LS C K q r Q:=λx z t' a r=>P x z (t.trans t') a r
theorem Ng.after{b:Bool}{Q:Bool->Shared->Prop}(P:Ng C K p b st Q)(t:To p q):Ng C K q b st Q:=λz t' a=>P z (t.trans t') a
theorem JB.done(ha:JB C a)(hc:J9 C.Y C.sc a C.sl [] e=true)(hv:Jq C.c a K.l st=some r)(P:Pre C K st p):i8 C K p (JK C.Y a C.sl [] e) r:=λtk J post=>ha e hc hv (P.to (.tk (t0:=tk)) P.at'.tk) (post.after .tk)
end
abbrev Lp(W:Wd):Prop:=
 W.Y.K.In W.hB/\
 TopRead W.p W.loose W.mg W.mb W.hB/\
 W.hB.get? W.Y0.sa=some W.Y0.so
section
variable(zz:Lp W)
def Lp.X:=zz.1
def Lp.T:=zz.2.1
def Lp.S:=zz.2.2
end
noncomputable def cz:List (Tx×Tx):=gz.map λp=>([p.1],[p.2])
abbrev Ki(K:Frag)(C fI:Addr):Prop:=
 makesIn K C=true/\
 findIn K (.ref C) "__init__" = some (some (.ref fI))/\
 typeIn K (.ref fI)=some (.type "function")/\
 findIn K (.ref C) "__setattr__" = some (some (.builtin "object.__setattr__"))/\
 plainOver K C=true/\
 hasDictIn K C=true/\
 keepIn K (.ref C)=true
section
variable{K:Frag}{C:Addr}(zz:Ki K C fI)
def Ki.makes:=zz.1
def Ki.init:=zz.2.1
def Ki.ty:=zz.2.2.1
def Ki.set:=zz.2.2.2.1
def Ki.over:=zz.2.2.2.2.1
def Ki.has:=zz.2.2.2.2.2.1
def Ki.keep:=zz.2.2.2.2.2.2
end
abbrev Jk(Y:Lay)(c:Cx):Prop:=
 (∀a b,a < 128->b < 128->a≠b->(Y.nm a==Y.nm b)=false)/\
 (∀k,k < 15->findIn Y.K (.ref (Y.J7 k)) "__bool__" = some none)/\
 (∀k,k < 15->findIn Y.K (.ref (Y.J7 k)) "__len__" = some none)/\
 (∀k,k < 15->plainGet Y.K (Y.J7 k) "" = true)/\
 (∀k,k < 15->hasDictIn Y.K (Y.J7 k)=true)/\
 (∀k n,k < 15->64<=n->n < 126->findIn Y.K (.ref (Y.J7 k)) (Y.nm n)=some none)/\
 (∀k,k < 15->findIn Y.K (.ref (Y.J7 k)) "__class__" = some (some (.builtin "object.__class__")))/\
 (∀k,k < 15->mroIn Y.K (Y.J7 k) (.type "object")=some true)/\
 (∀k d,k < 15->d < 14->kitOne Y.K (.ref (Y.J7 k)) (.ref (Y.J7 d))=some (tQ c k d))/\
 specialIn Y.K (.builtin "object.__class__") "__get__" = some (some (.builtin "getset_descriptor.__get__"))
abbrev Jj(Y:Lay)(c:Cx):Prop:=
 takesIn Y.K (.builtin "object.__class__")=some true/\
 (∀k,k < 2->plainGet Y.K (Y.JW k) "" = true)/\
 (∀k,k < 2->hasDictIn Y.K (Y.JW k)=true)/\
 (∀k,k < 2->findIn Y.K (.ref (Y.JW k)) "__setattr__" = some (some (.builtin "object.__setattr__")))/\
 (∀k,k < 2->plainOver Y.K (Y.JW k)=true)/\
 (∀k n,k < 2->n < 128->takerIn Y.K (Y.JW k) (Y.nm n)=some none)/\
 (∀k n,k < 2->64<=n->n < 126->findIn Y.K (.ref (Y.JW k)) (Y.nm n)=some none)/\
 (∀k f,k < dd->c.fns[k]?=some f->f.own < 2/\findIn Y.K (.ref (Y.JW f.own)) (Y.nm k)=some (some (.ref (Y.fn k))))/\
 (∀k,k < dd->isFn Y.K (.ref (Y.fn k))=true/\specialIn Y.K (.ref (Y.fn k)) "__get__" = some (some (.builtin "function.__get__"))/\takesIn Y.K (.ref (Y.fn k))=some false/\copiedNames.contains (Y.nm k)=false)/\
 (∀k,k < 57->findIn Y.K (.ref (Y.JW 0)) (Y.nm k)=some (some (.ref (Y.fn k))))
abbrev Ji(Y:Lay)(c:Cx):Prop:=
 (∀k,k < 15->nsIn Y.K mainGlobals (Y.cn k)=some (some (.ref (Y.J7 k))))/\
 (∀k,k < 2->Ki Y.K (Y.JW k) (Y.fn (dd+1 - k)))/\
 nsIn Y.K mainGlobals "Emitter" = some (some (.ref (Y.JW 0)))/\
 nsIn Y.K mainGlobals "Rows" = some (some (.ref (Y.JW 1)))/\
 (∀n∈["len", "all", "isinstance", "sorted", "range", "enumerate"],nsIn Y.K mainGlobals (PySem.Str.ofString n)=some none)/\
 (∀k f,c.fns[k]?=some f->f.own=2->nsIn Y.K mainGlobals (Y.gn k)=some (some (.ref (Y.fn k))))/\
 (∃es n,Y.K.lookup Y.KO=some (dictOf es n)/\dB Y.P cz es)/\
 (∃es n,Y.K.lookup Y.MK=some (dictOf es n)/\DR Y.P aQ es)/\
 (Y.KO==sysModules)=false/\
 (Y.MK==sysModules)=false
abbrev Jh(Y:Lay)(c:Cx):Prop:=
 findIn Y.K (.ref (Y.JW 0)) "ESCAPE_REPLACEMENTS" = some (some (.ref Y.KO))/\
 findIn Y.K (.ref (Y.JW 0)) "DEFAULT_TAG_PREFIXES" = some (some (.ref Y.MK))/\
 specialIn Y.K (.ref Y.KO) "__get__" = some none/\
 specialIn Y.K (.ref Y.MK) "__get__" = some none/\
 Y.nm 126 = "ESCAPE_REPLACEMENTS" /\
 Y.nm 127 = "DEFAULT_TAG_PREFIXES"
abbrev JO(Y:Lay)(c:Cx):Prop:=Jk Y c/\Jj Y c/\Ji Y c/\Jh Y c
section
variable(zz:JO Y c)
def JO.nmI:=zz.1.1
def JO.rBool:=zz.1.2.1
def JO.rLen:=zz.1.2.2.1
def JO.rGet:=zz.1.2.2.2.1
def JO.rHas:=zz.1.2.2.2.2.1
def JO.rAtt:=zz.1.2.2.2.2.2.1
def JO.rCls:=zz.1.2.2.2.2.2.2.1
def JO.rObj:=zz.1.2.2.2.2.2.2.2.1
def JO.rSub:=zz.1.2.2.2.2.2.2.2.2.1
def JO.RJ:=zz.1.2.2.2.2.2.2.2.2.2
def JO.RI:=zz.2.1.1
def JO.ML:=zz.2.1.2.1
def JO.Od:=zz.2.1.2.2.1
def JO.iSet:=zz.2.1.2.2.2.1
def JO.iOver:=zz.2.1.2.2.2.2.1
def JO.iTak:=zz.2.1.2.2.2.2.2.1
def JO.P6:=zz.2.1.2.2.2.2.2.2.1
def JO.mOwn:=zz.2.1.2.2.2.2.2.2.2.1
def JO.mFn:=zz.2.1.2.2.2.2.2.2.2.2.1
def JO.mEm:=zz.2.1.2.2.2.2.2.2.2.2.2
def JO.RC:=zz.2.2.1.1
def JO.mkI:=zz.2.2.1.2.1
def JO.gEm:=zz.2.2.1.2.2.1
def JO.gRows:=zz.2.2.1.2.2.2.1
def JO.gBi:=zz.2.2.1.2.2.2.2.1
def JO.gFn:=zz.2.2.1.2.2.2.2.2.1
def JO.Qf:=zz.2.2.1.2.2.2.2.2.2.1
def JO.Lo:=zz.2.2.1.2.2.2.2.2.2.2.1
def JO.escHi:=zz.2.2.1.2.2.2.2.2.2.2.2.1
def JO.pfxHi:=zz.2.2.1.2.2.2.2.2.2.2.2.2
def JO.Q1:=zz.2.2.2.1
def JO.emPfx:=zz.2.2.2.2.1
def JO.Pd:=zz.2.2.2.2.2.1
def JO.Rl:=zz.2.2.2.2.2.2.1
def JO.QF:=zz.2.2.2.2.2.2.2.1
def JO.nmPfx:=zz.2.2.2.2.2.2.2.2
end
abbrev Ok(C:Cf):Prop:=
 Lp C.toWd/\
 JO C.Y C.c/\
 C.sc.kind=.function/\
 C.sl.Nodup/\
 (∀x∈C.sl,(C.sc.names.lookup x=some .local∨C.sc.names.lookup x=some .cell)/\(x==("__debug__" : Zs))=false)/\
 (C.top=true->∀n n' a,C.cells.lookup n=some a->C.cells.lookup n'=some a->n=n')
section
variable(zz:Ok C)
def Ok.O:=zz.1
def Ok.K:=zz.2.1
def Ok.hk:=zz.2.2.1
def Ok.nd:=zz.2.2.2.1
def Ok.lc:=zz.2.2.2.2.1
def Ok.ci:=zz.2.2.2.2.2
end
theorem gq:JL=16777216:=rfl
theorem jW(h:k<=JL):(k:Int) < 2 ^ 63:=by rw[gq]at h;lia
theorem AU(h:k<=JL):¬ (k:Int) ≥ 2 ^ 63:=Int.not_le.mpr (jW h)
theorem cG(h:k<=JL):k<=sizeLine:=ke h (by decide)
theorem Fa(h:k<=60):k<=JL:=ke h (by decide)
theorem iD(h:k<=1000):k<=JL:=ke h (by decide)
section
variable{P:Params}{l:List (Tx×Tx)}{w:World}
theorem EnR.is{p:Tx×Tx}{e:DictEntry}(r:EnR w.params p e):(PySem.strKind prog w).is (J1 p.1) e.key=true:=by
 obtain⟨k,h,v⟩:=r
 generalize e.key=z at k
 cases k with | mk t _=>exact strKind_is prog w _ t
noncomputable def eP(l:List (Tx×Tx))(es:List DictEntry):List (Zs×Value):=l.zipWith (λp e=>(J1 p.1,e.val)) es
theorem Jp.keysOf(h:dB P l es):(eP l es).map (·.1)=(l.map (·.1)).map J1:=by
 induction h with
 | nil=>rfl
 | cons _ _ ih=>exact kg (_::·) ih
theorem Jp.pairs(h:dB w.params l es):Pairs (PySem.strKind prog w) es (eP l es):=by
 induction h with
 | nil=>exact .nil
 | cons r _ ih=>exact .cons r.is U ih
theorem Jp.ent(h:dB w.params l es):∀e∈es,∃k,(PySem.strKind prog w).is k e.key=true/\e.hash=(PySem.strKind prog w).hash k:=by
 induction h with
 | nil=>exact λJ h=>nomatch h
 | cons r _ ih=>exact λe h=>(kl h).elim (λq=>q▸⟨_,r.is,r.h⟩) (ih e)
theorem DR.NA(h:DR w.params l es):(dictOf es k).IsDictOf (PySem.strKind prog w) (eP l es):=
 ⟨es.toArray,k,⟨rfl,rfl,rfl⟩,rfl,λe he=>h.r.ent e (List.mem_toArray.mp he),h.r.pairs,by (refine(h.r.keysOf)▸?_);exact List.Pairwise.map _ (λa b hab e=>hab (j3 e)) h.nd⟩
theorem Jp.OX(h:dB P l es):(eP l es).length=l.length:=by
 have:=kg List.length h.keysOf
 rw[lf,lf,lf]at this
 exact this
theorem yK(h:dB P l es):(!(eP l es).isEmpty)=!l.isEmpty:=by cases h <;> rfl
theorem DR.dictAt{h:Heap}{q:Addr}(d:DR w.params l es)(e:h.get? q=some (dictOf es k)):h.DictOf (PySem.strKind prog w) q (eP l es):=Heap.dictOf_iff.mpr ⟨_,e,d.NA⟩
end
theorem aD{h:Heap}{a:Addr}(e:h.get? a=some (aS xs k)):h.IsList a xs.toArray:=⟨_,e,rfl,_,rfl⟩
section
variable{B:Bk}{m:Zs->Option Value}{p:Pt}{r:V×St}{v w:V}{x:Value}{X:Value->Shared->Prop}{e:Expr}{tk:Tok}
theorem At.K(O:Lp C.toWd)(a:At C m st p):C.Y.K.In p.s.heap:=O.X.keeps a.inv.fr.keep
theorem At.noSys(O:Lp C.toWd)(a:At C m st p){o:Obj}(k:(z,o)∈p.ad.led++(p.φ++p.ul)):(z==sysModules)=false:=
 beq_eq_false_iff_ne.mpr λe=>Sj _ (lh (Nat.lt_of_succ_lt (Nat.lt_of_succ_lt O.T.g.lt)) (ke (a.inv.lo _ k) (lw e)))
theorem At.inφ{o:Obj}(h:(z,o)∈p.φ):(z,o)∈p.ad.led++(p.φ++p.ul):=lg (.inr (lg (.inl h)))
theorem dD(H:Ok C){Q:Bool->Shared->Prop}(r:C.V p v x)(a:At C m st p)(ht:truth st v=some b)(fin:∀tk,Q b (p.tk tk).s):wpAny C.M A (truthy x) Q X p.s:=by
 have f0:Q b p.s:=fin p.s.toks
 have f2:=fin (p.s.toks+1+1)
 have dic:∀{q es n l},(q,dictOf es n)∈p.ad.led++(p.φ++p.ul)->DR C.w.params l es->(!l.isEmpty)=b->wpAny C.M A (truthy (.ref q)) Q X p.s:=λm d e=>
  wpAny_truthy_dict (a.noSys H.O m) (d.dictAt (a.inv.get m)) (d.r.OX.symm▸jW (Fa d.le)) (by (refine(yK d.r)▸?_;refine(e)▸?_);exact f2)
 refine Ml ht (λh=>Kc h λy hy e=>?_) λh=>Ml h (λh=>Kc h λy hy e=>?_) λh=>Ml h (λh=>Kc h λy hy e=>?_) λh=>Kc h λy hy e=>?_
 ·have r:=r.B hy
  subst e
  cases y with
  | nul=>cases r;exact truthy_none f0
  | bool=>cases r;exact wpAny_truthy_bool f0
  | int i=>cases r;exact PySem.P.truthy_int f0
  | str t=>
   cases r with | mk u hz=>
   refine PySem.P.truthy_str (AU hz) ?_
   cases t <;> exact f2
  | bb=>cases r with | mk hm e=>subst e;exact ktl_truthy (a.got hm) (by simp) f2
 ·subst e
  exact a.rc (r.rc hy) λq d es n lt I g=>truthy_K0 a.inv.fr H.O.X I (H.K.rBool _ lt) (H.K.rLen _ lt) f0
 ·subst e
  exact a.lst hy r λz xs n hc hg hx hz=>wpAny_truthy_list (aD hg) (by (refine(SQ)▸?_;refine(hx.length)▸?_);exact jW hz) (by (rewrite[List.isEmpty_toArray];refine(hx.empty)▸?_);exact f2)
 ·subst e
  exact a.Md hy r λz es n hc hg d=>dic (At.mem hc (.head _)) d U
theorem gU{e:Expr}(h:eh e=true):isTrue e env whole=(do let v <- whole;standAt e.pos;holding [v] (truthy v)):=by
 cases e with
 | UnaryOp op=>cases op <;> first | rfl | exact J4 h
 | _=>first | rfl | exact J4 h
theorem gZ(H:Ok C)(hp:∀e0,J9 C.Y C.sc i C.sl [] e0=true->eh (JK C.Y i C.sl [] e0)=true)(h:JB C i):Kk C i:=λe0 hc B st p r b Q hv ht P post=>
 isTrue_plain (h e0 hc hv P λx q t a rx=>dD H rx a ht λtk=>post _ (t.trans .tk) a.tk) (gU (hp e0 hc))
theorem dJ{α:Type}{l:List α}{i:Nat}{a d:α}(h:l[i]?=some a):l.getD i d=a:=by (refine(List.getD_eq_getElem?_getD)▸?_;refine(h)▸?_);rfl
theorem mK(H:Ok C){n:Zs}(z:Lies C p m n y)(a:At C m st p)(h:Q y p.s):wpAny C.M A (loadName C.env n) Q X p.s:=
 z.elim (λz=>wpAny_loadName_local (env:=C.env) H.hk z.1 a.inv.fr.ns z.2 h) λ⟨z,ca,oc,h1,h2,h3⟩=>wpAny_loadName_cell (env:=C.env) H.hk z h1 ⟨oc,a.inv.get (lg (.inr h2)),h3⟩ h
theorem p6(H:Ok C)(hv:B.l[k]?=some v)(hn:v≠.uu)(P:Pre C B st p)(h:∀x,C.V p v x->Q x p.s):wpAny C.M A (eval (nE (C.sl.getD k "") e) C.env) Q X p.s:=by
 refine LA λhG=>?_
 obtain⟨n,y,h1,h2,r⟩:=P.lr.1 k v hv hn
 refine hG ?_
 clear hG
 (refine(dJ h1)▸?_)
 exact wpAny_Name (mK H h2 P.at' (h y r)) (H.lc n (lx h1)).2
theorem dw(H:Ok C){g:Zs}(hg:fb C.sc g=true)(a:At C m st p)(e':nsIn C.Y.K mainGlobals g=some (some x))(h:Q x p.s):wpAny C.M A (eval (nE g e) C.env) Q X p.s:=
 aEl hg λh1 h2=>nameG_K (env:=C.env) a.inv.fr H.O.X H.O.T e' h U H.hk (ld h1) (lm h2)
end
theorem vu{o:BoolOp}{b:E}:vv o b=true->∃x y,(o=.And/\b=.and x y)∨(o=.Or/\b=.or x y):=
 E.casesOn (motive:=λb=>vv o b=true->∃x y,(o=.And/\b=.and x y)∨(o=.Or/\b=.or x y)) b (λJ=>J4) (λJ J=>J4) (λJ J J=>J4) (λJ J J=>J4) (λx y h=>⟨x,y,.inl ⟨ld h,rfl⟩⟩) (λx y h=>⟨x,y,.inr ⟨ld h,rfl⟩⟩)
  (λJ J J=>J4) (λJ J J J J=>J4) (λJ J=>J4) (λJ J J=>J4) (λJ J=>J4) (λJ J=>J4) (λJ J J=>J4) (λJ J J=>J4) (λJ=>J4) (λJ=>J4) (λJ J J J=>J4) (λJ J=>J4) J4 (λJ J=>J4) (λJ J J=>J4)
theorem Dc{Q:Bool->Shared->Prop}{X:Value->Shared->Prop}{s:Shared}{y:Expr}{q:Pos}:∀{o:BoolOp},wpAny M A (isTrue y env (eval y env)) Q X s->wpAny M A (isTrue (.BoolOp o [y] q) env whole) Q X s
 | .And,h=>isTrue_and (wpAny_mono h (λc s h=>by cases c with | false=>exact h | true=>exact isTrue_and_nil h) λJ J h=>h)
 | .Or,h=>isTrue_or (wpAny_mono h (λc s h=>by cases c with | true=>exact h | false=>exact isTrue_or_nil h) λJ J h=>h)
abbrev Tl(o:BoolOp)(y:Expr)(q:Pos)(l:List Expr):Prop:=
 (∀env,eval y env=eval (.BoolOp o l q) env)/\
 (∀{M A}{Q:Bool->Shared->Prop}{X s env whole},wpAny M A (isTrue y env (eval y env)) Q X s->wpAny M A (isTrue (.BoolOp o l q) env whole) Q X s)
section
variable{o:BoolOp}{y:Expr}{q:Pos}{l:List Expr}(zz:Tl o y q l)
def Tl.e:=zz.1
def Tl.t:=@And.right _ _ zz
end
theorem qM{b:E}{sl:List Zs}{e:Expr}{o:BoolOp}(x:Expr)(h:(jz e||vv o b)=true):∃z T,Q5 o x (JK Y b sl [] (NO o e)) e=.BoolOp o (x::z::T) e.pos/\Tl o (JK Y b sl [] (NO o e)) e.pos (z::T):=by
 unfold Q5 NO
 cases h1:jz e with
 | true=>exact⟨_,[],rfl,λJ=>rfl,Dc⟩
 | false=>
  rw[h1]at h
  obtain⟨x',y',⟨rfl,rfl⟩ | ⟨rfl,rfl⟩⟩:=vu h
  ·exact⟨_,_,rfl,λJ=>rfl,λh=>h⟩
  ·exact⟨_,_,rfl,λJ=>rfl,λh=>h⟩
section
variable{b d t:E}
theorem uo(H:Ok C)(ha:JB C a)(hb:JB C b):JB C (.and a b):=λe0 hc B st p r Q hv P post=>aEl hc λh1 h2=>aEl h2 λh2 h3=>Jx hv λq hq h=>Jx h λt ht h=>by
 obtain⟨z,T,e1,e2⟩:=qM (Y:=C.Y) (sl:=C.sl) (JK C.Y a C.sl [] (JC 0 e0)) h3
 show wpAny C.M B.A (eval (Q5 _ _ _ _) _) Q B.X p.s
 (refine(e1)▸?_)
 refine BoolOp_and (ha _ h1 hq P λx q t' a' rx=>dD H rx a' ht λtk=>?_)
 rw[<- e2.e]
 cases t with
 | false=>obtain rfl:=kc h;exact post x _ (t'.trans .tk) a'.tk rx
 | true=>exact hb _ h2 h (P.to (t'.trans .tk) a'.tk) (post.after (t'.trans (.tk (t0:=tk))))
theorem x7(H:Ok C)(ha:JB C a)(hb:JB C b):JB C (.or a b):=λe0 hc B st p r Q hv P post=>aEl hc λh1 h2=>aEl h2 λh2 h3=>Jx hv λq hq h=>Jx h λt ht h=>by
 obtain⟨z,T,e1,e2⟩:=qM (Y:=C.Y) (sl:=C.sl) (JK C.Y a C.sl [] (JC 0 e0)) h3
 show wpAny C.M B.A (eval (Q5 _ _ _ _) _) Q B.X p.s
 (refine(e1)▸?_)
 refine BoolOp_or (ha _ h1 hq P λx q t' a' rx=>dD H rx a' ht λtk=>?_)
 rw[<- e2.e]
 cases t with
 | true=>obtain rfl:=kc h;exact post x _ (t'.trans .tk) a'.tk rx
 | false=>exact hb _ h2 h (P.to (t'.trans .tk) a'.tk) (post.after (t'.trans (.tk (t0:=tk))))
theorem t9(ha:Kk C a)(hb:Kk C b):Kk C (.and a b):=λe0 hc B st p r bb Q hv QU P post=>aEl hc λh1 h2=>aEl h2 λh2 h3=>Jx hv λq hq h=>Jx h λt ht h=>by
 obtain⟨z,T,e1,e2⟩:=qM (Y:=C.Y) (sl:=C.sl) (JK C.Y a C.sl [] (JC 0 e0)) h3
 show wpAny C.M B.A (isTrue (Q5 _ _ _ _) _ _) Q B.X p.s
 (refine(e1)▸?_)
 refine isTrue_and (ha _ h1 hq ht P λq t' a'=>?_)
 cases t with
 | false=>obtain rfl:=kc h;cases ht.symm.trans QU;exact post _ t' a'
 | true=>exact e2.t (hb _ h2 h QU (P.to t' a') (post.after t'))
theorem x5(ha:Kk C a)(hb:Kk C b):Kk C (.or a b):=λe0 hc B st p r bb Q hv QU P post=>aEl hc λh1 h2=>aEl h2 λh2 h3=>Jx hv λq hq h=>Jx h λt ht h=>by
 obtain⟨z,T,e1,e2⟩:=qM (Y:=C.Y) (sl:=C.sl) (JK C.Y a C.sl [] (JC 0 e0)) h3
 show wpAny C.M B.A (isTrue (Q5 _ _ _ _) _ _) Q B.X p.s
 (refine(e1)▸?_)
 refine isTrue_or (ha _ h1 hq ht P λq t' a'=>?_)
 cases t with
 | true=>obtain rfl:=kc h;cases ht.symm.trans QU;exact post _ t' a'
 | false=>exact e2.t (hb _ h2 h QU (P.to t' a') (post.after t'))
theorem um(ht:Kk C t)(ha:JB C a)(hb:JB C b):JB C (.Ju t a b):=λe0 hc B st p r Q hv P post=>aEl hc λh1 h2=>aEl h2 λh2 h3=>Jx hv λq hq h=>Jx h λu hu h=>
 IfExp_ (ht _ h1 hq hu P λq t' a'=>by
  cases u with
  | true=>exact ha _ h2 h (P.to t' a') (post.after t')
  | false=>exact hb _ h3 h (P.to t' a') (post.after t'))
theorem t6(ht:Kk C t)(ha:Kk C a)(hb:Kk C b):Kk C (.Ju t a b):=λe0 hc B st p r bb Q hv QU P post=>aEl hc λh1 h2=>aEl h2 λh2 h3=>Jx hv λq hq h=>Jx h λu hu h=>
 isTrue_IfExp (ht _ h1 hq hu P λq t' a'=>by
  cases u with
  | true=>exact ha _ h2 h QU (P.to t' a') (post.after t')
  | false=>exact hb _ h3 h QU (P.to t' a') (post.after t'))
end
section
variable{X:Value->Shared->Prop}{s:Shared}{x y r:V}{u v:Value}
theorem wz{o:NK}{i j:Int}(hu:dL i u)(hv:dL j v)(h:Gh o i j=some b)(q:Q (.bool b) s):wpAny (model W.prog W.w) A (compareOp (iU o) u v) Q X s:=by
 cases hu;cases hv
 cases o with
 | lt=>obtain rfl:=kc h;exact PySem.P.lt_int q
 | le=>obtain rfl:=kc h;exact PySem.P.le_int q
 | gt=>obtain rfl:=kc h;exact PySem.P.gt_int q
 | ge=>obtain rfl:=kc h;exact PySem.P.ge_int q
 | eq=>obtain rfl:=kc h;exact PySem.P.eq_int q
 | ne=>obtain rfl:=kc h;exact PySem.P.ne_int q
 | _=>exact nS h
theorem wx{o:NK}{i j:Tx}(hu:Ke i u)(hv:Ke j v)(h:Gf o i j=some b)(q:Q (.bool b) s):wpAny (model W.prog W.w) A (compareOp (iU o) u v) Q X s:=by
 cases hu;cases hv
 cases o with
 | lt=>obtain rfl:=kc h;exact PySem.P.lt_str q
 | le=>obtain rfl:=kc h;exact PySem.P.le_str q
 | eq=>obtain rfl:=kc h;exact PySem.P.eq_str q
 | ne=>obtain rfl:=kc h;exact PySem.P.ne_str q
 | LO=>exact Kc h λd hd e=>PySem.P.in_str (by (refine(kA hd)▸?_;rewrite[show J1 [d]=⟨#[d]⟩ from rfl];rw[StrLaws.found_one]);exact e▸q)
 | nin=>exact Kc h λd hd e=>PySem.P.notIn_str (by (refine(kA hd)▸?_;rewrite[show J1 [d]=⟨#[d]⟩ from rfl];rw[StrLaws.found_one]);exact e▸q)
 | _=>exact nS h
theorem wy{o:NK}(hu:VR Y φ am x u)(hv:VR Y φ am y v)(h:Gg o x y=some b)(q:Q (.bool b) s):wpAny (model W.prog W.w) A (compareOp (iU o) u v) Q X s:=by
 have key:∀{z:Bool},af ((bf x&&(aU y).isSome)||((aU x).isSome&&bf y)) z=some b->z=b/\((u=.none/\∃s t,v=.str s t)∨((∃s t,u=.str s t)/\v=.none)):=λh=>KN h λh1 h2=>⟨h2,(my h1).elim
  (λh=>aEl h λa1 a2=>.inl ⟨hu.nul a1,(Option.isSome_iff_exists.mp a2).elim λz hz=>by cases hv.str hz;exact⟨_,_,rfl⟩⟩) λh=>aEl h λa1 a2=>.inr ⟨(Option.isSome_iff_exists.mp a1).elim λz hz=>by cases hu.str hz;exact⟨_,_,rfl⟩,hv.nul a2⟩⟩
 cases o with
 | eq=>
  obtain⟨rfl,⟨rfl,b,t,rfl⟩ | ⟨⟨b,t,rfl⟩,rfl⟩⟩:=key h
  ·exact EqNone.eq_none_str q
  ·exact EqNone.eq_str_none q
 | ne=>
  obtain⟨rfl,⟨rfl,b,t,rfl⟩ | ⟨⟨b,t,rfl⟩,rfl⟩⟩:=key h
  ·exact EqNone.ne_none_str q
  ·exact EqNone.ne_str_none q
 | _=>exact nS h
theorem fX{o:NK}(hu:VR Y φ am x u)(hv:VR Y φ am y v)(h:cop o x y=some b)(q:Q (.bool b) s):wpAny (model W.prog W.w) A (compareOp (iU o) u v) Q X s:=
 Ml h (λh=>Jx h λa ha h=>Jx h λc hc h=>wz (hu.int ha) (hv.int hc) h q) λh=>Ml h (λh=>Jx h λa ha h=>Jx h λc hc h=>wx (hu.str ha) (hv.str hc) h q) λh=>wy hu hv h q
theorem jN(a b:Tx):J1 a++J1 b=J1 (a++b):=kg PySem.Str.mk (List.append_toArray a b)
theorem B9(k:Nat)(a acc:Array Nat):((List.replicate k a).foldl (·++·) acc).toList=acc.toList++(List.replicate k a.toList).flatten:=by
 induction k generalizing acc with
 | zero=>exact(mh _).symm
 | succ k ih=>(refine(List.replicate_succ)▸?_;refine(List.foldl_cons).symm▸?_;rewrite[ih];refine(List.replicate_succ)▸?_;refine(Sz).symm▸?_;refine(Array.toList_append).symm▸?_;rw[lq])
theorem r8{n:Nat}{k:Int}(hp:0 < n)(h:n*k.toNat<=JL):k<=JL:=Ta (Int.self_le_toNat k) (Int.ofNat_le.mpr (ke (Nat.le_mul_of_pos_left _ hp) h))
theorem yD{n:Nat}{k:Int}(hk:1 < k)(h:n*k.toNat<=JL):¬ (n:Int) > (2 ^ 63 - 1) / k:=by
 have h2:(n:Int)*k<=JL:=by (refine(Int.toNat_of_nonneg (SN (Int.lt_trans (by decide) hk)))▸?_;rw[<- Int.natCast_mul]);exact Int.ofNat_le.mpr h
 exact Int.not_lt.mpr ((Int.le_ediv_iff_mul_le (Int.lt_trans (by decide) hk)).mpr (Ta h2 (by decide)))
theorem yC{k:Int}(h:-1000000<=k)(h':k<=JL):(decide (k < -(2 ^ 63:Int))||decide (k ≥ 2 ^ 63))=false:=by
 rw[gq]at h'
 rw[decide_eq_false (by lia),decide_eq_false (by lia)];rfl
theorem wM{a:Tx}{k:Int}(hu:Ke a u)(hv:dL k v)(h:sO .mul a k=some r)(q:∀tk z,VR Y φ am r z->Q z { s with toks:=tk}):wpAny (model W.prog W.w) A (binaryOp .Mult u v) Q X s:=KN h λhz e=>by
 subst e
 obtain⟨Ru,Rt⟩:=ly hz
 obtain⟨hz0,Ru⟩:=ly Ru
 rw[decide_eq_true_eq]at Ru Rt
 cases hu with | mk t ha=>
 cases hv with | mk w=>
 have O4:0 < a.length:=List.length_pos_iff.mpr λe=>by subst e;exact J4 hz0
 have hk:=r8 O4 Rt
 have hval:((List.replicate k.toNat a).flatten).length<=JL:=by
  (refine(List.length_flatten)▸?_;refine(List.map_replicate)▸?_;refine(List.sum_replicate_nat)▸?_;rw[Nat.mul_comm]);exact Rt
 refine PySem.P.mul_str (yC Ru hk) (λh1 h2=>yD (by rw[Bool.or_eq_false_iff,beq_eq_false_iff_ne]at h2;lia) Rt) (λh1 J=>decide_eq_false (Nat.not_lt.mpr (cG Rt))) ?_
 have fin:∀{y:Zs},y.cps.toList=(List.replicate k.toNat a).flatten->∀tk t,Q (.str y t) { s with toks:=tk}:=λ{y} e tk t=>q tk _ (by (refine(nZ y)▸?_;refine(e).symm▸?_);exact Ke.mk t hval)
 by_cases h1:k < 1
 ·(refine(if_pos h1)▸?_)
  exact⟨by decide,fin (by rw[show k.toNat=0 by lia];rfl) _ _⟩
 ·(refine(if_neg h1)▸?_)
  by_cases h2:(k==1||(J1 a).length==0)=true
  ·(refine(if_pos h2)▸?_)
   have:k=1:=(my h2).elim ld λh=>absurd (ld h) (SF O4)
   exact fin (by (refine(this)▸?_);exact(mh a).symm) _ _
  ·(refine(if_neg h2)▸?_)
   have e:=B9 k.toNat (J1 a).cps #[]
   refine⟨?_,fin e _ _⟩
   show Array.size _<=sizeLine
   (refine(Array.length_toList)▸?_;refine(e)▸?_)
   exact cG hval
theorem qX{f:Value->Value->Sem Value}{a b:Tx}(hu:Ke a u)(hv:Ke b v)(h:Df .add a b=some r)(q:∀tk z,VR Y φ am r z->Q z { s with toks:=tk})(k:∀t u,(∀t' tk,Q (.str (J1 a++J1 b) t') { s with toks:=tk})->(J1 a).length+(J1 b).length<=sizeLine->wpAny M A (f (.str (J1 a) t) (.str (J1 b) u)) Q X s):wpAny M A (f u v) Q X s:=KN h λhz e=>by
 subst e
 have hz:=kj hz
 cases hu with | mk t ha=>
 cases hv with | mk w=>
 exact k t w (λt' tk=>q tk _ (by rw[jN];exact Ke.mk t' (by (refine(ku)▸?_);exact hz))) (cG hz)
theorem x8{a b:Int}(h:0 < b)(h':b<=1000000):Builtin.divisionGoesByPylong a b=false:=PyProof.noPylong_small (by omega)
theorem zZ{o:NL}(hu:VR Y φ am x u)(hv:VR Y φ am y v)(h:bop o x y=some r)(q:∀tk z,VR Y φ am r z->Q z { s with toks:=tk}):wpAny (model W.prog W.w) A (binaryOp (wN o) u v) Q X s:=
 Ml h (λh=>Jx h λa ha h=>Jx h λb hb h=>by
  have hu:=hu.int ha
  have hv:=hv.int hb
  cases hu;cases hv
  cases o with
  | add=>obtain rfl:=kc h;exact PySem.P.add_int (q _ _ (dL.mk _))
  | sub=>obtain rfl:=kc h;exact PySem.P.sub_int (q _ _ (dL.mk _))
  | mul=>exact KN h λhz e=>PySem.P.mul_int (q _ _ (e▸dL.mk _)) ((my hz).elim (λh=>ld h▸IntMulOk.of_left (by decide)) λh=>(my h).elim (λh=>ld h▸IntMulOk.of_left (by decide)) λh=>ld h▸IntMulOk.of_right (by decide))
  | mod=>exact KN h λhz e=>PyProof.Rows.mod_int (Int.ne_of_gt (kj hz)) (q _ _ (e▸dL.mk _))
  | fdiv=>exact KN h λhz e=>aEl hz λhz h2=>PyProof.Rows.floordiv_int (Int.ne_of_gt (kj hz)) (q _ _ (e▸dL.mk _)) (.inl (x8 (kj hz) (kj h2))))
 λh=>Ml h (λh=>Jx h λa ha h=>Jx h λb hb h=>by
  cases o with
  | add=>exact qX (f:=binaryOp .Add) (hu.str ha) (hv.str hb) h q λt u h1 h2=>PyProof.Rows.add_str h1 h2
  | _=>exact nS h) λh=>Jx h λa ha h=>Jx h λb hb h=>by
  cases o with
  | mul=>exact wM (hu.str ha) (hv.int hb) h q
  | _=>exact nS h
theorem qg{o:NL}(ho:oV o=true)(hu:VR Y φ am x u)(hv:VR Y φ am y v)(h:bop o x y=some r)(q:∀tk z,VR Y φ am r z->Q z { s with toks:=tk}):wpAny (model W.prog W.w) A (inplaceOp (wN o) u v) Q X s:=
 Ml h (λh=>Jx h λa ha h=>Jx h λb hb h=>by
  have hu:=hu.int ha
  have hv:=hv.int hb
  cases hu;cases hv
  cases o with
  | add=>obtain rfl:=kc h;exact PySem.P.iadd_int (q _ _ (dL.mk _))
  | sub=>obtain rfl:=kc h;exact PySem.P.isub_int (q _ _ (dL.mk _))
  | _=>exact J4 ho)
 λh=>Ml h (λh=>Jx h λa ha h=>Jx h λb hb h=>by
  cases o with
  | add=>exact qX (f:=inplaceOp .Add) (hu.str ha) (hv.str hb) h q λt u h1 h2=>PyProof.Rows.iadd_str h1 h2
  | _=>exact nS h) λh=>Jx h λa ha h=>Jx h λb hb h=>by
  cases o with
  | mul=>exact J4 ho
  | _=>exact nS h
end
theorem aW{sl ps:List Zs}{e:Expr}(i:E):J9 Y sc i sl ps e=true->Mz (JK Y i sl ps e)=true:=
 E.casesOn (motive:=λi=>J9 Y sc i sl ps e=true->Mz (JK Y i sl ps e)=true) i (λo=>O0.casesOn (motive:=λo=>ok0 o e=true->Mz (op0 sl o e)=true) o (λh=>aEl h λh J=>h) (λJ J=>rfl) (λJ J=>rfl) λJ J=>rfl)
  (λo a J=>O1.casesOn (motive:=λo=>Mz (op1 Y o (JK Y a sl [] (xM o e)) e)=true) o U (λJ=>rfl) (λJ=>rfl) U (λJ J=>rfl) U U (λJ=>rfl) (λJ=>rfl) U U)
  (λo a b J=>O2.casesOn (motive:=λo=>Mz (op2 o (JK Y a sl [] (pv o e)) (JK Y b sl [] (pr o e)) e)=true) o (λJ=>rfl) (λJ=>rfl) U (λt=>by cases t <;> rfl) U U U U U U)
  (λJ J J J=>rfl) (λJ J J=>rfl) (λJ J J=>rfl) (λJ J J J=>rfl) (λJ J J J J J=>rfl) (λJ J J=>rfl) (λJ J J J=>rfl) (λJ J J=>rfl) (λJ J J=>rfl) (λJ J J J=>rfl) (λJ J J J=>rfl) (λJ J=>rfl) (λJ J=>rfl) (λJ J J J J=>rfl) (λJ J J=>rfl) (λJ=>rfl) (λJ J J=>rfl) (λJ J J J=>rfl)
theorem cx{b:Expr}(h:bJ b=true)(attr:Zs)(pos:Pos)(env:Env):eval (.Attribute b attr pos) env=(do
   let o <- eval b env
   standAt pos.atName
   let r <- holding [o] (getAttr o attr true)
   letTemporaryGo b o r
   pure r):=by cases b <;> first | rfl | exact J4 h
theorem bu{b:Expr}(h:bJ b=true)(a:Zs)(env:Env):attributeBase b a env (eval b env)=eval b env:=by cases b <;> first | rfl | exact J4 h
theorem bC{e:Expr}{r:List Expr}(h:Mz e=true):starEach (e::r) env=(false,eval e env)::starEach r env:=by cases e <;> first | rfl | exact J4 h
theorem BP{e:Expr}(h:Mz e=true)(o i:Value):subscripted e false o i=operate [o,i] (getItem o i):=by cases e <;> first | rfl | exact J4 h
theorem yF{e:Expr}{x:Zs}{t:Tok}(r:Value):letTemporaryGo e (.str x t) r=pure ():=by cases e <;> rfl
theorem nz{x:Expr}(h:Mz x=true):backTo pos (starEach [x] env)=[(false,eval x env)]:=by (refine(bC h)▸?_);rfl
theorem qP{x y:Expr}(h:Mz x=true)(h':Mz y=true):backTo pos (starEach [x,y] env)=[(false,eval x env),(false,eval y env)]:=by (refine(bC h)▸?_;refine(bC h')▸?_);rfl
def U1(C:Cf)(o:O1):Prop:=∀x e,ER C.Y C.sc o x e=true->Mz x=true->∀{B:Bk}{st:St}{p:Pt}{r w:V×St}{Q:Value->Shared->Prop},
 f1 C.c o r.1 r.2=some w->Pre C B st p->i8 C B p x r->LS C B p w Q->wpAny C.M B.A (eval (op1 C.Y o x e) C.env) Q B.X p.s
section
variable{B:Bk}{m:Zs->Option Value}{p:Pt}{r:V×St}{v w:V}{x:Value}{X:Value->Shared->Prop}{e f:Expr}{tk:Tok}{d:E}
@[elab_as_elim] theorem At.LY{P:Value->Prop}{q:(Nat×Nat)×Nat×List (Nat×V)}(a:At C m st p)(hl:LY st v=some q)(r:C.V p v x)
  (k:∀a d es n cs,p.ad.JR[q.1.1]?=some cs->cs[q.1.2]?=some [(a,instObj (C.Y.JW q.2.1) d),(d,dictOf es n)]->InstAt p.s.heap a (instObj (C.Y.JW q.2.1) d) (C.Y.JW q.2.1) (some (dictOf es n))->q.2.1 < 2->FR C.Y p.φ ⟨cs.map adr,[]⟩ q.2.2 es->P (.ref a)):P x:=
 Jx hl λi h1 h=>Jx h λR h2 h=>Jx h λo h3 h=>Kc h λl h4 e=>by
  subst e
  rw[jM h4]at h3
  obtain⟨cs,LI,hr⟩:=a.rep.JR.get h2
  obtain⟨c,hc,hr⟩:=Jp.get hr h3
  cases (wW h1▸r:VR C.Y p.φ p.ad.am (.em i.1 i.2) x) with
  | mk e1 e2=>
  cases e1.symm.trans (dg (List.map adr) LI)
  cases e2.symm.trans (dg adr hc)
  refine hr.LY λz d es n e3 lt f1 J J=>?_
  subst e3
  exact k z d es n cs LI hc ⟨a.inv.get (lg (.inl (Ad.memE LI hc (.head _)))),rfl,rfl,a.inv.get (lg (.inl (Ad.memE LI hc (.tail _ (.head _)))))⟩ lt f1
theorem se{cs:List Led}(LI:p.ad.JR[j]?=some cs)(h:A3 j v=some w)(r:VR C.Y p.φ ⟨cs.map adr,[]⟩ v x):C.V p w x:=by
 cases v with
 | b=>obtain rfl:=kc h;exact r
 | rc=>obtain rfl:=kc h;exact r
 | ref i=>obtain rfl:=kc h;cases r with | mk e=>exact EmX.mk (dg (List.map adr) LI) e
 | _=>exact nS h
theorem qR(H:Ok C)(hk:64<=k/\k < 126)(a:At C m st p)(r:C.V p v x)(hf:iN k v st=some w)(h:∀y,C.V p w y->Q y (p.tk (p.s.toks+1)).s):wpAny C.M A (getAttr x (C.Y.nm k) b) Q X p.s:=
 have k128:k < 128:=SG hk.2 (by decide)
 Ml hf (λhf=>Jx hf λz hz hf=>Kc hf λy hy e=>by
  subst e
  refine a.rc (r.rc hz) λq d es n lt I g=>?_
  obtain⟨_,u,hu,ru⟩:=g _ _ hy
  exact get_own a.inv.fr H.O.X I (H.K.rGet _ lt) (H.K.rHas _ lt) (H.K.rAtt _ _ lt hk.1 hk.2) U hu (VR.handed (v:=.b y) (Y:=C.Y) (am:=p.ad.am) ru) (h u ru))
 λhf=>Ml hf (λhf=>Jx hf λz hz hf=>by
  refine a.ins hz r λz' d es n hc I lt g J J=>?_
  obtain⟨u,hu,ru⟩:=(g k k128).1 _ hf
  exact get_own a.inv.fr H.O.X I (H.K.ML _ lt) (H.K.Od _ lt) (H.K.P6 _ _ lt hk.1 hk.2) U hu ru.handed (h u ru))
 λhf=>Jx hf λz hz hf=>Jx hf λy hy hf=>by
  refine a.LY hz r λz' d es n cs LI hc I lt g=>?_
  obtain⟨u,hu,ru⟩:=(g k k128).1 _ hy
  exact get_own a.inv.fr H.O.X I (H.K.ML _ lt) (H.K.Od _ lt) (H.K.P6 _ _ lt hk.1 hk.2) U hu ru.handed (h u (se LI hf ru))
theorem BE(H:Ok C)(k:Nat):U1 C (.JY k):=λx e hc hs B st p r w Q hf P D post=>aEl hc λhb h1=>Kc hf λz hz e'=>by
 subst e'
 exact Attribute_any_ (D p.s.toks λy q t a ry=>qR H (kj h1) a ry hz λu ru=>post u _ (t.trans .tk) a.tk ru) (cx hb _ _ _)
theorem BB(H:Ok C)(k:Nat):U1 C (.LH k):=λx e hc hs B st p r w Q hf P D post=>aEl hc λhb h1=>Jx hf λz hz hf=>KN hf λhg e'=>aEl hg λh2 h3=>by
 subst e'
 have hk:=kj h1
 obtain⟨f1,f2,f3,f5⟩:=H.K.mFn k (SG hk (by decide))
 refine Attribute_any_ (D p.s.toks λy q t a ry=>?_) (cx hb _ _ _)
 refine a.ins hz ry λz' d es n hc I lt g J J=>?_
 have NU:=(g k (SG hk (by decide))).2 (Option.isNone_iff_eq_none.mp h3)
 rw[ld h2]at I lt
 refine get_bind (a.K H.O) I (plainGet_of (H.K.ML _ lt)).1 (findObj_fn (H.K.Od _ lt) (H.K.mEm k hk) f2 f3 f5 (show lookIn _ (dictOf es n)=_ by (rewrite[lookIn_dict];exact(NU).symm▸rfl))) (plainGet_of (H.K.ML _ lt)).2
  (wpAny_call (fn_get (s:={ q.s with toks:=q.s.toks+1}) (a.K H.O) (ld f1) (handed_on U ?_)))
 exact a.freeze (mf _) (a.inv.fr.push (methodObj (.ref (C.Y.fn k)) (.ref z'))) (a.inv.nw.push a.inv.fr _) λt' a'=>post _ _ (t.trans t') a' (Dp.mk hk (dg adr hc) (.head _))
theorem BA(H:Ok C):U1 C .not:=λx e hc hs B st p r w Q hf P D post=>Kc hf λz hz e'=>by
 subst e'
 exact UnaryOp_ (D p.s.toks λy q t a ry=>not_of (dD H ry a hz λtk=>post _ _ (t.trans .tk) a.tk U))
theorem BM(ha:Kk C a):Kk C (.u1 .not a):=λe0 hc B st p r b Q hv ht P post=>aEl hc λhc J=>Jx hv λq hq h=>Kc h λz hz e'=>by
 subst e'
 obtain rfl:=kc ht
 exact isTrue_not (ha _ hc hq hz P λq t a=>post q t a)
theorem Fi{z:Bool}(r:C.V p v x)(hf:f1 C.c (.isNone z) v st=some (w,Jy))(h:∀b,w=.b (.bool b)->st=Jy->Q (.bool b) p.s):wpAny C.M A (compareOp (isA z) x .none) Q X p.s:=KN hf λhu e=>by
 obtain⟨rfl,rfl⟩:=Ti e
 have h:=h _ U U
 refine r.shape.elim (λz1=>?_) λz1=>?_
 ·rw[z1.1]at h;(refine(z1.2).symm▸?_)
  cases z
  ·exact wpAny_isNot_self U h
  ·exact wpAny_is_self U h
 ·have h2:bf v=false:=(Bool.eq_false_or_eq_true _).elim (λh=>(z1.2.1 (r.nul h)).elim) id
  rw[h2]at h
  have hp:plainIs x .none=true:=by cases x <;> first | rfl | exact absurd U (z1.1 _)
  cases z
  ·exact wpAny_isNot_other hp z1.2.1 h
  ·exact wpAny_is_other hp z1.2.1 h
theorem rg(z:Bool):U1 C (.isNone z):=λx e hc hs B st p r w Q hf P D post=>
 wpAny_Compare1 (D p.s.toks λy q t a ry=>Constant_none (Fi ry hf λb e e2=>post _ _ t (e2▸a) (e▸rfl))) (by cases z <;> rfl)
theorem ri{z:Bool}(ha:JB C a):Kk C (.u1 (.isNone z) a):=λe0 hc B st p r b Q hv ht P post=>aEl hc λhc J=>Jx hv λq hq h=>
 wpAny_isTrue_Compare1 (ha _ hc hq P λy q t a ry=>Constant_none (Fi ry h λb' e e2=>wpAny_truthy_bool (by rw[e]at ht;obtain rfl:=kc ht;exact post q t (e2▸a)))) (by cases z <;> rfl)
theorem gC(H:Ok C){g:String}{id:Value}(hg:fb C.sc (PySem.Str.ofString g)=true)(Oi:g∈["len", "all", "isinstance", "sorted", "range", "enumerate"])(hb:bootBuiltins (PySem.Str.ofString g)=some id)(hn:(PySem.Str.ofString g) ≠ "__name__")
  (a:At C m st p) (args:List Expr) (h:wpAny C.M A (callWith pos id [] (backTo pos (starEach args C.env)) []) Q X p.s):wpAny C.M A (eval (.Call (nE (PySem.Str.ofString g) e) args [] pos) C.env) Q X p.s:=aEl hg λh1 h2=>
 wpAny_Call_Name_kw (Name_function_global (env:=C.env) H.hk (ld h1) (loadGlobal_builtin (env:=C.env) (H.O.T.g.keeps a.inv.fr.keep) (mg_none_of H.O.X H.O.T.g (H.K.gBi g Oi)) (H.O.T.b.keeps a.inv.fr.keep) ((H.O.T.builtins _ hn).trans hb) h) (lm h2))
theorem BC(H:Ok C):U1 C .len:=λx e hc hs B st p r w Q hf P D post=>by
 refine gC H hc (by simp) (by boot_by_name) (by decide) P.at' [x] ?_
 (refine(nz hs)▸?_)
 refine callWith_builtin1 (D p.s.toks λy q t a ry=>?_)
 refine Ml hf (λhf=>Kc hf λz hz e'=>?_) λhf=>Kc hf λz hz e'=>?_
 ·subst e'
  cases ry.str hz with | mk u hl=>exact PySem.P.len_str (AU hl) (post _ _ (t.trans .tk) a.tk (dL.mk _))
 ·subst e'
  exact a.lst hz ry λz' xs n hc hg hx hl=>call_len_list (aD hg) (by (refine(SQ)▸?_;refine(hx.length)▸?_);exact jW hl) (post _ _ (t.trans .tk) a.tk (by (refine(SQ).symm▸?_;refine(hx.length)▸?_);exact dL.mk _))
theorem sP(h:Jp (C.V p) l xs):∀{bs:List Bool},l.mapM (λv=>(Mv v).bind Internal.B.bool?)=some bs->LSm.BoolsAre xs bs:=by
 induction h with
 | nil=>intro bs hb;obtain rfl:=kc hb;exact .nil
 | cons r _ ih=>
  intro bs hb
  rw[SY]at hb
  refine Jx hb λb h1 hb=>Jx hb λbs' h2 hb=>Jx h1 λy hy h1=>?_
  obtain rfl:=kc hb
  have r:=r.B hy
  obtain rfl:=bool?_inv h1
  cases r
  exact .cons _ (ih h2)
theorem xH(H:Ok C)(P9:C.hs=true):U1 C .Mw:=λx e hc hs B st p r w Q hf P D post=>by
 refine gC H hc (by simp) (by boot_by_name) (by decide) P.at' [x] ?_
 (refine(nz hs)▸?_)
 refine callWith_builtin1 (D p.s.toks λy q t a ry=>?_)
 refine Jx hf λz hz hf=>Kc hf λbs hb e'=>?_
 subst e'
 exact a.lst hz ry λz' xs n hc hg hx hl=>LSm.all_bools a.inv.fr a.inv.nw (P.rm P9).h (aD hg) (sP hx hb) λh' tk F' N'=>post _ _ (t.trans (.h (t0:=tk) (h:=h'))) (a.h F' N') U
theorem cw2{s:Shared}{id:String}{t u:Sem Value}(h:wpAny M A t (λv JV=>wpAny M A u (λz Kw=>wpAny M A (call (.builtin id) [v,z]) Q X Kw) X JV) X s) :
  wpAny M A (callWith pos (.builtin id) [] [(false,t),(false,u)] []) Q X s:=
 callWith_of (P:=λJ=>True) U (λh J=>⟨_,.inr (.inl U),Looks.of_pure U⟩) (evalArgs_plain (Calls.spliced_cons (wpAny_mono h (λv JV J5=>Calls.spliced_cons (wpAny_mono J5 (λz Kw KR=>Calls.spliced_nil ⟨trivial,KR⟩) λJ J x=>x)) λJ J x=>x)))
theorem qU(H:Ok C){k:Nat}(hk:k < 15):∀cs:List Nat,(∀d∈cs,d < 14)->kitAny C.Y.K (.ref (C.Y.J7 k)) (cs.map λd=>.ref (C.Y.J7 d))=some (cs.any λd=>tQ C.c k d)
 | [],_=>rfl
 | d::cs,hd=>by
  (refine(Sh)▸?_;rewrite[kitAny];refine(H.K.rSub k d hk (hd d (.head _)))▸?_;refine(List.any_cons)▸?_)
  cases tQ C.c k d
  ·exact qU H hk cs λx hx=>hd x (.tail _ hx)
  ·rfl
theorem ng(H:Ok C){pos:Pos}(a:At C m st p):∀(cs:List Nat)(es:List Expr)(Q:List Value->Shared->Prop),es.length=cs.length->(∀d∈cs,d < 14/\fb C.sc (C.Y.cn d)=true)->Q (cs.map λd=>.ref (C.Y.J7 d)) p.s->
  wpAny C.M A (spliced (backTo pos (starEach ((cs.zip es).map λp=>nE (C.Y.cn p.1) p.2) C.env))) Q X p.s
 | [],_,Q,_,_,h=>Calls.spliced_nil h
 | d::cs,[],Q,hl,_,h=>nomatch hl
 | d::cs,e::es,Q,hl,hc,h=>Calls.spliced_cons (x:=eval (nE (C.Y.cn d) e) C.env) (dw H (hc d (.head _)).2 a (H.K.RC d (SG (hc d (.head _)).1 (by decide))) (ng H a cs es _ (Tb hl) (λd hd=>hc d (.tail _ hd)) h))
theorem BD(H:Ok C)(tup:Bool)(cs:List Nat):U1 C (.KZ tup cs):=λx e hc hs B st p r w Q hf P D post=>aEl hc λhc h3=>aEl hc λhg h2=>Kc hf λz hz e'=>by
 subst e'
 have LI:∀d∈cs,d < 14/\fb C.sc (C.Y.cn d)=true:=λd hd=>aEl (ma h2 d hd) λh1 h2=>⟨kj h1,h2⟩
 refine gC H hg (by simp) (by boot_by_name) (by decide) P.at' _ ?_
 have kit:∀{q:Pt}{z' d:Addr}{es:List DictEntry}{k:Nat},z.1 < 15->_:=λ{q} {z' d} {es} {k} lt=>kitx_own (x:=z') (ox:=instObj (C.Y.J7 z.1) d) (od:=dictOf es k) (H.K.rGet z.1 lt) (H.K.rHas _ lt) (H.K.rCls _ lt) H.K.RJ H.K.RI (H.K.rObj _ lt)
 cases tup with
 | true=>
  refine aEl h3 λh4 h5=>?_
  rw[qP hs U]
  refine cw2 (D p.s.toks λy q t a ry=>Tuple_ (ng H a cs _ _ (ld h5) LI ?_))
  refine newTuple_N a.inv.fr a.inv.nw (λQY F' N'=>?_) (by rw[lf];exact cG (ke (kj h4) (by decide)))
  have a':=a.h (t0:=q.s.toks) F' λp hp=>N' p (.tail _ hp)
  refine a'.rc (ry.rc hz) λz' d es n lt I g=>?_
  exact kia_tup (s:={ q.s with heap:=QY}) (kit (q:=q) (z':=z') (d:=d) (es:=es) (k:=n) lt) (a'.K H.O) I (N' _ (.head _)).1 (qU H lt _ λd hd=>(LI d hd).1) (by intro e;cases e) λPV=>post _ _ ((t.trans .h).trans .tk) (a'.tk (t0:=PV)) U
 | false=>
  cases cs with
  | nil=>exact J4 h3
  | cons d cs=>
  cases cs with
  | cons=>exact J4 h3
  | nil=>
  rw[qP hs U]
  refine cw2 (D p.s.toks λy q t a ry=>dw H (LI d (.head _)).2 a (H.K.RC d (SG (LI d (.head _)).1 (by decide))) ?_)
  exact a.rc (ry.rc hz) λz' d' es n lt I g=>kia_one (kit (q:=q) (z':=z') (d:=d') (es:=es) (k:=n) lt) (a.K H.O) I (H.K.rSub _ _ lt (LI d (.head _)).1) (by intro e;cases e) λPV=>post _ _ (t.trans .tk) (a.tk (t0:=PV)) (show Value.bool _=Value.bool _ by simp)
end
theorem mI{id:String}(h:Heap):∃k,(k=Keeper.frame∨k=Keeper.machine∨k=Keeper.boundFrame)/\Looks M h (keeperOf (.builtin id)) k:=⟨_,.inr (.inl U),Looks.of_pure U⟩
section
variable{B:Bk}{m:Zs->Option Value}{p:Pt}{r:V×St}{v w:V}{x:Value}{X:Value->Shared->Prop}{e f:Expr}{tk:Tok}{d:E}{s:Shared}
theorem Da{id:String}(h:wpAny M A (call (.builtin id) (first++[])) Q X s):wpAny M A (callWith pos (.builtin id) first [] []) Q X s:=
 callWith_of (P:=λJ=>True) U (λh J=>mI h) (evalArgs_nil3 ⟨trivial,h⟩)
theorem C9{id:String}{t:Sem Value}(h:wpAny M A t (λv JV=>wpAny M A (call (.builtin id) (first++[v])) Q X JV) X s):wpAny M A (callWith pos (.builtin id) first [(false,t)] []) Q X s:=
 callWith_of (P:=λJ=>True) U (λh J=>mI h) (evalArgs_plain (Calls.spliced_cons (wpAny_mono h (λJ J J5=>Calls.spliced_nil ⟨trivial,J5⟩) λJ J x=>x)))
theorem fH{nm:Zs}{id:String}{l:Addr}(slot:Slot "list" nm id)(hty:typeOf (.builtin id)=pure (.type "method_descriptor"))(hg:s.heap.get? l=some (aS xs k))(h:wpAny (model W.prog W.w) A (callWith pos (.builtin id) [.ref l] args []) Q X s) :
  MethodOnS W.prog W.w A X nm (.ref l) pos args Q s:=⟨"list",id,PySem.F.plainAttrs_list,slot,hty,⟨_,hg,rfl⟩,λa e=>(Value.ref.inj e)▸⟨_,hg,rfl⟩,h⟩
theorem mZ{nm:Zs}{id:String}{l:Addr}(slot:Slot "dict" nm id)(hty:typeOf (.builtin id)=pure (.type "method_descriptor"))(hg:s.heap.get? l=some (dictOf es k))(h:wpAny (model W.prog W.w) A (callWith pos (.builtin id) [.ref l] args []) Q X s) :
  MethodOnS W.prog W.w A X nm (.ref l) pos args Q s:=⟨"dict",id,PySem.F.plainAttrs_dict,slot,hty,⟨_,hg,rfl⟩,λa e=>(Value.ref.inj e)▸⟨_,hg,rfl⟩,h⟩
theorem At.M9{i k':Nat}(a:At C m st p)(hc:p.ad.cur[i]?=some [(z,aS xs k)])(rx:Jp (C.V p) l' PQ)(hz:l'.length<=JL)
  (g:Upd z (aS xs k) (aS PQ k') (p.ad.led++(p.φ++p.ul)) ((p.ad.set i [(z,aS PQ k')]).led++(p.φ++p.ul))->(∀h tk,Fr C.hB C.L h m->News C.hB C.L h ((p.ad.set i [(z,aS PQ k')]).led++(p.φ++p.ul))->
   To p (p.mv h tk (p.ad.set i [(z,aS PQ k')]) p.φ)/\At C m (bx st i (.lst l')) (p.mv h tk (p.ad.set i [(z,aS PQ k')]) p.φ))->G):G:=
 a.turn (pre:=[]) (post:=[]) hc (aS PQ k') U (.lst rx hz) g
theorem yJ{b:Value}(e:xs=xs.dropLast++[b]):kl_last xs=some (xs.dropLast,b):=(kg kl_last e).trans (kpa_last b _)
theorem Bz(fr:Bool):U1 C (.pop fr):=λx e hc hs B st p r w Q hf P D post=>aEl hc λhb hl=>Jx hf λl Nb hf=>by
 cases fr with
 | false=>
  refine Kc (o:=l.2.getLast?) hf λu hu e'=>?_
  subst e'
  refine Call_method0 (bu hb _ _) hl (D p.s.toks λy q t a ry=>a.lst Nb ry λz xs n hc hg hx hz=>?_)
  obtain⟨b,eb,rb,hr⟩:=hx.last hu
  refine a.M9 (k':=n+1) hc hr (List.length_dropLast▸ke (Nat.sub_le _ _) hz) λRZ go=>fH PySem.F.slot_list_pop PySem.F.type_list_pop hg (Da ?_)
  exact kl_pop a.inv.fr a.inv.nw (yJ eb) RZ (show xs.length<=sizeLine from hx.length▸cG hz) λh F' N'=>post b _ (t.trans (go h _ F' N').1) (go h _ F' N').2 ((go h _ F' N').1.vr rb)
 | true=>
  refine Kc (o:=l.2.head?) hf λu hu e'=>?_
  subst e'
  refine Call_method1 (bu hb _ _) U hl (D p.s.toks λy q t a ry=>a.lst Nb ry λz xs n hc hg hx hz=>?_)
  obtain⟨i,l⟩:=l
  cases hx with
  | nil=>exact nS hu
  | cons rb hr=>
  obtain rfl:=kc hu
  refine a.M9 (k':=n+1) hc hr (mq hz) λRZ go=>fH PySem.F.slot_list_pop PySem.F.type_list_pop hg (C9 (wpAny_Constant_int ?_))
  exact kl_popAt (i:=0) (k:=0) (p:=[]) (s:={ q.s with toks:=q.s.toks+1}) a.inv.fr a.inv.nw U (if_pos (by simp)) U RZ (show List.length _<=sizeLine from(Jp.cons rb hr).length▸cG hz) λh F' N'=>post _ _ (t.trans (go h _ F' N').1) (go h _ F' N').2 ((go h _ F' N').1.vr rb)
theorem px(x:Jp (VR Y φ am) vs xs):∀{ss:List Tx},vs.mapM aU=some ss->∃l:List (Zs×Tok),xs=strValues l/\l.map (·.1)=ss.map J1:=by
 induction x with
 | nil=>intro ss h;obtain rfl:=kc h;exact⟨[],rfl,rfl⟩
 | cons r _ ih=>
  intro ss h
  rw[SY]at h
  refine Jx h λt ht h=>Jx h λts Rw e=>?_
  obtain rfl:=kc e
  obtain⟨l,rfl,hl⟩:=ih Rw
  cases r.str ht with | mk u _=>exact⟨(_,u)::l,rfl,kg (_::·) hl⟩
theorem sF(ss:List Tx):PySem.Txt.join (J1 []) (ss.map J1)=J1 ss.flatten:=by
 show PySem.Builtin.Str.glued _ _=_
 rw[PySem.StrLaws.glued_eq_join]
 induction ss with
 | nil=>rfl
 | cons x r ih=>
  cases r with
  | nil=>exact kg J1 (mh x).symm
  | cons y r=>
   show J1 x++J1 []++PySem.Str.join (J1 []) ((y::r).map J1)=_
   (refine(ih)▸?_;rewrite[jN];rewrite[jN];rw[mh]);rfl
theorem oy(h:ss.flatten.length<=JL):JoinOk (J1 []) (ss.map J1)=true:=by
 unfold JoinOk
 (rewrite[Bool.not_eq_true'];rewrite[PySem.StrLaws.joinTotal];refine(SV).symm▸?_;rewrite[dH];refine(Sb)▸?_;rewrite[Nat.mul_zero];rw[Nat.add_zero])
 rw[List.length_flatten]at h
 exact decide_eq_false (Nat.not_lt.mpr (cG h))
theorem xG:U1 C .join:=λx e hc hs B st p r w Q hf P D post=>Jx hf λl hl hf=>Jx hf λss hss hf=>KN hf λhlen e'=>by
 subst e'
 refine Call_method1 (by rfl) (by (refine(bC hs)▸?_);rfl) hc (wpAny_Constant_str (PySem.SB.join (D (p.s.toks+1) λy q t a ry=>?_)))
 refine a.lst hl ry λz xs n hc hg hx hz=>?_
 obtain⟨ll,rfl,e2⟩:=px hx hss
 have hlen:=kj hlen
 refine⟨_,ll,rfl,aD hg,_,e2,oy hlen,λt' k=>?_⟩
 rw[show PySem.Txt.join ("" : Zs) (ss.map J1)=J1 ss.flatten from sF ss]
 exact post _ _ (t.trans .tk) a.tk (Ke.mk t' hlen)
theorem y4(s:Tx)(ss:List Tx):PySem.Txt.join (J1 s) (ss.map J1)=J1 (a9 s ss):=by
 show PySem.Builtin.Str.glued _ _=_
 rw[PySem.StrLaws.glued_eq_join]
 induction ss with
 | nil=>rfl
 | cons x r ih=>
  cases r with
  | nil=>rfl
  | cons y r=>
   show J1 x++J1 s++PySem.Str.join (J1 s) ((y::r).map J1)=_
   (refine(ih)▸?_;rewrite[jN];rewrite[jN];rw[lq]);rfl
theorem Bg(s:Tx):∀l:List Tx,l.flatten.length<=(a9 s l).length
 | []=>mf _
 | [t]=>by show(t++[]).length<=t.length;rw[mh];exact mf _
 | t::u::r=>by
  have:=Bg s (u::r)
  show(t++(u::r).flatten).length<=(t++(s++a9 s (u::r))).length
  rw[ku,ku,ku];lia
theorem vn{s:Tx}(h:(a9 s ss).length+s.length*(ss.length+1)<=JL):JoinOk (J1 s) (ss.map J1)=true:=by
 unfold JoinOk
 (rewrite[Bool.not_eq_true'];rewrite[PySem.StrLaws.joinTotal];refine(SV).symm▸?_;rewrite[dH];rw[lf])
 have f:=Bg s ss
 rw[List.length_flatten]at f
 have e:ss.length*s.length<=s.length*(ss.length+1):=Nat.mul_comm _ _▸Nat.mul_le_mul_left _ (mw _)
 refine decide_eq_false (Nat.not_lt.mpr (cG (ke ?_ h)))
 exact S8 f e
end
theorem u9{a b:Tx}(h:Nk b a=false)(h':Nk a b=false):a=b:=List.le_antisymm (List.not_lt.mp (of_decide_eq_false h)) (List.not_lt.mp (of_decide_eq_false h'))
theorem u0{a b c:Tx}(h:Nk b a=false)(h':Nk c b=false):Nk c a=false:=decide_eq_false (List.not_lt.mpr (List.le_trans (List.not_lt.mp (of_decide_eq_false h)) (List.not_lt.mp (of_decide_eq_false h'))))
theorem u8{a b:Tx}(h:Nk a b=true):Nk b a=false:=decide_eq_false (List.lt_asymm (kj h))
abbrev gD(l:List Tx):Prop:=l.Pairwise (λa b=>Nk b a=false)
theorem rV{l:List Tx}:∀{k:List Tx},l.Perm k->gD l->gD k->l=k:=by
 induction l with
 | nil=>intro k h _ _;exact(List.nil_perm.mp h).symm
 | cons a l ih=>
  intro k h ha hb
  cases k with
  | nil=>exact(List.not_perm_cons_nil h).elim
  | cons b k=>
   have hab:a=b:=(kl (h.subset (.head _))).elim id λh1=>(kl (h.symm.subset (.head _))).elim Sx λh2=>u9 (List.rel_of_pairwise_cons ha h2) (List.rel_of_pairwise_cons hb h1)
   subst hab
   (exact(ih (List.Perm.cons_inv h) (List.pairwise_cons.mp ha).2 (List.pairwise_cons.mp hb).2).symm▸rfl)
theorem jB(x y:Tx)(r:List Tx):sr x (y::r)=if Nk y x then y::sr x r else x::y::r:=rfl
theorem jA(x:Tx)(l:List Tx):(sr x l).Perm (x::l):=by
 induction l with
 | nil=>exact .refl _
 | cons y r ih=>
  rw[jB]
  split
  ·exact(ih.cons y).trans (.swap x y r)
  ·exact .refl _
set_option tactic.hygienic true in
theorem mS(x:Tx){l:List Tx}(h:gD l):gD (sr x l):=by
 induction l with
 | nil=>exact List.pairwise_singleton _ _
 | cons y r ih=>
  rw[jB]
  have QV:=List.pairwise_cons.mp h
  split
  ·rename_i hl
   exact List.pairwise_cons.mpr ⟨λz hz=>(kl ((jA x r).subset hz)).elim (λe=>e▸u8 hl) (QV.1 z),ih QV.2⟩
  ·rename_i hl
   have hl:=Bool.eq_false_iff.mpr hl
   exact List.pairwise_cons.mpr ⟨λz hz=>(kl hz).elim (λe=>e▸hl) λhz=>u0 hl (QV.1 z hz),h⟩
theorem ij(l:List Tx):(jj l).Perm l:=by
 induction l with
 | nil=>exact .refl _
 | cons x l ih=>exact(jA x _).trans (ih.cons x)
theorem jU(l:List Tx):gD (jj l):=by
 induction l with
 | nil=>exact .nil
 | cons x l ih=>exact mS x ih
theorem rT(l:List Zs):∀p:Zs,risingS p l=true->gD ((p::l).map (·.cps.toList)):=by
 induction l with
 | nil=>exact λp J=>List.pairwise_singleton _ _
 | cons x r ih=>
  intro p h
  obtain⟨h1,h2⟩:=ly (show(!PySem.Spec.ltCps x.cps.toList p.cps.toList&&risingS x r)=true from h)
  rw[Bool.not_eq_true',ltCps_eq]at h1
  have ih:=ih x h2
  exact List.pairwise_cons.mpr ⟨λz hz=>(kl hz).elim (λe=>e▸h1) λhz=>u0 h1 (List.rel_of_pairwise_cons ih hz),ih⟩
theorem rn{vs:List Value}{ss:List Zs}(h:StrsAre vs ss)(hz:∀x∈ss,x.cps.toList.length<=JL):Jp Ke (ss.map (·.cps.toList)) vs:=by
 induction h with
 | nil=>exact .nil
 | cons x t _ ih=>exact .cons (Ke.mk t (hz x (.head _))) (ih λy hy=>hz y (.tail _ hy))
theorem Ke.le{t:Tx}{x:Value}(r:Ke t x):t.length<=JL:=by cases r with | mk _ h=>exact h
theorem Jp.keyLe{P:Params}{l:List (Tx×Tx)}(h:dB P l es):∀y∈l.map (·.1),y.length<=JL:=by
 induction h with
 | nil=>exact λJ h=>nomatch h
 | cons r _ ih=>exact λy hy=>(kl hy).elim (λe=>e▸r.k.le) (ih y)
theorem ot{vs:List Value}(hl:vs.length=kvs.length)(hv:∀(j:Nat) v,vs[j]?=some v->∃k x,kvs[j]?=some (k,x)/\Value.isStrOf k v=true):StrsAre vs (vs.map PyProof.Rows.strOf)/\vs.map PyProof.Rows.strOf=kvs.map (·.1):=by
 refine⟨strsAre_map vs λv Of=>?_,List.ext_getElem? λj=>?_⟩
 ·refine LA λhG=>?_
  obtain⟨j,hj⟩:=List.mem_iff_getElem?.mp Of
  obtain⟨kk,x,hx,NV⟩:=hv j v hj
  refine hG ?_
  clear hG
  exact(Value.isStrOf_shape NV).elim λu e=>⟨_,u,e⟩
 ·(refine(Sf)▸?_;refine(Sf).symm▸?_)
  cases hj:vs[j]? with
  | none=>(refine(Si (hl▸List.getElem?_eq_none_iff.mp hj))▸?_);rfl
  | some v=>
   refine LA λhG=>?_
   obtain⟨kk,x,hx,NV⟩:=hv j v hj
   obtain⟨u,rfl⟩:=Value.isStrOf_shape NV
   refine hG ?_
   clear hG
   (refine(hx)▸?_);rfl
section
variable{B:Bk}{m:Zs->Option Value}{p:Pt}{r:V×St}{v w:V}{x:Value}{X:Value->Shared->Prop}{e f:Expr}
theorem rA{h:Heap}{vs:List Value}{n:Nat}(F:Fr C.hB C.L h m)(N:News C.hB C.L h ((z,aS vs n)::φ))(lt:∀p∈φ,p.1 < z)(k:∀e,Fr C.hB C.L (sortedHeap h z vs out.toArray) m->News C.hB C.L (sortedHeap h z vs out.toArray) ((z,aS out e)::φ)->G):G:=by
 have hB:=N _ (.head _)
 obtain⟨e,he⟩:=sortedHeap_at (out:=out.toArray) hB.1
 have keep:∀b o,b≠z->h.get? b=some o->(sortedHeap h z vs out.toArray).get? b=some o:=λb o hb e=>(sortedHeap_old hb (Heap.lt_size e)).trans e
 refine k e ⟨?_,λb o e=>keep _ _ (λeb=>nomatch (eb▸e:C.hB.get? z=some o).symm.trans hB.2.2) (F.keep b o e),F.above⟩ λp hp=>(kl hp).elim (λe=>e▸⟨he,hB.2⟩) λhp=>⟨keep _ _ (SH (lt p hp)) (N p (.tail _ hp)).1,(N p (.tail _ hp)).2⟩
 refine LA λhG=>?_
 obtain⟨oL,a1,a2,hL,a3⟩:=F.ns
 refine hG ?_
 clear hG
 exact⟨oL,a1,a2,keep _ _ (Ne.symm hB.2.1) hL,a3⟩
theorem nQ(O:Lp C.toWd)(hh:A.handled=none){d:Addr}{t:List (Tx×Tx)}(a:At C m st p)(hd:(d,dictOf es k)∈p.ad.led++(p.φ++p.ul))(hr:DR C.w.params t es)
  (h:∀h' tk q xs n,Fr C.hB C.L h' m->News C.hB C.L h' ((q,aS xs n)::(p.ad.led++(p.φ++p.ul)))->(∀z∈p.ad.led++(p.φ++p.ul),z.1 < q)->Jp Ke (jj (t.map (·.1))) xs->Q (.ref q) { p.s with heap:=h',toks:=tk}) :
  wpAny C.M A (call (.builtin "dict.keys") [.ref d]) (λv JV=>wpAny C.M A (call (.builtin "sorted") [v]) Q X JV) X p.s:=by
 have kz:(eP t es).length<=60:=hr.r.OX.symm▸hr.le
 refine kdl_view_keys (knd:=PySem.strKind C.prog C.w) a.inv.fr a.inv.nw hd hr.NA (a.noSys O hd) λD J5 F₁ Ov lt₁=>?_
 have hat:J5.DictAt (PySem.strKind C.prog C.w) d (eP t es) k:=by
  refine LA λhG=>?_
  obtain⟨Qg,ep,a1,a2,a3,a4,a5⟩:=hr.NA (prog:=C.prog) (w:=C.w) (k:=k)
  refine hG ?_
  clear hG
  cases a2
  exact⟨_,_,(Ov _ (.tail _ hd)).1,a1,rfl,a3,a4,a5⟩
 refine kdu_sorted (s:={ p.s with heap:=J5}) (kdl_keys (knd:=PySem.strKind C.prog C.w) (r:=D) (d:=d) (kvs:=eP t es) (ep:=k)) hh F₁ Ov ⟨⟨_,(Ov _ (.head _)).1,rfl,rfl⟩,hat⟩ (kdl_size (ke kz (by decide))) λz KR tk vs F₂ RS QL hl hv=>?_
 obtain⟨hS,QQ⟩:=ot hl hv
 rw[hr.r.keysOf]at QQ
 refine wpAny_call_entry slot_list_sort ⟨_,(RS _ (.head _)).1,rfl⟩ entry_list_sort (list_sort_treeK strKind_oneLt (RS _ (.head _)).1 hS.keysOf (λv₁ v₂ rest e=>keyKind_strs (by rw[<- e];exact hS)) (by exact Mr [_,_] 1 (.a Y1 (.c 1)) (.c 64) [(1,Y0,(.c 60)),(1,Y1,Y0)] U kz (lw hl)) λJy hp hs=>⟨_,rfl,?_⟩) (args_list_sort _)
 obtain⟨ss',b1,b2,b3⟩:=sorted_out_str hS hp hs
 refine rA (out:=((arrOf Jy).map (·.2)).toList) F₂ (λp hp=>RS p ((kl hp).elim (λe=>e▸.head _) λh=>.tail _ (.tail _ h))) (λp hp=>QL p (.tail _ hp)) λe F₃ N₃=>?_
 refine h _ tk z _ _ F₃ N₃ (λp hp=>QL p (.tail _ hp)) ?_
 rw[QQ]at b2
 have hb:ss'.map (·.cps.toList)=jj (t.map (·.1)):=by
  refine rV ?_ ?_ (jU _)
  ·have:=b2.map (·.cps.toList)
   rw[SV,show(λx:Zs=>x.cps.toList) ∘ J1=id from rfl,List.map_id]at this
   exact this.trans (ij _).symm
  ·cases ss' with
   | nil=>exact .nil
   | cons x r=>exact rT r x b3
 (refine(hb)▸?_)
 exact rn b1 λx hx=>by
  obtain⟨y,hy,rfl⟩:=List.mem_map.mp (b2.subset hx)
  exact hr.r.keyLe y hy
theorem xF(H:Ok C)(P9:C.hs=true):U1 C .keys:=λx e hc hs B st p r w Q hf P D post=>aEl hc λhc hl=>aEl hc λhg hb=>Kc hf λt ht e'=>by
 subst e'
 refine gC H hg (by simp) (by boot_by_name) (by decide) P.at' _ ?_
 rw[nz U]
 refine callWith_builtin1 (Call_method0 (bu hb _ _) hl (D p.s.toks λy q t' a ry=>?_))
 have fin:∀{z es n},(z,dictOf es n)∈q.ad.led++(q.φ++q.ul)->DR C.w.params t es->MethodOnS C.prog C.w B.A B.X "keys" (.ref z) (JC 1 e).pos [] (λv Kw=>wpAny C.M B.A (call (.builtin "sorted") [v]) Q B.X Kw) q.s:=λ{z es n} hm d=>
  mZ (W:=C.toWd) PySem.F.slot_dict_keys PySem.F.type_dict_keys (a.inv.get hm) (Da (nQ H.O (P.rm P9).h a hm d λh tk u xs k F' N' lt hx=>by
   have hlen:=(ij (t.map (·.1))).length_eq
   rw[lf]at hlen
   refine a.alloc (t0:=tk) (c:=[(u,aS xs k)]) (a.inv.more (c:=[(u,aS xs k)]) F' N' (List.nodup_cons.mpr ⟨mo,.nil⟩) (λp hp y hy e=>Sj _ (lh (lt y hy) (lw (e.trans (kg Prod.fst (km hp))).symm))) (λp hp=>(km hp)▸ke (a.inv.lo _ hm) (R8 (lt _ hm))) Ad.LB)
    (.lst (Jp.mapL (f:=λt=>V.b (.str t)) (hx.mono λJ J r=>r)) (by (rewrite[lf];refine(hlen)▸?_);exact Fa d.le)) λt'' RM r''=>post _ _ (t'.trans t'') RM r''))
 refine Kc ht λz hz e'=>?_
 subst e'
 exact a.Md hz ry λz es n hc hg d=>fin (At.mem hc (.head _)) d
end
section
open PySem.SeqAt
structure KV(p:Tx×Tx)(kv:Zs×Value):Prop where
 k:kv.1=J1 p.1
 le:p.1.length<=JL
 v:Ke p.2 kv.2
theorem Jp.kv{P:Params}{l:List (Tx×Tx)}(h:dB P l es):Jp KV l (eP l es):=by
 induction h with
 | nil=>exact .nil
 | cons r _ ih=>exact .cons ⟨rfl,r.k.le,r.v⟩ ih
theorem mP(a b:Tx)(t:Tok):Value.isStrOf (J1 a) (.str (J1 b) t)=(b==a):=(isStr_of _ _).symm.trans (yc b a)
section
variable{w:World}{l:List (Tx×Tx)}
set_option tactic.hygienic true in
theorem mz(h:Pairs (strKind prog w) es kvs):∀{l:List (Tx×Tx)},Jp KV l kvs->(∀e∈es,∃k,(strKind prog w).is k e.key=true/\e.hash=(strKind prog w).hash k)->dB w.params l es:=by
 induction h with
 | nil=>intro l r _;cases r;exact .nil
 | cons h1 h2 _ ih=>
  rename_i e kv es kvs _
  intro l r hk
  cases r with
  | @cons p _ _ _ r q=>
  refine LA λhG=>?_
  obtain⟨t,ht⟩:=Value.isStrOf_shape (show Value.isStrOf kv.1 e.key=true from h1)
  obtain⟨k,hk1,hk2⟩:=hk e (.head _)
  obtain⟨t',ht'⟩:=Value.isStrOf_shape (show Value.isStrOf k e.key=true from hk1)
  refine hG ?_
  clear hG
  have hkk:kv.1=k:=by injection ht.symm.trans ht'
  refine .cons ⟨?_,?_,h2▸r.v⟩ (ih q λe' he'=>hk e' (.tail _ he'))
  ·(refine(ht)▸?_;refine(r.k)▸?_);exact .mk t r.le
  ·(refine(hk2)▸?_;refine(hkk)▸?_;refine(r.k).symm▸?_);rfl
theorem KV.keys(r:Jp KV l kvs):kvs.map (·.1)=(l.map (·.1)).map J1:=by
 induction r with
 | nil=>rfl
 | cons x _ ih=>(refine(Sh)▸?_;rewrite[Sh];refine(Sh).symm▸?_;refine(ih)▸?_;exact(x.k).symm▸rfl)
theorem kN{o:Obj}(h:o.IsDictOf (strKind prog w) kvs)(r:Jp KV l kvs)(hz:l.length<=60):∃es n,o=dictOf es n/\DR w.params l es:=by
 refine LA λhG=>?_
 obtain⟨es,ep,⟨c1,c2,c3⟩,hd,hk,hp,nd⟩:=h
 refine hG ?_
 clear hG
 rw[KV.keys r]at nd
 refine⟨es.toList,ep,?_,mz hp r λe he=>hk e (Array.mem_toList_iff.mp he),hz,List.Pairwise.of_map _ (λa b h e=>h (by (exact(e).symm▸rfl))) nd⟩
 obtain⟨a,b,c,d⟩:=o
 obtain rfl:=c1;obtain rfl:=c2;obtain rfl:=c3;obtain rfl:=hd;rfl
theorem Jp.find{P:Params}(r:dB P l es)(k:Tx):(∀v,l.lookup k=some v->∃x,findBy Value.isStrOf es.toArray (J1 k)=some x/\Ke v x)/\(l.lookup k=none->findBy Value.isStrOf es.toArray (J1 k)=none):=by
 unfold findBy
 rw[List.find?_toArray]
 induction r with
 | nil=>exact⟨nofun,λJ=>rfl⟩
 | @cons p e l es r _ ih=>
  obtain⟨p1,p2⟩:=p
  obtain⟨rk,_,rv⟩:=r
  (rewrite[R6];refine(List.find?_cons)▸?_)
  generalize e.key=z at rk
  cases rk with | mk t _=>
  rw[mP,show(k==p1)=(p1==k) from Bool.eq_iff_iff.mpr ⟨λh=>beq_iff_eq.mpr (ld h).symm,λh=>beq_iff_eq.mpr (ld h).symm⟩]
  cases p1==k with
  | true=>exact⟨λv h=>(kc h)▸⟨_,rfl,rv⟩,nofun⟩
  | false=>exact ih
theorem Jp.mapOf{h:Heap}{d:Addr}(r:dB w.params l es)(e:h.get? d=some (dictOf es k)):h.MapOf (strKind prog w) d (λx=>findBy Value.isStrOf es.toArray x):=
 ⟨_,es.toArray,k,e,⟨rfl,rfl,rfl⟩,rfl,λen he=>r.ent en (List.mem_toArray.mp he),λJ=>rfl⟩
end
theorem jD(c:Nat):dX c=cz.lookup [c]:=by
 unfold dX cz
 induction gz with
 | nil=>rfl
 | cons p l ih=>
  (refine(Sh)▸?_;rewrite[R6];rewrite[R6];rw[show(([c]:Tx)==[p.1])=(c==p.1) from Bool.and_true _])
  cases c==p.1 with
  | true=>rfl
  | false=>exact ih
section
variable{B:Bk}{m:Zs->Option Value}{p:Pt}{r:V×St}{v w:V}{x:Value}{X:Value->Shared->Prop}{e f:Expr}{tk:Tok}{d:E}
theorem lA(H:Ok C){nm:Zs}(hk:k < 128)(NC:C.Y.nm k=nm)(he:findIn C.Y.K (.ref (C.Y.JW 0)) nm=some (some (.ref z)))(hg:specialIn C.Y.K (.ref z) "__get__" = some none)(PD:copiedNames.contains nm=false)
  (a:At C m st p) (r:C.V p v x) {i:Nat×Nat×List (Nat×V)} (hi:cT st v=some i) (h0:(i.2.1==0&&(i.2.2.lookup k).isNone)=true) (h:Q (.ref z) (p.tk (p.s.toks+1)).s):wpAny C.M A (getAttr x nm true) Q X p.s:=aEl h0 λh1 h2=>by
 refine a.ins hi r λz' d es n hc I lt g J J=>?_
 have NU:=(g k hk).2 (Option.isNone_iff_eq_none.mp h2)
 rw[NC]at NU
 rw[ld h1]at I lt
 exact get_cls a.inv.fr H.O.X I (H.K.ML _ lt) (H.K.Od _ lt) he hg U PD NU h
theorem tI(H:Ok C):U1 C .Me:=λx e hc hs B st p r w Q hf P D post=>aEl hc λhb hl=>Jx hf λi hi hf=>KN hf λh0 e'=>by
 subst e'
 refine Call_method0 (bu (by rfl) _ _) hl (Attribute_any_ (D p.s.toks λy q t a ry=>lA H (by decide) H.K.nmPfx H.K.emPfx H.K.Rl (by decide +kernel) a ry hi h0 ?_) (cx hb _ _ _))
 obtain⟨es0,k0,hlk,hD0⟩:=H.K.Lo
 have RB:=a.K H.O _ _ hlk
 refine mZ (W:=C.toWd) PySem.F.slot_dict_copy PySem.F.type_dict_copy RB (Da ?_)
 refine call_meetsIn (s:={ q.s with toks:=q.s.toks+1}) PySem.F.slot_dict_copy ⟨_,RB,rfl⟩ PySem.F.entry_dict_copy (PySem.F.args_dict_copy_1 _) (meets_dict_copy (strKind C.prog C.w) _ H.K.pfxHi) ⟨_,hD0.dictAt RB,by (refine(hD0.r.OX)▸?_);decide,λh Pb J NV=>?_⟩
 refine LA λhG=>?_
 obtain⟨o',NB,hd''⟩:=Heap.dictOf_iff.mp Pb
 obtain⟨Qg,n',rfl,hD'⟩:=kN hd'' hD0.r.kv (by decide)
 refine hG ?_
 clear hG
 refine a.alloc (c:=[(q.s.heap.objs.size,dictOf Qg n')]) (a.inv.one (mf _) (a.inv.fr.kept NV) (λz hz=>(kl hz).elim (λe=>e▸⟨NB,SF a.inv.fr.ns.lt,Heap.get?_none_of_le a.inv.above⟩) λhz=>⟨NV _ _ (a.inv.nw z hz).1,(a.inv.nw z hz).2⟩) Ad.LB) (.Md hD') λt' a' r'=>post _ _ (t.trans t') a' r'
theorem xZ(v:Internal.B):JB C (.n0 (.cst v)):=λe0 hc B st p r Q hv P post=>by
 obtain rfl:=kc hv
 have here:∀{x},C.V p (.b v) x->∀tk,Q x (p.tk tk).s:=λr tk=>post _ _ .tk P.at'.tk r
 cases v with
 | nul=>exact Constant_none (here (x:=.none) U _)
 | bool b=>exact Constant_bool (here (x:=.bool b) U _)
 | int i=>exact wpAny_Constant_int (here (dL.mk _) _)
 | str t=>exact wpAny_Constant_str (here (Ke.mk _ (iD (kj hc))) _)
 | _=>exact J4 hc
theorem xX(i:Nat):JB C (.n0 (.neg i)):=λe0 hc B st p r Q hv P post=>by
 obtain rfl:=kc hv
 exact UnaryOp_ (wpAny_Constant_int (PySem.P.neg_int (post _ _ .tk P.at'.tk (dL.mk _))))
theorem xY(H:Ok C)(k:Nat):JB C (.n0 (.loc k)):=λe0 hc B st p r Q hv P post=>Jx hv λv Of h=>KN h λhn e'=>by
 subst e'
 exact p6 H Of (λe=>by subst e;exact J4 hn) P λx rx=>post x p .rfl P.at' rx
theorem HG(H:Ok C)(o:O0):JB C (.n0 o):=by
 cases o with
 | stuck=>exact λe0 hc B st p r Q hv=>nomatch hv
 | cst v=>exact xZ v
 | neg i=>exact xX i
 | loc k=>exact xY H k
theorem qy(H:Ok C){h:Heap}(X:C.Y.K.In h):∃f:Zs->Option Value,h.MapOf (PySem.strKind C.prog C.w) C.Y.KO f/\∀k:Tx,(∀v,cz.lookup k=some v->∃x,f (J1 k)=some x/\Ke v x)/\(cz.lookup k=none->f (J1 k)=none):=
 H.K.Qf.elim λes z=>z.elim λk z=>⟨_,z.2.mapOf (X _ _ z.1),z.2.find⟩
theorem sB(H:Ok C){d:Nat}(r:Ke [d] x)(RO:C.Y.K.In p.s.heap)(post:∀tk,Q (.bool (dX d).isSome) (p.tk tk).s):wpAny C.M A (compareOp .In x (.ref C.Y.KO)) Q X p.s:=by
 cases r with | mk t _=>
 obtain⟨f,hf,hl⟩:=qy H RO
 refine wpAny_in_of (strKind_is _ _ _ t) H.K.escHi hf ?_
 rw[jD]at post
 have hl:=hl [d]
 cases hq:cz.lookup [d] with
 | none=>(refine(hl.2 hq)▸?_);rw[hq]at post;exact post _
 | some d=>obtain⟨y,e1,_⟩:=hl.1 _ hq;(refine(e1)▸?_);rw[hq]at post;exact post _
theorem un(H:Ok C)(ha:JB C a)(k:Nat):JB C (.Qf a k):=λe0 hc B st p r Q hv P post=>aEl hc λh1 hb=>Jx hv λw hw h=>Jx h λu hu h=>Jx h λd hd h=>Jx h λi hi h=>Jx h λJ hg h=>Kc h λz hz e'=>by
 subst e'
 refine Subscript_ (Attribute_any_ (ha _ h1 hw P λy q t a ry=>lA H (by decide) H.K.QF H.K.Q1 H.K.Pd (by decide +kernel) a ry hi (KN hg λh J=>h) ?_) (cx hb _ _ _))
 have a1:=a.tk (t0:=q.s.toks+1)
 refine p6 H hu (λe=>by subst e;exact nS hd) (P.to (t.trans .tk) a1) λx rx=>?_
 cases rx.ch hd with | mk t' _=>
 obtain⟨f,hf,hl⟩:=qy H (a.K H.O)
 rw[jD]at hz
 obtain⟨y,e1,ry⟩:=(hl [d]).1 _ hz
 exact S0 (s:={ q.s with toks:=q.s.toks+1}) hf.typeIs slot_dict_getitem.lookup (wpAny_getItem_of (s:={ q.s with toks:=q.s.toks+1}) (strKind_is C.prog C.w _ t') hf e1 (post _ _ (t.trans .tk) a.tk ry)) U
end
theorem jq{α:Type}(l:List α)(a:Nat)(k:Nat):((List.range k).map (a+·)).filterMap (l[·]?)=(l.drop a).take k:=by
 induction k with
 | zero=>rfl
 | succ k ih=>(refine(List.range_succ)▸?_;refine(R5)▸?_;refine(List.filterMap_append)▸?_;refine(ih)▸?_;refine(List.take_add_one)▸?_;refine(List.getElem?_drop)▸?_);rfl
theorem dO(a b:Nat):sliceRange (a:Int) (b:Int) 1=(List.range (b - a)).map (a+·):=by
 have e2:(if (a:Int) < b then((b:Int) - a+1 - 1) / 1 else 0).toNat=b - a:=by
  rw[Int.ediv_one,Int.add_sub_cancel]
  by_cases h:(a:Int) < b
  ·rw[if_pos h];exact Int.toNat_sub b a
  ·rw[if_neg h,Nat.sub_eq_zero_of_le (Int.ofNat_le.mp (Int.not_lt.mp h))];rfl
 show(List.range (if (a:Int) < b then((b:Int) - a+1 - 1) / 1 else 0).toNat).map _=_
 (refine(e2).symm▸?_)
 exact S6 λk J=>by rw[Int.one_mul];rfl
theorem wF(a b:Nat):((min a b:Nat):Int)=min (a:Int) b:=(Nat.le_total a b).elim (λh=>by rw[Sm h,Int.min_eq_left (Int.ofNat_le.mpr h)]) λh=>by rw[Nat.min_eq_right h,Int.min_eq_right (Int.ofNat_le.mpr h)]
theorem nj(i:Int)(n:Nat):max (0:Int) (min (if i < 0 then i+n else i) n)=(J2 n i:Nat):=by
 unfold J2
 by_cases h:i < 0
 ·rw[if_pos h,if_pos h,Int.min_eq_left (Ta (Int.add_le_add_right (SN h) _) (Int.le_of_eq (S2 _))),Int.max_comm]
  exact(Int.toNat_eq_max _).symm
 ·rw[if_neg h,if_neg h,wF,Int.toNat_of_nonneg (Int.not_lt.mp h),Int.max_eq_right]
  exact Int.le_min.mpr ⟨Int.not_lt.mp h,Sr n⟩
theorem tT(lo hi:Option Int)(n:Nat):Builtin.Str.strSliceIndices lo hi 1 n=(List.range (NW n hi - Na n lo)).map (Na n lo+·):=by
 rw[<- dO]
 unfold Builtin.Str.strSliceIndices
 have e1:((1:Int) > 0)=True:=eq_true (by decide)
 simp only[e1,if_true]
 cases lo <;> cases hi <;> simp only[nj] <;> rfl
theorem xP(x:Zs)(lo hi:Option Int):(Builtin.Str.strSliceIndices lo hi 1 x.length).filterMap (x.cps[·]?)=ag x.cps.toList lo hi:=by
 rw[tT]
 have e:(λi=>x.cps[i]?)=λi=>x.cps.toList[i]?:=funext λi=>Array.getElem?_toList.symm
 (refine(e)▸?_)
 exact jq x.cps.toList _ _
theorem eU{α:Type}(l:List α)(lo hi:Option Int):(ag l lo hi).length<=l.length:=by
 unfold ag
 (refine(Sn)▸?_;refine(Sy)▸?_);exact ke (Nat.min_le_right _ _) (Nat.sub_le _ _)
theorem y3{α:Type}{l:List α}{i:Int}{a:α}(h:kP l i=some a):∃j,seqIndex? i l.length=some j/\l[j]?=some a:=by
 unfold kP at h
 unfold seqIndex?
 split at h
 ·have KH:=(kh h).1
  refine⟨_,?_,h⟩
  have e1:¬ i < 0:=by lia
  simp only[e1,if_false]
  rw[if_pos]
  simp;lia
 ·split at h
  ·have KH:=(kh h).1
   refine⟨_,?_,h⟩
   have e1:i < 0:=by lia
   simp only[e1,if_true]
   rw[if_pos]
   simp;lia
  ·exact nS h
theorem sC{α:Type}{l:List α}{i:Int}{a:α}(h:kP l i=some a)(hl:l.length<=JL):(decide (i < -(2 ^ 63:Int))||decide (i ≥ 2 ^ 63))=false:=by
 have:=gq
 unfold kP at h
 rw[Bool.or_eq_false_iff,decide_eq_false_iff_not,decide_eq_false_iff_not]
 split at h
 ·have KH:=(kh h).1;lia
 ·split at h
  ·have KH:=(kh h).1;lia
  ·exact nS h
noncomputable def eJ(o:Option Int)(t:Tok):Option (Int×Tok):=o.map λi=>(i,t)
theorem l8(o:Option Int)(t:Tok):(eJ o t).map (·.1)=o:=by cases o <;> rfl
theorem ir{v:V}{x:Value}{o:Option Int}(r:VR Y φ am v x)(h:Mb v=some o):∃t,x=partValue (eJ o t):=Jx h λb hb h=>by
 have r:=r.B hb
 cases b with
 | nul=>obtain rfl:=kc h;exact⟨0,r⟩
 | int=>obtain rfl:=kc h;cases r;exact⟨_,rfl⟩
 | _=>exact nS h
theorem Cj{n h l:Nat}(e:n=h - l)(a:h<=n)(p:0 < l):n=0:=(Nat.eq_zero_or_pos n).elim id λhn=>(Sj n (li (ke (lw e) (Nat.sub_le_sub_right a l)) (Nat.sub_lt hn p))).elim
theorem sL(n:Nat)(i:Int):J2 n i<=n:=by
 unfold J2
 split
 ·next h=>exact Int.toNat_le.mpr (Ta (Int.add_le_add_right (SN h) _) (Int.le_of_eq (S2 _)))
 ·exact Nat.min_le_right _ _
set_option tactic.hygienic true in
theorem jV{s:Tx}{t:Tok}{lo hi:Option Int}{t1 t2:Tok}{sh:Shared}(hs:s.length<=JL)(h:∀tk x,Ke (ag s lo hi) x->Q x { sh with toks:=tk}):(sliceMade (J1 s) t (eJ lo t1) (eJ hi t2) none).post Q sh:=by
 have hp:=xP (J1 s) lo hi
 rw[j4]at hp
 unfold sliceMade slicePicked
 rw[l8,l8]
 have hlen:(Builtin.Str.strSliceIndices lo hi 1 (J1 s).length).length=(NW s.length hi - Na s.length lo):=by (rewrite[tT];rewrite[dH];rewrite[lf];exact(List.length_range)▸rfl)
 split
 ·rename_i hcond
  have e:ag s lo hi=s:=by
   have h2:=ld (ly hcond).2
   rw[show(Builtin.Str.strSliceIndices lo hi 1 (J1 s).length).length=(J1 s).length from h2,dH]at hlen
   unfold ag
   have h3:NW s.length hi<=s.length:=by cases hi with
    | none=>exact mf _
    | some i=>exact sL _ _
   rcases Nat.eq_zero_or_pos (Na s.length lo) with h4 | h4
   ·(refine(h4)▸?_;refine(List.drop_zero)▸?_)
    exact SJ (by first | exact lw hlen.symm | exact lw hlen | (rw[h4]at hlen;first | exact lw hlen | exact lw hlen.symm))
   ·have:s=[]:=List.length_eq_zero_iff.mp (Cj hlen h3 h4)
    subst this;(refine(List.drop_nil).symm▸?_;exact(List.take_nil).symm▸rfl)
  exact h sh.toks _ (by (refine(e).symm▸?_);exact .mk t hs)
 ·have e:(slicePicked.eq_1 (J1 s) (eJ lo t1) (eJ hi t2) none)=slicePicked.eq_1 (J1 s) (eJ lo t1) (eJ hi t2) none:=rfl
  refine⟨?_,h (sh.toks+1) _ ?_⟩
  ·show Array.size _<=sizeLine
   (rewrite[show((Option.map (λx=>x.1) (none:Option (Int×Tok))).getD 1)=1 from rfl];refine(hp)▸?_;refine(SQ)▸?_)
   exact cG (ke (eU _ _ _) hs)
  ·(rewrite[show((Option.map (λx=>x.1) (none:Option (Int×Tok))).getD 1)=1 from rfl];refine(hp).symm▸?_)
   exact Ke.mk _ (ke (eU _ _ _) hs)
theorem rq(s t:Tx):PySem.Txt.startswith (J1 s) (J1 t)=t.isPrefixOf s:=by
 unfold PySem.Txt.startswith
 (rewrite[PySem.StrLaws.subAt_eq];rewrite[j4];rewrite[j4];rewrite[dH];rewrite[dH];refine(List.drop_zero)▸?_;rewrite[SR];rewrite[Bool.and_eq_true];rewrite[decide_eq_true_eq];rewrite[beq_iff_eq];rw[List.isPrefixOf_iff_prefix])
 exact⟨λh=>h.2▸List.take_prefix _ _,λh=>⟨by have:=h.length_le;exact Mr [_,_] 1 (.a (.c 0) Y0) Y1 [(1,Y0,Y1)] U this,(List.prefix_iff_eq_take.mp h).symm⟩⟩
theorem rU(xs:List Value)(lo hi:Option Int):slicePick xs.toArray lo hi none=(ag xs lo hi).toArray:=by
 have hb:sliceBounds lo hi none xs.length=(((Na xs.length lo:Nat):Int),((NW xs.length hi:Nat):Int),1):=by
  unfold sliceBounds
  (refine(Option.getD_none)▸?_)
  cases lo <;> cases hi <;> simp only[nj] <;> rfl
 unfold slicePick
 (refine(SQ)▸?_;refine(hb)▸?_;rw[dO])
 have:=jq xs (Na xs.length lo) (NW xs.length hi - Na xs.length lo)
 show List.toArray _=_
 rw[show(λi=>xs.toArray[i]?)=λi=>xs[i]? from funext λi=>Su]
 exact kg _ this
def U2(C:Cf)(o:O2):Prop:=∀x y e,uN o x y e=true->Mz x=true->Mz y=true->∀{B:Bk}{st:St}{p:Pt}{r q w:V×St}{Q:Value->Shared->Prop},
 f2 o r.1 q.1 q.2=some w->Pre C B st p->i8 C B p x r->(∀z,To p z->At C B.m r.2 z->i8 C B z y q)->LS C B p w Q->wpAny C.M B.A (eval (op2 o x y e) C.env) Q B.X p.s
def T2(C:Cf)(o:O2):Prop:=∀x y e,uN o x y e=true->Mz x=true->Mz y=true->∀{B:Bk}{st:St}{p:Pt}{r q w:V×St}{b:Bool}{Q:Bool->Shared->Prop},
 f2 o r.1 q.1 q.2=some w->truth w.2 w.1=some b->Pre C B st p->i8 C B p x r->(∀z,To p z->At C B.m r.2 z->i8 C B z y q)->Ng C B p b w.2 Q->wpAny C.M B.A (isTrue (op2 o x y e) C.env (eval (op2 o x y e) C.env)) Q B.X p.s
abbrev Ox(C:Cf)(o:O2)(k:CmpOp)(g:Expr->Expr->Expr):Prop:=
 (∀x y e,op2 o x y e=.Compare x [k] [g y e] e.pos)/\
 (∀x y e,uN o x y e=true->behindInMarks k (g y e)=false)/\
 (∀x y e,uN o x y e=true->∀{B:Bk}{st:St}{p:Pt}{r q w:V×St}{Q:Value->Shared->Prop},f2 o r.1 q.1 q.2=some w->Pre C B st p->i8 C B p x r->(∀z,To p z->At C B.m r.2 z->i8 C B z y q)->
  (∀z b,w=(.b (.bool b),q.2)->To p z->At C B.m q.2 z->Q (.bool b) z.s)->wpAny C.M B.A (eval x C.env) (λu JV=>wpAny C.M B.A (eval (g y e) C.env) (λv Kw=>wpAny C.M B.A (compareOp k u v) Q B.X Kw) B.X JV) B.X p.s)
section
variable{o:O2}{k:CmpOp}{g:Expr->Expr->Expr}(zz:Ox C o k g)
def Ox.e:=zz.1
def Ox.m:=zz.2.1
def Ox.s:=zz.2.2
end
section
variable{B:Bk}{m:Zs->Option Value}{p:Pt}{r w:V×St}{v:V}{x:Value}{X:Value->Shared->Prop}{e f:Expr}{tk:Tok}{d:E}{o:O2}{k:CmpOp}{g:Expr->Expr->Expr}
theorem Ox.u(h:Ox C o k g):U2 C o:=λx y e hc J J B st p r q w Q hf P D1 D2 post=>by
 rw[h.e]
 exact wpAny_Compare1 (h.s x y e hc hf P D1 D2 λz b e' t a=>post _ z t (e'▸a) (e'▸rfl)) (h.m x y e hc)
theorem Ox.t(h:Ox C o k g):T2 C o:=λx y e hc J J B st p r q w b Q hf ht P D1 D2 post=>by
 rw[h.e]
 refine wpAny_isTrue_Compare1 (h.s x y e hc hf P D1 D2 λz b' e' t a=>wpAny_truthy_bool ?_) (h.m x y e hc)
 rw[e']at ht post
 obtain rfl:=kc ht
 exact post z t a
theorem two{x y:Expr}{r q:V×St}{R:Value->Value->Shared->Prop}(D1:i8 C B p x r)(D2:∀z,To p z->At C B.m r.2 z->i8 C B z y q)(tk:Tok)(h:∀a b z,To p z->At C B.m q.2 z->C.V z r.1 a->C.V z q.1 b->R a b z.s) :
  wpAny C.M B.A (eval x C.env) (λa JV=>wpAny C.M B.A (eval y C.env) (R a) B.X JV) B.X (p.tk tk).s:=
 D1 tk λa z t at' ra=>D2 z t at' z.s.toks λb z' t' at'' rb=>h a b z' (t.trans t') at'' (t'.vr ra) rb
theorem wC(o:NK):Ox C (.cmp o) (iU o) λy J=>y:=⟨λJ J J=>rfl,λJ J J h=>lm h,λx y e hc B st p r q w Q hf P D1 D2 post=>Kc hf λb hb e'=>
 two D1 D2 p.s.toks λLn LW z t a r1 r2=>fX r1 r2 hb (post z b e'.symm t a)⟩
noncomputable def eOf(a:Internal.B)(y:Value):Bool:=match a,y with
 | .int i,.int j _=>j==i | .str s,.str x _=>x==J1 s | _,_=>false
theorem C1{a b:Internal.B}{r:Bool}{P:Params}{x:Value}(h:eqB a b=some r)(hx:Mh P φ a x)(hy:Mh P φ b y):(∀{A:Around}{s:Shared},EqAt A s y x (eOf a y))/\eOf a y=r:=by
 cases a with
 | int a=>cases b with
  | int b=>
   obtain rfl:=kc h
   cases hx;cases hy
   exact⟨EqAt.int_int _ _ _ _,Bool.eq_iff_iff.mpr ⟨λh=>beq_iff_eq.mpr (ld h).symm,λh=>beq_iff_eq.mpr (ld h).symm⟩⟩
  | _=>exact nS h
 | str a=>cases b with
  | str b=>
   obtain rfl:=kc h
   cases hx;cases hy
   exact⟨EqAt.str_str _ _ _ _,Bool.eq_iff_iff.mpr ⟨λh=>beq_iff_eq.mpr (j3 (ld h)).symm,λh=>beq_iff_eq.mpr (kg J1 (ld h).symm)⟩⟩
  | _=>exact nS h
 | nul=>cases b with
  | str b=>
   obtain rfl:=kc h
   cases hy
   cases show x=.none from hx
   exact⟨EqAt.str_none _ _,rfl⟩
  | _=>exact nS h
 | _=>exact nS h
theorem CN{a:Internal.B}{x:Value}(hx:Mh Y.P φ a x)(q:Jp (VR Y φ am) l xs):∀{bs:List Bool},(l.mapM λv=>(Mv v).bind (eqB a))=some bs->
  (∀y∈xs,∀{A:Around}{s:Shared},EqAt A s y x (eOf a y))/\xs.any (eOf a)=bs.any id:=by
 induction q with
 | nil=>exact λh=>by obtain rfl:=kc h;exact⟨λJ h=>(nomatch h),rfl⟩
 | cons r q ih=>
  intro bs h
  rw[SY]at h
  refine Jx h λb hb h=>Jx h λbs' hb' h=>Jx hb λz hz he=>?_
  obtain rfl:=kc h
  have E:=C1 he hx (r.B hz)
  exact⟨λw hw A s=>(kl hw).elim (λe=>e▸E.1) λhw=>(ih hb').1 w hw,by (refine(List.any_cons)▸?_;refine(List.any_cons).symm▸?_;refine((ih hb').2).symm▸?_;refine(E.2).symm▸?_);rfl⟩
theorem wA:Ox C .Oc .In λy J=>y:=⟨λJ J J=>rfl,λJ J J h=>lm h,λx y e hc B st p r q w Q hf P D1 D2 post=>Jx hf λa ha hf=>Jx hf λl hl hf=>Kc hf λbs hbs e'=>by
 refine two D1 D2 p.s.toks λLn LW z t at' r1 r2=>?_
 refine at'.lst hl r2 λu xs n hc hg hx hz=>?_
 obtain⟨i1,i2⟩:=CN (r1.B ha) hx hbs
 refine in_listAt (items:=xs.toArray) (eOf a) ⟨_,hg,rfl,_,rfl⟩ (λz hz=>i1 z (List.mem_toArray.mp hz)) ?_
 (refine(List.any_toArray)▸?_;refine(i2)▸?_)
 exact post z _ e'.symm t at'⟩
theorem m9(H:Ok C):Ox C .Ly .In λy e=>.Attribute y "ESCAPE_REPLACEMENTS" (JC 1 e).pos:=⟨λJ J J=>rfl,λJ J J J=>rfl,λx y e hc B st p r q w Q hf P D1 D2 post=>Jx hf λd hd hf=>Jx hf λi hi hf=>KN hf λhg e'=>by
 refine D1 p.s.toks λLn z t at' r1=>Attribute_any_ (D2 z t at' z.s.toks λLW z' t' a' r2=>?_) (cx hc _ _ _)
 refine lA H (by decide) H.K.QF H.K.Q1 H.K.Pd (by decide +kernel) a' r2 hi hg ?_
 exact sB (p:=z'.tk (z'.s.toks+1)) H (r1.ch hd) (a'.tk.K H.O) λPV=>post (z'.tk PV) _ e'.symm ((t.trans t').trans .tk) a'.tk⟩
theorem wB(hh:C.hs=true):Ox C .RF .Eq λy J=>y:=⟨λJ J J=>rfl,λJ J J h=>lm h,λx y e hc B st p r q w Q hf P D1 D2 post=>Jx hf λl hl hf=>Jx hf λk hk hf=>KN hf λhg e'=>by
 refine two D1 D2 p.s.toks λLn LW z t at' r1 r2=>?_
 have hu:=(P.rm hh).u
 have hu:B.A.units < cLine:=by exact Mr [_,_,_] 1 (.a Y0 (.c 1)) Y2 [(1,(.a (.a (.a Y0 (.m 20 Y1)) (.c 20)) (.c 1)),Y2)] U hu
 refine at'.lst hl r1 λc1 xs n1 J g1 l1 J=>at'.lst hk r2 λc2 ys n2 J g2 l2 J=>?_
 have h2:ys=[]:=by
  obtain⟨k1,k2⟩:=k
  cases k2 with
  | nil=>cases l2;rfl
  | cons=>exact J4 hg
 subst h2
 cases hx:l.2.isEmpty with
 | true=>
  have h1:xs=[]:=by
   obtain⟨k1,k2⟩:=l
   cases k2 with
   | nil=>cases l1;rfl
   | cons=>exact J4 hx
  subst h1
  exact eq_listAt (e:=λJ=>true) (aD g1) (aD g2) U hu (λj a=>absurd a (Nat.not_lt_zero j)) (post z _ (by rw[<- e',hx];rfl) t at')
 | false=>
  refine eq_list_lengthsAt (aD g1) (aD g2) ?_ hu (post z _ (by rw[<- e',hx]) t at')
  obtain⟨k1,k2⟩:=l
  cases k2 with
  | nil=>exact J4 hx.symm
  | cons=>cases l1;rfl⟩
theorem Bx(o:NL):U2 C (.bin o):=λx y e J J J B st p r q w Q hf P D1 D2 post=>wpAny_BinOp (two D1 D2 p.s.toks λLn LW z t a r1 r2=>by
 refine Ml hf (λhf=>Kc hf λu hu e'=>?_) λhf=>?_
 ·subst e'
  exact zZ r1 r2 hu λPV u ru=>post _ _ (t.trans (.tk (t0:=PV))) a.tk ru
 cases o with
 | add=>
  refine Jx hf λl hl hf=>Jx hf λl' Nb hf=>KN hf λhlen e'=>?_
  have hlen:=kj hlen
  refine a.lst hl r1 λz1 xs n J hg hx hz=>a.lst Nb r2 λz2 xs2 n2 J hg2 hx2 Rt=>?_
  subst e'
  refine add_lists a.inv.fr a.inv.nw (aD hg) (aD hg2) (λQY F' N'=>?_) (by (refine(hx.length)▸?_;refine(hx2.length)▸?_);exact cG hlen)
  exact a.Rn (mf _) F' N' (hx.app hx2) (by (refine(ku)▸?_);exact hlen) λt' a' r'=>post _ _ (t.trans t') a' r'
 | _=>exact nS hf)
theorem uw{n:Nat}(h:j < n):seqIndex? (j:Int) n=some j:=by
 unfold seqIndex?
 have e1:¬ ((j:Int) < 0):=by lia
 simp only[e1,if_false]
 rw[if_pos (by simp;exact Mr [_,_] 1 (.a Y0 (.c 1)) Y1 [(1,(.a Y0 (.c 1)),Y1)] U h)];rfl
theorem z4{P:Bool×Bool}{kk:Int}{w:V}(hf:(if kk=0 then some (V.b (.bool P.1)) else af (decide (kk=1)) (V.b (.bool P.2)))=some w):∃(j:Nat)(b:Bool),kk=(j:Int)/\j < 2/\([Value.bool P.1,.bool P.2])[j]?=some (.bool b)/\w=.b (.bool b):=by
 by_cases h0:kk=0
 ·rw[if_pos h0]at hf;obtain rfl:=kc hf;exact⟨0,_,h0,by decide,rfl,rfl⟩
 ·rw[if_neg h0]at hf;exact KN hf λh e=>⟨1,_,kj h,by decide,rfl,e.symm⟩
theorem Bw:U2 C .idx:=λx y e J hs MN B st p r q w Q hf P D1 D2 post=>Kc hf λz hz e'=>by
 subst e'
 have hsl:=BP MN
 refine Subscript_ (two D1 D2 p.s.toks λLn LW u t a r1 r2=>?_)
 have fin:∀{y},C.V u z y->∀tk,Q y (u.tk tk).s:=λr tk=>post _ _ (t.trans .tk) a.tk r
 refine Ml hz (λhf=>Jx hf λkk hk hf=>?_) λhf=>Jx hf λkk hk hf=>Jx hf λl hl hf=>Kc hf λv hv e'=>?_
 ·have r2:=r2.int hk
  cases r2 with | mk t2=>
  refine Ml hf (λhf=>Jx hf λs hs hf=>Kc hf λv hv e'=>?_) λhf=>Ml hf (λhf=>Jx hf λpq hpq hf=>?_) λhf=>Jx hf λl hl hf=>Jx hf λJ hg hf=>?_
  ·subst e'
   cases r1.str hs with | mk t1 hl=>
   obtain⟨j,hj,hjz⟩:=y3 hv
   refine subscriptTail_builtin (typeIs_str _ _ _) PySem.F.slot_str_getitem.lookup ?_ (hsl _ _) (λr=>yF r)
   refine PySem.P.getItem_str (c:=v) (sC hv hl) ?_ ?_
   ·(rewrite[dH];refine(hj)▸?_);exact(Su (xs:=s) (i:=j)).trans hjz
   ·exact fin (Ke.mk _ (show 1<=JL by decide)) _
  ·refine LA λhG=>?_
   obtain⟨j,b,rfl,hj,hjb,rfl⟩:=z4 hf
   refine hG ?_
   clear hG
   cases r1.bb hpq with | mk hm e2=>
   subst e2
   exact item_tupleT (l:=[.bool pq.1,.bool pq.2]) (j:=j) ⟨_,a.got hm,rfl,_,rfl⟩ (by lia) (by lia) (uw hj) hjb (fin (y:=.bool b) U _) (hsl _ _)
  ·have h0:=KN hg λh J=>kj h
   refine a.lst hl r1 λz1 xs n J hg hx hz=>?_
   obtain⟨y',hy,ry⟩:=hx.get hf
   have KH:=(kh hf).1
   exact S0 (aD hg).typeIs PySem.F.slot_list_getitem.lookup (wpAny_getItem_list (aD hg) h0 (by have:=gq;lia) ((Su ..).trans hy) (fin ry _)) (hsl _ _)
 ·subst e'
  cases r2.str hk with | mk t2 hlk=>
  have dic:∀{qa es n},u.s.heap.get? qa=some (dictOf es n)->DR C.w.params l es->wpAny C.M B.A (subscriptTail x y (.ref qa) (.str (J1 kk) t2)) Q B.X u.s:=λhg d=>by
   obtain⟨y',hy,ry⟩:=(d.r.find kk).1 _ hv
   have MO:=d.r.mapOf (prog:=C.prog) hg
   exact S0 MO.typeIs slot_dict_getitem.lookup (wpAny_getItem_of (strKind_is C.prog C.w _ t2) MO hy (fin ry _)) (hsl _ _)
  refine Kc hl λi hi e'=>?_
  subst e'
  exact a.Md hi r1 λz es n hc hg d=>dic hg d
theorem re:U2 C .starts:=λx y e hc hs MN B st p r q w Q hf P D1 D2 post=>aEl hc λhb hl=>Jx hf λs hs1 hf=>Kc hf λs' hs2 e'=>by
 subst e'
 refine Call_method1 (bu hb _ _) (by (refine(bC MN)▸?_);rfl) hl (D1 p.s.toks λLn z t a r1=>?_)
 cases r1.str hs1 with | mk t1 h1=>
 refine PySem.SB.startswith (D2 z t a z.s.toks λLW z' t' a' r2=>?_)
 cases r2.str hs2 with | mk t2 h2=>
 exact⟨_,t2,rfl,by rw[rq];exact post _ _ (t.trans t') a' U⟩
theorem tH:U2 C .LN:=λx y e hc hs MN B st p r q w Q hf P D1 D2 post=>aEl hc λhb hl=>Jx hf λs hs1 hf=>Jx hf λl hl2 hf=>Jx hf λss hss hf=>KN hf λhg e'=>by
 subst e'
 have hg:=kj hg
 refine Call_method1 (bu hb _ _) (by (refine(bC MN)▸?_);rfl) hl (D1 p.s.toks λLn z t a r1=>?_)
 cases r1.str hs1 with | mk t1 h1=>
 refine PySem.SB.join (D2 z t a z.s.toks λLW z' t' a' r2=>?_)
 refine a'.lst hl2 r2 λzz xs n hc hg' hx hz=>?_
 obtain⟨ll,rfl,e2⟩:=px hx hss
 refine⟨_,ll,rfl,aD hg',_,e2,vn hg,λt' k=>?_⟩
 rw[y4]
 exact post _ _ ((t.trans ‹To z z'›).trans .tk) a'.tk (Ke.mk t' (ke (lu _ _) hg))
theorem sp2{R:List Value->Shared->Prop}{s:Shared}{t u:Sem Value}(H:wpAny M A t (λa JV=>wpAny M A u (λb Kw=>R [a,b] Kw) X JV) X s):wpAny M A (spliced [(false,t),(false,u)]) R X s:=
 Calls.spliced_cons (wpAny_mono H (λJ J J5=>Calls.spliced_cons (wpAny_mono J5 (λJ J KR=>Calls.spliced_nil KR) λJ J x=>x)) λJ J x=>x)
theorem lM(a:At C m st p)(hx:xs.length<=JL)(h:∀z q,To p z->At C m st z->(q,BH xs 0)∈z.φ->Q (.ref q) z.s):wpAny C.M A (newTuple xs) Q X p.s:=
 newTuple_N a.inv.fr a.inv.nw (λQY F' N'=>a.freeze (t0:=p.s.toks) (mf _) F' N' λt a'=>h _ _ t a' (.head _)) (cG hx)
theorem xD:U2 C .pair:=λx y e J hs MN B st p r q w Q hf P D1 D2 post=>by
 refine Tuple_ ?_
 (refine(qP hs MN)▸?_)
 refine sp2 (two D1 D2 p.s.toks λLn LW u t a r1 r2=>lM a (show 2<=JL by decide) λz i t' a' hm=>?_)
 refine Jx hf λb1 h1 hf=>Kc hf λb2 h2 e'=>Jx h1 λJ h3 h4=>Jx h2 λJ h5 h6=>?_
 subst e'
 cases (bool?_inv h4▸r1.B h3:Mh C.w.params _ (.bool b1) Ln)
 cases (bool?_inv h6▸r2.B h5:Mh C.w.params _ (.bool b2) LW)
 exact post _ z (t.trans t') a' (KW.mk hm U)
end
section
variable{B:Bk}{m:Zs->Option Value}{p:Pt}{r w:V×St}{v:V}{x:Value}{X:Value->Shared->Prop}{e f:Expr}{tk:Tok}{d:E}{o:O2}{k:CmpOp}{g:Expr->Expr->Expr}
theorem jp{s:Shared}{out:Tx}{x:Sem Value}{rest:List (Sem Value)}(h:wpAny M A x (λv JV=>∃y t,v=.str (J1 y) t/\(out++y).length<=JL/\wpAny M A (joinParts (J1 (out++y)) rest) Q X JV) X s):wpAny M A (joinParts (J1 out) (x::rest)) Q X s:=
 joinParts_cons (wpAny_mono h (λv JV ⟨y,t,e,h1,h2⟩=>by subst e;show(_++_:Zs).length<=_/\wpAny M A (joinParts (_++_) _) _ _ _;rw[jN];exact⟨cG h1,h2⟩) λJ J h=>h)
theorem vO{x:Expr}{r:V×St}{s:Tx}(D:i8 C B p x r)(hs:aU r.1=some s)(h:∀z t,To p z->At C B.m r.2 z->Q (.str (J1 s) t) z.s)(tk:Tok):wpAny C.M B.A (eval (fvE x e) C.env) Q B.X (p.tk tk).s:=
 wpAny_FormattedValue_s (D tk λy z t a ry=>by
  cases ry.str hs with | mk t1 hl=>
  exact habitSame_str (λt' PV=>formatField_str (s:=(z.tk PV).s) (λt'' tk''=>h (z.tk tk'') t'' (t.trans .tk) a.tk) (cG hl)) (cG hl))
theorem xE(f:Fm2):U2 C (.NH f):=λx y e J hs MN B st p r q w Q hf P D1 D2 post=>Kc hf λu hu e'=>by
 subst e'
 have fin:∀{z:Pt}{i:Zs},To p z->At C B.m q.2 z->i=J1 u->u.length<=JL->Q (.str i z.s.toks) { z.s with toks:=z.s.toks+1}:=λt a e h=>post _ (_) (t.trans (.tk (t0:=_))) a.tk (e▸Ke.mk _ h)
 cases f
 refine Jx hu λi hi hu=>Jx hu λj hj hu=>KN hu λhg e'=>aEl hg λh1 h2=>?_
 have h1:=kj h1
 have h2:=kj h2
 subst e'
 have hz:(i++j).length<=JL:=by (refine(ku)▸?_);have:=gq;lia
 exact JoinedStr_many (jp (out:=[]) (vO D1 hi (λz t1 t a=>⟨i,t1,rfl,iD h1,jp (vO (D2 z t a) hj (λz' t2 t' a'=>⟨j,t2,rfl,hz,joinParts_nil (fin (t.trans t') a' U hz) (cG hz)⟩) z.s.toks)⟩) p.s.toks))
end
section
variable{B:Bk}{m:Zs->Option Value}{p:Pt}{r w:V×St}{v:V}{x:Value}{X:Value->Shared->Prop}{e f:Expr}{tk:Tok}{d t:E}
theorem ji{r:V}:∀{l:List V}{xs:List Value},gG r=some l->Mg C.Y p.φ p.ad.am r xs->Jp (C.V p) l xs:=by
 induction r with
 | Ma=>intro l xs h k;obtain rfl:=kc h;cases (k:xs=[]);exact .nil
 | Kh a r _ ih=>
  refine λ{l xs} h k=>Kc h λl' h' e=>?_
  subst e
  exact Mg.el (G:=Jp (C.V p) (a::l')) k λy ys c d=>.cons c (ih h' d)
 | _=>exact λh=>nS h
theorem tJ(H:Ok C)(hs:C.hs=true)(o:O1):U1 C o:=
 O1.casesOn (motive:=λo=>U1 C o) o (BA H) rg (BE H) (BC H) (BD H) (xF H hs) xG Bz (BB H) (tI H) (xH H hs)
theorem By(H:Ok C)(hs:C.hs=true)(o:O2):U2 C o:=
 O2.casesOn (motive:=λo=>U2 C o) o (λo=>(wC o).u) Bx Bw xE re (m9 H).u xD wA.u (wB hs).u tH
theorem pG{o:O1}(hu:U1 C o)(ha:JB C a):JB C (.u1 o a):=λe0 hc B st p r Q hv P post=>aEl hc λh1 h2=>Jx hv λq hq h=>
 hu _ e0 h2 (aW a h1) h P (ha.done h1 hq P) post
theorem pH(H:Ok C)(hs:C.hs=true){o:O2}(ha:JB C a)(hb:JB C d):JB C (.b2 o a d):=λe0 hc B st p r Q hv P post=>aEl hc λh1 h2=>aEl h2 λh2 h3=>Jx hv λq hq h=>Jx h λz hz h=>
 By H hs o _ _ e0 h3 (aW a h1) (aW d h2) h P (ha.done h1 hq P) (λz t a'=>hb.done h2 hz (P.to t a')) post
theorem g8{o:O2}{k:CmpOp}{g:Expr->Expr->Expr}(hm:Ox C o k g)(ha:JB C a)(hb:JB C d):Kk C (.b2 o a d):=λe0 hc B st p r b Q hv ht P post=>aEl hc λh1 h2=>aEl h2 λh2 h3=>Jx hv λq hq h=>Jx h λz hz h=>
 hm.t _ _ e0 h3 (aW a h1) (aW d h2) h ht P (ha.done h1 hq P) (λz t a'=>hb.done h2 hz (P.to t a')) post
theorem x4(H:Ok C)(hs:C.hs=true){o:O1}(ha:JB C a)(haT:Kk C a):Kk C (.u1 o a):=by
 have hE:=pG (tJ H hs o) ha
 cases o with
 | not=>exact BM haT
 | isNone z=>exact ri ha
 | _=>exact gZ H (λJ J=>rfl) hE
theorem x6(H:Ok C)(hs:C.hs=true){o:O2}(ha:JB C a)(hb:JB C d):Kk C (.b2 o a d):=by
 have hE:=pH H hs (o:=o) ha hb
 cases o with
 | cmp o=>exact g8 (wC o) ha hb
 | Oc=>exact g8 wA ha hb
 | RF=>exact g8 (wB hs) ha hb
 | Ly=>exact g8 (m9 H) ha hb
 | NH f=>exact gZ H (λJ J=>by cases f <;> rfl) hE
 | _=>exact gZ H (λJ J=>rfl) hE
theorem rN{o k:NK}(ha:JB C a)(hb:JB C t)(hd:JB C d):JB C (.Ku o k a t d):=λe0 hc B st p r Q hv P post=>aEl hc λh1 h2=>aEl h2 λh2 h3=>aEl h3 λh3 h4=>Jx hv λq1 Qa h=>Jx h λq2 hq2 h=>Jx h λtt htt h=>
 Compare_chain (ha _ h1 Qa P λLn u t1 a1 r1=>chain_link (hb _ h2 hq2 (P.to t1 a1) λLW u2 t2 a2 r2=>fX (t2.vr r1) r2 htt (wpAny_truthy_bool (by
  cases tt with
  | false=>obtain rfl:=kc h;exact post _ u2 (t1.trans t2) a2 U
  | true=>exact Jx h λq3 hq3 h=>Kc h λbb hbb e'=>chain_last (hd _ h3 hq3 (P.to (t1.trans t2) a2) λx₃ u3 t3 a3 r3=>fX (t3.vr r2) r3 hbb (post _ u3 ((t1.trans t2).trans t3) (e'▸a3) (e'▸rfl))))))) (lm h4)
theorem rB{o k:NK}(ha:JB C a)(hb:JB C t)(hd:JB C d):Kk C (.Ku o k a t d):=λe0 hc B st p r b Q hv ht P post=>aEl hc λh1 h2=>aEl h2 λh2 h3=>aEl h3 λh3 h4=>Jx hv λq1 Qa h=>Jx h λq2 hq2 h=>Jx h λtt htt h=>
 isTrue_chain (ha _ h1 Qa P λLn u t1 a1 r1=>test_link (hb _ h2 hq2 (P.to t1 a1) λLW u2 t2 a2 r2=>fX (t2.vr r1) r2 htt (wpAny_truthy_bool (by
  cases tt with
  | false=>obtain rfl:=kc h;obtain rfl:=kc ht;exact post u2 (t1.trans t2) a2
  | true=>
   refine Jx h λq3 hq3 h=>Kc h λbb hbb e'=>?_
   subst e';obtain rfl:=kc ht
   exact test_last (hd _ h3 hq3 (P.to (t1.trans t2) a2) λx₃ u3 t3 a3 r3=>fX (t3.vr r2) r3 hbb (wpAny_truthy_bool (post u3 ((t1.trans t2).trans t3) a3))))))) (lm h4)
theorem wg(hi:JB C i)(hc:J9 C.Y C.sc i C.sl [] e=true)(hv:Jq C.c i B.l st=some r)(P:Pre C B st p)(post:LS C B p r Q):wpAny C.M B.A (evalPart (bif kM i then none else some (JK C.Y i C.sl [] e)) C.env) Q B.X p.s:=by
 cases h:kM i with
 | false=>exact hi e hc hv P post
 | true=>
  rw[cond_true,evalPart_none]
  have:i=.n0 (.cst .nul):=by
   cases i with
   | n0 o=>
    cases o with
    | cst v=>
     cases v with
     | nul=>rfl
     | _=>exact J4 h
    | _=>exact J4 h
   | _=>exact J4 h
  subst this
  obtain rfl:=kc hv
  exact wpAny_pure (post _ p .rfl P.at' U)
theorem sU{v r:V}(h:Br v=some r):v=.Kh .uu r:=by
 cases v with
 | Kh a r=>cases a with | uu=>obtain rfl:=kc h;rfl | _=>exact nS h
 | _=>exact nS h
theorem nT(H:Ok C){lo hi:E}(ha:JB C a)(hlo:JB C lo)(hhi:JB C hi):JB C (.slice a lo hi):=λe0 hc B st p r Q hv P post=>aEl hc λh1 h2=>aEl h2 λh2 h3=>Jx hv λq1 Qa h=>Jx h λq2 hq2 h=>Jx h λq3 hq3 h=>Jx h λo1 ho1 h=>Jx h λo2 Qb h=>by
 refine Subscript_ (ha _ h1 Qa P λLn u1 t1 a1 r1=>wpAny_Slice (wg hlo h2 hq2 (P.to t1 a1) λLW u2 t2 a2 r2=>wg hhi h3 hq3 (P.to (t1.trans t2) a2) λx₃ u3 t3 a3 r3=>?_))
 rw[evalPart_none]
 refine wpAny_pure ?_
 obtain⟨k1,rfl⟩:=ir r2 ho1
 obtain⟨k2,rfl⟩:=ir r3 Qb
 have tt:=(t1.trans t2).trans t3
 have r1:=(t2.trans t3).vr r1
 have a4:=a3.push (t0:=u3.s.toks) { cls:=.type "slice",data:=.fields #[partValue (eJ o1 k1),partValue (eJ o2 k2),.none]}
 refine LA λhn=>?_
 have lst:∀{z:Addr}{xs:List Value}{l:List V},Ln=.ref z->(u3.s.heap.push { cls:=.type "slice",data:=.fields #[partValue (eJ o1 k1),partValue (eJ o2 k2),.none]}).IsList z xs.toArray->Jp (C.V u3) l xs->l.length<=JL->alloc q3.2 (.lst (ag l o1 o2))=r->False:=λ{z xs l} e hg hx hz e'=>hn (by
  subst e e'
  refine S0 (ops:=[_,_]) hg.typeIs PySem.F.slot_list_getitem.lookup ?_ U
  refine wpAny_getItem_list_slice hg (Heap.IsSliceOf.new ..) (lo:=o1) (hi:=o2) (st:=none) ?_ ?_ .none (λe=>nomatch e) ?_ (by (refine(SQ)▸?_;refine(hx.length)▸?_);exact cG hz)
  ·cases o1 with | none=>exact .none | some i=>exact .int i _
  ·cases o2 with | none=>exact .none | some i=>exact .int i _
  rw[rU]
  have N2:=a4.inv.nw.push a4.inv.fr (aS (ag xs o1 o2) 0) U
  refine a4.Rn (t0:=u3.s.toks) (vs:=ag l o1 o2) (mf _) (a4.inv.fr.push _) N2 ?_ (ke (eU _ _ _) hz) λt' a' r'=>post _ _ ((tt.trans .h).trans t') a' r'
  unfold ag
  (refine(hx.length).symm▸?_)
  exact(hx.drop _).take _)
 refine Ml h (λh=>Kc h λs hs e'=>hn ?_) λh=>Ml h (λh=>Kc h λl hl e'=>?_) λh=>Kc h λl hl e'=>Jx hl λt h1 h2=>?_
 ·subst e'
  cases r1.str hs with | mk k hz=>
  refine S0 (ops:=[_,_]) (typeIs_str _ _ _) PySem.F.slot_str_getitem.lookup ?_ U
  refine wpAny_getItem_str_slice (l:=eJ o1 k1) (u:=eJ o2 k2) (st:=none) ⟨_,Heap.get?_push_size _ U,rfl,rfl⟩ U ?_
  exact jV hz λtk x r=>post x _ ((tt.trans .h).trans (.tk (t0:=tk))) a4.tk r
 ·revert lst
  exact a4.lst (P:=λx=>(∀{z:Addr}{xs:List Value}{l:List V},x=.ref z->(u3.s.heap.push { cls:=.type "slice",data:=.fields #[partValue (eJ o1 k1),partValue (eJ o2 k2),.none]}).IsList z xs.toArray->Jp (C.V u3) l xs->l.length<=JL->alloc q3.2 (.lst (ag l o1 o2))=r->False)->False) hl (r1:C.V (u3.mv _ u3.s.toks u3.ad u3.φ) q1.1 Ln) λz xs n hc hg hx hz lst=>lst U (aD hg) hx hz e'
 ·rw[sU h1]at r1
  refine VR.scrE (G:=λx=>Ln=x->False) r1 (λxs eo c hz e=>?_) U
  have c:=ji h2 c
  exact lst e ⟨_,a4.inv.fr.keep _ _ H.O.S,eo⟩ c (c.length▸hz) e'
def GE(C:Cf)(B:Bk)(p:Pt)(vs:List V)(st:St)(Q:List Value->Shared->Prop):Prop:=∀xs q,To p q->At C B.m st q->Jp (C.V q) vs xs->Q xs q.s
def w7(C:Cf)(i:E):Prop:=∀(ps:List Zs)(h0:Expr)(pos:Pos),J9 C.Y C.sc i C.sl ps h0=true->∀{B:Bk}{st:St}{p:Pt}{r:(List V×List (Nat×V))×St}{Q:List Value->Shared->Prop},
 Kv C.c i B.l st=some r->r.1.1=[]->Pre C B st p->GE C B p (r.1.2.map (·.2)) r.2 Q->wpAny C.M B.A (evalAll ((backToKw pos (keywordEach (Lu (JK C.Y i C.sl ps h0)) C.env)).map (·.2))) Q B.X p.s
def fh(C:Cf)(i:E):Prop:=∀(ps:List Zs)(h0:Expr)(pos:Pos),J9 C.Y C.sc i C.sl ps h0=true->∀{B:Bk}{st:St}{p:Pt}{r:(List V×List (Nat×V))×St}{Q:List Value->List Value->Shared->Prop},
 Kv C.c i B.l st=some r->Pre C B st p->(∀xs ys q,To p q->At C B.m r.2 q->Jp (C.V q) r.1.1 xs->Jp (C.V q) (r.1.2.map (·.2)) ys->Q xs ys q.s)->
 wpAny C.M B.A (spliced (backTo pos (starEach (Mn (JK C.Y i C.sl ps h0)) C.env))) (λxs JV=>wpAny C.M B.A (evalAll ((backToKw pos (keywordEach (Lu (JK C.Y i C.sl ps h0)) C.env)).map (·.2))) (λys Kw=>Q xs ys Kw) B.X JV) B.X p.s
noncomputable def aH(ps:List Zs)(r:List (Nat×V)):List Zs:=r.map λp=>(ps[p.1]?).getD ""
theorem lU:w7 C .nil:=λps h0 pos hc B st p r Q hv J P post=>by
 obtain rfl:=kc hv
 exact kwAll_nil (post [] p .rfl P.at' .nil)
theorem p9{e:E}(hv:Kv C.c (.kw k e i) l st=some rr)(g:∀q z,Jq C.c e l st=some q->Kv C.c i l q.2=some z->z.1.1=[]->rr=(([],(k,q.1)::z.1.2),z.2)->G):G:=Jx hv λq hq h=>Jx h λz hz h=>by
 cases he:z.1.1.isEmpty with
 | false=>rw[he]at h;exact nS h
 | true=>rw[he]at h;obtain rfl:=kc h;exact g q z hq hz (List.isEmpty_iff.mp he) U
theorem pF{j:E}(ha:JB C i)(hr:w7 C j):w7 C (.kw k i j):=λps h0 pos hc B st p r Q hv J P post=>aEl hc λh1 h2=>aEl h2 λh2 h3=>p9 hv λq z hq hz hzn e'=>by
 subst e'
 show wpAny C.M B.A (evalAll ((backToKw pos (keywordEach (kwX ps[k]? (JK C.Y i C.sl [] (hdK h0)) h0::Lu (JK C.Y j C.sl ps (tlK h0))) C.env)).map (·.2))) Q B.X p.s
 (refine(kq (kj h3))▸?_)
 exact kwAll_cons (ha _ h1 hq P λx u t a rv=>hr ps _ pos h2 hz hzn (P.to t a) λxs u' t' a' rs=>post _ u' (t.trans t') a' (.cons (t'.vr rv) rs))
theorem pE(hK:w7 C i)(hi:∀ps e,Mn (JK C.Y i C.sl ps e)=[])(h0:∀{l st r},Kv C.c i l st=some r->r.1.1=[]):fh C i:=λps e pos hc B st p r Q hv P post=>by
 rw[hi]
 exact Calls.spliced_nil (hK ps e pos hc hv (h0 hv) P λys q t a r'=>post [] ys q t a (h0 hv▸.nil) r')
theorem uh{j:E}(ha:JB C i)(hr:fh C j):fh C (.pos i j):=λps e pos hc B st p r Q hv P post=>aEl hc λh1 h2=>Jx hv λq hq h=>Kc h λz hz e'=>by
 subst e'
 show wpAny C.M B.A (spliced (backTo pos (starEach (JK C.Y i C.sl [] (hdE e)::Mn (JK C.Y j C.sl ps (tlH e))) C.env))) _ _ _
 (refine(bC (aW i h1))▸?_)
 exact Calls.spliced_cons (ha _ h1 hq P λx u t a rv=>hr ps _ pos h2 hz (P.to t a) λxs ys u' t' a' rx ry=>post _ _ u' (t.trans t') a' (.cons (t'.vr rv) rx) ry)
theorem qH{α:Type}{t:Sem α}{Q:α->List Value->Shared->Prop}{s:Shared}(h:wpAny M A t (λxs JV=>wpAny M A (evalAll []) (λys Kw=>Q xs ys Kw) X JV) X s) :
  wpAny M A t (λxs JV=>Q xs [] JV) X s:=λΓ p hΓ=>Sem.wp_mono M Γ t (λJ p' J h'=>h' Γ p' hΓ) (λJ J J h'=>h') p s (h Γ p hΓ)
theorem qL(i:E):∀(ps:List Zs)(h0:Expr),Lu h0=[]->J9 C.Y C.sc i C.sl ps h0=true->∀{l st r},Kv C.c i l st=some r->r.1.2=[]->Lu (JK C.Y i C.sl ps h0)=[]:=by
 induction i with
 | nil=>exact λJ J J J J J J J J=>rfl
 | pos e r _ ih=>exact λps h0 h hc l st r hv hr=>aEl hc λh1 h2=>Jx hv λq hq h'=>Kc h' λz hz e'=>ih ps (tlH h0) h h2 hz (by subst e';exact hr)
 | kw k e r _ _=>exact λps h0 h hc l st r hv hr=>p9 hv λq z J J J e'=>by subst e';cases hr
 | _=>exact λJ J J J J J J hv=>nomatch hv
theorem uk(hs:fh C a):JB C (.lst a):=λe0 hc B st p r Q hv P post=>Jx hv λw hw h=>KN h λhg e'=>aEl hg λh1 h2=>by
 have h2:=kj h2
 have K:=hs [] _ e0.pos hc (Q:=λxs J JV=>wpAny C.M B.A (newList xs) Q B.X JV) hw P λxs ys u t a rx J=>newList_N a.inv.fr a.inv.nw (λQY F' N'=>a.Rn (t0:=u.s.toks) (mf _) F' N' rx h2 λt' a' r'=>post _ _ (t.trans t') (e'▸a') (e'▸r')) (rx.length▸cG h2)
 rw[qL a [] _ U hc hw (List.isEmpty_iff.mp h1)]at K
 exact List_ (qH (Q:=λxs J JV=>wpAny C.M B.A (newList xs) Q B.X JV) K)
theorem Do(h:Jp (VR Y φ am) vs xs):Mg Y φ am (gQ vs) xs:=by
 induction h with
 | nil=>exact rfl
 | cons r _ ih=>exact .mk r ih
theorem VR.tupI{a b:V}{x:Value}(h:KW φ (Mg Y φ am (.Kh a b)) x):VR Y φ am (.Kh a b) x:=PJ.tup (p:=VR Y φ am a) (r:=Mg Y φ am b) h
theorem ui(hs:fh C a):JB C (.tup a):=λe0 hc B st p r Q hv P post=>Jx hv λw hw h=>KN h λhg e'=>aEl hg λh1 h2=>by
 have h2:=kj h2
 have K:=hs [] _ e0.pos hc (Q:=λxs J JV=>wpAny C.M B.A (newTuple xs) Q B.X JV) hw P λxs ys u t a rx J=>lM a (rx.length▸h2) λz i t' a' hm=>post _ z (t.trans t') (e'▸a') (by
  subst e'
  have rx:=t'.all rx
  generalize w.1.1=vs at rx
  cases rx with
  | nil=>exact KW.mk hm U
  | cons r q=>exact VR.tupI (KW.mk hm (Mg.mk r (Do q))))
 rw[qL a [] _ U hc hw (List.isEmpty_iff.mp h1)]at K
 exact Tuple_ (qH (Q:=λxs J JV=>wpAny C.M B.A (newTuple xs) Q B.X JV) K)
end
noncomputable def Bk.at(K:Bk)(l:List V)(m:Zs->Option Value):Bk:={ K with l:=l,m:=m}
def AtS(C:Cf)(p:Pt)(r:LD)(Q:Flow->Shared->Prop):Prop:=match r with
 | .next=>Q .next p.s
 | .ret v=>∀x,C.V p v x->Q (.ret x) p.s
def MH(C:Cf)(K:Bk)(p:Pt)(r:LD×List V×St)(Q:Flow->Shared->Prop):Prop:=∀m q,MG C p q->Pre C (K.at r.2.1 m) r.2.2 q->AtS C q r.1 Q
def dj(C:Cf)(i:S):Prop:=∀s0,gT C.Y C.sl C.sc i s0=true->∀{K:Bk}{st:St}{p:Pt}{r:LD×List V×St}{Q:Flow->Shared->Prop},
 JJ C.c i K.l st=some r->Pre C K st p->MH C K p r Q->wpAny C.M K.A (exec (toS C.Y C.sl i s0) C.env) Q K.X p.s
def Lf(C:Cf)(i:S):Prop:=∀s0,gT C.Y C.sl C.sc i s0=true->∀{K:Bk}{st:St}{p:Pt}{r:LD×List V×St}{Q:Flow->Shared->Prop},
 JJ C.c i K.l st=some r->Pre C K st p->MH C K p r Q->wpAny C.M K.A (execs (cJ (toS C.Y C.sl i s0)) C.env) Q K.X p.s
theorem Lf.x{C:Cf}{i:S}(h:Lf C i){s0:Stmt}(h1:gT C.Y C.sl C.sc i s0=true){A:Around}{X:Value->Shared->Prop}{l:List V}{m:Zs->Option Value}{st:St}{p:Pt}{r:LD×List V×St}{Q:Flow->Shared->Prop}(hv:JJ C.c i l st=some r)(rm:C.hs=true->K8 A C.n)(lr:LR C p l m)(a:At C m st p)
  (k:∀m' q,MG C p q->LR C q r.2.1 m'->At C m' r.2.2 q->AtS C q r.1 Q):wpAny C.M A (execs (cJ (toS C.Y C.sl i s0)) C.env) Q X p.s:=h _ h1 (K:=⟨A,X,l,m⟩) hv ⟨rm,lr,a⟩ λm' q t P'=>k m' q t P'.lr P'.at'
section
variable{K:Bk}{m:Zs->Option Value}{p:Pt}{r:LD×List V×St}{v:V}{x:Value}{Q:Flow->Shared->Prop}{e:Expr}{tk:Tok}{t o d:E}{a b:S}
theorem MH.after(P:MH C K p r Q)(t:To p q):MH C K q r Q:=λm' z t' a=>P m' z (t.s.trans t') a
theorem uq:Lf C .nil:=λs0 J K st p r Q hv P post=>by
 obtain rfl:=kc hv
 exact wpAny_execs_nil (post K.m p To.rfl.s P)
theorem rP(hi:dj C a)(hj:Lf C b):Lf C (.cons a b):=λs0 hc K st p r Q hv P post=>aEl hc λh1 h2=>Jx hv λq hq h=>
 wpAny_execs_cons (hi _ h1 hq P λm' z t P'=>by
  obtain⟨c,l,MZ⟩:=q
  cases c with
  | next=>exact hj _ h2 (K:=K.at l m') h P' λm q t'=>post m q (t.trans t')
  | ret v=>obtain rfl:=kc h;exact post m' z t P')
theorem rE:dj C .pass:=λs0 J K st p r Q hv P post=>by
 obtain rfl:=kc hv
 exact wpAny_Pass (post K.m p To.rfl.s P)
theorem ub(hi:JB C i):dj C (.ret i):=λs0 hc K st p r Q hv P post=>Kc hv λw hw e'=>by
 subst e'
 exact wpAny_Return_some (hi _ hc hw P λy q t a ry=>post K.m q t.s (P.to t a) y ry)
theorem rD:dj C .MJ:=λs0 hc K st p r Q hv P post=>by
 obtain rfl:=kc hv
 exact wpAny_Return_none (post K.m p To.rfl.s P _ U)
theorem uc(ht:Kk C t)(ha:Lf C a)(hb:Lf C b):dj C (.Ju t a b):=λs0 hc K st p r Q hv P post=>aEl hc λh1 h2=>aEl h2 λh2 h3=>Jx hv λw hw h=>Jx h λu hu h=>
 wpAny_If (ht _ h1 hw hu P λq t' a'=>by
  cases u with
  | true=>exact ha _ h2 h (P.to t' a') (post.after t')
  | false=>exact hb _ h3 h (P.to t' a') (post.after t'))
theorem kC{x:Expr}(h:noC x=true)(h':Mz x=true)(t:Option Expr)(n:Nat)(env:Env):swapsWith x t n env=pure false:=by
 cases x <;> first | rfl | exact J4 h | exact J4 h'
theorem mB{x:Expr}(h:noC x=true)(h':Mz x=true)(ts:List Expr)(n:Nat)(env:Env):swapsWithSole ts x n env=pure false:=by
 cases ts with
 | nil=>rfl
 | cons t ts=>cases ts with
  | nil=>exact kC h h' _ _ _
  | cons=>rfl
theorem rG(H:Ok C)(hi:JB C i):dj C (.expr i):=λs0 hc K st p r Q hv P post=>aEl hc λh1 h2=>Kc hv λw hw e'=>by
 subst e'
 exact wpAny_Expr_any (hi _ h1 hw P λy q t a ry=>post K.m q t.s (P.to t a)) (by show(C.sc.kind==.module&&_)=false;(refine(H.hk)▸?_);rfl) (kC h2 (aW i h1) _ _ _)
inductive WI(C:Cf)(K:Bk)(p:Pt)(r:LD×List V×St)(g:List V->St->Kf):Shared->Prop
 | mk {l m st q:_}:MG C p q->Pre C (K.at l m) st q->g l st=some r->WI C K p r g q.s
set_option tactic.hygienic true in
theorem nR(ht:Kk C t)(hb:Lf C b):dj C (.while t b):=λs0 hc K st p r Q hv P post=>aEl hc λh1 h2=>by
 refine wpAny_While (codeAny_whileLoop (λk=>WI C K p r (cQ (Jq C.c t) (JJ C.c b) k)) (λk s' hI=>?_) C.c.wf (.mk (l:=K.l) (m:=K.m) To.rfl.s P hv))
 obtain⟨t1,P1,hl⟩:=hI
 rename_i l m MZ q1
 cases k with
 | zero=>exact nS hl
 | succ k=>
  refine Jx hl λw hw hl=>Jx hl λu hu hl=>ht.x h1 (l:=l) (m:=m) hw hu P1.rm P1.lr P1.at' λq2 t2 a2=>?_
  cases u with
  | false=>obtain rfl:=kc hl;exact wpAny_execs_nil (post m q2 (t1.trans t2.s) (P1.to t2 a2))
  | true=>
   refine Jx hl λz hz hl=>hb.x h2 (l:=l) (m:=m) hz P1.rm (P1.lr.to t2) a2 λm3 q3 t3 lr3 a3=>?_
   obtain⟨c,l2,PY⟩:=z
   cases c with
   | next=>exact⟨k,So k,.mk ((t1.trans t2.s).trans t3) (Pre.mk (K:=K.at l2 m3) P1.rm lr3 a3) hl⟩
   | ret v=>obtain rfl:=kc hl;exact λx rx=>post m3 q3 ((t1.trans t2.s).trans t3) ⟨P1.rm,lr3,a3⟩ x rx
theorem i3{l:List Zs}{i:Nat}{a b:Zs}(nd:l.Nodup)(ha:l[i]?=some a)(hb:l[k]?=some b)(e:a=b):i=k:=by
 obtain⟨ha,ha'⟩:=kh ha
 obtain⟨hb,hb'⟩:=kh hb
 exact(List.getElem_inj nd).mp (ha'.trans (e.trans hb'.symm))
theorem LR.store{n:Zs}(r:LR C p l m)(nd:C.sl.Nodup)(hx:C.sl[k]?=some n)(hn:C.sc.names.lookup n=some .local)(rv:C.V p v y):LR C p (l.set k v) (λz=>if z=n then some y else m z):=⟨λi w hi hw=>by
 by_cases Oj:i=k
 ·subst Oj
  rw[List.getElem?_set_self']at hi
  exact Kc hi λJ J e=>by subst e;exact⟨n,y,hx,.inl ⟨hn,if_pos U⟩,rv⟩
 ·rw[Sd (Ne.symm Oj)]at hi
  refine LA λhG=>?_
  obtain⟨nm,z,a,b,q⟩:=r.1 i w hi hw
  refine hG ?_
  clear hG
  exact⟨nm,z,a,b.imp (λb=>⟨b.1,(if_neg λe=>Oj (i3 nd a hx e)).trans b.2⟩) id,q⟩,λi nm hi ha hc=>by
 by_cases Oj:i=k
 ·subst Oj
  obtain rfl:=kc (hx.symm.trans ha)
  exact J4 (kg (λz:Option NameKind=>z==some .cell) (hn.symm.trans hc))
 ·exact r.2 i nm ((Sd (Ne.symm Oj)).symm.trans hi) ha hc⟩
theorem uK(h:OW C.sc C.sl k=true):∃n,C.sl[k]?=some n/\C.sl.getD k "" = n/\C.sc.names.lookup n=some .local:=aEl h λh1 h2=>by
 have hx:=kq (kj h1)
 have e:C.sl.getD k "" = _:=dJ hx
 exact⟨_,hx,e,e▸ld h2⟩
theorem gc(H:Ok C){X:Value->Shared->Prop}(hk:OW C.sc C.sl k=true)(P:Pre C K st p)(rv:C.V p v y)(h:∀m' q,To p q->Pre C (K.at (K.l.set k v) m') st q->R () q.s):wpAny C.M A (storeName C.env (C.sl.getD k "") y) R X p.s:=by
 obtain⟨n,hx,e,hn⟩:=uK hk
 (refine(e)▸?_)
 refine wpAny_storeName_local (env:=C.env) (e▸hn) P.at'.inv.fr.ns (λh' hn' MN=>?_) (by show(C.sc.kind==.class||(C.sc.kind==.module&&C.L != mainGlobals))=false;(refine(H.hk)▸?_);rfl)
 exact h _ (p.mv h' _ p.ad p.φ) .h ⟨P.rm,P.lr.store H.nd (e▸hx) (e▸hn) rv,⟨P.at'.inv.fr.set hn' MN,P.at'.inv.nw.set MN,P.at'.inv.nd,P.at'.inv.lo⟩,P.at'.rep⟩
theorem pK(H:Ok C){X:Value->Shared->Prop}(hk:k < C.sl.length)(hu:K.l[k]?=some .uu)(P:Pre C K st p)(rv:C.V p v y)(h:∀m' q,MG C p q->Pre C (K.at (K.l.set k v) m') st q->R () q.s):wpAny C.M A (storeName C.env (C.sl.getD k "") y) R X p.s:=by
 have hx:=kq hk
 have e:C.sl.getD k "" = _:=dJ hx
 rcases (H.lc _ (lx hx)).1 with hn | hn
 ·exact gc H (by show(decide _&&_)=true;rw[decide_eq_true hk,e,hn];rfl) P rv λm' q t P'=>h m' q t.s P'
 ·refine LA λhG=>?_
  obtain⟨ca,oc,h1,ht,h2,h3⟩:=P.lr.2 k _ hu hx hn
  obtain⟨RZ,W,hU⟩:=List.append_of_mem h2
  refine hG ?_
  clear hG
  have pm:∀o,(RZ++(true,ca,o)::W).map (·.2)=RZ.map (·.2)++(ca,o)::W.map (·.2):=λo=>R5
  have I:=P.at'.inv
  have eul:p.ul=RZ.map (·.2)++(ca,oc)::W.map (·.2):=by show p.up.map (·.2)=_;rw[hU,pm]
  rw[eul]at I
  have I1:Inv C.hB C.L K.m p.s.heap p.ad (p.φ++((ca,oc)::(RZ.map (·.2)++W.map (·.2)))):=I.perm (mid:=[]) ((List.perm_middle.append_left _).append_left _)
  (refine(e)▸?_)
  refine wpAny_storeName_cell (env:=C.env) H.hk (e▸hn) (e▸h1) ⟨oc,I1.KP.1,h3⟩ λh' ⟨o',NB,Pb⟩ hs=>?_
  have I2:=I1.L9 hs NB
  have I3:Inv C.hB C.L K.m h' p.ad (p.φ++(RZ++(true,ca,o')::W).map (·.2)):=by rw[pm];exact I2.perm (mid:=[]) ((List.perm_middle.symm.append_left _).append_left _)
  refine h K.m ⟨{ p.s with heap:=h'},p.ad,p.φ,RZ++(true,ca,o')::W⟩ ⟨λJ h=>h,.rfl,?_,rfl⟩ ⟨P.rm,⟨λi w hi hw=>?_,λi nm hi ha hc=>?_⟩,I3,P.at'.rep⟩
  ·rw[hU]
   exact(K7.rfl.mono λJ J h=>.inl h).app (.cons (.inr ⟨ht,rfl,rfl,rfl⟩) (K7.rfl.mono λJ J h=>.inl h))
  ·by_cases Oj:i=k
   ·subst Oj
    have hi:(K.l.set i v)[i]?=some w:=hi
    rw[List.getElem?_set_self']at hi
    refine Kc hi λJ J ee=>?_
    subst ee
    exact⟨_,y,hx,.inr ⟨hn,ca,o',h1,lg (.inr (by rw[show Pt.ul ⟨_,p.ad,p.φ,RZ++(true,ca,o')::W⟩=_ from pm o'];exact lg (.inr (.head _)))),Pb⟩,rv⟩
   ·have hi:(K.l.set k v)[i]?=some w:=hi
    rw[Sd (Ne.symm Oj)]at hi
    obtain⟨nm,z,a,b,q⟩:=P.lr.1 i w hi hw
    refine⟨nm,z,a,b.imp id λ⟨b1,ca2,oc2,c1,c2,c3⟩=>⟨b1,ca2,oc2,c1,?_,c3⟩,q⟩
    rcases mx c2 with c2 | c2
    ·exact lg (.inl c2)
    ·refine lg (.inr ?_)
     rw[eul]at c2
     rw[show Pt.ul ⟨_,p.ad,p.φ,RZ++(true,ca,o')::W⟩=_ from pm o']
     rcases mx c2 with c2 | c2
     ·exact lg (.inl c2)
     ·rcases kl c2 with e2 | c2
      ·cases e2
       exact nomatch h3.symm.trans c3
      ·exact lg (.inr (.tail _ c2))
  ·by_cases Oj:i=k
   ·subst Oj
    have hi:(K.l.set i v)[i]?=some .uu:=hi
    rw[List.getElem?_set_self']at hi
    refine Kc hi λJ J ee=>?_
    have rv:C.V p .uu y:=ee▸rv
    exact rv.elim
   ·have hi:(K.l.set k v)[i]?=some .uu:=hi
    rw[Sd (Ne.symm Oj)]at hi
    obtain⟨ca2,oc2,c1,J,c2,c3⟩:=P.lr.2 i nm hi ha hc
    refine⟨ca2,oc2,c1,ht,?_,c3⟩
    rw[hU]at c2
    rcases mx c2 with c2 | c2
    ·exact lg (.inl c2)
    ·rcases kl c2 with e2 | c2
     ·cases e2
      exact absurd (i3 H.nd ha hx (H.ci ht _ _ _ c1 h1)) Oj
     ·exact lg (.inr (.tail _ c2))
theorem jT(H:Ok C){X:Value->Shared->Prop}(hk:OW C.sc C.sl k=true)(P:Pre C K st p)(rv:C.V p v y)(h:∀m' q,To p q->Pre C (K.at (K.l.set k v) m') st q->R () q.s):wpAny C.M A (assign (nE (C.sl.getD k "") e) C.env y) R X p.s:=
 wpAny_assign_Name (gc H hk P rv h)
theorem iB{l:List (Nat×Expr)}{x:Expr}:swappedStores (l.map λp=>nE (C.sl.getD p.1 "") p.2) x env=pure none:=by
 cases l with
 | nil=>rfl
 | cons a l=>cases l <;> rfl
theorem uV(H:Ok C){X:Value->Shared->Prop}(ns:List Nat):∀{k:Nat}{ts:List Expr}{t:Expr}{K:Bk}{p:Pt}{R:Unit->Shared->Prop},((k::ns).all (OW C.sc C.sl))=true->ns.length=ts.length->Pre C K st p->C.V p v y->
  (∀m' q,To p q->Pre C (K.at (io K.l v (k::ns)) m') st q->R () q.s)->wpAny C.M A (assignAll y ((assignEach (((k::ns).zip (t::ts)).map λp=>nE (C.sl.getD p.1 "") p.2) C.env).map (·.2))) R X p.s:=by
 induction ns with
 | nil=>exact λ{k ts t K p R} h1 h2 P rv h=>(List.eq_nil_of_length_eq_zero h2.symm)▸aEl h1 λh1 J=>jT H h1 P rv h
 | cons k' ns ih=>
  intro k ts t K p R h1 h2 P rv h
  cases ts with
  | nil=>exact nomatch h2
  | cons t' ts=>exact aEl h1 λh1 h3=>wpAny_bind (wpAny_holding (jT (e:=t) H h1 P rv λm' q tt P'=>ih h3 (Tb h2) P' (tt.vr rv) λm'' q' t' P''=>h m'' q' (tt.trans t') P''))
theorem r7(H:Ok C){X:Value->Shared->Prop}{ts:List Expr}{K:Bk}{p:Pt}(h1:ns.all (OW C.sc C.sl)=true)(h0:ns≠[])(h2:ns.length=ts.length)(P:Pre C K st p)(rv:C.V p v y)
  (h:∀m' q,To p q->Pre C (K.at (io K.l v ns) m') st q->R () q.s):wpAny C.M A (assignAll y ((assignEach ((ns.zip ts).map λp=>nE (C.sl.getD p.1 "") p.2) C.env).map (·.2))) R X p.s:=by
 cases ns with
 | nil=>exact(h0 U).elim
 | cons k ns=>
  cases ts with
  | nil=>exact nomatch h2
  | cons t ts=>exact uV H ns h1 (Tb h2) P rv h
theorem uf(H:Ok C)(hi:JB C i):dj C (.asg ns i):=λs0 hc K st p r Q hv P post=>aEl hc λh1 h2=>aEl h2 λh2 h3=>aEl h2 λh2 h4=>Kc hv λw hw e'=>by
 subst e'
 have h4:=kj h4
 exact wpAny_Assign_stores (hi _ h1 hw P λy q t a ry=>r7 H h3 h4.1 h4.2 (P.to t a) ry λm' q' t' P'=>post m' q' (t.trans t').s P') (mB h2 (aW i h1) _ _ _) iB
theorem rH(H:Ok C){o:NL}(hi:JB C i):dj C (.K5 k o i):=λs0 hc K st p r Q hv P post=>aEl hc λh1 h2=>aEl h2 λh2 h3=>Jx hv λu hu h=>Jx h λw hw h=>Kc h λz hz e'=>by
 subst e'
 refine LA λhG=>?_
 obtain⟨n,x,e1,e2,rx⟩:=P.lr.1 k u hu λe=>by subst e;exact nS hz
 refine hG ?_
 clear hG
 show wpAny C.M K.A (exec (.AugAssign (nE (C.sl.getD k "") _) _ _ _) _) Q K.X p.s
 have hg:C.sl.getD k "" = n:=dJ e1
 (refine(hg)▸?_)
 refine wpAny_AugAssign_Name (mK H e2 P.at' ?_)
 refine hi _ h1 hw P λy q t a ry=>qg h2 (t.vr rx) ry hz λtk zv rz=>?_
 (refine(hg)▸?_)
 exact gc H h3 (P.to (t.trans (.tk (t0:=tk))) a.tk) rz λm' q' t' P'=>post m' q' ((t.trans .tk).trans t').s P'
end
theorem wQ{a b:Nat}(h:a≠b):(a==b)=false:=beq_eq_false_iff_ne.mpr h
theorem l0(k:Nat)(v:V)(n:Nat)(f:List (Nat×V)):(jb k v f).lookup n=bif n==k then some v else f.lookup n:=by
 induction f with
 | nil=>rw[jb,R6];cases n==k <;> rfl
 | cons p r ih=>
  obtain⟨a,b⟩:=p
  rw[jb]
  cases hq:(a==k) with
  | true=>
   (rewrite[cond_true];rewrite[R6];rewrite[R6];refine(ld hq).symm▸?_)
   cases n==k <;> rfl
  | false=>
   (rewrite[cond_false];rewrite[R6];rewrite[R6];refine(ih)▸?_)
   cases h:n==a with
   | true=>(refine(ld h)▸?_;refine(hq)▸?_);rfl
   | false=>rfl
theorem AF(k:Nat)(v:V)(f:List (Nat×V)):(jb k v f).length=bif (f.lookup k).isSome then f.length else f.length+1:=by
 induction f with
 | nil=>rfl
 | cons p r ih=>
  obtain⟨a,b⟩:=p
  rw[jb,R6]
  cases hq:(a==k) with
  | true=>(refine(ld hq).symm▸?_;rw[show(k==k)=true from beq_self_eq_true k]);rfl
  | false=>
   (rewrite[show(k==a)=false from wQ (Ne.symm (beq_eq_false_iff_ne.mp hq))];rewrite[cond_false];refine(R0).symm▸?_;refine(ih)▸?_)
   cases (List.lookup k r).isSome <;> rfl
section
variable{K:Bk}{m:Zs->Option Value}{p:Pt}{r:LD×List V×St}{v w:V}{x:Value}{Q:Flow->Shared->Prop}{e:Expr}{tk:Tok}{t o d:E}{a b:S}{f:List (Nat×V)}
theorem FR.put(nmI:∀a b,a < 128->b < 128->a≠b->(Y.nm a==Y.nm b)=false)(hk:k < 128)(r:FR Y φ am f es)(rv:VR Y φ am v y)(hs:Int)(t:Tok):FR Y φ am (jb k v f) (putL (Y.nm k) hs (.str (Y.nm k) t) y es):=λn hn=>by
 rw[l0]
 by_cases h:n=k
 ·subst h
  rw[show(n==n)=true from beq_self_eq_true n,cond_true]
  exact⟨λw hw=>⟨y,(eG _ _ _ _ _ _).trans (by rw[beq_self_eq_true];rfl),kc hw▸rv⟩,nofun⟩
 ·(refine(wQ h)▸?_;rewrite[cond_false];rewrite[eG];refine(nmI k n hk hn (Ne.symm h))▸?_;rw[cond_false])
  exact r n hn
theorem FR.len(hk:k < 128)(r:FR Y φ am f es)(hl:es.length<=f.length)(hs:Int)(t:Tok):(putL (Y.nm k) hs (.str (Y.nm k) t) y es).length<=(jb k v f).length:=by
 rw[AF]
 cases hq:f.lookup k with
 | none=>exact ke (ip _ _ _ _ _).1 (mn hl)
 | some w=>
  obtain⟨z,hz,_⟩:=(r k hk).1 w hq
  exact((ip _ _ _ _ _).2 z hz).symm▸hl
theorem FR.tot(hk:k < 128)(r:FR Y φ am f es):(getL (Y.nm k) es).isSome=true:=by
 cases hq:f.lookup k with
 | none=>(refine((r k hk).2 hq)▸?_);rfl
 | some w=>obtain⟨z,hz,_⟩:=(r k hk).1 w hq;(refine(hz)▸?_);rfl
theorem lW(H:Ok C){X:Value->Shared->Prop}(a:At C m st p)(ro:C.V p w x)(rv:C.V p v y)(hs:B5 k w v st=some Jy)(h:∀q,To p q->At C m Jy q->R () q.s):wpAny C.M A (setAttr x (C.Y.nm k) y) R X p.s:=
 Jx hs λz hz hs=>KN hs λhg e'=>aEl hg λhg J=>aEl hg λh1 h2=>by
  subst e'
  have hlen:=kj h1
  have hk:=kj h2
  refine a.ins hz ro λz' d es n hc I lt g gl gle=>?_
  have hF:=g.put H.K.nmI hk rv (PyData.keyHash C.w.params (C.Y.nm k)) (p.s.toks+1)
  have hl:=FR.len (v:=v) (y:=y) hk g gl (PyData.keyHash C.w.params (C.Y.nm k)) (p.s.toks+1)
  have hpl:(jb k v z.2.2).length<=100:=by
   rw[AF];cases (List.lookup k z.2.2).isSome
   ·exact hlen
   ·exact R8 hlen
  generalize hes:putL (C.Y.nm k) (PyData.keyHash C.w.params (C.Y.nm k)) (.str (C.Y.nm k) (p.s.toks+1)) y es=Qg at hF hl
  refine a.turn (pre:=[(z',instObj (C.Y.JW z.2.1) d)]) (post:=[]) hc (dictOf Qg (putN (C.Y.nm k) es n)) U (.ins lt hF hl hpl) λRZ go=>?_
  exact set_dict a.inv.fr H.O.X a.inv.nw I U (H.K.iSet _ lt) (H.K.iOver _ lt) (H.K.iTak _ _ lt hk) (H.K.Od _ lt) (g.tot hk) (by (exact(hes).symm▸rfl)) RZ (ke hl (ke hpl (by decide))) λh' F' N'=>h _ (go h' _ F' N').1 (go h' _ F' N').2
theorem rC(H:Ok C)(ho:JB C o)(hi:JB C i):dj C (.JD k o i):=λs0 hc K st p r Q hv P post=>aEl hc λh1 h2=>aEl h2 λh2 h3=>Jx hv λw hw h=>Jx h λu hu h=>Kc h λs1 hs e'=>by
 subst e'
 exact plainObj_wpAny_Assign_Attribute (hi _ h2 hw P λy q t a ry=>ho _ h1 hu (P.to t a) λov q2 t2 a2 ro=>lW H a2 ro (t2.vr ry) hs λq3 t3 a3=>post K.m q3 ((t.trans t2).trans t3).s (P.to ((t.trans t2).trans t3) a3)) (kC h3 (aW i h2) _ _ _)
theorem rI(H:Ok C){n:Nat}{op:NL}(ho:JB C o)(hi:JB C i):dj C (.KU n op o i):=λs0 hc K st p r Q hv P post=>aEl hc λh1 h2=>aEl h2 λh2 h3=>aEl h3 λh3 h4=>Jx hv λu hu h=>Jx h λv0 hv0 h=>Jx h λw hw h=>Jx h λz hz h=>Kc h λs1 hs e'=>by
 subst e'
 refine wpAny_AugAssign_AttributeAny (ho _ h1 hu P λov q t a ro=>qR H (kj h4) a ro hv0 λy0 r0=>?_)
 have t':=t.trans (.tk (t0:=q.s.toks+1))
 refine hi _ h2 hw (P.to t' a.tk) λy q2 t2 a2 ry=>qg h3 (t2.vr r0) ry hz λtk zv rz=>?_
 have t2':=t2.trans (.tk (t0:=tk))
 exact lW H a2.tk (t2'.vr ro) rz hs λq3 t3 a3=>post K.m q3 ((t'.trans t2').trans t3).s (P.to ((t'.trans t2').trans t3) a3)
theorem jP(H:Ok C){X:Value->Shared->Prop}{s:Shared}{f:Expr}{as:List Expr}{ks:List Keyword}{p q:Pos}(h:wpAny C.M A (eval (.Call f as ks p) C.env) (λJ=>Q .next) X s):wpAny C.M A (exec (.Expr (.Call f as ks p) q) C.env) Q X s:=
 wpAny_Expr_any h (by show(C.sc.kind==.module&&_)=false;(refine(H.hk)▸?_);rfl) U
theorem lO(xs:List Value)(y:Value):xs.toArray.push y=(xs++[y]).toArray:=by rw[List.push_toArray]
theorem ug(H:Ok C)(ho:JB C o)(hi:JB C i):dj C (.app o i):=λs0 hc K st p r Q hv P post=>aEl hc λh1 h2=>aEl h2 λh2 h3=>aEl h3 λh3 h4=>Jx hv λu hu h=>Jx h λq0 hq0 h=>Jx h λw hw h=>Jx h λq1 Qa h=>KN h λhg e'=>aEl hg λhg J=>by
 subst e'
 have hg:=kj hg
 refine jP H (Call_method1 (bu h3 _ _) (by (refine(bC (aW i h2))▸?_);rfl) h4 (ho _ h1 hu P λov q t a ro=>?_))
 have ro':=ro
 revert ro'
 refine a.lst hq0 ro λz xs0 n0 J RB J J ro=>?_
 refine fH (W:=C.toWd) PySem.F.slot_list_append PySem.F.type_list_append RB (C9 ?_)
 refine hi _ h2 hw (P.to t a) λy q2 t2 a2 ry=>?_
 have ro2:=t2.vr ro
 generalize hx:Value.ref z=x at ro2
 revert hx
 refine a2.lst Qa ro2 λz' xs n hc hgt hx hz e=>?_
 cases e
 refine a2.M9 (k':=n+1) (l':=q1.2++[w.1]) hc (hx.snoc ry) (by (refine(ku)▸?_);exact hg) λRZ go=>?_
 have RZ:Upd z (listOf xs.toArray n) (listOf (xs.toArray.push y) (n+1)) (q2.ad.led++(q2.φ++q2.ul)) ((q2.ad.set q1.1 [(z,aS (xs++[y]) (n+1))]).led++(q2.φ++q2.ul)):=by rw[lO];exact RZ
 exact append_K a2.inv.fr a2.inv.nw RZ (λh3 F' N'=>post K.m _ ((t.trans t2).trans (go h3 q2.s.toks F' N').1).s (P.to ((t.trans t2).trans (go h3 q2.s.toks F' N').1) (go h3 q2.s.toks F' N').2)) (by (refine(SQ)▸?_;refine(hx.length)▸?_);exact cG hz)
theorem ue(H:Ok C)(ho:JB C o)(hi:JB C i):dj C (.ext o i):=λs0 hc K st p r Q hv P post=>aEl hc λh1 h2=>aEl h2 λh2 h3=>aEl h3 λh3 h4=>Jx hv λu hu h=>Jx h λq0 hq0 h=>Jx h λw hw h=>Jx h λq1 Qa h=>Jx h λw1 hw1 h=>KN h λhg e'=>aEl hg λhg J=>by
 subst e'
 have hg:=kj hg
 refine jP H (Call_method1 (bu h3 _ _) (by (refine(bC (aW i h2))▸?_);rfl) h4 (ho _ h1 hu P λov q t a ro=>?_))
 have ro':=ro
 revert ro'
 refine a.lst hq0 ro λz xs0 n0 J RB J J ro=>?_
 refine fH (W:=C.toWd) PySem.F.slot_list_extend PySem.F.type_list_extend RB (C9 ?_)
 refine hi _ h2 hw (P.to t a) λy q2 t2 a2 ry=>?_
 have ro2:=t2.vr ro
 generalize hx:Value.ref z=x at ro2
 revert hx
 refine a2.lst Qa ro2 λz' xs n hc hgt hx hz e=>?_
 cases e
 refine a2.lst hw1 ry λz2 ys n2 hc2 hgt2 hx2 Rt=>?_
 have hlen:xs.length+ys.length<=JL:=by (refine(hx.length)▸?_;refine(hx2.length)▸?_);exact hg
 have hb:=At.mem hc2 (.head _)
 have hnl:¬(!xs.toArray.isEmpty&&Builtin.List.listTooLong (xs.toArray.size+ys.toArray.size))=true:=λh=>aEl h λJ h2=>Nat.not_lt.mpr (cG hlen) (kj h2)
 by_cases hy:ys=[]
 ·subst hy
  have hnil:w1.2=[]:=List.length_eq_zero_iff.mp hx2.length
  refine a2.M9 (k':=n) (PQ:=xs) (l':=q1.2++w1.2) hc (by (refine(hnil)▸?_;rw[mh]);exact hx) (by (refine(ku)▸?_);exact hg) λRZ go=>?_
  exact kxn_extend a2.inv.fr a2.inv.nw hb U RZ hnl (hx.length▸cG hz) (Sv (cG hlen)) λh3 F' N'=>post K.m _ ((t.trans t2).trans (go h3 q2.s.toks F' N').1).s (P.to ((t.trans t2).trans (go h3 q2.s.toks F' N').1) (go h3 q2.s.toks F' N').2)
 ·refine a2.M9 (k':=n+1) (PQ:=xs++ys) (l':=q1.2++w1.2) hc (hx.app hx2) (by (refine(ku)▸?_);exact hg) λRZ go=>?_
  exact kl_extend (l:=xs++ys) a2.inv.fr a2.inv.nw hb U (λe=>hy (List.length_eq_zero_iff.mp e)) RZ hnl (hx.length▸cG hz) (Sv (cG hlen)) λh3 F' N'=>post K.m _ ((t.trans t2).trans (go h3 q2.s.toks F' N').1).s (P.to ((t.trans t2).trans (go h3 q2.s.toks F' N').1) (go h3 q2.s.toks F' N').2)
theorem og{x:Expr}(h:AW x=true)(hs:Mz x=true)(ts:List Expr)(k:Nat)(pt:Pos)(n:Nat)(env:Env):swapsWithSole [.Tuple ts k pt] x n env=pure false/\swappedStores [.Tuple ts k pt] x env=pure none:=by
 cases x <;> first | exact⟨rfl,rfl⟩ | exact J4 h | exact J4 hs
theorem xC{v:V}{vs:List V}{y:Value}{G:Value->Prop}(h:DW v=some vs)(r:C.V p v y)(k:∀u ys n,(u,BH ys n)∈p.φ->Jp (C.V p) vs ys->G (.ref u)):G y:=Jx h λl h1 h=>KN h λhg e=>by
 subst e
 cases v with
 | Ma=>
  obtain rfl:=kc h1
  have r:KW p.φ (·=[]) y:=r
  cases r with | mk m c=>subst c;exact k _ _ _ m .nil
 | Kh a b=>
  refine Kc h1 λl' h2 e=>?_
  subst e
  have hu:ae a=false:=lm (ma hg a (.head _))
  have r:KW p.φ (K9 (VR C.Y p.φ p.ad.am a) (Mg C.Y p.φ p.ad.am b)) y:=PJ.t r hu
  cases r with | mk m c=>exact k _ _ _ m (ji (C:=C) (p:=p) (r:=.Kh a b) h1 c)
 | _=>exact nS h1
theorem tF{v:V}(h:ae v=true):v=.uu:=by cases v <;> first | rfl | exact J4 h
theorem lK(h:ae ((l[k]?).getD .Ma)=true):l[k]?=some .uu:=by
 cases e:l[k]? with
 | none=>rw[e]at h;exact J4 h
 | some v=>rw[e]at h;exact kg some (tF h)
theorem oj(l:List (Nat×Expr))(env:Env):(assignEach (l.map λp=>nE (C.sl.getD p.1 "") p.2) env).length=l.length/\(assignEach (l.map λp=>nE (C.sl.getD p.1 "") p.2) env).findIdx? (·.1)=none:=by
 induction l with
 | nil=>exact⟨rfl,rfl⟩
 | cons a l ih=>
  have e:assignEach ((a::l).map λp=>nE (C.sl.getD p.1 "") p.2) env=(false,assign (nE (C.sl.getD a.1 "") a.2) env)::assignEach (l.map λp=>nE (C.sl.getD p.1 "") p.2) env:=rfl
  refine⟨by rw[e];exact kg (·+1) ih.1,?_⟩
  rw[e,List.findIdx?_cons,if_neg SI,ih.2];rfl
theorem Bv(H:Ok C){X:Value->Shared->Prop}(ns:List Nat):∀{ts:List Expr}{vs:List V}{ys:List Value}{K:Bk}{p:Pt}{R:Unit->Shared->Prop},ns.length=ts.length->vs.length=ns.length->ns.Nodup->(∀k∈ns,k < C.sl.length/\K.l[k]?=some .uu)->Pre C K st p->Jp (C.V p) vs ys->
  (∀m' q,MG C p q->Pre C (K.at (jY K.l ns vs) m') st q->R () q.s)->wpAny C.M A (assignInOrder ((assignEach ((ns.zip ts).map λp=>nE (C.sl.getD p.1 "") p.2) C.env).map (·.2)) ys) R X p.s:=by
 induction ns with
 | nil=>
  intro ts vs ys K p R h1 h2 nd hk P r h
  cases vs with
  | cons=>exact nomatch h2
  | nil=>cases r;exact wpAny_pure (h K.m p To.rfl.s P)
 | cons n ns ih=>
  intro ts vs ys K p R h1 h2 nd hk P r h
  cases ts with
  | nil=>exact nomatch h1
  | cons t ts=>
   cases r with
   | nil=>exact nomatch h2
   | @cons v y vs ys rv r=>
    have nd:=List.nodup_cons.mp nd
    refine assignInOrder_cons (wpAny_assign_Name (pK H (hk n (.head _)).1 (hk n (.head _)).2 P rv λm' q t P'=>?_))
    refine ih (K:=K.at (K.l.set n v) m') (Tb h1) (Tb h2) nd.2 (λk NV=>⟨(hk k (.tail _ NV)).1,?_⟩) P' (r.mono λJ J z=>t.vr z) λm2 q2 t2 P2=>h m2 q2 (t.trans t2) P2
    show(K.l.set n v)[k]?=_
    rw[Sd λe:n=k=>nd.1 (by rw[e];exact NV)]
    exact(hk k (.tail _ NV)).2
theorem ua(H:Ok C)(P9:C.hs=true)(hi:JB C i):dj C (.Pq ns i):=λs0 hc K st p r Q hv P post=>aEl hc λh1 h2=>aEl h2 λh2 h3=>aEl h2 λh2 h4=>Jx hv λw hw h=>Jx h λvs NP h=>KN h λhg e'=>aEl hg λhg1 hg2=>by
 subst e'
 have h4:=kj h4
 have hl:=kj hg1
 have sw:=og h2 (aW i h1) ((ns.zip (eX (av 1 s0))).map λp=>nE (C.sl.getD p.1 "") p.2) (knd (av 1 s0)) (av 1 s0).pos s0.pos.line C.env
 refine Assign_Tuple (hi _ h1 hw P λy q t a ry=>?_) sw.1 sw.2
 have key:=@xC C q w.1 vs y (λy=>wpAny C.M K.A (assign (.Tuple ((ns.zip (eX (av 1 s0))).map λp=>nE (C.sl.getD p.1 "") p.2) (knd (av 1 s0)) (av 1 s0).pos) C.env y) (λJ=>Q .next) K.X q.s) NP ry
 refine key λu ys n hT r=>?_
 have ne:=oj (C:=C) (ns.zip (eX (av 1 s0))) C.env
 refine assign_Tuple_tuple (P.rm P9).h ⟨_,a.got hT,rfl,_,rfl⟩ (ne.1.trans (by rw[List.length_zip,<- h4.1,Nat.min_self,<- hl,r.length];exact List.size_toArray.symm)) ne.2 λKR MN=>?_
 have P':=(P.to t a).to (.h (t0:=q.s.toks)) (a.ext (t0:=q.s.toks) MN)
 exact Bv H ns h4.1 hl h4.2 (λk hk=>⟨kj (ma h3 k hk),lK (ma hg2 k hk)⟩) P' (To.h.all r) λm2 q2 t2 P2=>post m2 q2 ((t.trans .h).s.trans t2) P2
theorem rJ(H:Ok C)(hi:JB C i):dj C (.Mu k i):=λs0 hc K st p r Q hv P post=>aEl hc λh1 h2=>aEl h2 λh2 h3=>Jx hv λw hw h=>KN h λhg e'=>by
 subst e'
 exact wpAny_Assign_stores (hi _ h1 hw P λy q t a ry=>wpAny_assign_Name (pK H (kj h3) (lK hg) (P.to t a) ry λm' q' t' P'=>post m' q' (t.s.trans t') P')) (mB h2 (aW i h1) _ _ _) (iB (l:=[(k,av 1 s0)]))
end
def oY(q:Addr)(i:Nat)(o:Obj):Prop:=o.cls=.type "list_iterator" /\ o.data=.fields #[.ref q,.int i 0]
def f9(x:Zs)(t:Tok)(i:Nat)(o:Obj):Prop:=o.cls=.type (if x.cps.all (· < 128) then "str_ascii_iterator" else "str_iterator")/\o.data=.fields #[.str x t,.int i 0]
inductive Qp(x:Value)(i:Nat)(o:Obj):Prop
 | lst {a:_}:x=.ref a->oY a i o->Qp x i o
 | str {s t:_}:x=.str s t->f9 s t i o->Qp x i o
noncomputable abbrev Pt.wi(p:Pt)(z:Addr×Obj):Pt:=⟨p.s,p.ad,p.φ,(false,z)::p.up⟩
section
variable{K:Bk}{m:Zs->Option Value}{p:Pt}{r:LD×List V×St}{v:V}{x:Value}{Q:Flow->Shared->Prop}{e:Expr}{tk:Tok}{t o d:E}{a b:S}{X:Value->Shared->Prop}{it:Addr}{oi:Obj}{w:Option V}{z:Addr×Obj}
theorem To.wi(t:To (p.wi z) q):∃q',q=q'.wi z/\To p q':=by
 obtain⟨s,ad,φ,up⟩:=q
 obtain⟨a,b,c,d⟩:=t
 revert c
 generalize hu:(Pt.mk s ad φ up).up=u
 intro c
 obtain rfl:=hu
 cases c with
 | @cons _ y _ up' r c=>
  obtain⟨y0,y1,y2⟩:=y
  obtain⟨z1,z2⟩:=z
  cases (show y0=false from r.b)
  cases (show y1=z1 from r.a)
  cases r.o.elim id λh'=>nomatch h'.1
  exact⟨⟨s,ad,φ,up'⟩,S9 _,a,b,c,d⟩
theorem LR.wi(r:LR C p l m):LR C (p.wi z) l m:=r.mv (λJ h=>h) (λJ h J=>.tail _ h) .rfl
theorem LR.PR(r:LR C (p.wi z) l m)(h:∀v,z.2.data≠.cell v):LR C p l m:=r.mv (λJ h=>h) (λw hw hc=>(kl hw).elim (λe=>hc.elim λv hv=>absurd (by rw[e]at hv;exact hv) (h v)) id) .rfl
theorem MG.wi(t:MG C (p.wi z) q):∃q',q=q'.wi z/\MG C p q':=by
 obtain⟨s,ad,φ,up⟩:=q
 obtain⟨a,b,c,d⟩:=t
 revert c
 generalize hu:(Pt.mk s ad φ up).up=u
 intro c
 obtain rfl:=hu
 cases c with
 | @cons _ y _ up' r c=>
  obtain⟨y0,y1,y2⟩:=y
  obtain⟨z1,z2⟩:=z
  have r:=r.elim id λh=>nomatch h.2.1
  cases (show y0=false from r.b)
  cases (show y1=z1 from r.a)
  cases r.o.elim id λh'=>nomatch h'.1
  exact⟨⟨s,ad,φ,up'⟩,S9 _,a,b,c,d⟩
theorem jw{Q:Option Value->Shared->Prop}(hh:A.handled=none)(a:At C m st (p.wi (it,oi)))(r:C.V p v x)(hI:Qp x j oi)(hw:itemAt v st j=some w)
  (h0:w=none->∀h',Heap.ExtBut it p.s.heap h'->Q none { p.s with heap:=h'})
  (h1:∀u,w=some u->∀h' y tk o',h'.get? it=some o'->Qp x (j+1) o'->Heap.SameBut it p.s.heap h'->C.V p u y->Q (some y) { p.s with heap:=h',toks:=tk}):wpAny C.M A (pyNext (.ref it)) Q X p.s:=by
 have hit:p.s.heap.get? it=some oi:=a.inv.KP.1
 refine Ml hw (λhw=>Kc hw λt ht hw=>?_) λhw=>Kc hw λl hl hw=>?_
 ·cases r.str ht with | mk tk hl=>
  cases hI with
  | lst e _=>cases e
  | str e hS=>
  cases e
  have ec:(J1 t).cps[j]?=t[j]?:=Su
  cases hz:t[j]? with
  | none=>
   rw[hz]at hw ec
   obtain rfl:=hw
   cases ha:(J1 t).cps.all (· < 128) with
   | true=>rw[f9,ha]at hS;exact wpAny_pyNext_ascii_end hh (it:=it) ⟨oi,hit,hS⟩ ec (h0 U)
   | false=>rw[f9,ha]at hS;exact wpAny_pyNext_wide_end hh (it:=it) ⟨oi,hit,hS⟩ ec (h0 U)
  | some z=>
   rw[hz]at hw ec
   obtain rfl:=hw
   cases ha:(J1 t).cps.all (· < 128) with
   | true=>
    rw[f9,ha]at hS
    exact wpAny_pyNext_ascii_item (it:=it) ⟨oi,hit,hS⟩ ec λh' ⟨o',NB,MN⟩ NQ=>h1 _ U h' _ _ o' NB (.str U (by (rewrite[f9];refine(ha).symm▸?_);exact MN)) NQ (Ke.mk _ (show 1<=JL by decide))
   | false=>
    rw[f9,ha]at hS
    exact wpAny_pyNext_wide_item (it:=it) ⟨oi,hit,hS⟩ ec λh' ⟨o',NB,MN⟩ NQ=>h1 _ U h' _ _ o' NB (.str U (by (rewrite[f9];refine(ha)▸?_);exact MN)) NQ (Ke.mk _ (show 1<=JL by decide))
 ·subst hw
  have r':C.V (p.wi (it,oi)) v x:=r
  revert hI h1
  refine a.lst hl r' λc xs n hc hg hx hz hI h1=>?_
  cases hI with
  | str e _=>cases e
  | lst e hS=>
  cases e
  cases hz:l.2[j]? with
  | none=>exact wpAny_pyNext_list_end hh (it:=it) (l:=c) (items:=xs.toArray) ⟨oi,hit,hS⟩ (aD hg) ((Su (xs:=xs)).trans (Si (hx.length▸List.getElem?_eq_none_iff.mp hz))) (h0 hz)
  | some u=>
   obtain⟨y,hy,ry⟩:=hx.get hz
   exact wpAny_pyNext_list_item (it:=it) (l:=c) (i:=j) (items:=xs.toArray) ⟨oi,hit,hS⟩ (aD hg) ((Su (xs:=xs)).trans hy) λh' ⟨o',NB,MN⟩ NQ=>h1 u hz h' y p.s.toks o' NB (.lst U MN) NQ ry
theorem jx{Q:Value->Shared->Prop}(a:At C m st p)(r:C.V p v x)(hw:itemAt v st 0=some w)(h:∀o,o.isFreed=false->Qp x 0 o->Q (.ref p.s.heap.objs.size) { p.s with heap:=p.s.heap.push o}):wpAny C.M A (pyIter x) Q X p.s:=by
 refine Ml hw (λhw=>Kc hw λt ht J=>?_) λhw=>Kc hw λl hl J=>?_
 ·cases r.str ht with | mk tk hl=>
  cases ha:(J1 t).cps.all (· < 128) with
  | true=>exact wpAny_pyIter_ascii ha (h _ U (.str U (by (rewrite[f9];refine(ha).symm▸?_);exact⟨rfl,rfl⟩)))
  | false=>exact wpAny_pyIter_wide ha (h _ U (.str U (by (rewrite[f9];refine(ha)▸?_);exact⟨rfl,rfl⟩)))
 ·revert h
  exact a.lst hl r λc xs n hc hg hx hz h=>wpAny_pyIter_list (aD hg) (h _ U (.lst U ⟨rfl,rfl⟩))
inductive FI(C:Cf)(K:Bk)(p:Pt)(r:LD×List V×St)(it:Addr)(IT:Nat->Obj->Prop)(g:Nat->List V->St->Kf):Shared->Prop
 | mk {l m st q j o:_}:MG C p q->Pre C (K.at l m) st (q.wi (it,o))->IT j o->g j l st=some r->FI C K p r it IT g q.s
theorem vq{x:Value}:∀j o,Qp x j o->∀v,o.data≠.cell v:=λj o h v e=>by cases h with | lst _ h=>exact nomatch h.2.symm.trans e | str _ h=>exact nomatch h.2.symm.trans e
set_option tactic.hygienic true in
theorem qp(H:Ok C)(hb:Lf C b){s0:Stmt}{IT:Nat->Obj->Prop}{go:St->Nat->Option (Option V)}(nc:∀j o,IT j o->∀v,o.data≠.cell v)(hk:OW C.sc C.sl k=true)(hbd:gT C.Y C.sl C.sc b s0=true)
  (next:∀{X:Value->Shared->Prop}{Q:Option Value->Shared->Prop}{q:Pt}{m:Zs->Option Value}{st:St}{o:Obj}{j:Nat}{w:Option V},MG C p q->At C m st (q.wi (it,o))->IT j o->go st j=some w->
   (w=none->∀h',Heap.ExtBut it q.s.heap h'->Q none { q.s with heap:=h'})->
   (∀u,w=some u->∀h' y tk o',h'.get? it=some o'->IT (j+1) o'->Heap.SameBut it q.s.heap h'->C.V q u y->Q (some y) { q.s with heap:=h',toks:=tk})->wpAny C.M K.A (pyNext (.ref it)) Q X q.s)
  {wf:Nat} (hv:cy k go (JJ C.c b) wf 0 K.l st=some r) (P:Pre C K st (p.wi (it,oi))) (Mt:IT 0 oi) (post:MH C K p r Q) :
  codeAny C.M K.A (.forLoop (nE (C.sl.getD k "") e) (.ref it) (cJ (toS C.Y C.sl b s0)) [] C.env) (λr s'=>match r with | .ok f=>Q f s' | .error e=>cameBackBy C.M K.A C.env K.X e s') p.s:=by
 refine codeAny_forLoop (λf=>FI C K p r it IT (λj=>cy k go (JJ C.c b) f j)) (λf s' hI=>?_) wf (.mk (l:=K.l) (m:=K.m) To.rfl.s P Mt hv) (λz=>rfl)
 obtain⟨t1,P1,Mt,hl⟩:=hI
 rename_i l m MZ q1 j o1
 cases f with
 | zero=>exact nS hl
 | succ f=>
 refine Jx hl λu hu hl=>next t1 P1.at' Mt hu (λe1 KR Pa=>?_) λu e1 KR xv Qx o₂ ho₂ MM NQ rx=>?_
 ·subst e1;obtain rfl:=kc hl
  exact wpAny_execs_nil (post m _ (t1.trans (To.h (t0:=q1.s.toks) (h:=KR)).s) ⟨P1.rm,P1.lr.PR (nc _ _ Mt),P1.at'.inv.NY Pa,P1.at'.rep⟩)
 ·subst e1
  have tq:MG C p (q1.mv KR Qx q1.ad q1.φ):=t1.trans To.h.s
  have P2:Pre C (K.at l m) MZ ((q1.mv KR Qx q1.ad q1.φ).wi (it,o₂)):=⟨P1.rm,(P1.lr.PR (nc _ _ Mt)).wi,P1.at'.inv.L9 NQ ho₂,P1.at'.rep⟩
  refine jT (v:=u) (y:=xv) H hk P2 rx λm3 q3 t3 P3=>?_
  obtain⟨q3,rfl,t3'⟩:=t3.wi
  refine Jx hl λzz hz hl=>hb.x hbd (l:=l.set k u) (m:=m3) hz P3.rm P3.lr P3.at' λm4 q4 t4 lr4 a4=>?_
  obtain⟨q4,rfl,t4'⟩:=t4.wi
  have tt:=(tq.trans t3'.s).trans t4'
  obtain⟨c,l2,PY⟩:=zz
  cases c with
  | next=>exact⟨f,So f,   .mk (q:=q4) tt (Pre.mk (K:=K.at l2 m4) P.rm lr4 a4) MM hl⟩
  | ret v=>obtain rfl:=kc hl;exact λx rx=>post m4 q4 tt ⟨P.rm,lr4.PR (nc _ _ MM),a4.inv.Pe,a4.rep⟩ x rx
theorem E6{go:St->Nat->Option (Option V)}{b:List V->St->Kf}{n:Nat}(h:cy k go b n 0 l st=some r):∃w,go st 0=some w:=by
 cases n with
 | zero=>exact nS h
 | succ n=>exact Jx h λw hw J=>⟨w,hw⟩
theorem uv{e:Expr}(h:Mz e=true)(env:Env)(v:Value):foldedSetIterable e env v=pure v:=by cases e <;> first | rfl | exact J4 h
theorem ud(H:Ok C)(P9:C.hs=true)(hi:JB C i)(hb:Lf C b):dj C (.for k i b):=λs0 hc K st p r Q hv P post=>aEl hc λh1 h2=>aEl h2 λh2 h3=>Jx hv λw hw hl=>by
 obtain⟨w0,h0⟩:=E6 hl
 refine wpAny_For (hi _ h1 hw P λy q t a ry=>jx a ry h0 λo hfr Mt=>?_) λJ=>uv (aW i h1) _ _
 exact qp (p:=q.mv (q.s.heap.push o) q.s.toks q.ad q.φ) (IT:=Qp y) H hb vq h2 h3 (λtq a' hI hw h0 h1=>jw (P.rm P9).h a' (tq.vr (To.h.vr ry)) hI hw h0 h1) hl ⟨P.rm,(P.to t a).lr.wi,a.inv.addUp o hfr,a.rep⟩ Mt λm' q' t' P'=>post m' q' ((t.trans .h).s.trans t') P'
def RgR(a:Nat)(n:Int)(j:Nat)(o:Obj):Prop:=o={ cls:=.type "range_iterator",dict:=none,data:=.fields #[rawInt ((j+a:Nat):Int),rawInt (((n - a).toNat:Int) - j),rawInt 1],slots:=#[]}
theorem rF(H:Ok C)(P9:C.hs=true){fr:Bool}(hi:JB C i)(hb:Lf C b):dj C (.forR k fr i b):=λs0 hc K st p r Q hv P post=>aEl hc λh1 h2=>aEl h2 λh2 h3=>aEl h3 λh3 h4=>Jx hv λw hw hl=>Jx hl λN hN hl=>Jx hl λJ hb1 hl=>KN hb1 λhb2 J=>aEl hb2 λh5 h6=>by
 have h5:=kj h5
 have h6:=kj h6
 refine wpAny_For (gC H h3 (by simp) (id:=.type "range") (by boot_by_name) (by decide) P.at' _ ?_) (by intro _;rfl)
 have hsz:Builtin.Range.rangeSize ((fr.toNat:Nat):Int) N 1=((N - (fr.toNat:Nat)).toNat:Int):=by rw[rangeSize_one];split <;> omega
 have hsm:Builtin.Range.small ((fr.toNat:Nat):Int) N 1=true:=by
  have:fr.toNat<=1:=by cases fr <;> decide
  exact small_one (by lia) (by lia) (by lia) (by omega)
 have fin:∀{q:Pt}{o:Obj}{t0 u1 u2 u3:Tok},o.isFreed=false->To p q->At C K.m w.2 q->IsRange (q.s.heap.push o) q.s.heap.objs.size ((fr.toNat:Nat):Int) N 1 u1 u2 u3->wpAny C.M K.A (pyIter (.ref q.s.heap.objs.size)) (λit s'=>codeAny C.M K.A (.forLoop (nE (C.sl.getD k "") (av 0 s0)) it (cJ (toS C.Y C.sl b (bR (cJ s0)))) [] C.env) (λr s'=>match r with | .ok f=>Q f s' | .error e=>cameBackBy C.M K.A C.env K.X e s') s') K.X { q.s with heap:=q.s.heap.push o,toks:=t0}:=λ{q} {o} {t0} {u1} {u2} {u3} hf t a hr=>by
  refine wpAny_pyIter_range hr hsm ?_
  (refine(hsz)▸?_)
  have a1:=a.push (t0:=t0) o hf
  refine qp (p:=(q.mv (q.s.heap.push o) t0 q.ad q.φ).mv ((q.s.heap.push o).push _) t0 q.ad q.φ) (go:=fD fr N) (IT:=RgR fr.toNat N) H hb (λj o h v e=>by cases h;exact nomatch e) h2 h4 ?_ hl ⟨P.rm,(P.to t a).lr.wi,a1.inv.addUp _ U,a1.rep⟩ (show _=_ by simp) λm' q' t' P'=>post m' q' (((t.trans .h).trans .h).s.trans t') P'
  intro X Q q' m st o j w tq a' hI hw h0 h1
  obtain rfl:=hI
  have hit:=a'.inv.KP.1
  obtain rfl:=kc hw
  by_cases KH:((j+fr.toNat:Nat):Int) < N
  ·rw[if_pos KH]at h0 h1
   refine wpAny_pyNext_range_item hit (by omega) λh' RA NQ=>h1 _ U h' _ _ _ RA ?_ NQ (dL.mk _)
   unfold RgR
   rw[show((N - (fr.toNat:Nat)).toNat:Int) - (j:Int) - 1=((N - (fr.toNat:Nat)).toNat:Int) - ((j+1:Nat):Int) from by lia,show((j+fr.toNat:Nat):Int)+1=((j+1+fr.toNat:Nat):Int) from by lia]
  ·rw[if_neg KH]at h0
   exact wpAny_pyNext_range_end (P.rm P9).h hit (by omega) (h0 U)
 cases fr with
 | false=>
  (refine(nz (aW i h1))▸?_)
  refine PySem.callWith_type U (Calls.evalArgs_plain (Calls.spliced_cons (hi _ h1 hw P λy q t a ry=>Calls.spliced_nil ?_)))
  cases ry.int hN with | mk tN=>
  exact call_range_1 (fin U t a (IsRange.new ..))
 | true=>
  (refine(qP (x:=cE (.int 1) (JC 1 (av 1 s0))) U (aW i h1))▸?_)
  refine PySem.callWith_type U (Calls.evalArgs_plain (Calls.spliced_cons (wpAny_Constant_int (Calls.spliced_cons (hi _ h1 hw (P.to (.tk (t0:=p.s.toks+1)) P.at'.tk) λy q t a ry=>Calls.spliced_nil ?_)))))
  cases ry.int hN with | mk tN=>
  exact call_range_2 (fin U (To.tk.trans t) a (IsRange.new ..))
end
end
theorem Jp.get'{α β:Type}{R:α->β->Prop}{l:List α}{k:List β}{b:β}(x:Jp R l k){i:Nat}(h:k[i]?=some b):∃a,l[i]?=some a/\R a b:=x.flip.get h
theorem p8{β:Type}{ex:β}{normal:List Zs}{f:Zs×Value->List (Zs×Value)×β->Sem (ForInStep (List (Zs×Value)×β))}(hf:∀p acc,p.1∈normal->acc.lookup p.1=none->f p (acc,ex)=pure (.yield (acc++[p],ex))) :
  ∀(kws acc:List (Zs×Value)),(∀p∈kws,p.1∈normal/\acc.lookup p.1=none)->(kws.map (·.1)).Nodup->(forIn kws (acc,ex) f:Sem _)=pure (acc++kws,ex)
 | [],acc,_,_=>by simp
 | p::kws,acc,h,nd=>by
  (rewrite[List.forIn_cons];refine(hf p acc (h p (.head _)).1 (h p (.head _)).2)▸?_;rw[pure_bind])
  rw[Sh,List.nodup_cons]at nd
  have:=p8 hf kws (acc++[p]) (λq hq=>⟨(h q (.tail _ hq)).1,by
   (rewrite[Tc];refine((h q (.tail _ hq)).2).symm▸?_)
   have LP:(q.1==p.1)=false:=by
    rw[beq_eq_false_iff_ne]
    intro e
    exact nd.1 (e▸SM hq)
   have Ry:¬ q.1=p.1:=by simpa using LP
   simp[Ry]⟩) nd.2
  simpa using this
theorem m5{f:Zs×Value->List (Zs×Value)->Sem (ForInStep (List (Zs×Value)))}(hf:∀p acc,f p acc=pure (.yield (if (acc.lookup p.1).isNone then acc++[p] else acc))) :
  ∀(ds acc:List (Zs×Value)),(forIn ds acc f:Sem _)=pure (ds.foldl (λacc p=>if (acc.lookup p.1).isNone then acc++[p] else acc) acc)
 | [],acc=>by simp
 | p::ds,acc=>by
  (rewrite[List.forIn_cons];refine(hf p acc)▸?_;rewrite[pure_bind];refine(List.foldl_cons).symm▸?_)
  exact m5 hf ds _
theorem xW{α:Type}{o:Option α}(h:o.isSome=true):¬ o.isNone=true:=by cases o with | none=>cases h | some=>exact SI
noncomputable def fA(names:List Zs)(xs:List Value)(kws:List (Zs×Value))(ds:List Value):List (Zs×Value):=
 let d:=ds.drop (ds.length - names.length)
 ((names.drop (names.length - d.length)).zip d).foldl (λacc p=>if (acc.lookup p.1).isNone then acc++[p] else acc) (names.zip xs++kws)
noncomputable def Eo(fd:FuncData)(args:List Arg):FuncData:={ fd with params:=⟨[],args,none,[],fd.params.kw_defaults,none,fd.params.defaults⟩}
theorem oO{s:Shared}{fd:FuncData}{args:List Arg}
  (hd:∀(M:Model)(A:Around)(E:Value->Shared->Prop)(Q:Option (Array Value)->Shared->Prop),Q oi s->wpAny M A (seqItems? fd.defaults) Q E s)
  (hlen:xs.length<=(args.map (·.arg)).length) (Rz:∀p∈kws,p.1∈args.map (·.arg)/\((args.map (·.arg)).zip xs).lookup p.1=none) (nd:(kws.map (·.1)).Nodup)
  (O6:∀x∈(args.map (·.arg)).take ((args.map (·.arg)).length - ((oi.getD #[]).toList.drop ((oi.getD #[]).toList.length - (args.map (·.arg)).length)).length),(((args.map (·.arg)).zip xs++kws).lookup x).isSome=true) :
  BindsTo s (Eo fd args) ⟨xs,kws⟩ ((args.map (·.arg)).filterMap λx=>((fA (args.map (·.arg)) xs kws (oi.getD #[]).toList).lookup x).map (x,·)):=by
 intro M A E Q hq
 refine wpAny_bind (m:=forIn kws _ _) (wpAny_of_eq (p8 (normal:=args.map (·.arg)) (λp acc h1 h2=>?_) kws _ Rz nd) ?_)
 ·exact(if_pos (Bool.or_eq_true_iff.mpr (.inl (List.contains_iff_mem.mpr h1)))).trans (if_neg (by rw[h2];exact SI))
 refine wpAny_bind (m:=seqItems? _) (hd _ _ _ _ ?_)
 refine wpAny_ite (KPc.ite_no (λh=>?_) ?_)
 ·exact Nat.not_lt_of_le hlen (kj (ly h).1)
 refine wpAny_ite (KPc.ite_no (λh=>SI ((kg (λl:List Zs=>!l.isEmpty) (List.filter_eq_nil_iff.mpr λx hx=>xW (O6 x hx))).symm.trans h)) ?_)
 refine wpAny_bind (wpAny_of_eq (m5 (λp acc=>(apply_ite (λz=>(pure (ForInStep.yield z):Sem _)) _ _ _).symm) _ _) ?_)
 refine wpAny_bind (wpAny_pure (wpAny_pure ?_))
 show Q (List.filterMap _ (args.map (·.arg)++[])) s
 rw[mh];exact hq
theorem Ac{P:Arguments}(hp:P.posonlyargs=[])(hv:P.vararg=none)(hk:P.kwonlyargs=[])(O7:P.kwarg=none):P=⟨[],P.args,none,[],P.kw_defaults,none,P.defaults⟩:=by
 refine(show P=Arguments.mk P.posonlyargs P.args P.vararg P.kwonlyargs P.kw_defaults P.kwarg P.defaults from by cases P;rfl).trans ?_
 rw[hp,hv,hk,O7]
theorem ya{fd:FuncData}(hp:fd.params.posonlyargs=[])(hv:fd.params.vararg=none)(hk:fd.params.kwonlyargs=[])(O7:fd.params.kwarg=none):fd=Eo fd fd.params.args:=
 kg (λp=>{ fd with params:=p}) (Ac hp hv hk O7)
theorem nu{s:Shared}{fd:FuncData}(N:List Zs)(hN:fd.params.args.map (·.arg)=N)
  (hp:fd.params.posonlyargs=[]) (hv:fd.params.vararg=none) (hk:fd.params.kwonlyargs=[]) (O7:fd.params.kwarg=none)
  (hd:∀(M:Model)(A:Around)(E:Value->Shared->Prop)(Q:Option (Array Value)->Shared->Prop),Q oi s->wpAny M A (seqItems? fd.defaults) Q E s)
  (hlen:xs.length<=N.length) (Rz:∀p∈kws,p.1∈N/\(N.zip xs).lookup p.1=none) (nd:(kws.map (·.1)).Nodup)
  (O6:∀x∈N.take (N.length - ((oi.getD #[]).toList.drop ((oi.getD #[]).toList.length - N.length)).length),((N.zip xs++kws).lookup x).isSome=true) :
  BindsTo s fd ⟨xs,kws⟩ (N.filterMap λx=>((fA N xs kws (oi.getD #[]).toList).lookup x).map (x,·)):=by
 subst hN
 exact(kg (λx=>BindsTo s x ⟨xs,kws⟩ _) (ya hp hv hk O7)).mpr (oO hd hlen Rz nd O6)
theorem wq{s:Shared}{T:Addr}{o:Obj}{items:Array Value}{n:Nat}(ho:s.heap.get? T=some o)(hs:o.data=.seq items n)(M:Model)(A:Around)(E:Value->Shared->Prop)(Q:Option (Array Value)->Shared->Prop)(h:Q (some items) s) :
  wpAny M A (seqItems? (.ref T)) Q E s:=wpAny_seqItems ho hs h
theorem sK{s:Shared}(M:Model)(A:Around)(E:Value->Shared->Prop)(Q:Option (Array Value)->Shared->Prop)(h:Q none s):wpAny M A (seqItems? .none) Q E s:=wpAny_pure h
structure FD where
 name:Zs
 qual:Zs
 params:Arguments
 body:List Stmt
 scope:Scope
 dV:Value
 kV:Value
 doc:Value
 pm:Value
 cdv:Value
 ct:Value
 oc:Value
 an:Option Addr
 od:Option Addr
 osl:Array (Option Value)
noncomputable abbrev FD.fd(d:FD):FuncData:=fnOf d.name d.qual d.params d.body d.scope d.dV d.kV d.doc d.pm d.an d.cdv d.ct
noncomputable abbrev FD.ps(d:FD):List Zs:=d.params.args.map (·.arg)
abbrev FD.Ok(K:Frag)(f:Addr)(d:FD):Prop:=
 K.lookup f=some ⟨d.oc,d.od,.func d.fd,d.osl⟩/\
 codeIn K d.cdv d.qual=true/\
 d.params.posonlyargs=[]/\
 d.params.vararg=none/\
 d.params.kwonlyargs=[]/\
 d.params.kwarg=none/\
 d.scope.isCoroutine=false/\
 d.scope.isGenerator=false/\
 d.scope.kind=.function
abbrev FD.Pl(d:FD):Prop:=(∀x∈d.scope.names,x.2≠.cell)/\(∀y∈d.ps,d.scope.names.lookup y=some .local)
section
variable{K:Frag}{f:Addr}{d:FD}(zz:FD.Ok K f d)
def FD.Ok.here:=zz.1
def FD.Ok.cd:=zz.2.1
def FD.Ok.po:=zz.2.2.1
def FD.Ok.va:=zz.2.2.2.1
def FD.Ok.ko:=zz.2.2.2.2.1
def FD.Ok.ka:=zz.2.2.2.2.2.1
def FD.Ok.co:=zz.2.2.2.2.2.2.1
def FD.Ok.ge:=zz.2.2.2.2.2.2.2.1
def FD.Ok.ki:=zz.2.2.2.2.2.2.2.2
end
theorem iC{w:World}{E:Value->Shared->Prop}{s:Shared}{o:Expr}{apos:Pos}{args:List Expr}{kws:List Keyword}
  (hbase:attributeBase o name env (eval o env)=eval o env) (hform:methodCallForm (args.length+kws.length) (backTo pos (starEach args env)) (backToKw pos (keywordEach kws env))=true) (hline:(apos.endLine==pos.line)=true)
  (h:wpAny (model prog w) A (eval o env) (λov JV=>∀pl,wpAny (model prog w) A (getMethod ov name pl) (λfx Kw=>wpAny (model prog w) A (callWith pos fx.1 fx.2 (backTo pos (starEach args env)) (backToKw pos (keywordEach kws env))) Q E Kw) E JV) E s) :
  wpAny (model prog w) A (eval (.Call (.Attribute o name apos) args kws pos) env) Q E s:=by
 rw[show eval (.Call (.Attribute o name apos) args kws pos) env=(do
  let ov <- attributeBase o name env (eval o env)
  standAt apos.atName
  methodCall o name apos pos env ov (args.length+kws.length) (backTo pos (starEach args env)) (backToKw pos (keywordEach kws env))) from rfl,hbase]
 refine wpAny_bind (wpAny_mono h (λov JV J5=>?_) λJ J e=>e)
 refine wpAny_bind (wpAny_standAt ?_)
 have O4:methodCallPos true o env apos pos=pure pos:=by unfold methodCallPos;simp[hline]
 unfold methodCall
 (refine(hform)▸?_)
 refine wpAny_bind (wpAny_holding (wpAny_mono (J5 _) (λfx Kw KR=>?_) λJ J e=>e))
 exact wpAny_bind (wpAny_of_eq O4 KR)
theorem eN{β:Type}{x:Zs}{v:β}:∀{l:List (Zs×β)},(x,v)∈l->(∀p∈l,p.1=x->p.2=v)->l.lookup x=some v
 | p::l,h,hu=>by
  rw[R6]
  cases hq:(x==p.1) with
  | true=>
   have:=hu p (.head _) (by simpa using Sx (by simpa using hq))
   simp[this]
  | false=>
   rcases kl h with rfl | h
   ·simp at hq
   ·exact eN h λq hq=>hu q (.tail _ hq)
theorem mW{β:Type}(x:Zs)(ds:List (Zs×β)):∀(acc:List (Zs×β)),(ds.foldl (λacc p=>if (acc.lookup p.1).isNone then acc++[p] else acc) acc).lookup x=(acc.lookup x).or (ds.lookup x):=by
 induction ds with
 | nil=>exact λacc=>Option.or_none.symm
 | cons p ds ih=>
  intro acc
  rw[List.foldl_cons,ih,R6]
  have e1:[p].lookup x=match x==p.1 with | true=>some p.2 | false=>none:=by rw[R6];rfl
  cases ha:acc.lookup p.1 with
  | none=>
   rw[show(if (none:Option β).isNone=true then acc++[p] else acc)=acc++[p] from rfl,Tc,e1,Option.or_assoc]
   cases x==p.1 <;> rfl
  | some v=>
   rw[show(if (some v).isNone=true then acc++[p] else acc)=acc from rfl]
   cases hq:x==p.1 with
   | true=>rw[ld hq,ha];rfl
   | false=>rfl
theorem dC{β:Type}:∀{N:List Zs}{zs:List β}{i:Nat}{x:Zs},N.Nodup->N[i]?=some x->(N.zip zs).lookup x=zs[i]?
 | [],_,_,_,_,h=>by simp at h
 | a::N,[],i,x,_,_=>by simp
 | a::N,z::zs,0,x,_,h=>by simp at h;subst h;simp
 | a::N,z::zs,i+1,x,nd,h=>by
  rw[List.nodup_cons]at nd
  simp only[List.getElem?_cons_succ]at h
  have LP:(x==a)=false:=by
   rw[beq_eq_false_iff_ne]
   rintro rfl
   exact nd.1 (lx h)
  (refine(List.zip_cons_cons)▸?_;rewrite[R6];refine(LP)▸?_)
  simpa using dC nd.2 h
theorem dR{α β:Type}{f:α->Option β}:∀{l:List α}{r:List β},l.mapM f=some r->Jp (λa b=>f a=some b) l r
 | [],r,h=>by simp at h;subst h;exact .nil
 | a::l,r,h=>by
  rw[SY]at h
  refine LA λhG=>?_
  obtain⟨b,hb,h⟩:=nv (show(f a).bind _=_ from h)
  obtain⟨bs,hbs,h⟩:=nv (show(l.mapM f).bind _=_ from h)
  refine hG ?_
  clear hG
  obtain rfl:=kc h
  exact .cons hb (dR hbs)
theorem dY:∀{l:List Nat},dZ l=true->l.Nodup
 | [],_=>.nil
 | a::l,h=>by
  have h':(!l.contains a&&dZ l)=true:=h
  rw[Bool.and_eq_true]at h'
  rw[List.nodup_cons]
  exact⟨by simpa using h'.1,dY h'.2⟩
theorem iy{N:List Zs}(nd:N.Nodup){i:Nat}{x:Zs}(hi:N[i]?=some x)(hj:N[j]?=some x)(h:i < j):False:=
 (List.pairwise_iff_getElem.mp nd) _ _ (kh hi).1 (kh hj).1 h ((kh hi).2.trans (kh hj).2.symm)
theorem ju{R:V->Value->Prop}{ps:List Zs}(nd:ps.Nodup){i:Nat}{x:Zs}(hx:ps[i]?=some x):∀{ys:List Value},(∀p∈kw,p.1 < ps.length)->Jp R (kw.map (·.2)) ys->
  (match kw.lookup i with | some v=>∃y,((aH ps kw).zip ys).lookup x=some y/\R v y | none=>((aH ps kw).zip ys).lookup x=none):=by
 induction kw with
 | nil=>exact λ_ _=>rfl
 | cons p kw ih=>
  intro ys KH h
  cases h with
  | cons r q=>
   have hk:=KH p (.head _)
   have ih:=ih (λp hp=>KH p (.tail _ hp)) q
   rw[R6,show aH ps (p::kw)=ps[p.1]::aH ps kw from kg (·::_) (kg (·.getD "") (kq hk)),List.zip_cons_cons,R6]
   cases e:i==p.1 with
   | true=>
    have hq:x=ps[p.1]:=kc (hx.symm.trans (ld e▸kq hk))
    rw[beq_iff_eq.mpr hq];exact⟨_,rfl,r⟩
   | false=>
    rw[beq_eq_false_iff_ne.mpr λe':x=ps[p.1]=>?_];exact ih
    have h2:=e'▸hx
    exact(Nat.lt_or_gt_of_ne (beq_eq_false_iff_ne.mp e)).elim (λh=>iy nd h2 (kq hk) h) λh=>iy nd (kq hk) h2 h
theorem eO{ps:List Zs}(nd:ps.Nodup):∀{kw:List (Nat×V)},(∀p∈kw,p.1 < ps.length)->(kw.map (·.1)).Nodup->(aH ps kw).Nodup
 | [],_,_=>.nil
 | p::kw,KH,hn=>by
  rw[Sh,List.nodup_cons]at hn
  show((ps[p.1]?).getD "" :: aH ps kw).Nodup
  rw[List.nodup_cons]
  refine⟨λOi=>?_,eO nd (λq hq=>KH q (.tail _ hq)) hn.2⟩
  obtain⟨q,hq,e⟩:=List.mem_map.mp Oi
  have h1:=KH p (.head _)
  have h2:=KH q (.tail _ hq)
  rw[kq h1,kq h2]at e
  simp only[Option.getD_some]at e
  have LP:p.1≠q.1:=λe=>hn.1 (e▸SM hq)
  rcases Nat.lt_or_gt_of_ne LP with h | h
  ·exact(List.pairwise_iff_getElem.mp nd) _ _ h1 h2 h e.symm
  ·exact(List.pairwise_iff_getElem.mp nd) _ _ h2 h1 h e
theorem Jp.P0{α β γ:Type}{R:γ->β->Prop}{f:α->γ}{l:List α}{k:List β}(h:Jp R (l.map f) k):l.length=k.length:=by (refine(h.length)▸?_;rw[lf])
theorem sG{N:List Zs}{g:Zs->Option Value}{nm:Zs}(hm:nm∈N)(hy:g nm=some y):(N.filterMap λx=>(g x).map (x,·)).reverse.lookup nm=some y:=by
 refine eN ?_ λp hp e=>?_
 ·rw[List.mem_reverse,List.mem_filterMap]
  exact⟨nm,hm,by (refine(hy)▸?_);rfl⟩
 ·rw[List.mem_reverse,List.mem_filterMap]at hp
  refine LA λhG=>?_
  obtain⟨z,_,hz⟩:=hp
  obtain⟨w,hw,rfl⟩:=kE hz
  refine hG ?_
  clear hG
  dsimp only at e
  subst e
  rw[hy]at hw;exact(kc hw).symm
theorem yH{f:Fn}{pos:List V}(hl:aM f pos kw=some vs){P:Prop}(post:pos.length<=f.JT->(∀p∈kw,pos.length<=p.1/\p.1 < f.JT)->(kw.map (·.1)).Nodup->vs.length=f.JT->(∀(i:Nat)(v:V),vs[i]?=some v->i < f.JT/\i4 f pos kw i=some v)->P):P:=by
 unfold aM at hl
 cases hc:(decide (pos.length<=f.JT)&&kw.all (λp=>decide (pos.length<=p.1)&&decide (p.1 < f.JT))&&dZ (kw.map (·.1))) with
 | false=>rw[hc]at hl;exact nS hl
 | true=>
  rw[hc,cond_true]at hl
  refine aEl hc λh1 h3=>aEl h1 λh1 h2=>?_
  have hM:=dR hl
  refine post (kj h1) (λp hp=>aEl (ma h2 p hp) λa b=>⟨kj a,kj b⟩) (dY h3) (hM.length.symm.trans List.length_range) λi v hv=>?_
  obtain⟨a,ha,e⟩:=hM.get' hv
  rw[List.getElem?_range (hM.length.symm.trans List.length_range▸(kh hv).1)]at ha
  exact⟨hM.length.symm.trans List.length_range▸(kh hv).1,kc ha▸e⟩
theorem vf{N:List Zs}(nd:N.Nodup){nm:Zs}(h:N[j]?=some nm)(hd:ds.length<=N.length):((N.drop (N.length - ds.length)).zip ds).lookup nm=if N.length<=j+ds.length then ds[j+ds.length - N.length]? else none:=by
 split
 ·next hle=>
  refine dC (i:=j+ds.length - N.length) (nd.sublist (List.drop_sublist _ _)) ?_
  rw[List.getElem?_drop,<- h]
  exact kg (N[·]?) ((Td _ _).trans ((Nat.sub_add_sub_cancel hle hd).trans (Nat.add_sub_cancel ..)))
 ·next hle=>
  cases hq:((N.drop (N.length - ds.length)).zip ds).lookup nm with
  | none=>rfl
  | some y=>
   obtain⟨l1,l2,e,_⟩:=List.lookup_eq_some_iff.mp hq
   have hm:(nm,y)∈((N.drop (N.length - ds.length)).zip ds):=e▸List.mem_append_right l1 (.head _)
   obtain⟨q,hq⟩:=S3 (List.of_mem_zip hm).1
   rw[List.getElem?_drop]at hq
   exact(iy nd h hq (lh (Nat.lt_sub_of_add_lt (Nat.lt_of_not_le hle)) (lu _ _))).elim
section
variable{R:V->Value->Prop}{f:Fn}{N:List Zs}{pos:List V}
theorem mJ(nd:N.Nodup){i:Nat}{nm:Zs}(h:N[i]?=some nm):(N.zip xs++(aH N kw).zip ys).lookup nm=(xs[i]?).or (((aH N kw).zip ys).lookup nm):=by
 rw[Tc,dC nd h]
theorem z3(nd:N.Nodup)(O7:∀p∈kw,pos.length<=p.1/\p.1 < N.length)(hx:Jp R pos xs){p:Zs×Value}(hp:p∈(aH N kw).zip ys):p.1∈N/\(N.zip xs).lookup p.1=none:=by
 refine LA λhG=>?_
 obtain⟨q,hq,e⟩:=List.mem_map.mp (List.of_mem_zip hp).1
 obtain⟨ha,hb⟩:=O7 q hq
 rw[kq hb,Option.getD_some]at e
 have hidx:N[q.1]?=some p.1:=e▸kq hb
 exact hG ⟨lx hidx,(dC nd hidx).trans (Si (hx.length▸ha))⟩
theorem sR(nd:N.Nodup)(Og:f.JT=N.length)(O7:∀p∈kw,pos.length<=p.1/\p.1 < N.length)(hx:Jp R pos xs)(hy:Jp R (kw.map (·.2)) ys)(hdn:f.dflt.length=ds.length){x:Zs}{v:V}(hj:N[j]?=some x)(PC:j < N.length - ds.length)(ha:i4 f pos kw j=some v):((N.zip xs++(aH N kw).zip ys).lookup x).isSome=true:=by
 rw[mJ nd hj]
 unfold i4 at ha
 rw[show decide (f.JT<=j+f.dflt.length)=false from decide_eq_false (Nat.not_le_of_lt (Og▸hdn▸Nat.add_lt_of_lt_sub PC)),cond_false,Option.or_none]at ha
 refine Ml ha (λhp=>?_) λhk=>?_
 ·obtain⟨y,P7,_⟩:=hx.get hp
  rw[P7];rfl
 ·have:=ju nd hj (λp hp=>(O7 p hp).2) hy
  rw[hk]at this
  obtain⟨y,P7,_⟩:=this
  rw[P7]
  cases xs[j]? <;> rfl
theorem wO(nd:N.Nodup)(Og:f.JT=N.length)(O7:∀p∈kw,pos.length<=p.1/\p.1 < N.length)(hx:Jp R pos xs)(hy:Jp R (kw.map (·.2)) ys)(hd:Jp (λb=>R (.b b)) f.dflt ds)(hdl:ds.length<=N.length){i:Nat}{nm:Zs}{v:V}(NC:N[i]?=some nm)(ha:i4 f pos kw i=some v):∃y,(fA N xs ((aH N kw).zip ys) ds).lookup nm=some y/\R v y:=by
 have hdn:=hd.length
 unfold fA
 rw[show ds.drop (ds.length - N.length)=ds from by rw[Nat.sub_eq_zero_of_le hdl];rfl,mW,mJ nd NC]
 refine LA λno=>?_
 unfold i4 at ha
 cases hpi:pos[i]? with
 | some w=>
  rw[hpi]at ha;obtain rfl:=kc ha
  obtain⟨y,P7,ry⟩:=hx.get hpi
  exact no ⟨y,by rw[P7];rfl,ry⟩
 | none=>
  rw[hpi,Option.none_or]at ha
  rw[show xs[i]?=none from by rw[List.getElem?_eq_none_iff]at hpi ⊢;exact hx.length▸hpi,Option.none_or]at no
  have hk:=ju nd NC (λp hp=>(O7 p hp).2) hy
  cases hki:kw.lookup i with
  | some w=>
   rw[hki]at ha hk;obtain rfl:=kc ha
   obtain⟨y,P7,ry⟩:=hk
   exact no ⟨y,by rw[P7];rfl,ry⟩
  | none=>
   rw[hki]at ha hk
   rw[hk,Option.none_or,vf nd NC hdl,<- Og,<- hdn]at no
   rw[Option.none_or]at ha
   cases hde:decide (f.JT<=i+f.dflt.length) with
   | false=>rw[hde]at ha;exact nS ha
   | true=>
    rw[hde,cond_true]at ha
    rw[if_pos (kj hde)]at no
    obtain⟨b,hb,rfl⟩:=kE ha
    obtain⟨y,P7,ry⟩:=hd.get hb
    exact no ⟨y,P7,ry⟩
end
theorem sf{R:V->Value->Prop}{f:Fn}{N:List Zs}(Og:f.JT=N.length)(nd:N.Nodup){pos:List V}
  (hl:aM f pos kw=some vs) (hx:Jp R pos xs) (hy:Jp R (kw.map (·.2)) ys) (hd:Jp (λb=>R (.b b)) f.dflt ds) (hdl:f.dflt.length<=f.JT) {P:Prop}
  (post:xs.length<=N.length->(∀p∈(aH N kw).zip ys,p.1∈N/\(N.zip xs).lookup p.1=none)->(((aH N kw).zip ys).map (·.1)).Nodup->
  (∀x∈N.take (N.length - (ds.drop (ds.length - N.length)).length),((N.zip xs++(aH N kw).zip ys).lookup x).isSome=true)->vs.length=f.JT->
  (∀(i:Nat)(v:V),vs[i]?=some v->∃nm y,N[i]?=some nm/\(fA N xs ((aH N kw).zip ys) ds).lookup nm=some y/\R v y)->P):P:=by
 refine yH hl λh1 h2 h3 h4 h5=>?_
 rw[Og]at h1 h2
 have hdl':ds.length<=N.length:=hd.length▸Og▸hdl
 refine post (hx.length▸h1) (λp hp=>z3 nd h2 hx hp) ?_ (λx hxm=>?_) h4 λi v hv=>?_
 ·rw[show(((aH N kw).zip ys).map (·.1))=aH N kw from List.map_fst_zip (lw ((lf _).trans hy.P0))]
  exact eO nd (λp hp=>(h2 p hp).2) h3
 ·rw[show ds.drop (ds.length - N.length)=ds from by rw[Nat.sub_eq_zero_of_le hdl'];rfl]at hxm
  obtain⟨j,hj⟩:=S3 hxm
  have PC:=(kh hj).1
  rw[Sn]at PC
  rw[List.getElem?_take_of_lt (lh PC (Tf _ _))]at hj
  have hv:=kq (l:=vs) (i:=j) (h4▸Og▸(kh hj).1)
  exact sR nd Og h2 hx hy hd.length hj (lh PC (Tf _ _)) (h5 j _ hv).2
 ·obtain⟨hi,ha⟩:=h5 i v hv
  have NC:=kq (l:=N) (i:=i) (Og▸hi)
  obtain⟨y,e,r⟩:=wO nd Og h2 hx hy hd hdl' NC ha
  exact⟨_,y,NC,e,r⟩
theorem fP{E:Value->Shared->Prop}{s:Shared}{f:Value}{keywords:List (Option Zs×Sem Value)}{Q:Args->Shared->Prop}(ha:args.all (λx=>!x.1)=true)
  (hall:keywords.all (·.1.isSome)=true)
  (h:wpAny M A (spliced args) (λvs JV=>wpAny M A (evalAll (keywords.map (·.2))) (λks Kw=>Q ⟨vs,(keywords.filterMap (·.1)).zip ks⟩ Kw) E JV) E s) :
  wpAny M A (evalArgs f true args keywords) Q E s:=by
 cases args with
 | cons p rest=>
  obtain⟨b,x⟩:=p
  cases b with
  | false=>exact evalArgs_kw hall h
  | true=>exact J4 ha
 | nil=>
  unfold evalArgs
  show wpAny M A (spliced [] >>= _) Q E s
  refine wpAny_bind (wpAny_mono h (λvs JV J5=>?_) λJ J x=>x)
  refine wpAny_bind (wpAny_pure (wpAny_holding ?_))
  simp only[hall,if_true]
  refine wpAny_bind (wpAny_mono J5 (λks Kw KR=>?_) λJ J x=>x)
  exact wpAny_bind (wpAny_pure (wpAny_pure KR))
def xw(K:Frag)(P:Params)(l:List B)(dV:Value):Prop:=
 (l=[]/\dV=.none)∨∃T o items k,dV=.ref T/\K.lookup T=some o/\o.data=.seq items k/\Jp (Mh P []) l items.toList
theorem jJ{K:Frag}{P:Params}{s:Shared}(RO:K.In s.heap){f:Fn}{a:Addr}{d:FD}(D:FD.Ok K a d){N:List Zs}(hN:d.ps=N)(hnp:f.JT=N.length)(nd:N.Nodup)(hdl:f.dflt.length<=f.JT)(hdf:xw K P f.dflt d.dV)
  {R:V->Value->Prop} (hR:∀b y,Mh P [] b y->R (.b b) y) {pos:List V}    (hl:aM f pos kw=some vs) (rx:Jp R pos xs) (ry:Jp R (kw.map (·.2)) ys) :
  ∀{G:Prop},(∀binds,BindsTo s d.fd ⟨xs,(aH N kw).zip ys⟩ binds->(∀y∈binds,y.1∈d.ps)->vs.length=f.JT->(∀(i:Nat)(v:V),vs[i]?=some v->∃nm y,N[i]?=some nm/\binds.reverse.lookup nm=some y/\R v y)->G)->G:=by
 intro G post
 obtain⟨oi,hd,hdf⟩:∃oi:Option (Array Value),Jp (λb=>R (.b b)) f.dflt (oi.getD #[]).toList/\∀(M:Model)(A:Around)(E:Value->Shared->Prop)(Q:Option (Array Value)->Shared->Prop),Q oi s->wpAny M A (seqItems? d.fd.defaults) Q E s:=by
  rcases hdf with⟨h1,h2⟩ | ⟨T,o,items,kk,h1,h2,h3,h4⟩
  ·exact⟨none,by (refine(h1)▸?_);exact .nil,λM A E Q h=>by show wpAny M A (seqItems? d.dV) Q E s;(refine(h2)▸?_);exact sK M A E Q h⟩
  ·exact⟨some items,h4.mono λa b r=>hR a b r,λM A E Q h=>by show wpAny M A (seqItems? d.dV) Q E s;(refine(h1)▸?_);exact wq (RO _ _ h2) h3 M A E Q h⟩
 refine sf hnp nd hl rx ry hd hdl λb2 b3 b4 b5 b1 b7=>?_
 have hN':d.fd.params.args.map (·.arg)=N:=hN
 have hb:=nu (s:=s) (fd:=d.fd) (xs:=xs) (kws:=(aH N kw).zip ys) (oi:=oi) N hN' D.po D.va D.ko D.ka hdf b2 b3 b4 b5
 refine post _ hb (λy hy=>?_) b1 λi v hv=>?_
 ·obtain⟨z,hz,hz'⟩:=List.mem_filterMap.mp hy
  obtain⟨w,_,rfl⟩:=kE hz'
  (refine(hN)▸?_);exact hz
 ·obtain⟨nm,y,h1,h2,h3⟩:=b7 i v hv
  exact⟨nm,y,h1,sG (lx h1) h2,h3⟩
structure LC(A:Around)(n:Nat):Prop where
 d:A.depth+2*n+1 < recursionLimit
 u:A.units+20*n+10 < cLine
 h:A.handled=none
theorem K8.toC{n:Nat}(R:K8 A n):LC A n:=⟨SG (So _) R.d,li (mc (by decide) _) R.u,R.h⟩
theorem LC.deeper{n:Nat}(R:LC A (n+1))(e:Env):K8 (A.deeper e) n:=by
 obtain⟨a,b,c⟩:=R
 refine⟨?_,?_,c⟩
 ·show A.depth+1+2*n+2 < _;exact Mr [_,_,_] 1 (.a (.a (.a (.a Y0 (.c 1)) (.m 2 Y1)) (.c 2)) (.c 1)) Y2 [(1,(.a (.a (.a Y0 (.m 2 (.a Y1 (.c 1)))) (.c 1)) (.c 1)),Y2)] U a
 ·show A.units+3+20*n+20 < _;exact Mr [_,_,_] 1 (.a (.a (.a (.a Y1 (.c 3)) (.m 20 Y0)) (.c 20)) (.c 1)) Y2 [(1,(.a (.a (.a Y1 (.m 20 (.a Y0 (.c 1)))) (.c 10)) (.c 1)),Y2)] U b
noncomputable def Fn.sl(f:Fn):List Zs:=f.slots.map PySem.Str.ofString
abbrev FD.Ce(f:Fn)(d:FD):Prop:=∃t,t∈f.sl.take f.JT/\(∀n,cellsFrom n d.scope.names []=[(t,n)])/\d.scope.names.lookup t=some .cell/\(∀x,d.scope.names.lookup x=some .cell->x=t)/\∀y∈d.ps,y=t∨d.scope.names.lookup y=some .local
abbrev Ks(W:Wd)(k:Nat)(f:Fn)(d:FD):Prop:=
 FD.Ok W.Y.K (W.Y.fn k) d/\
 d.ps=W.Y.pn k/\
 f.JT=(W.Y.pn k).length/\
 f.sl.Nodup/\
 (∀x∈f.sl,(d.scope.names.lookup x=some .local∨d.scope.names.lookup x=some .cell)/\(x==("__debug__" : Zs))=false)/\
 f.sl.take f.JT=W.Y.pn k/\
 f.dflt.length<=f.JT/\
 xw W.Y.K W.w.params f.dflt d.dV/\
 okB W.Y f.sl d.scope f.body d.body=true/\
 toB W.Y f.sl f.body d.body=d.body/\
 OO f.body=true/\
 cR f.body=false/\
 (FD.Pl d∨FD.Ce f d)
section
variable{f:Fn}{d:FD}(zz:Ks W k f d)
def Ks.ok:=zz.1
def Ks.pse:=zz.2.1
def Ks.JT:=zz.2.2.1
def Ks.nd:=zz.2.2.2.1
def Ks.lc:=zz.2.2.2.2.1
def Ks.take:=zz.2.2.2.2.2.1
def Ks.dle:=zz.2.2.2.2.2.2.1
def Ks.dfl:=zz.2.2.2.2.2.2.2.1
def Ks.body:=zz.2.2.2.2.2.2.2.2.1
def Ks.txt:=zz.2.2.2.2.2.2.2.2.2.1
def Ks.wf:=zz.2.2.2.2.2.2.2.2.2.2.1
def Ks.bl:=zz.2.2.2.2.2.2.2.2.2.2.2.1
def Ks.cls:=zz.2.2.2.2.2.2.2.2.2.2.2.2
end
def d7(W:Wd)(fns:List Fn):Prop:=∀(k:Nat)(f:Fn),fns[k]?=some f->∃d,Ks W k f d
noncomputable def Cf.of(W:Wd)(c:Cx)(n:Nat)(sl:List Zs)(d:FD)(L f:Addr)(cs:List (Zs×Addr):=[]):Cf:={ toWd:=W,sl:=sl,sc:=d.scope,cn:=d.qual ++ ".<locals>.",L:=L,fa:=some f,fr:=some L,cd:=d.cdv,c:=c,n:=n,hs:=true,cells:=cs}
def Bd(W:Wd)(k:Nat)(f:Fn)(φ:Led)(am:AM)(vs:List V)(binds:List (Zs×Value)):Prop:=
 vs.length=f.JT/\∀(i:Nat)(v:V),vs[i]?=some v->∃nm y,(W.Y.pn k)[i]?=some nm/\binds.reverse.lookup nm=some y/\VR W.Y φ am v y
def cX(W:Wd)(c:Cx)(n:Nat):Prop:=∀(C:Cf),C.toWd=W->∀(k:Nat)(f:Fn)(d:FD),c.fns[k]?=some f->Ks W k f d->∀{A:Around}{X:Value->Shared->Prop}{Q:Value->Shared->Prop}{m:Zs->Option Value}{st:St}{p:Pt}{vs:List V}{r:V×St}{args:Args}{binds:List (Zs×Value)},
 c.Jv k vs st=some r->LC A n->At C m st p->BindsTo p.s d.fd args binds->(∀y∈binds,y.1∈d.ps)->Bd W k f p.φ p.ad.am vs binds->
 (∀x q,To p q->At C m r.2 q->C.V q r.1 x->Q x q.s)->codeAny C.M A (.call (.ref (W.Y.fn k)) args) (wants Q X) p.s
noncomputable abbrev Pt.ups(p:Pt)(u:cW):Pt:=⟨p.s,p.ad,p.φ,u⟩
section
variable{K:Bk}{m:Zs->Option Value}{p:Pt}{v:V}{x:Value}{e:Expr}{tk:Tok}{t o:E}{X:Value->Shared->Prop}{f:Addr}{d:FD}
theorem At.back{oL:Obj}{es:Array DictEntry}{u:cW}(hD:D.toWd=C.toWd)(hL:oL.data=.dict es ep)(hs:StrKeys es/\∀name,nsFind es name=m name)(lo:C.hB.objs.size<=C.L)(a:At D m' st q)(hu:K7 ((true,C.L,oL)::u) q.up):K7 u q.up.tail/\At C m st (q.ups q.up.tail):=by
 obtain⟨s,ad,φ,qu⟩:=q
 revert hu
 generalize hq:(Pt.mk s ad φ qu).up=w
 intro hu
 obtain rfl:=hq
 cases hu with
 | @cons _ y _ up r c=>
 obtain⟨y0,y1,y2⟩:=y
 cases (show y1=C.L from r.a)
 have hd:y2.data=.dict es ep:=r.o.elim (λe=>(kg Obj.data e).trans hL) λ⟨_,sl,e⟩=>(kg Obj.data e).trans hL
 obtain⟨RY,R⟩:=a
 have eB:D.hB=C.hB:=kg Wd.hB hD
 have nd:=RY.LM
 refine⟨c,⟨⟨⟨y2,es,ep,RY.KP.1,hd,hs⟩,eB▸RY.fr.keep,lo⟩,λz hz=>?_,nd.2,λz hz=>eB▸RY.lo z (ax.mem_iff.mpr (.tail _ hz))⟩,(kg Wd.Y hD)▸R⟩
 have q:=RY.nw z (ax.mem_iff.mpr (.tail _ hz))
 exact⟨q.1,λe=>nd.1 (mD hz e),eB▸q.2.2⟩
theorem wI(O:Lp C.toWd)(D:FD.Ok C.Y.K f d)(Z:FD.Pl d){R:Result->Shared->Prop}{args:Args}(c:Cx)(n:Nat)(sl:List Zs)(a:At C m st p)(O3:A.depth < recursionLimit)(ME:BindsTo p.s d.fd args binds)(hb:∀y∈binds,y.1∈d.ps)
  (h:∀(oL:Obj)(J5:Heap)(D:Cf),D=Cf.of C.toWd c n sl d p.s.heap.objs.size f->At D (λy=>binds.reverse.lookup y) st ((p.mv J5 (p.s.toks+binds.length) p.ad p.φ).ups ((true,C.L,oL)::p.up))->
   (∀m' Jy (q:Pt) (u:cW),At D m' Jy q->K7 ((true,C.L,oL)::u) q.up->K7 u q.up.tail/\At C m Jy (q.ups q.up.tail))->
   wpAny C.M (A.deeper D.env) (execs d.body D.env) (λfl s'=>R (.ok (.ret (match fl with | .ret v=>v | _=>.none))) s') (λe s'=>wpAny C.M (A.deeper D.env) (leaving D.env e) (λJ Rk=>R (.error e) Rk) (λe' Rk=>R (.error e') Rk) s') { p.s with heap:=J5,toks:=p.s.toks+binds.length}) :
  codeAny C.M A (.call (.ref f) args) R p.s:=by
 have X:=a.K O
 refine codeAny_call_def (fd:=d.fd) (body:=d.body) (binds:=binds) O3 (X _ _ D.here) U (O.T.nolimit.keeps a.inv.fr.keep) (codeRec_of X D.cd) U ME Z.1 (λy hy=>Z.2 _ (hb y hy)) (λJ5 hns KC=>?_) D.co D.ge D.ki
 refine LA λhG=>?_
 obtain⟨oL,es,ep,hL,hd,hr⟩:=a.inv.fr.ns
 refine hG ?_
 clear hG
 have noL:C.hB.get? C.L=none:=Heap.get?_none_of_le a.inv.fr.above
 refine h oL J5 _ U ⟨⟨⟨hns,λb o e=>KC _ _ (a.inv.fr.keep b o e),a.inv.above⟩,λz hz=>?_,dN.nodup_iff.mpr (List.nodup_cons.mpr ⟨λOi=>(List.mem_map.mp Oi).elim λz w=>(a.inv.nw z w.1).2.1 w.2,a.inv.nd⟩),λz hz=>?_⟩,a.rep⟩ (λm' Jy q u a' hu=>At.back (C:=C) (D:=Cf.of C.toWd c n sl d p.s.heap.objs.size f) U hd hr a.inv.fr.above a' hu)
 ·refine(kl (ax.mem_iff.mp hz)).elim (λe=>by subst e;exact⟨KC _ _ hL,SH (Heap.lt_size hL),noL⟩) λhz=>?_
  have w:=a.inv.nw z hz
  exact⟨KC _ _ w.1,SH (Heap.lt_size w.1),w.2.2⟩
 ·exact(kl (ax.mem_iff.mp hz)).elim (λe=>by subst e;exact a.inv.fr.above) (a.inv.lo z)
theorem iY{k:Zs->Option NameKind}{n:Zs}(h:k n=some .local):∀(b:List (Zs×Value))(m:Zs->Option Value),bindL k b m n=(b.reverse.lookup n).or (m n)
 | [],m=>rfl
 | (a,v)::r,m=>by
  rw[bindL,iY h r,Th,Tc,Option.or_assoc]
  refine kg _ ?_
  by_cases e:n=a
  ·subst e
   rw[if_pos h,if_pos U,R6,show(n==n)=true from beq_self_eq_true n]
   rfl
  ·rw[R6,show(n==a)=false from beq_eq_false_iff_ne.mpr e]
   split
   ·exact if_neg e
   ·rfl
theorem iZ{k:Zs->Option NameKind}{n:Zs}(h:¬ k n=some .local):∀(b:List (Zs×Value))(m:Zs->Option Value),bindC k b m n=(b.reverse.lookup n).or (m n)
 | [],m=>rfl
 | (a,v)::r,m=>by
  rw[bindC,iZ h r,Th,Tc,Option.or_assoc]
  refine kg _ ?_
  by_cases e:n=a
  ·subst e
   rw[if_neg h,if_pos U,R6,show(n==n)=true from beq_self_eq_true n]
   rfl
  ·rw[R6,show(n==a)=false from beq_eq_false_iff_ne.mpr e]
   split
   ·rfl
   ·exact if_neg e
theorem zW(O:Lp C.toWd)(D:FD.Ok C.Y.K f d){t:Zs}(k1:∀n,cellsFrom n d.scope.names []=[(t,n)])(k2:d.scope.names.lookup t=some .cell){R:Result->Shared->Prop}{args:Args}(c:Cx)(n:Nat)(sl:List Zs)(a:At C m st p)(O3:A.depth < recursionLimit)(ME:BindsTo p.s d.fd args binds)(hb:∀y∈binds,y.1=t∨d.scope.names.lookup y.1=some .local)(hx:binds.reverse.lookup t=some x0)
  (h:∀(oL:Obj)(J5:Heap)(tk:Tok)(m1:Zs->Option Value)(oc:Obj)(ca:Addr)(D:Cf),D=Cf.of C.toWd c n sl d p.s.heap.objs.size f [(t,ca)]->oc.data=.cell (some x0)->(∀y v,d.scope.names.lookup y=some .local->binds.reverse.lookup y=some v->m1 y=some v)->
   At D m1 st ((p.mv J5 tk p.ad ((ca,oc)::p.φ)).ups ((true,C.L,oL)::p.up))->
   (∀m' Jy (q:Pt) (u:cW),At D m' Jy q->K7 ((true,C.L,oL)::u) q.up->K7 u q.up.tail/\At C m Jy (q.ups q.up.tail))->
   wpAny C.M (A.deeper D.env) (execs d.body D.env) (λfl s'=>R (.ok (.ret (match fl with | .ret v=>v | _=>.none))) s') (λe s'=>wpAny C.M (A.deeper D.env) (leaving D.env e) (λJ Rk=>R (.error e) Rk) (λe' Rk=>R (.error e') Rk) s') { p.s with heap:=J5,toks:=tk}) :
  codeAny C.M A (.call (.ref f) args) R p.s:=by
 have X:=a.K O
 have hnl:=O.T.nolimit.keeps a.inv.fr.keep
 have e1:=k1 (p.s.heap.objs.size+1)
 refine codeAny_call_function (fd:=d.fd) (body:=d.body) O3 (X _ _ D.here) U D.co D.ge U (codeRec_of X D.cd) (ME _ _ _ _ ?_)
 refine wpAny_newFunctionEnv_cells D.ki (λy hy=>(hb y hy).elim (λe=>.inr ⟨e▸k2,?_⟩) .inl) λenv he s' x=>?_
 ·show((cellsFrom (p.s.heap.objs.size+1) d.scope.names []).lookup y.1).isSome=true
  rw[e1,e,R6,show(t==t)=true from beq_self_eq_true t];rfl
 have he:env=(Cf.of C.toWd c n sl d p.s.heap.objs.size f [(t,p.s.heap.objs.size+1)]).env:=he.trans (kg (λcs=>newEnv d.scope p.s.heap.objs.size mainGlobals cs (d.qual ++ ".<locals>.") (some f) d.cdv none builtinsNs) e1)
 subst he
 refine LA λhG=>?_
 obtain⟨oL,es,ep,hL,hd,hr⟩:=a.inv.fr.ns
 obtain⟨J5,tk,rfl⟩:=x.toInCall.same
 obtain⟨oc,hoc,hdc⟩:=x.cell t (p.s.heap.objs.size+1) (by show List.lookup t [(t,p.s.heap.objs.size+1)]=_;rw[R6,show(t==t)=true from beq_self_eq_true t])
 refine hG ?_
 clear hG
 have KC:=x.toInCall.keep
 have noL:C.hB.get? C.L=none:=Heap.get?_none_of_le a.inv.fr.above
 have LP:∀z∈p.ad.led++(p.φ++p.ul),z.1≠p.s.heap.objs.size:=λz hz=>SH (Heap.lt_size (a.inv.nw z hz).1)
 refine⟨hnl.keeps KC,codeAny_func ?_⟩
 refine a.freeze (t0:=tk) (h:=J5) (o:=oc) (z:=p.s.heap.objs.size+1) (mw _) ⟨⟨oL,es,ep,KC _ _ hL,hd,hr⟩,λb o e=>KC _ _ (a.inv.fr.keep b o e),a.inv.fr.above⟩ (λz hz=>(kl hz).elim (λe=>by subst e;exact⟨hoc,SF (Nat.lt_succ_of_lt (Heap.lt_size hL)),Heap.get?_none_of_le (Sv a.inv.above)⟩) λhz=>⟨KC _ _ (a.inv.nw z hz).1,(a.inv.nw z hz).2⟩) λt' a'=>?_
 have Ry:∀z∈p.ad.led++(((p.s.heap.objs.size+1,oc)::p.φ)++p.ul),z.1≠p.s.heap.objs.size:=λz hz=>(kl (List.perm_middle.mem_iff.mp hz)).elim (λe=>by subst e;exact Nat.succ_ne_self _) (LP z)
 refine h oL J5 tk _ oc _ _ U (hdc.trans (kg _ (?_:_=some x0))) (λy v hy hv=>?_) (At.mk ⟨⟨x.toInCall.ns,λb o e=>KC _ _ (a.inv.fr.keep b o e),a.inv.above⟩,λz hz=>?_,dN.nodup_iff.mpr (List.nodup_cons.mpr ⟨λOi=>(List.mem_map.mp Oi).elim λz w=>(a'.inv.nw z w.1).2.1 w.2,a'.inv.nd⟩),λz hz=>?_⟩ a'.rep) (λm' Jy q u a' hu=>At.back (C:=C) (D:=Cf.of C.toWd c n sl d p.s.heap.objs.size f [(t,p.s.heap.objs.size+1)]) U hd hr a.inv.fr.above a' hu)
 ·refine(iZ (k:=Env.kindOf (Cf.of C.toWd c n sl d p.s.heap.objs.size f [(t,p.s.heap.objs.size+1)]).env) (n:=t) (λe=>?_) binds _).trans (by rw[hx];rfl)
  exact J4 (kg (λz:Option NameKind=>z==some .cell) (e.symm.trans k2))
 ·exact(iY (k:=Env.kindOf (Cf.of C.toWd c n sl d p.s.heap.objs.size f [(t,p.s.heap.objs.size+1)]).env) (n:=y) hy binds _).trans (by rw[hv];rfl)
 ·refine(kl (ax.mem_iff.mp hz)).elim (λe=>by subst e;exact⟨KC _ _ hL,SH (Heap.lt_size hL),noL⟩) λhz=>?_
  have w:=a'.inv.nw z hz
  exact⟨w.1,Ry z hz,w.2.2⟩
 ·exact(kl (ax.mem_iff.mp hz)).elim (λe=>by subst e;exact a.inv.fr.above) (a'.inv.lo z)
theorem vc{f:Fn}(F:Ks W k f d)(hs:D.sl=f.sl)(hsc:D.sc=d.scope)(hl:∀x∈f.sl,d.scope.names.lookup x=some .local)(hV:∀v x,VR W.Y φ am v x->D.V p v x)(b:Bd W k f φ am vs binds):LR D p (vs++List.replicate (f.slots.length - f.JT) .uu) (λy=>binds.reverse.lookup y):=⟨λi w hi hw=>by
 by_cases KH:i < vs.length
 ·rw[Sa KH]at hi
  refine LA λhG=>?_
  obtain⟨nm,y,h1,h2,h3⟩:=b.2 i w hi
  refine hG ?_
  clear hG
  have h4:f.sl[i]?=some nm:=by
   rw[<- F.take,List.getElem?_take]at h1
   split at h1
   ·exact h1
   ·exact nS h1
  exact⟨nm,y,hs▸h4,.inl ⟨hsc▸hl nm (lx h4),h2⟩,hV _ _ h3⟩
 ·rw[R4 (Nat.not_lt.mp KH),List.getElem?_replicate]at hi
  split at hi
  ·obtain rfl:=kc hi;exact(hw U).elim
  ·exact nS hi,λi n J h2 h3=>by
 have:=hl n (lx (hs▸h2))
 rw[hsc]at h3
 exact J4 (kg (λz:Option NameKind=>z==some .cell) (this.symm.trans h3))⟩
theorem r9{f:Fn}{t:Zs}(F:Ks W k f d)(hs:D.sl=f.sl)(hsc:D.sc=d.scope)(ht:t∈f.sl.take f.JT)(k2:d.scope.names.lookup t=some .cell)(k3:∀x,d.scope.names.lookup x=some .cell->x=t)(hV:∀v x,VR W.Y φ am v x->D.V p v x)(b:Bd W k f φ am vs binds)(hm:∀y v,d.scope.names.lookup y=some .local->binds.reverse.lookup y=some v->m y=some v)(hx:binds.reverse.lookup t=some x0)(c1:D.cells.lookup t=some ca)(c2:(ca,oc)∈p.φ)(c3:oc.data=.cell (some x0)):LR D p (vs++List.replicate (f.slots.length - f.JT) .uu) m:=⟨λi w hi hw=>by
 by_cases KH:i < vs.length
 ·rw[Sa KH]at hi
  refine LA λhG=>?_
  obtain⟨nm,y,h1,h2,h3⟩:=b.2 i w hi
  refine hG ?_
  clear hG
  have h4:f.sl[i]?=some nm:=by
   rw[<- F.take,List.getElem?_take]at h1
   split at h1
   ·exact h1
   ·exact nS h1
  refine⟨nm,y,hs▸h4,?_,hV _ _ h3⟩
  rcases (F.lc nm (lx h4)).1 with hn | hn
  ·exact .inl ⟨hsc▸hn,hm _ _ hn h2⟩
  ·cases k3 nm hn
   obtain rfl:=kc (hx.symm.trans h2)
   exact .inr ⟨hsc▸hn,ca,oc,c1,lg (.inl c2),c3⟩
 ·rw[R4 (Nat.not_lt.mp KH),List.getElem?_replicate]at hi
  split at hi
  ·obtain rfl:=kc hi;exact(hw U).elim
  ·exact nS hi,λi n hi h2 h3=>by
 rw[hs]at h2
 rw[hsc]at h3
 cases k3 n h3
 obtain⟨j,hj⟩:=S3 ht
 rw[List.getElem?_take]at hj
 split at hj
 ·have hij:=i3 F.nd h2 hj U
  have KH:i < vs.length:=by rw[b.1,hij];assumption
  rw[Sa KH]at hi
  obtain⟨_,_,_,_,h5⟩:=b.2 i _ hi
  exact h5.elim
 ·exact nS hj⟩
theorem yd{n:Nat}(O:Lp W)(hC:C.toWd=W){f:Fn}(hf:c.fns[k]?=some f)(F:Ks W k f d)(hB:∀L f' cs,Lf (Cf.of W c n f.sl d L f' cs) f.body)
    {r:V×St} {args:Args}  (hr:Ew c k vs st=some r) (Rm:LC A (n+1)) (a:At C m st p) (ME:BindsTo p.s d.fd args binds) (hb:∀y∈binds,y.1∈d.ps) (bd:Bd W k f p.φ p.ad.am vs binds)
  (post:∀x q,To p q->At C m r.2 q->C.V q r.1 x->Q x q.s):codeAny C.M A (.call (.ref (W.Y.fn k)) args) (wants Q X) p.s:=by
 subst hC
 have rl:A.depth < recursionLimit:=by have:=Rm.d;exact Mr [_,_,_] 1 (.a Y0 (.c 1)) Y2 [(1,(.a (.a (.a Y0 (.m 2 (.a Y1 (.c 1)))) (.c 1)) (.c 1)),Y2)] U this
 refine Jx hr λf' Ol hr=>?_
 cases hf.symm.trans Ol
 refine Jx hr λz hz hr=>Kc hr λw hw e'=>?_
 subst e'
 have fin:∀{q:Pt},To p q->At C m z.2.2 q->(∀v x,z.1=.ret v->C.V q v x->wants Q X (.ok (.ret x)) q.s)/\(z.1=.next->wants Q X (.ok (.ret .none)) q.s):=λt a=>⟨λv x e rx=>by rw[e]at hw;exact KN hw λJ e=>by subst e;exact post x _ t a rx,λe=>by rw[e]at hw;obtain rfl:=kc hw;exact post .none _ t a U⟩
 rcases F.cls with Z | ⟨t,ht,k1,k2,k3,k4⟩
 ·have hl:∀x∈f.sl,d.scope.names.lookup x=some .local:=λx hx=>(F.lc x hx).1.elim id λh=>absurd U (Z.1 _ (mem_of_lookup h))
  refine wI O F.ok Z c n f.sl a rl ME hb λoL J5 D hD a1 back=>?_
  have B:=@Lf.x _ _ (hB p.s.heap.objs.size (C.Y.fn k) []) (bR d.body)
  rw[show Cf.of C.toWd c n f.sl d p.s.heap.objs.size (C.Y.fn k) []=D from hD.symm]at B
  subst hD
  refine F.txt▸B F.body hz (λJ=>Rm.deeper _) (vc (p:=(p.mv J5 (p.s.toks+binds.length) p.ad p.φ).ups ((true,C.L,oL)::p.up)) F U U hl (λv x r=>r) bd) a1 λm2 q2 t2 J a2=>?_
  have t2:=t2.to U
  obtain⟨hu,a3⟩:=back _ _ _ _ a2 t2.up
  have tt:To p (q2.ups q2.up.tail):=⟨t2.sub,t2.am,hu,t2.sh⟩
  have fn:=fin tt a3
  obtain⟨c1,l1,MZ⟩:=z
  cases c1 with
  | next=>exact fn.2 U
  | ret u=>exact λx rx=>fn.1 u x U rx
 ·obtain⟨x0,hx0⟩:∃y,binds.reverse.lookup t=some y:=by
   obtain⟨i,hi⟩:=S3 ht
   have KH:i < vs.length:=by
    have:=(kh hi).1
    rw[bd.1]
    rw[Sn]at this
    exact lh this (Tf _ _)
   obtain⟨nm,y,h1,h2,_⟩:=bd.2 i _ (kq KH)
   rw[<- F.take,hi]at h1
   obtain rfl:=kc h1
   exact⟨y,h2⟩
  refine zW O F.ok k1 k2 c n f.sl a rl ME (λy hy=>k4 _ (hb y hy)) hx0 λoL J5 tk m1 oc ca D hD hoc hm a1 back=>?_
  have B:=@Lf.x _ _ (hB p.s.heap.objs.size (C.Y.fn k) [(t,ca)]) (bR d.body)
  rw[<- hD]at B
  subst hD
  refine F.txt▸B F.body hz (λJ=>Rm.deeper _) (r9 (p:=(p.mv J5 tk p.ad ((ca,oc)::p.φ)).ups ((true,C.L,oL)::p.up)) F U U ht k2 k3 (λv x r=>VR.mono (λJ h=>.tail _ h) .rfl r) bd hm hx0 (by show List.lookup t [(t,ca)]=_;rw[R6,show(t==t)=true from beq_self_eq_true t]) (.head _) hoc) a1 λm2 q2 t2 J a2=>?_
  have t2:=t2.to U
  obtain⟨hu,a3⟩:=back _ _ _ _ a2 t2.up
  have tt:To p (q2.ups q2.up.tail):=⟨λz hz=>t2.sub z (.tail _ hz),t2.am,hu,t2.sh⟩
  have fn:=fin tt a3
  obtain⟨c1,l1,MZ⟩:=z
  cases c1 with
  | next=>exact fn.2 U
  | ret u=>exact λx rx=>fn.1 u x U rx
theorem dA{n:Nat}(Z:cX W c n)(hC:C.toWd=W)(O:Lp W){f:Fn}(hf:c.fns[k]?=some f)(F:Ks W k f d){pos:List V}{r:V×St}
  (hl:aM f pos kw=some vs) (hr:c.Jv k vs st=some r) (R:LC A n) (a:At C m st p) (rx:Jp (C.V p) pos xs) (ry:Jp (C.V p) (kw.map (·.2)) ys) (post:∀x q,To p q->At C m r.2 q->C.V q r.1 x->Q x q.s) :
  codeAny C.M A (.call (.ref (W.Y.fn k)) ⟨xs,(aH (W.Y.pn k) kw).zip ys⟩) (wants Q X) p.s:=by
 subst hC
 exact jJ (a.K O) F.ok F.pse F.JT (F.take▸F.nd.sublist (List.take_sublist _ _)) F.dle F.dfl (R:=C.V p) (λb y r=>Mh.mono (La:=p.φ) (λJ h=>(mo h).elim) r) hl rx ry λbinds h1 h2 h3 h4=>Z C U k f d hf F hr R a h1 h2 ⟨h3,h4⟩ post
end
abbrev RQ(C:Cf)(i:E)(ps:List Zs)(h0:Expr)(kw:List (Nat×V))(pos:Pos):Prop:=
 (backToKw pos (keywordEach (Lu (JK C.Y i C.sl ps h0)) C.env)).filterMap (·.1)=aH ps kw/\
 (backToKw pos (keywordEach (Lu (JK C.Y i C.sl ps h0)) C.env)).all (·.1.isSome)=true/\
 (backToKw pos (keywordEach (Lu (JK C.Y i C.sl ps h0)) C.env)).any (·.1.isNone)=false/\
 (backTo pos (starEach (Mn (JK C.Y i C.sl ps h0)) C.env)).all (λx=>!x.1)=true/\
 (backTo pos (starEach (Mn (JK C.Y i C.sl ps h0)) C.env)).any (·.1)=false
section
variable{ps:List Zs}(zz:RQ C i ps h0 kw pos)
def RQ.nm:=zz.1
def RQ.ks:=zz.2.1
def RQ.kn:=zz.2.2.1
def RQ.as:=zz.2.2.2.1
def RQ.an:=zz.2.2.2.2
end
section
variable{K:Bk}{m:Zs->Option Value}{p:Pt}{v:V}{x:Value}{e:Expr}{tk:Tok}{t o:E}{X:Value->Shared->Prop}{f:Addr}{d:FD}
theorem shape{ps:List Zs}(i:E):∀{h0:Expr}{st:St}{r:(List V×List (Nat×V))×St},J9 C.Y C.sc i C.sl ps h0=true->Kv C.c i l st=some r->RQ C i ps h0 r.1.2 pos:=by
 induction i with
 | nil=>exact λJ hv=>by obtain rfl:=kc hv;exact⟨rfl,rfl,rfl,rfl,rfl⟩
 | pos e r _ ih=>
  intro h0 st rr hc hv
  refine aEl hc λh1 h2=>Jx hv λq hq h=>Kc h λz hz e'=>?_
  subst e'
  refine LA λhG=>?_
  obtain⟨a1,a2,a3,a4,a5⟩:=ih h2 hz
  refine hG ?_
  clear hG
  have hs:starEach (Mn (JK C.Y (.pos e r) C.sl ps h0)) C.env=(false,eval (JK C.Y e C.sl [] (hdE h0)) C.env)::starEach (Mn (JK C.Y r C.sl ps (tlH h0))) C.env:=bC (aW e h1)
  exact⟨a1,a2,a3,by (refine(hs)▸?_);exact a4,by (refine(hs)▸?_);exact a5⟩
 | kw k e r _ ih=>
  intro h0 st rr hc hv
  refine aEl hc λh1 h2=>aEl h2 λh2 h3=>p9 hv λq z hq hz hzn e'=>?_
  subst e'
  refine LA λhG=>?_
  obtain⟨a1,a2,a3,_,_⟩:=ih h2 hz
  refine hG ?_
  clear hG
  have KH:=kj h3
  have hk:=kq KH
  have hs:Lu (JK C.Y (.kw k e r) C.sl ps h0)=kwX (some ps[k]) (JK C.Y e C.sl [] (hdK h0)) h0::Lu (JK C.Y r C.sl ps (tlK h0)):=by
   show kwX ps[k]? _ _::_=_
   (exact(hk).symm▸rfl)
  refine⟨?_,?_,?_,rfl,rfl⟩
  ·(refine(hs)▸?_)
   show ps[k]::(backToKw pos (keywordEach (Lu (JK C.Y r C.sl ps (tlK h0))) C.env)).filterMap (·.1)=(ps[k]?).getD "" :: aH ps z.1.2
   (refine(a1).symm▸?_;refine(hk)▸?_);rfl
  ·(refine(hs)▸?_);exact a2
  ·(refine(hs)▸?_);exact a3
 | _=>exact λJ hv=>nomatch hv
theorem FD.Ok.keep{K:Frag}(D:FD.Ok K f d):keepIn K (.ref f)=true:=by show(match K.lookup f with | some ⟨_,_,.func _,_⟩=>true | some ⟨_,_,.cls _,_⟩=>specialIn K (.ref f) "__call__" == some (some (.builtin "type.__call__")) | _=>false)=true;(exact(D.here)▸rfl)
theorem FD.Ok.fnIn{K:Frag}(D:FD.Ok K f d):fnIn K f=true:=by unfold PySem.W.fnIn;(exact(D.here)▸rfl)
theorem qk{n:Nat}{as:List (Bool×Sem Value)}{ks:List (Option Zs×Sem Value)}(h1:as.all (λx=>!x.1)=true)(h2:ks.all (·.1.isSome)=true)(h:n < 20):methodCallForm n as ks=true:=by
 unfold methodCallForm
 (refine(h1).symm▸?_;refine(h2).symm▸?_;rewrite[Tg];rewrite[Tg];rw[decide_eq_true_eq])
 split <;> lia
theorem ig(H:Ok C)(hi:fh C i){ps:List Zs}{r:(List V×List (Nat×V))×St}(hc:J9 C.Y C.sc i C.sl ps h0=true)(hk:keepIn C.Y.K fv=true)(hv:Kv C.c i K.l st=some r)(P:Pre C K st p)
  (h:∀xs ys q,To p q->At C K.m r.2 q->Jp (C.V q) r.1.1 xs->Jp (C.V q) (r.1.2.map (·.2)) ys->codeAny C.M K.A (.call fv ⟨first++xs,(aH ps r.1.2).zip ys⟩) (wants Q K.X) q.s) :
  wpAny C.M K.A (callWith pos fv first (backTo pos (starEach (Mn (JK C.Y i C.sl ps h0)) C.env)) (backToKw pos (keywordEach (Lu (JK C.Y i C.sl ps h0)) C.env))) Q K.X p.s:=by
 have S:=shape (pos:=pos) i hc hv
 refine callWith_of (P:=C.Y.K.In) (by (refine(S.an).symm▸?_;refine(S.kn).symm▸?_);rfl) (keeps_K hk) (fP S.as S.ks ?_)
 refine hi ps h0 pos hc hv P λxs ys q t a rx ry=>⟨a.K H.O,wpAny_call ?_⟩
 (refine(S.nm)▸?_)
 exact h xs ys q t a rx ry
theorem zV(H:Ok C)(T:d7 C.toWd C.c.fns)(ha:JB C a)(hi:fh C i)(hc:J9 C.Y C.sc (.call k a i) C.sl [] e=true){o:V×St}{g:Fn}(ho:Jq C.c a K.l st=some o)(hg:y5 C.c k o.1 o.2=some g)(hw:Kv C.c i K.l o.2=some w)(P:Pre C K st p)
  (h:∀d,C.c.fns[k]?=some g->Ks C.toWd k g d->∀xs ys q,To p q->At C K.m w.2 q->Jp (C.V q) (o.1::w.1.1) xs->Jp (C.V q) (w.1.2.map (·.2)) ys->codeAny C.M K.A (.call (.ref (C.Y.fn k)) ⟨xs,(aH (C.Y.pn k) w.1.2).zip ys⟩) (wants Q K.X) q.s) :
  wpAny C.M K.A (eval (JK C.Y (.call k a i) C.sl [] e) C.env) Q K.X p.s:=aEl hc λh1 h2=>aEl h2 λh2 h3=>aEl h3 λh3 h4=>aEl h4 λh4 h5=>Jx hg λz hz hg=>Jx hg λg' O8 hg=>KN hg λQb e'=>aEl Qb λQb NU=>by
 subst e'
 have h5:=kj h5
 obtain⟨d,D⟩:=T k g' O8
 have S:=shape (pos:=e.pos) i h2 hw
 refine LA λhG=>?_
 obtain⟨f1,_,_,_⟩:=H.K.mFn k h5.1
 obtain⟨_,O9⟩:=H.K.mOwn k g' h5.1 O8
 refine hG ?_
 clear hG
 refine iC (bu h3 _ _) (qk S.as S.ks h5.2) h4 (ha _ h1 ho P λx q t a' r pl=>?_)
 have r':=r
 revert r'
 refine a'.ins hz r λz' dx es n hcx I lt g J J r=>?_
 refine method_inst a'.inv.fr H.O.X I (H.K.ML _ lt) (ld Qb▸O9) f1 ((g k (SG h5.1 (by decide))).2 (Option.isNone_iff_eq_none.mp NU)) ?_
 exact ig H hi h2 D.ok.keep hw (P.to t a') λxs ys q2 t2 a2 rx ry=>h d O8 D _ ys q2 (t.trans t2) a2 (.cons (t2.vr r) rx) ry
theorem rO(H:Ok C)(hs:C.hs=true)(T:d7 C.toWd C.c.fns)(Z:cX C.toWd C.c C.n)(ha:JB C a)(hi:fh C i):JB C (.call k a i):=λe0 hc K st p r Q hv P post=>Jx hv λo ho h=>Jx h λg hg h=>Jx h λw hw h=>Jx h λvs NP h=>
 zV H T ha hi hc ho hg hw P λd O8 D xs ys q t a' rx ry=>dA Z U H.O O8 D NP h (P.rm hs).toC a' rx ry λx q' t' RM r'=>post x q' (t.trans t') RM r'
theorem wH(H:Ok C)(T:d7 C.toWd C.c.fns)(ha:JB C a)(hc:J9 C.Y C.sc (.Lh k a) C.sl [] e=true){o:V×St}{z:Nat×Nat×List (Nat×V)}{u:V}{mt:Nat×Nat}{g:Fn}(ho:Jq C.c a K.l st=some o)(hz:cT o.2 o.1=some z)(hu:z.2.2.lookup k=some u)(hm:lD u=some mt)(hg:C.c.fns[mt.1]?=some g)(P:Pre C K st p)
  (h:∀d,Ks C.toWd mt.1 g d->∀x q,To p q->At C K.m o.2 q->C.V q (.ref mt.2) x->codeAny C.M K.A (.call (.ref (C.Y.fn mt.1)) ⟨[x],[]⟩) (wants Q K.X) q.s) :
  wpAny C.M K.A (eval (JK C.Y (.Lh k a) C.sl [] e) C.env) Q K.X p.s:=aEl hc λh1 h2=>aEl h2 λh2 h3=>aEl h3 λh3 h4=>by
 have h4:=kj h4
 obtain⟨d,D⟩:=T _ g hg
 refine iC (bu h2 _ _) U h3 (ha _ h1 ho P λx q t a' r pl=>?_)
 refine a'.ins hz r λz' dx es n hcx I lt gg J J=>?_
 obtain⟨y,hy,ry⟩:=(gg k (SG h4.2 (by decide))).1 _ hu
 have hga:=plainGet_of (H.K.ML z.2.1 lt)
 refine method_usual (a'.K H.O) I hga.1 hga.2 (H.K.P6 _ _ lt h4.1 h4.2) U ?_
 refine get_own a'.inv.fr H.O.X I (H.K.ML _ lt) (H.K.Od _ lt) (H.K.P6 _ _ lt h4.1 h4.2) U hy ry.handed ?_
 have ry:VR C.Y q.φ q.ad.am (.JA mt.1 mt.2) y:=oT hm▸ry
 cases ry with | mk hk he hqm=>
 have a2:=a'.tk (t0:=q.s.toks+1)
 refine callWith_M0 (s:={ q.s with toks:=q.s.toks+1}) ⟨a'.got hqm,a'.K H.O⟩ D.ok.fnIn (call_meth (s:={ q.s with toks:=q.s.toks+1}) a'.inv.nw (At.inφ hqm) ?_)
 exact h d D _ (q.tk (q.s.toks+1)) (t.trans .tk) a2 (lF.mk he)
theorem nV(H:Ok C)(hs:C.hs=true)(T:d7 C.toWd C.c.fns)(Z:cX C.toWd C.c C.n)(ha:JB C a):JB C (.Lh k a):=λe0 hc K st p r Q hv P post=>Jx hv λo ho h=>Jx h λz hz h=>Jx h λu hu h=>Jx h λmt hmt h=>Jx h λg hg h=>Jx h λvs NP h=>Jx h λJ J h=>
 wH H T ha hc ho hz hu hmt hg P λd D x q t a' rx=>dA (kw:=[]) (ys:=[]) Z U H.O hg D NP h (P.rm hs).toC a' (.cons rx .nil) .nil λx q' t' RM r'=>post x q' (t.trans t') RM r'
theorem nW(H:Ok C)(hs:C.hs=true)(T:d7 C.toWd C.c.fns)(Z:cX C.toWd C.c C.n)(hi:fh C i):JB C (.JG k i):=λe0 hc K st p r Q hv P post=>aEl hc λh1 h2=>Jx hv λw hw h=>Jx h λg hg h=>Jx h λvs NP h=>Jx h λJ ho h=>by
 obtain⟨d,D⟩:=T _ g hg
 refine wpAny_Call_Name_kw (dw H h2 P.at' (H.K.gFn k g hg (KN ho λh J=>ld h)) ?_)
 exact ig (first:=[]) H hi h1 D.ok.keep hw P λxs ys q t a' rx ry=>dA Z U H.O hg D NP h (P.rm hs).toC a' rx ry λx q' t' RM r'=>post x q' (t.trans t') RM r'
end
noncomputable def jC(self:Zs):List Zs->List Stmt->List Stmt
 | [],_=>[]
 | nm::ns,b=>.Assign [.Attribute (nE self (JC 0 (av 1 (b.headD dS)))) nm (av 1 (b.headD dS)).pos] (nE nm (av 0 (b.headD dS))) (b.headD dS).pos::jC self ns b.tail
abbrev Km(W:Wd)(k:Nat)(q:Fn×List Nat):Prop:=
 k < 15/\
 (∃fI d self names,Ki W.Y.K (W.Y.J7 k) fI/\(FD.Ok W.Y.K fI d/\FD.Pl d)/\d.ps=W.Y.cp k/\xw W.Y.K W.w.params q.1.dflt d.dV/\W.Y.cp k=self::names/\jC self names d.body=d.body/\q.2.map W.Y.nm=names/\(∀nm∈names,takerIn W.Y.K (W.Y.J7 k) nm=some none)/\∀nm∈self::names,(nm==("__debug__" : Zs))=false)/\
 q.1.JT=(W.Y.cp k).length/\
 (W.Y.cp k).Nodup/\
 q.1.dflt.length<=q.1.JT/\
 (∀a∈q.2,a < 128)/\
 q.2.length<=100
section
variable{q:Fn×List Nat}(zz:Km W k q)
def Km.lt:=zz.1
theorem Km.make(zz:Km W k q){P:Prop}(post:∀fI d self names,Ki W.Y.K (W.Y.J7 k) fI->FD.Ok W.Y.K fI d/\FD.Pl d->d.ps=W.Y.cp k->xw W.Y.K W.w.params q.1.dflt d.dV->W.Y.cp k=self::names->jC self names d.body=d.body->q.2.map W.Y.nm=names->(∀nm∈names,takerIn W.Y.K (W.Y.J7 k) nm=some none)->(∀nm∈self::names,(nm==("__debug__" : Zs))=false)->P):P:=
 zz.2.1.elim λfI h=>h.elim λd h=>h.elim λs h=>h.elim λn h=>post fI d s n h.1 h.2.1 h.2.2.1 h.2.2.2.1 h.2.2.2.2.1 h.2.2.2.2.2.1 h.2.2.2.2.2.2.1 h.2.2.2.2.2.2.2.1 h.2.2.2.2.2.2.2.2
def Km.JT:=zz.2.2.1
def Km.nd:=zz.2.2.2.1
def Km.dle:=zz.2.2.2.2.1
def Km.hi:=zz.2.2.2.2.2.1
def Km.le:=zz.2.2.2.2.2.2
end
theorem Bt{α:Type}{l:List Nat}:∀{k:List α}{a:Nat}{v:α},(l.zip k).lookup a=some v->∃i:Nat,l[i]?=some a/\k[i]?=some v:=by
 induction l with
 | nil=>exact λh=>nS h
 | cons b l ih=>
  intro k a v h
  cases k with
  | nil=>exact nS h
  | cons w k=>
   rw[List.zip_cons_cons,R6]at h
   cases he:a==b with
   | true=>rw[he]at h;exact⟨0,kg some (ld he).symm,h⟩
   | false=>rw[he]at h;exact(ih h).elim λi k=>⟨i+1,k.1,k.2⟩
theorem tO{hs:Int}{t:Tok}{v:Value}(h:∀n,(getL n es).isSome=true)(n:Zs):(getL n (putL name hs (.str name t) v es)).isSome=true:=by
 rw[eG]
 cases name==n with | true=>rfl | false=>exact h n
theorem qZ(C:Addr)(rest:List Value)(kw:List (Zs×Value)):(Code.builtin "type.__call__" ⟨.ref C::rest,kw⟩).weight=1:=by kernel_rfl
theorem tD(C:Addr)(rest:List Value)(kw:List (Zs×Value)):(Code.builtin "type.__call__" ⟨.ref C::rest,kw⟩).cUnits=1:=by kernel_rfl
theorem LC.init{n:Nat}(R:K8 A n)(C:Addr)(rest:List Value)(kw:List (Zs×Value)):LC (A.under (.builtin "type.__call__" ⟨.ref C::rest,kw⟩)) n:=by
 refine⟨?_,?_,R.h⟩
 ·rw[show ∀(A:Around)(c:Code),(A.under c).depth=A.depth+c.weight from λJ J=>rfl,qZ];have:=R.d;exact Mr [_,_,_] 1 (.a (.a (.a (.a Y0 (.c 1)) (.m 2 Y1)) (.c 1)) (.c 1)) Y2 [(1,(.a (.a (.a Y0 (.m 2 Y1)) (.c 2)) (.c 1)),Y2)] U this
 ·rw[show ∀(A:Around)(c:Code),(A.under c).units=A.units+c.cUnits from λJ J=>rfl,tD];have:=R.u;exact Mr [_,_,_] 1 (.a (.a (.a (.a Y0 (.c 1)) (.m 20 Y1)) (.c 10)) (.c 1)) Y2 [(1,(.a (.a (.a Y0 (.m 20 Y1)) (.c 20)) (.c 1)),Y2)] U this
section
variable{K:Bk}{m:Zs->Option Value}{p:Pt}{v:V}{x:Value}{e:Expr}{tk:Tok}{t o:E}{X:Value->Shared->Prop}{f:Addr}{d:FD}
theorem vi{nm:Zs}(F:Fr D.hB D.L p.s.heap m)(hy:m nm=some y)(h:Q y p.s)(hk:D.sc.kind=.function)(hl:D.sc.names.lookup nm=some .local)(hd:(nm==("__debug__" : Zs))=false):wpAny D.M A (eval (nE nm e) D.env) Q X p.s:=
 wpAny_Name (wpAny_loadName_local (env:=D.env) hk hl F.ns hy h) hd
theorem xB{l r:Led}{a:Addr}{o:Obj}(h:((l++(a,o)::r).map (·.1)).Nodup):((l++(a,o')::r).map (·.1)).Nodup:=by
 rw[R5,Sh]at h ⊢;exact h
theorem Cu{l r:Led}{a:Addr}{o:Obj}{n:Nat}(h:∀w∈l++(a,o)::r,n<=w.1):∀w∈l++(a,o')::r,n<=w.1:=λw hw=>
 (mx hw).elim (λk=>h w (lg (.inl k))) λk=>(kl k).elim (λe=>e▸h (a,o) (lg (.inr (.head _)))) λk=>h w (lg (.inr (.tail _ k)))
theorem gu{l f r:Led}{z y:Addr×Obj}{a:Addr}(w:Obj):l++(f++(z::y::(a,w)::r))=(l++(f++[z,y]))++(a,w)::r:=by rw[lq,lq];rfl
theorem sD{nm n:Zs}{ns:List Zs}{m:Zs->Option Value}{h:Int}{tk:Tok}{w:Value}(hy:m nm=some y)(hw:(getL n es=some (some w)/\n ∉ nm::ns)∨(n∈nm::ns/\m n=some w)):(getL n (putL nm h (.str nm tk) y es)=some (some w)/\n ∉ ns)∨(n∈ns/\m n=some w):=by
 rw[eG]
 refine hw.elim (λ⟨a,b⟩=>.inl ⟨?_,λh=>b (.tail _ h)⟩) λ⟨a,b⟩=>?_
 ·rw[show(nm==n)=false from beq_eq_false_iff_ne.mpr λe=>b (e▸.head _)];exact a
 ·by_cases Oi:n∈ns
  ·exact .inr ⟨Oi,b⟩
  ·cases (kl a).resolve_right Oi
   rw[beq_self_eq_true]
   exact .inl ⟨kg some (hy.symm.trans b),Oi⟩
theorem vy(O:Lp D.toWd){C x dx:Addr}(H:Ki D.Y.K C fI)(hk:D.sc.kind=.function){Q:Flow->Shared->Prop}{z:Bool×Addr×Obj}{up:cW}(OZ:m self=some (.ref x))(hls:D.sc.names.lookup self=some .local)(hds:(self==("__debug__" : Zs))=false)(names:List Zs) :
  ∀(body:List Stmt)(p:Pt)(es:List DictEntry)(k:Nat),(∀nm∈names,takerIn D.Y.K C nm=some none/\D.sc.names.lookup nm=some .local/\(nm==("__debug__" : Zs))=false/\∃y,m nm=some y)->es.length+names.length<=1000->(∀n,(getL n es).isSome=true)->
  At D m st (p.ups (z::(false,x,instObj C dx)::(false,dx,dictOf es k)::up))->
  (∀Qg k' h' tk,At D m st ((p.mv h' tk p.ad p.φ).ups (z::(false,x,instObj C dx)::(false,dx,dictOf Qg k')::up))->(∀nm y,((getL nm es=some (some y)/\nm ∉ names)∨(nm∈names/\m nm=some y))->getL nm Qg=some (some y))->Q .next { p.s with heap:=h',toks:=tk})->
  wpAny D.M A (execs (jC self names body) D.env) Q X p.s:=by
 induction names with
 | nil=>exact λbody p es k _ _ _ a post=>wpAny_execs_nil (post es k p.s.heap p.s.toks a λnm y h=>h.elim (·.1) λh=>nomatch h.1)
 | cons nm ns ih=>
  intro body p es k hn hz ht a post
  refine LA λhG=>?_
  obtain⟨t1,l1,d1,y,hy⟩:=hn nm (.head _)
  have fr:=a.inv.fr
  refine hG (wpAny_execs_cons (plainObj_wpAny_Assign_Attribute (vi fr hy (vi fr OZ ?_ hk hls hds) hk l1 d1) U))
  clear hG
  have nd:=(gu (dictOf es k)▸a.inv.nd:(((p.ad.led++(p.φ++[z.2,(x,instObj C dx)]))++(dx,dictOf es k)::up.map (·.2)).map (·.1)).Nodup)
  have nw:=(gu (dictOf es k)▸a.inv.nw:News D.hB D.L p.s.heap ((p.ad.led++(p.φ++[z.2,(x,instObj C dx)]))++(dx,dictOf es k)::up.map (·.2)))
  have lo:=(gu (dictOf es k)▸a.inv.lo:∀w∈(p.ad.led++(p.φ++[z.2,(x,instObj C dx)]))++(dx,dictOf es k)::up.map (·.2),D.hB.objs.size<=w.1)
  have hl:=(ip nm (PyData.keyHash D.w.params nm) (p.s.toks+1) y es).1
  have Ru:es.length+1+ns.length<=1000:=Nat.add_right_comm es.length 1 ns.length▸hz
  refine set_dict fr O.X nw (InstAt.of_news nw (x:=x) (C:=C) (dx:=dx) (od:=dictOf es k) (sl:=#[]) (lg (.inl (lg (.inr (lg (.inr (.tail _ (.head _)))))))) (lg (.inr (.head _)))) U H.set H.over t1 H.has (ht nm) U (Upd.at (o':=dictOf (putL nm (PyData.keyHash D.w.params nm) (.str nm (p.s.toks+1)) y es) (putN nm es k)) _ nd) (ke hl (ke (ke (lu _ _) Ru) (by decide))) λQY F' N'=>?_
  exact ih body.tail (p.mv QY (p.s.toks+2) p.ad p.φ) _ (putN nm es k) (λn hn'=>hn n (.tail _ hn')) (ke (Se hl _) Ru) (tO ht) ⟨⟨F',gu (dictOf _ (putN nm es k))▸N',gu (dictOf _ (putN nm es k))▸xB nd,gu (dictOf _ (putN nm es k))▸Cu lo⟩,a.rep⟩ λQg k' h3 tk a3 hg=>post Qg k' h3 tk a3 λn w hw=>hg n w (sD hy hw)
theorem mG(O:Lp C.toWd){R:Result->Shared->Prop}{c:Addr}(H:Ki C.Y.K c fI){rest:List Value}{kw:List (Zs×Value)}(a:At C m st p)
  (h:∀x dx J5,At C m st ((p.mv J5 p.s.toks p.ad p.φ).ups ((false,x,instObj c dx)::(false,dx,emptyDict)::p.up))->codeAny C.M (A.under (.builtin "type.__call__" ⟨.ref c::rest,kw⟩)) (.call (.ref fI) ⟨.ref x::rest,kw⟩) (InitBack x R) { p.s with heap:=J5}) :
  codeAny C.M A (.call (.ref c) ⟨rest,kw⟩) R p.s:=by
 have X:=a.K O
 have I:=a.inv
 have h':=h (p.s.heap.objs.size+1) p.s.heap.objs.size ((p.s.heap.push emptyDict).push (instObj c p.s.heap.objs.size)) ⟨?_,a.rep⟩
 ·refine LA λhG=>?_
  obtain⟨⟨hh,g,d,t,os⟩,_⟩:=p
  refine hG ?_
  clear hG
  exact make_core (makes_of X H.makes) (looks_findIn X H.init) (λself=>bind_fn X self H.ty) (.inl U) h'
 have Ov:=(I.nw.push I.fr emptyDict).push (I.fr.push _) (instObj c p.s.heap.objs.size)
 rw[Heap.size_push]at Ov
 refine I.more (c:=[(p.s.heap.objs.size+1,instObj c p.s.heap.objs.size),(p.s.heap.objs.size,emptyDict)]) ((I.fr.push emptyDict).push (instObj c p.s.heap.objs.size)) Ov ?_ (λz hz w hw e=>?_) (λz hz=>?_) ?_
 ·exact List.nodup_cons.mpr ⟨λh=>Nat.succ_ne_self _ (km h),List.nodup_cons.mpr ⟨mo,.nil⟩⟩
 ·have lt:=Heap.lt_size (I.nw w hw).1
  rcases kl hz with e' | e'
  ·rw[e,e']at lt;exact Sj _ (Nat.lt_of_succ_lt lt)
  ·rw[e,km e']at lt;exact Sj _ lt
 ·rcases kl hz with e' | e'
  ·(refine(e')▸?_);exact Sv I.above
  ·(refine(km e')▸?_);exact I.above
 ·exact ax.trans (List.Perm.cons _ ax)
theorem Cw{f:Fn}{pos:List V}(h:aM f pos kw=some vs)(h0:0 < f.JT):vs[0]?=i4 f pos kw 0:=by
 unfold aM at h
 revert h
 cases (decide (pos.length<=f.JT)&&_&&_) with
 | false=>exact nofun
 | true=>
  intro h
  have hM:=dR h
  obtain⟨b,h1,h2⟩:=hM.get (i:=0) (by rw[List.getElem?_range h0])
  exact h1.trans h2.symm
theorem uj(H:Ok C)(hs:C.hs=true)(N:∀(k:Nat)(q:Fn×List Nat),C.c.Kd[k]?=some q->Km C.toWd k q)(hi:fh C i):JB C (.new k i):=λe0 hc K st p r Q hv P post=>aEl hc λh1 h2=>Jx hv λw hw h=>Jx h λf hf h=>Jx h λvs NP h=>Kc h λbs hbs e'=>by
 subst e'
 have Z:=N k f hf
 refine Z.make λfI d self names M D Og hdf PD hbody O5 htak hdeb=>?_
 have Rm:=P.rm hs
 refine wpAny_Call_Name_kw (dw H h2 P.at' (H.K.RC k Z.lt) ?_)
 refine ig (first:=[]) H hi h1 M.keep hw P λxs ys q t a rx ry=>mG H.O M a λx dx J5 NI=>?_
 refine jJ (s:={ q.s with heap:=J5}) (NI.K H.O) D.1 Og Z.JT Z.nd Z.dle hdf (R:=λv y=>(v=.uu/\y=.ref x)∨C.V q v y) (λb y r=>.inr (Mh.mono (La:=q.φ) (λJ h=>(mo h).elim) r)) NP
  (.cons (.inl ⟨rfl,rfl⟩) (rx.mono λJ J=>.inr)) (ry.mono λJ J=>.inr) λbinds b1 b2 b3 b4=>?_
 have np:f.1.JT=names.length+1:=by (refine(Z.JT)▸?_;refine(PD)▸?_);rfl
 have OZ:binds.reverse.lookup self=some (.ref x):=by
  obtain⟨nm,y,e1,e2,e3⟩:=b4 0 _ (Cw NP (by exact Mr [_,_] 1 (.a (.c 0) (.c 1)) Y0 [(1,(.a Y1 (.c 1)),Y0)] U (lw np.symm)))
  rw[PD]at e1
  obtain rfl:=kc e1
  exact e3.elim (λe=>e.2▸e2) λe=>e.elim
 have NC:∀(i:Nat)(nm:Zs)(b:Internal.B),names[i]?=some nm->bs[i]?=some b->∃y,binds.reverse.lookup nm=some y/\Mh C.w.params q.φ b y:=λi nm b hi hb=>by
  obtain⟨u,hu,he⟩:=(dR hbs).get' hb
  rw[List.getElem?_tail]at hu
  refine LA λhG=>?_
  obtain⟨nm',y,e1,e2,e3⟩:=b4 (i+1) u hu
  refine hG ?_
  clear hG
  rw[PD,List.getElem?_cons_succ,hi]at e1
  obtain rfl:=kc e1
  rw[lE he]at e3
  exact e3.elim (λe=>J4 (kg ae e.1)) λe3=>⟨y,e2,e3⟩
 have hbl:bs.length=names.length:=by
  have h1:=(dR hbs).length
  rw[List.length_tail,b3,np]at h1
  exact h1.symm
 have hmem:∀nm∈self::names,nm∈d.ps:=λnm hn=>by (refine(Og)▸?_;refine(PD)▸?_);exact hn
 have hlen:names.length<=100:=O5▸(lf (as:=f.2) C.Y.nm).symm▸Z.le
 refine wI (C:=C) (p:=(q.mv J5 q.s.toks q.ad q.φ).ups _) H.O D.1 D.2 C.c C.n [] NI (by have:=(LC.init Rm (C.Y.J7 k) ([]++xs) ((aH (C.Y.cp k) w.1.2).zip ys)).d;exact Mr [_,_,_] 1 (.a Y0 (.c 1)) Y2 [(1,(.a (.a (.a Y0 (.m 2 Y1)) (.c 1)) (.c 1)),Y2)] U this) b1 b2 λoL KR D' hD a2 back=>?_
 subst hD
 have e1:(execs d.body)=execs (jC self names d.body):=by (exact(hbody).symm▸rfl)
 (refine(e1)▸?_)
 refine vy (D:=Cf.of C.toWd C.c C.n [] d J5.objs.size fI) (p:=(q.mv J5 q.s.toks q.ad q.φ).mv KR _ q.ad q.φ) (es:=[]) (k:=0) H.O M D.1.ki OZ (D.2.2 _ (hmem _ (.head _))) (hdeb _ (.head _)) names d.body (λnm hn=>⟨htak nm hn,D.2.2 _ (hmem _ (.tail _ hn)),hdeb _ (.tail _ hn),?_⟩) (by show 0+names.length<=1000;exact Mr [_] 1 (.a (.c 0) Y0) (.c 1000) [(1,Y0,(.c 100))] U hlen) (λn=>rfl) a2 λes kk Oe tk₃ a3 hg=>⟨rfl,?_⟩
 ·obtain⟨i,hi⟩:=S3 hn
  have RA:=(kh hi).1
  obtain⟨y,hy,_⟩:=NC i nm bs[i] hi (kq (by exact Mr [_,_,_] 1 (.a Y2 (.c 1)) Y1 [(1,Y0,Y1),(1,(.a Y2 (.c 1)),Y0)] U (lw hbl.symm) RA))
  exact⟨y,hy⟩
 have a4:=(back _ _ _ _ a3 .rfl).2
 have sub:∀z∈q.φ,z∈((x,instObj (C.Y.J7 k) dx)::(dx,dictOf es kk)::q.φ):=λz hz=>.tail _ (.tail _ hz)
 refine post (.ref x) (q.mv Oe tk₃ q.ad ((x,instObj (C.Y.J7 k) dx)::(dx,dictOf es kk)::q.φ)) (t.trans (.mv sub .rfl)) ⟨a4.inv.perm (mid:=[]) ?_,a4.rep.mono sub⟩ (Qn.mk Z.lt (.head _) (.tail _ (.head _)) λa v hv=>?_)
 ·exact List.Perm.append_left _ (List.perm_middle.trans (List.Perm.cons _ List.perm_middle))
 ·obtain⟨i,h1,h2⟩:=Bt hv
  have h3:names[i]?=some (C.Y.nm a):=by (refine(O5)▸?_;refine(Sf)▸?_;refine(h1)▸?_);rfl
  obtain⟨y,hy,ry'⟩:=NC i _ v h3 h2
  exact⟨Z.hi a (lx h1),y,hg _ _ (.inr ⟨lx h3,hy⟩),ry'.mono sub⟩
end
noncomputable abbrev pl(l:Led):cW:=l.map λz=>(false,z)
theorem iq(l:Led)(u:cW):(pl l++u).map (·.2)=l++u.map (·.2):=by
 (refine(R5)▸?_;refine(SV).symm▸?_)
 exact kg (·++_) (List.map_id l)
theorem K7.app{u:cW}:∀{l:Led}{w:cW},K7 (pl l++u) w->∃u',w=pl l++u'/\K7 u u'
 | [],w,h=>⟨w,S9 _,h⟩
 | z::l,_,.cons (b:=y) r h=>by
  obtain⟨u',e,h'⟩:=K7.app (l:=l) h
  obtain⟨y0,y1,y2⟩:=y
  obtain⟨z1,z2⟩:=z
  cases (show y0=false from r.b)
  cases (show y1=z1 from r.a)
  cases r.o.elim id λh'=>nomatch h'.1
  exact⟨u',kg (_::·) e,h'⟩
noncomputable def Ad.oth(ad:Ad)(j:Nat):Led:=ad.cur.flatten++((ad.JR.take j).flatten.flatten++(ad.JR.drop (j+1)).flatten.flatten)
noncomputable def Ad.OP(ad:Ad)(j:Nat)(c:List Led):Ad:={ ad with JR:=ad.JR.set j c}
theorem uI{a b c d:Led}{u:Led}:((a++[])++(φ++((b++(c++d))++u))).Perm ((b++(c++(a++d)))++(φ++u)):=by
 classical
 exact List.perm_iff_count.mpr λx=>by simp only[List.count_append,List.count_nil];exact Nat.le_antisymm (Mr [_,_,_,_,_,_] 1 (.a (.a Y0 (.c 0)) (.a Y1 (.a (.a Y2 (.a Y3 Y4)) Y5))) (.a (.a Y2 (.a Y3 (.a Y0 Y4))) (.a Y1 Y5)) [] U) (Mr [_,_,_,_,_,_] 1 (.a (.a Y2 (.a Y3 (.a Y0 Y4))) (.a Y1 Y5)) (.a (.a Y0 (.c 0)) (.a Y1 (.a (.a Y2 (.a Y3 Y4)) Y5))) [] U)
theorem Ad.LF{ad:Ad}(hj:j < ad.JR.length)(c:List Led)(φ up:Led):((⟨c,[]⟩:Ad).led++(φ++(ad.oth j++up))).Perm ((ad.OP j c).led++(φ++up)):=by
 have e:(ad.OP j c).led=ad.cur.flatten++((ad.JR.take j).flatten.flatten++(c.flatten++(ad.JR.drop (j+1)).flatten.flatten)):=by
  show ad.cur.flatten++(ad.JR.set j c).flatten.flatten=_
  (refine(List.set_eq_take_append_cons_drop)▸?_;refine(if_pos hj)▸?_;refine(Sg).symm▸?_;refine(Sg).symm▸?_;refine(Sz).symm▸?_;exact(Sg).symm▸rfl)
 (refine(e)▸?_)
 exact uI
noncomputable abbrev Pt.reg(p:Pt)(j:Nat)(cs:List Led):Pt:=⟨p.s,⟨cs,[]⟩,p.φ,pl (p.ad.oth j)++p.up⟩
section
variable{K:Bk}{m:Zs->Option Value}{p:Pt}{v:V}{x:Value}{e:Expr}{tk:Tok}{t o:E}{X:Value->Shared->Prop}{d:FD}{R R':List Ob}{cs PG:List Led}
theorem At.take(a:At C m st p)(hR:st.JR[j]?=some R):∃cs,p.ad.JR[j]?=some cs/\At C m ⟨R,[]⟩ (p.reg j cs):=by
 obtain⟨cs,LI,hr⟩:=a.rep.JR.get hR
 refine⟨cs,LI,a.inv.perm (mid:=[]) ?_,hr,.nil⟩
 show(p.ad.led++(p.φ++p.ul)).Perm ((⟨cs,[]⟩:Ad).led++(p.φ++(pl (p.ad.oth j)++p.up).map (·.2)))
 rw[iq]
 have:=Ad.LF (kh LI).1 cs p.φ p.ul
 rw[show p.ad.OP j cs=p.ad from kg (Ad.mk p.ad.cur) (il LI)]at this
 exact this.symm
theorem At.lay(r:Rep C.Y p.φ st p.ad)(LI:p.ad.JR[j]?=some cs)(t:To (p.reg j cs) q)(b:At C m ⟨R',[]⟩ q):∃q',q'.s=q.s/\q'.φ=q.φ/\To p q'/\At C m { st with JR:=st.JR.set j R'} q'/\(∀z∈q'.ad.led,z∈q.ad.led∨(false,z)∈q.up)/\∀y∈q'.up,y∈q.up:=by
 obtain⟨s,⟨c₂,RE⟩,φ,u⟩:=q
 obtain⟨sub,am,up,sh⟩:=t
 obtain⟨u',rfl,hu⟩:=K7.app up
 obtain⟨I,R1⟩:=b
 have he:RE=[]:=by have:=R1.JR;cases this;rfl
 subst he
 have hj:=(kh LI).1
 have hle:p.ad.am.le (p.ad.OP j c₂).am:=by
  refine⟨λJ J h=>h,λn l hl=>?_⟩
  show ∃l',((p.ad.JR.set j c₂).map (·.map adr))[n]?=some l'/\_
  have Nb:(p.ad.JR.map (·.map adr))[n]?=some l:=hl
  rw[Sf]at Nb ⊢
  by_cases e:n=j
  ·subst e
   rw[LI]at Nb
   obtain rfl:=kc Nb
   (refine(SK hj)▸?_)
   exact⟨_,rfl,am.cur⟩
  ·(refine(Sd (Ne.symm e)).symm▸?_)
   exact⟨l,Nb,λJ J h=>h⟩
 refine⟨⟨s,p.ad.OP j c₂,φ,u'⟩,rfl,rfl,⟨sub,hle,hu,sh⟩,⟨I.perm (mid:=[]) ?_,r.cur.mono λJ J q=>q.mono sub hle,(Jp.mono (λJ J q=>RR.mono sub q) r.JR).set R1.cur j⟩,λz hz=>?_,λy hy=>lg (.inr hy)⟩
 ·show((⟨c₂,[]⟩:Ad).led++(φ++(pl (p.ad.oth j)++u').map (·.2))).Perm _
  rw[iq]
  exact Ad.LF hj c₂ φ _
 ·have h:=(Ad.LF hj c₂ [] []).mem_iff.mpr (lg (.inl hz))
  exact(mx h).elim .inl λh=>.inr (lg (.inl (List.mem_map.mpr ⟨z,by rw[mh]at h;exact h,rfl⟩)))
theorem pQ(h:∀v∈l,OB v=true)(a:Jp (VR Y φ am) l xs):Jp (VR Y φ MQ) l xs:=by
 induction a with
 | nil=>exact .nil
 | cons r _ ih=>exact .cons (r.free (h _ (.head _))) (ih λv hv=>h v (.tail _ hv))
theorem iu{r:List V×List (Nat×V)}(h:okA r=true):(∀{xs},Jp (VR Y φ am) r.1 xs->Jp (VR Y φ MQ) r.1 xs)/\∀{ys},Jp (VR Y φ am) (r.2.map (·.2)) ys->Jp (VR Y φ MQ) (r.2.map (·.2)) ys:=aEl h λh1 h2=>
 ⟨pQ (ma h1),pQ λv hv=>(List.mem_map.mp hv).elim λp hp=>hp.2▸ma h2 p hp.1⟩
theorem wJ(H:Ok C)(T:d7 C.toWd C.c.fns)(ha:JB C a)(hi:fh C i)(hc:J9 C.Y C.sc (.K4 k a i) C.sl [] e=true){o:V×St}{f:Fn×Nat×Nat}(ho:Jq C.c a K.l st=some o)(hf:vJ C.c k o.1 o.2=some f)(hw:Kv C.c i K.l o.2=some w)(PA:okA w.1=true)(hR:w.2.JR[f.2.1]?=some R)(P:Pre C K st p)
  (h:∀d cs q,C.c.fns[k]?=some f.1->Ks C.toWd k f.1 d->To p q->At C K.m w.2 q->q.ad.JR[f.2.1]?=some cs->At C K.m ⟨R,[]⟩ (q.reg f.2.1 cs)->∀xs ys,Jp (C.V (q.reg f.2.1 cs)) (.ref f.2.2::w.1.1) xs->Jp (C.V (q.reg f.2.1 cs)) (w.1.2.map (·.2)) ys->
   codeAny C.M K.A (.call (.ref (C.Y.fn k)) ⟨xs,(aH (C.Y.pn k) w.1.2).zip ys⟩) (wants Q K.X) q.s) :
  wpAny C.M K.A (eval (JK C.Y (.K4 k a i) C.sl [] e) C.env) Q K.X p.s:=aEl hc λh1 h2=>aEl h2 λh2 h3=>aEl h3 λh3 h4=>aEl h4 λh4 h5=>Jx hf λz hz hf=>Jx hf λg O8 hf=>KN hf λQb e'=>aEl Qb λQb NU=>by
 subst e'
 have h5:=kj h5
 obtain⟨d,D⟩:=T k g O8
 have S:=shape (pos:=e.pos) i h2 hw
 obtain⟨f1,_,_,_⟩:=H.K.mFn k h5.1
 obtain⟨_,O9⟩:=H.K.mOwn k g h5.1 O8
 refine iC (bu h3 _ _) (qk S.as S.ks h5.2) h4 (ha _ h1 ho P λx q t a' r pl=>?_)
 refine a'.LY hz r λz' dx es n cs LI hcx I lt g'=>?_
 refine method_inst a'.inv.fr H.O.X I (H.K.ML _ lt) (ld Qb▸O9) f1 ((g' k (SG h5.1 (by decide))).2 (Option.isNone_iff_eq_none.mp NU)) ?_
 refine ig H hi h2 D.ok.keep hw (P.to t a') λxs ys q2 t2 a2 rx ry=>?_
 obtain⟨PG,hcs',a3⟩:=a2.take hR
 refine h d PG q2 O8 D (t.trans t2) a2 hcs' a3 _ ys (.cons (lF.mk ?_) ((iu PA).1 rx)) ((iu PA).2 ry)
 obtain⟨lr,hlr,Rx⟩:=t2.am.JR z.1.1 (cs.map adr) (dg (List.map adr) LI)
 cases hlr.symm.trans (dg (List.map adr) hcs')
 exact Rx _ _ (dg adr hcx)
theorem nX(H:Ok C)(hs:C.hs=true)(T:d7 C.toWd C.c.fns)(Z:cX C.toWd C.c C.n)(ha:JB C a)(hi:fh C i):JB C (.K4 k a i):=λe0 hc K st p r Q hv P post=>Jx hv λo ho h=>Jx h λf hf h=>Jx h λw hw h=>Jx h λvs NP h=>Jx h λJ hg h=>Jx h λR hR h=>Jx h λz hz h=>KN h λhzf e'=>aEl hzf λz1 z2=>by
 subst e'
 refine wJ H T ha hi hc ho hf hw (KN hg λh J=>h) hR P λd cs q O8 D t a' LI a3 xs ys rx ry=>dA (p:=q.reg f.2.1 cs) Z U H.O O8 D NP hz (P.rm hs).toC a3 rx ry λy q2 t2 a4 r4=>?_
 obtain⟨zv,zc,ze⟩:=z
 cases List.isEmpty_iff.mp z2
 obtain⟨q',e1,e2,t5,a5,_⟩:=At.lay a'.rep LI t2 a4
 (refine(e1)▸?_)
 exact post y q' (t.trans t5) a5 (show VR C.Y q'.φ q'.ad.am zv y from e2▸r4.free z1)
theorem su{c:Code}{s:Shared}{x:Addr}{R:Result->Shared->Prop}(h:codeAny M A c (wants (λv s'=>v=.none/\R (.ok (.ret (.ref x))) s') (λe s'=>R (.error e) s')) s):codeAny M A c (InitBack x R) s:=
 codeAny_mono h λr s' h'=>by
  match r,h' with
  | .ok (.ret v),h'=>exact h'
  | .error e,h'=>exact h'
theorem uH{a b c u:Led}{x y:Addr×Obj}:(a++(φ++(x::y::(b++u)))).Perm (((b++(([x,y]:Led)++[]))++[])++(φ++(a++u))):=by
 classical
 exact List.perm_iff_count.mpr λz=>by simp only[List.count_append,List.count_nil,List.count_cons];exact Nat.le_antisymm (Mr [_,_,_,_,_,_] 1 (.a Y0 (.a Y1 (.a (.a (.a Y2 Y3) Y4) Y5))) (.a (.a (.a Y2 (.a (.a (.a (.c 0) Y4) Y5) (.c 0))) (.c 0)) (.a Y1 (.a Y0 Y3))) [] U) (Mr [_,_,_,_,_,_] 1 (.a (.a (.a Y2 (.a (.a (.a (.c 0) Y4) Y5) (.c 0))) (.c 0)) (.a Y1 (.a Y0 Y3))) (.a Y0 (.a Y1 (.a (.a (.a Y2 Y3) Y4) Y5))) [] U)
theorem uG{a c u:Led}:((c++[])++(φ++(a++u))).Perm (a++(φ++(c++u))):=by
 classical
 exact List.perm_iff_count.mpr λz=>by simp only[List.count_append,List.count_nil];exact Nat.le_antisymm (Mr [_,_,_,_] 1 (.a (.a Y0 (.c 0)) (.a Y1 (.a Y2 Y3))) (.a Y2 (.a Y1 (.a Y0 Y3))) [] U) (Mr [_,_,_,_] 1 (.a Y2 (.a Y1 (.a Y0 Y3))) (.a (.a Y0 (.c 0)) (.a Y1 (.a Y2 Y3))) [] U)
theorem uF{a b c u:Led}:((a++b)++(φ++(c++u))).Perm ((a++(b++(c++[])))++(φ++u)):=by
 classical
 exact List.perm_iff_count.mpr λz=>by simp only[List.count_append,List.count_nil];exact Nat.le_antisymm (Mr [_,_,_,_,_] 1 (.a (.a Y0 Y1) (.a Y2 (.a Y3 Y4))) (.a (.a Y0 (.a Y1 (.a Y3 (.c 0)))) (.a Y2 Y4)) [] U) (Mr [_,_,_,_,_] 1 (.a (.a Y0 (.a Y1 (.a Y3 (.c 0)))) (.a Y2 Y4)) (.a (.a Y0 Y1) (.a Y2 (.a Y3 Y4))) [] U)
theorem mF(H:Ok C)(hs:C.hs=true)(T:d7 C.toWd C.c.fns)(Z:cX C.toWd C.c C.n){n:Nat}(hn:n < 2)(hk:k=dd+1 - n){f:Fn}(hf:C.c.fns[k]?=some f){pos:List V}{w:V×St}
  (hl:aM f (.ref R.length::pos) kw=some vs) (hw:C.c.Jv k vs ⟨R++[.ins n []],[]⟩=some w) (h1:bf w.1=true) (h2:w.2.JR=[]) (Rm:K8 A C.n) (a:At C m st (p.ups (pl cs.flatten++p.up))) (r:Rep C.Y p.φ ⟨R,[]⟩ ⟨cs,[]⟩)
  (rx:Jp (VR C.Y p.φ ⟨cs.map adr,[]⟩) pos xs) (ry:Jp (VR C.Y p.φ ⟨cs.map adr,[]⟩) (kw.map (·.2)) ys)
  (h:∀x c' q,To p q->q.ad=p.ad->(∀(i:Nat) y,(cs.map adr++[x])[i]?=some y->(c'.map adr)[i]?=some y)->At C m st (q.ups (pl c'.flatten++q.up))->Rep C.Y q.φ ⟨w.2.cur,[]⟩ ⟨c',[]⟩->Q (.ref x) q.s) :
  codeAny C.M A (.call (.ref (C.Y.JW n)) ⟨xs,(aH (C.Y.pn k) kw).zip ys⟩) (wants Q X) p.s:=by
 refine mG (p:=p.ups (pl cs.flatten++p.up)) H.O (hk▸H.K.mkI n hn) a λx dx J5 NI=>?_
 obtain⟨d,D⟩:=T k f hf
 have le:(⟨cs.map adr,[]⟩:AM).le (⟨(cs++[[(x,instObj (C.Y.JW n) dx),(dx,emptyDict)]]).map adr,[]⟩:AM):=⟨λi y h=>by (refine(R5)▸?_);exact(Sa (kh h).1).trans h,λJ J e=>nomatch e⟩
 refine su (dA (p:=⟨{ p.s with heap:=J5},⟨cs++[[(x,instObj (C.Y.JW n) dx),(dx,emptyDict)]],[]⟩,p.φ,pl p.ad.led++p.up⟩) (m:=m) (xs:=.ref x::xs) Z U H.O hf D hl hw (.init Rm _ _ _) ⟨?_,?_⟩ ?_ ?_ ?_)
 ·refine NI.inv.perm (mid:=[]) ?_
  show(p.ad.led++(p.φ++((x,instObj (C.Y.JW n) dx)::(dx,emptyDict)::(pl cs.flatten++p.up).map (·.2)))).Perm ((cs++[[(x,instObj (C.Y.JW n) dx),(dx,emptyDict)]]).flatten++[]++(p.φ++(pl p.ad.led++p.up).map (·.2)))
  (rewrite[iq];rewrite[iq];refine(Sg)▸?_;refine(Sz).symm▸?_;refine(List.flatten_nil).symm▸?_)
  exact uH (c:=[])
 ·exact⟨(r.cur.mono λJ J q=>q.mono (λJ h=>h) le).snoc (.ins hn (λn J=>⟨nofun,λJ=>rfl⟩) (mf _) (mj _)),.nil⟩
 ·refine .cons (lF.mk ?_) (rx.mono λJ J q=>q.mono (λJ h=>h) le)
  show((cs++_).map adr)[R.length]?=some x
  (rewrite[show R.length=cs.length from r.cur.length];refine(R5)▸?_;refine(R4 (lw (lf _)))▸?_;rewrite[lf];rw[Sl]);rfl
 ·exact ry.mono λJ J q=>q.mono (λJ h=>h) le
 intro y q b Qj ry₂
 obtain⟨w1,wc,we⟩:=w
 cases (show we=[] from h2)
 obtain⟨s2,⟨c₂,RE⟩,ON,u₂⟩:=q
 obtain⟨sub,am,up,sh⟩:=b
 obtain⟨u',rfl,hu⟩:=K7.app up
 obtain⟨I2,R2⟩:=Qj
 have he:RE=[]:=by have:=R2.JR;cases this;rfl
 subst he
 have hx:=am.cur
 refine⟨ry₂.nul h1,h x c₂ ⟨s2,p.ad,ON,u'⟩ ⟨sub,.rfl,hu,sh⟩ U (λi y h=>hx i y ?_) ⟨I2.perm (mid:=[]) ?_,a.rep.mono sub⟩ R2⟩
 ·show((cs++_).map adr)[i]?=some y
  (refine(R5)▸?_);exact h
 ·show(c₂.flatten++[]++(ON++List.map Prod.snd (pl p.ad.led++u'))).Perm (p.ad.led++(ON++List.map Prod.snd (pl c₂.flatten++u')))
  have pu:∀(l:Led)(u:cW),List.map Prod.snd (pl l++u)=l++u.map (·.2):=iq
  rw[pu,pu]
  exact uG
theorem zU{ps:List Zs}{r:(List V×List (Nat×V))×St}(hv:Kv C.c i l st=some r)(h:r.1.1=[]):Mn (JK C.Y i C.sl ps h0)=[]:=by
 cases i with
 | nil=>rfl
 | pos e r=>exact Jx hv λq hq hv=>Kc hv λz hz e'=>by subst e';cases h
 | kw=>rfl
 | _=>exact nS hv
theorem nU(H:Ok C)(hs:C.hs=true)(T:d7 C.toWd C.c.fns)(Z:cX C.toWd C.c C.n)(hi:fh C i):JB C (.LL k q0 i):=λe0 hc K st p r Q hv P post=>aEl hc λh1 k2=>aEl k2 λg2 k3=>aEl k3 λg3 g4=>
 Jx hv λg hfg h=>Jx h λQv Rv h=>Jx h λw hw h=>Jx h λJ hgw h=>Jx h λz hz h=>Jx h λf hf h=>Jx h λvs NP h=>Jx h λJ PA h=>Jx h λu hu' h=>KN h λhgu e'=>KN hgw λhgw J=>KN PA λPA J=>aEl hgw λw1 w2=>aEl hgu λu1 u2'=>aEl PA λo1 o2=>by
 subst e'
 obtain⟨rfl,rfl⟩:=kj g4
 have Rm:=P.rm hs
 have S:=shape (pos:=e0.pos) i h1 hz
 have hsx:starEach [gE "Rows" [] [] (JC 1 e0)] C.env=[(false,eval (gE "Rows" [] [] (JC 1 e0)) C.env)]:=rfl
 show wpAny C.M K.A (eval (gE "Emitter" [gE "Rows" [] [] (JC 1 e0)] (Lu (JK C.Y i C.sl (C.Y.pn (dd+1)) (gw [] (Lu e0)))) e0) C.env) Q K.X p.s
 refine wpAny_Call_Name_kw (dw H g2 P.at' H.K.gEm ?_)
 (refine(hsx)▸?_)
 refine callWith_of (P:=C.Y.K.In) (by (refine(S.kn).symm▸?_);rfl) (keeps_K (H.K.mkI 0 (by decide)).keep) (fP U S.ks ?_)
 (refine(S.nm)▸?_)
 refine Calls.spliced_cons ?_
 refine wpAny_Call_Name_kw (dw H g3 P.at' H.K.gRows ?_)
 refine callWith_of (P:=C.Y.K.In) U (keeps_K (H.K.mkI 1 (by decide)).keep) (evalArgs_nil3 ⟨P.at'.K H.O,wpAny_call ?_⟩)
 refine mF (p:=p) H hs T Z (n:=1) (by decide) U hfg (R:=[]) (cs:=[]) (pos:=[]) (kw:=[]) (ys:=[]) Rv hw w1 (List.isEmpty_iff.mp w2) Rm P.at' ⟨.nil,.nil⟩ .nil .nil λxr cr q1 t1 e1 p1 a1 R1=>?_
 have lr1:LR C q1 K.l K.m:=P.lr.to t1
 have fin:∀xs ys (q2:Pt),To (q1.ups (pl cr.flatten++q1.up)) q2->At C K.m z.2 q2->Jp (C.V q2) z.1.1 xs->Jp (C.V q2) (z.1.2.map (·.2)) ys->codeAny C.M K.A (.call (.ref (C.Y.JW 0)) ⟨.ref xr::xs,(aH (C.Y.pn (dd+1)) z.1.2).zip ys⟩) (wants Q K.X) q2.s:=λxs ys q2 t2 a2 rx ry=>by
  rw[List.isEmpty_iff.mp o2]at rx
  cases rx
  obtain⟨s2,Nr,φ2,u2⟩:=q2
  obtain⟨Rg,am2,up2,sh2⟩:=t2
  obtain⟨u',rfl,hu⟩:=K7.app up2
  refine mF (p:=⟨s2,Nr,φ2,u'⟩) H hs T Z (n:=0) (by decide) U hf (R:=w.2.cur) (cs:=cr) (pos:=[.ref 0]) (xs:=[.ref xr]) NP hu' u1 (List.isEmpty_iff.mp u2') Rm a2 (R1.mono Rg) (.cons (lF.mk (p1 0 xr U)) .nil) ((iu o1).2 ry) λxe ce q3 t3 e3 p3 a3 R3=>?_
  obtain⟨s3,ad3,φ3,u3⟩:=q3
  cases (show ad3=Nr from e3)
  have hle:Nr.am.le ({ Nr with JR:=Nr.JR++[ce]}:Ad).am:=⟨λJ J h=>h,λn l hl=>⟨l,by
   show((Nr.JR++[ce]).map (·.map adr))[n]?=some l
   have Nb:(Nr.JR.map (·.map adr))[n]?=some l:=hl
   (refine(R5)▸?_);exact(Sa (kh Nb).1).trans Nb,λJ J h=>h⟩⟩
  refine post (.ref xe) ⟨s3,{ Nr with JR:=Nr.JR++[ce]},φ3,u3⟩ ⟨λz hz=>t3.sub z (Rg z (t1.sub z hz)),(t1.am.trans am2).trans hle,(t1.up.trans hu).trans t3.up,((t1.trans (⟨Rg,am2,hu,sh2⟩:To q1 ⟨s2,Nr,φ2,u'⟩)).trans t3).sh⟩ ⟨a3.inv.perm (mid:=[]) ?_,a2.rep.cur.mono λJ J q=>q.mono t3.sub hle,(a2.rep.JR.mono λJ J q=>RR.mono t3.sub q).snoc R3.cur⟩ (EmX.mk (l:=ce.map adr) ?_ ?_)
  ·show(Nr.led++(φ3++List.map Prod.snd (pl ce.flatten++u3))).Perm ((Nr.cur.flatten++(Nr.JR++[ce]).flatten.flatten)++(φ3++u3.map (·.2)))
   have pu:∀(l:Led)(u:cW),List.map Prod.snd (pl l++u)=l++u.map (·.2):=iq
   (rewrite[pu];refine(Sg).symm▸?_;refine(Sg).symm▸?_;refine(Sz).symm▸?_;refine(List.flatten_nil).symm▸?_;rw[mh])
   have:=uF (a:=Nr.cur.flatten) (b:=Nr.JR.flatten.flatten) (φ:=φ3) (c:=ce.flatten) (u:=u3.map (·.2))
   rw[mh]at this
   exact this
  ·show((Nr.JR++[ce]).map (·.map adr))[z.2.JR.length]?=_
   (refine(a2.rep.JR.length)▸?_;refine(R5)▸?_;refine(R4 (lw (lf _)))▸?_;rewrite[lf];rw[Sl]);rfl
  ·refine p3 _ _ ?_
   (refine(R1.cur.length)▸?_;refine(R4 (lw (lf _)))▸?_;rewrite[lf];rw[Sl]);rfl
 have key:=hi (C.Y.pn (dd+1)) (gw [] (Lu e0)) e0.pos h1 hz (p:=q1.ups (pl cr.flatten++q1.up)) ⟨P.rm,lr1.mv (λJ h=>h) (λJ h J=>lg (.inr h)) .rfl,a1⟩ (Q:=λxs ys Kw=>C.Y.K.In Kw.heap/\wpAny C.M K.A (call (.ref (C.Y.JW 0)) (.ref xr::xs) ((aH (C.Y.pn (dd+1)) z.1.2).zip ys)) Q K.X Kw) λxs ys q2 t2 a2 rx ry=>⟨a2.K H.O,wpAny_call (fin xs ys q2 t2 a2 rx ry)⟩
 rw[zU hz (List.isEmpty_iff.mp o2)]at key
 exact key
end
section
open PySem.SeqAt
theorem K7.f{z:Addr×Obj}{u w:cW}(h:K7 ((false,z)::u) w):∃w',w=(false,z)::w'/\K7 u w':=by
 cases h with
 | @cons _ y _ w' r c=>
  obtain⟨y0,y1,y2⟩:=y
  obtain⟨z1,z2⟩:=z
  cases (show y0=false from r.b)
  cases (show y1=z1 from r.a)
  cases r.o.elim id λh'=>nomatch h'.1
  exact⟨w',S9 _,c⟩
theorem K7.t{o:Obj}{u w:cW}(h:K7 ((true,z,o)::u) w):∃o' w',w=(true,z,o')::w'/\Nt (true,z,o) (true,z,o')/\K7 u w':=by
 cases h with
 | @cons _ y _ w' r c=>
  obtain⟨y0,y1,y2⟩:=y
  cases (show y0=true from r.b)
  cases (show y1=z from r.a)
  exact⟨y2,w',S9 _,r,c⟩
theorem sd{it:St->Nat->Option (Option V)}{b:Nat->V->St->Option (V×St)}{f:Nat}:∀{i:Nat}{st:St}{acc:List V}{r:List V×St},da it b f i st acc=some r->acc.length<=r.1.length/\r.1.length<=JL:=by
 induction f with
 | zero=>exact λh=>nomatch h
 | succ f ih=>
  intro i st acc r h
  refine Jx h λo ho h=>?_
  cases o with
  | none=>exact KN h λhg e=>by subst e;exact⟨mf _,kj hg⟩
  | some x=>
   refine Jx h λq hq h=>Jx h λJ J h=>?_
   have:=ih h
   rw[ku]at this
   exact⟨ke (lu _ _) this.1,this.2⟩
noncomputable abbrev Cf.inner(C:Cf)(sl:List Zs)(sc:Scope)(L:Addr)(cl:List (Zs×Addr)):Cf:={ C with sl:=sl,sc:=sc,L:=L,fa:=none,cells:=cl,top:=false}
section
variable{K:Bk}{m:Zs->Option Value}{p:Pt}{v:V}{x:Value}{e:Expr}{tk:Tok}{b:E}{X:Value->Shared->Prop}
theorem At.pu{u:cW}(a:At C m st p)(h:(p.up.map (·.2)).Perm (u.map (·.2))):At C m st (p.ups u):=⟨a.inv.perm (mid:=[]) ((h.append_left _).append_left _),a.rep⟩
abbrev Ni(C:Cf)(p:Pt)(L:Addr):Prop:=
 (∀z∈p.ad.led++(p.φ++p.ul),z.1≠L)/\
 L≠C.L/\
 C.hB.get? L=none
section
variable{p:Pt}(zz:Ni C p L)
def Ni.led:=zz.1
def Ni.fr:=zz.2.1
def Ni.no:=zz.2.2
end
theorem At.but(a:At C m st p)(w:Ni C p L)(hs:Heap.SameBut L p.s.heap h'):At C m st (p.mv h' tk p.ad p.φ):=
 ⟨⟨a.inv.fr.change hs w.fr w.no,λz hz=>⟨(hs.2 _ (w.led z hz)).trans (a.inv.nw z hz).1,(a.inv.nw z hz).2⟩,a.inv.nd,a.inv.lo⟩,a.rep⟩
theorem At.L9{o:Obj}(a:At C m st (p.wi (z,o)))(k:Upd z o o' (p.ad.led++(p.φ++(z,o)::p.ul)) (p.ad.led++(p.φ++(z,o')::p.ul))->(∀h tk,Fr C.hB C.L h m->News C.hB C.L h (p.ad.led++(p.φ++(z,o')::p.ul))->At C m st ((p.mv h tk p.ad p.φ).wi (z,o')))->G):G:=by
 have e:∀o,p.ad.led++(p.φ++(z,o)::p.ul)=(p.ad.led++p.φ)++(z,o)::p.ul:=λo=>(lq _ _ _).symm
 have nd:((p.ad.led++(p.φ++(z,o)::p.ul)).map (·.1)).Nodup:=a.inv.nd
 have lo:∀w∈p.ad.led++(p.φ++(z,o)::p.ul),C.hB.objs.size<=w.1:=a.inv.lo
 rw[e]at nd lo
 have RZ:=Upd.at (o':=o') _ nd
 rw[<- e,<- e]at RZ
 refine k RZ λh tk F N=>⟨⟨F,N,?_,λw hw=>?_⟩,a.rep⟩
 ·show((p.ad.led++(p.φ++(z,o')::p.ul)).map (·.1)).Nodup
  (rewrite[e];refine(R5)▸?_;refine(Sh)▸?_);rw[R5,Sh]at nd;exact nd
 ·have hw:w∈p.ad.led++(p.φ++(z,o')::p.ul):=hw
  rw[e]at hw
  exact(mx hw).elim (λh=>lo w (lg (.inl h))) λh=>(kl h).elim (λe=>by subst e;exact lo (z,o) (lg (.inr (.head _)))) λh=>lo w (lg (.inr (.tail _ h)))
noncomputable abbrev Pt.c3(q:Pt)(a b:Addr×Obj)(cs:Led):Pt:=q.ups ((true,a)::(false,b)::(pl cs++q.up))
noncomputable abbrev Pt.ws(q:Pt)(cs:Led):Pt:=q.ups (pl cs++q.up)
theorem To.c3{p:Pt}{oL:Obj}{b:Addr×Obj}{cs:Led}{G:Pt->Prop}(t:To (p.c3 (L,oL) b cs) q)(k:∀QE q',To p q'->Nt (true,L,oL) (true,L,QE)->G (q'.c3 (L,QE) b cs)):G q:=by
 obtain⟨s4,ad4,φ4,u4⟩:=q
 obtain⟨oL4,u5,e,sl4,up5⟩:=K7.t (u:=(false,b)::(pl cs++p.up)) (w:=u4) t.up
 subst e
 obtain⟨u6,e,up6⟩:=K7.f up5
 subst e
 obtain⟨u7,e,up7⟩:=K7.app up6
 subst e
 exact k oL4 ⟨s4,ad4,φ4,u7⟩ ⟨t.sub,t.am,up7,t.sh⟩ sl4
theorem To.c2{p:Pt}{oL:Obj}{b:Addr×Obj}{G:Pt->Prop}(t:To (p.ups ((true,L,oL)::(false,b)::p.up)) q)(k:∀QE q',To p q'->Nt (true,L,oL) (true,L,QE)->G (q'.ups ((true,L,QE)::(false,b)::q'.up))):G q:=by
 obtain⟨s4,ad4,φ4,u4⟩:=q
 obtain⟨oL4,u5,e,sl4,up5⟩:=K7.t (u:=(false,b)::p.up) (w:=u4) t.up
 subst e
 obtain⟨u6,e,up6⟩:=K7.f up5
 subst e
 exact k oL4 ⟨s4,ad4,φ4,u6⟩ ⟨t.sub,t.am,up6,t.sh⟩ sl4
theorem Pre.pu{u:cW}(P:Pre C K st p)(h:p.up.Perm u):Pre C K st (p.ups u):=⟨P.rm,P.lr.mv (λJ h=>h) (λJ hz J=>h.mem_iff.mp hz) .rfl,P.at'.pu (h.map _)⟩
theorem qO{x y:Bool×Addr×Obj}{l u:cW}:(x::y::(l++u)).Perm (l++x::y::u):=(List.perm_middle.trans (List.perm_middle.cons _)).symm
inductive CI(C D:Cf)(K:Bk)(p:Pt)(oL:Obj)(z:Addr)(IT:Nat->Led->Prop)(n:Nat)(cp:List V)(r:List V×St)(g:Nat->St->List V->Option (List V×St)):Shared->Prop
 | mk {tv m st q j cs QE acc ys kk:_}:To p q->Nt (true,C.L,oL) (true,C.L,QE)->Pre D (K.at (tv++cp) m) st (q.c3 (C.L,QE) (z,aS ys kk) cs)->tv.length=n->IT j cs->g j st acc=some r->Jp (C.V q) acc ys->CI C D K p oL z IT n cp r g q.s
theorem wX{n:Nat}{D:Addr}{s:Shared}{news:Led}(F:Fr hB L s.heap m)(N:News hB L s.heap news)(RZ:Upd D (aS xs n) (aS (xs++[y]) (n+1)) news QG)(hz:xs.length<=sizeLine)(h:∀h',Fr hB L h' m->News hB L h' QG->Q .none { s with heap:=h'}) :
  wpAny C.M A (call (.builtin "list.append") [.ref D,y]) Q X s:=append_K (its:=xs.toArray) F N (by rw[lO];exact RZ) h hz
abbrev oX(C:Cf)(K:Bk)(p:Pt)(D:Addr->Cf)(it:Addr)(Qy:Expr)(IT:Nat->Led->Prop)(n:Nat)(en:Bool)(cp:List V)(go:St->Nat->Option (Option V)):Prop:=
 ∀{L:Addr}{X:Value->Shared->Prop}{QN QS:Shared->Prop}{q:Pt}{tv:List V}{m:Zs->Option Value}{st:St}{cs:Led}{j:Nat}{w:Option V},(∀v y,C.V p v y->C.V q v y)->Pre (D L) (K.at (tv++cp) m) st (q.ws cs)->tv.length=n->IT j cs->go st j=some w->
   (w=none->∀h',At (D L) m st (q.mv h' q.s.toks q.ad q.φ)->QN { q.s with heap:=h'})->
   (∀u,w=some u->∀m' q' PG,To q q'->Pre (D L) (K.at (fm en j u cp) m') st (q'.ws PG)->IT (j+1) PG->QS q'.s)->
   wpAny C.M K.A (pyNext (.ref it)) (λr JV=>match r with
    | none=>QN JV
    | some v=>wpAny C.M K.A (letOwnedTupleGo Qy (.ref it) v) (λJ s₀=>wpAny C.M K.A (assign Qy (D L).env v) (λJ=>QS) X s₀) X JV) X q.s
theorem tM(en:Bool)(j:Nat)(u:V)(cp:List V):∃tv,fm en j u cp=tv++cp/\tv.length=en.toNat+1:=by
 cases en
 ·exact⟨[u],rfl,rfl⟩
 ·exact⟨[.b (.int j),u],rfl,rfl⟩
set_option tactic.hygienic true in
theorem jE(H:Ok C){sl:List Zs}{Kz:Scope}{Qy iter:Expr}(hb:∀L,JB (C.inner sl sc L cl) b)(hk:J9 C.Y sc b sl [] e0=true)(hn0:∀w∈Kz.names,w.2≠.cell)(hk0:Kz.kind=.function)
  {it:Addr}  {IT:Nat->Led->Prop} {go:St->Nat->Option (Option V)} {wf:Nat} {r:List V×St} (rm:K8 K.A C.n) (a1:At C K.m st (p.ws Q3)) (Mt:IT 0 Q3)
  (lr0:∀L m,LR (C.inner sl sc L cl) p (List.replicate (en.toNat+1) .uu++cp) m)
  (step:oX C K p (λL=>C.inner sl sc L cl) it Qy IT (en.toNat+1) en cp go)
  (self:∀{X Q:Value->Shared->Prop}{s:Shared},(∀z∈Q3,s.heap.get? z.1=some z.2)->Q (.ref it) s->wpAny C.M K.A (pyIter (.ref it)) Q X s)
  (hv:da go (λi x st=>Jq C.c b (fm en i x cp) st) wf 0 st []=some r) {RR:Value->Env->Result->Shared->Prop}
  (post:∀(ce:Env) z m₂ q ys kk,To p q->At C K.m r.2 (q.wi (z,aS ys kk))->Ni C (q.wi (z,aS ys kk)) ce.locals->q.s.heap.Ns ce.locals m₂->Jp (C.V q) r.1 ys->r.1.length<=JL->RR (.ref z) ce (.ok .next) q.s) :
  wpAny C.M K.A (newList []) (λacc s₃=>wpAny C.M K.A (newFunctionEnv Kz C.env.globals cl [] C.env.qual none .none (some C.env)) (λcenv Rf=>
   codeAny C.M K.A (.compStart (.ListComp (JK C.Y b sl [] e0) [⟨Qy,iter,[],0⟩] Kz pos) 0 (.ref it) acc { cenv with scope:=sc}) (RR acc cenv) Rf) K.X s₃) K.X p.s:=by
 refine newList_N a1.inv.fr a1.inv.nw (λh2 F2 N2=>?_) (mj _)
 have a2:At C K.m st ((p.mv h2 p.s.toks p.ad p.φ).ups ((false,p.s.heap.objs.size,aS [] 0)::(pl Q3++p.up))):=⟨a1.inv.one (mf _) F2 N2 ax,a1.rep⟩
 dsimp only
 generalize p.s.heap.objs.size=z at*
 refine wpAny_newFunctionEnv hn0 (λw hw=>(mo hw).elim) (λh3 hns NQ=>?_) hk0
 dsimp only at hns NQ ⊢
 have KC:∀b o,h2.get? b=some o->h3.get? b=some o:=λb o e=>NQ.extBut b o (SH (Heap.lt_size e)) (Heap.get?_push_of_some _ e)
 refine LA λhG=>?_
 obtain⟨oL,es,ep,hL,hd,hr⟩:=a2.inv.fr.ns
 refine hG ?_
 clear hG
 have noL:C.hB.get? C.L=none:=Heap.get?_none_of_le a2.inv.fr.above
 have hCb:C.hB.objs.size<=h2.objs.size:=a2.inv.above
 have a3:At (C.inner sl sc h2.objs.size cl) _ st ((p.mv h3 p.s.toks p.ad p.φ).c3 (C.L,oL) (z,aS [] 0) Q3):=⟨⟨⟨hns,λb o e=>KC _ _ (a2.inv.fr.keep b o e),hCb⟩,λw hw=>?_,dN.nodup_iff.mpr (List.nodup_cons.mpr ⟨λOi=>(List.mem_map.mp Oi).elim λw h=>(a2.inv.nw w h.1).2.1 h.2,a2.inv.nd⟩),λw hw=>?_⟩,a1.rep⟩
 rotate_left
 ·refine(kl (ax.mem_iff.mp hw)).elim (λe=>by subst e;exact⟨KC _ _ hL,SH (Heap.lt_size hL),noL⟩) λhw=>?_
  have h:=a2.inv.nw w hw
  exact⟨KC _ _ h.1,SH (Heap.lt_size h.1),h.2.2⟩
 ·exact(kl (ax.mem_iff.mp hw)).elim (λe=>by subst e;exact a2.inv.fr.above) (a2.inv.lo w)
 generalize h2.objs.size=L at*
 have hC0:C.hB.get? L=none:=Heap.get?_none_of_le hCb
 generalize hce:newEnv Kz L C.env.globals cl C.env.qual none .none (some C.env) builtinsNs=ce
 have hcl:ce.locals=L:=by (refine(hce)▸?_);rfl
 have noc:∀{o:Obj},o.data=.dict es ep->∀v,o.data≠.cell v:=λh v e=>nomatch h.symm.trans e
 have loop:codeAny C.M K.A (.compLoop (.ListComp (JK C.Y b sl [] e0) [⟨Qy,iter,[],0⟩] Kz pos) 0 (.ref it) (.ref z) (C.inner sl sc L cl).env) (RR (.ref z) ce) { p.s with heap:=h3}:=by
  refine kcp_loop (λf=>CI C (C.inner sl sc L cl) K p oL z IT (en.toNat+1) cp r (λj st acc=>da go (λi x st=>Jq C.c b (fm en i x cp) st) f j st acc)) (λf s' hI=>?_) wf (.mk (q:=p.mv h3 p.s.toks p.ad p.φ) (tv:=List.replicate (en.toNat+1) .uu) .h ⟨rfl,rfl,.inl U⟩ ⟨λJ=>rm,(lr0 L _).mv (λJ h=>h) (λJ h J=>.tail _ (.tail _ (lg (.inr h)))) .rfl,a3⟩ S1 Mt hv .nil)
  refine LA λhG=>?_
  obtain⟨t1,sl1,P1,hlen1,hst1,PB,Mc⟩:=hI
  refine hG ?_
  clear hG
  rename_i tv1 m1 MZ q1 j1 cs1 oL1 acc1 ys kk
  cases f with
  | zero=>exact nS PB
  | succ f=>
  refine Jx PB λu hu PB=>?_
  have P1':Pre (C.inner sl sc L cl) (K.at (tv1++cp) m1) MZ ((q1.ups ((true,C.L,oL1)::(false,z,aS ys kk)::q1.up)).ws cs1):=P1.pu qO
  refine wpAny_mono (step (q:=q1.ups ((true,C.L,oL1)::(false,z,aS ys kk)::q1.up)) (QN:=RR (.ref z) ce (.ok .next)) (QS:=λKw=>wpAny C.M K.A (eval (JK C.Y b sl [] e0) (C.inner sl sc L cl).env) (λx Rf=>wpAny C.M K.A (call (.builtin "list.append") [.ref z,x]) (λ_ s₅=>∃m,m < f+1/\CI C (C.inner sl sc L cl) K p oL z IT (en.toNat+1) cp r (λj st acc=>da go (λi x st=>Jq C.c b (fm en i x cp) st) m j st acc) s₅) (notedBy C.M K.A (C.inner sl sc L cl).env λe s'=>RR (.ref z) ce (.error e) s') Rf) (notedBy C.M K.A (C.inner sl sc L cl).env λe s'=>RR (.ref z) ce (.error e) s') Kw) (λv y r=>t1.vr r) P1' hlen1 hst1 hu (λe1 KR RY=>?_) λu' e1 m3 q' PG tt P3 MM=>?_) (λr JV h=>by cases r with | none=>exact h | some v=>exact h) λ_ _ e=>e
  ·subst e1
   refine KN PB λhg e2=>?_
   subst e2
   have B:=At.back (C:=C) (D:=C.inner sl sc L cl) (m:=K.m) U hd hr a2.inv.fr.above RY (u:=(false,z,aS ys kk)::q1.up) (.cons sl1 K7.rfl)
   refine post ce z m1 (q1.mv KR q1.s.toks q1.ad q1.φ) ys kk (t1.trans .h) B.2 (hcl▸⟨λw hw=>(RY.inv.nw w ?_).2.1,?_,hC0⟩) (hcl▸RY.inv.fr.ns) Mc (kj hg)
   ·exact ax.mem_iff.mpr (.tail _ hw)
   ·exact Ne.symm (RY.inv.nw (C.L,oL1) (ax.mem_iff.mpr (.head _))).2.1
  ·subst e1
   refine Jx PB λw hw PB=>Jx PB λJ J PB=>?_
   refine To.c2 (G:=λq'=>Pre (C.inner sl sc L cl) (K.at (fm en j1 u' cp) m3) MZ (q'.ws PG)->wpAny _ _ _ _ _ q'.s) tt (λoL3 q3 t3 sl3 P3=>?_) P3
   have P4:Pre (C.inner sl sc L cl) (K.at (fm en j1 u' cp) m3) MZ (q3.c3 (C.L,oL3) (z,aS ys kk) PG):=P3.pu qO.symm
   refine(hb L).x (p:=q3.c3 (C.L,oL3) (z,aS ys kk) PG) hk hw P4.rm P4.lr P4.at' λyv q4 t4 a4 rv=>?_
   refine To.c3 (G:=λq4=>At (C.inner sl sc L cl) m3 w.2 q4->(C.inner sl sc L cl).V q4 w.1 yv->LR (C.inner sl sc L cl) q4 (fm en j1 u' cp) m3->wpAny _ _ _ _ _ q4.s) t4 (λoL4 q5 t8 sl4 a4 rv lr4=>?_) a4 rv (P4.lr.to t4)
   have t7:To q1 q5:=t3.trans t8
   have a5:At (C.inner sl sc L cl) m3 w.2 ((q5.ups ((true,C.L,oL4)::(pl PG++q5.up))).wi (z,aS ys kk)):=a4.pu (List.Perm.swap _ _ _)
   have hal:=sd PB
   rw[ku]at hal
   have hys:ys.length+1<=JL:=Mc.length▸ke hal.1 hal.2
   refine a5.L9 (o':=aS (ys++[yv]) (kk+1)) λRZ go=>?_
   refine wX a5.inv.fr a5.inv.nw RZ (cG (mq hys)) λh₅ F' N'=>?_
   obtain⟨tv5,e5,l5⟩:=tM en j1 u' cp
   refine⟨f,So f,.mk (q:=q5.mv h₅ q5.s.toks q5.ad q5.φ) (tv:=tv5) (m:=m3) (t1.trans (t7.trans .h)) (sl1.trans (sl3.trans sl4)) ⟨P4.rm,?_,(go h₅ q5.s.toks F' N').pu (List.Perm.swap _ _ _)⟩ l5 MM PB ((t7.all Mc).snoc rv)⟩
   rw[e5]at lr4
   refine lr4.mv (λJ h=>h) (λx hx hc=>?_) .rfl
   rcases kl hx with e | hx
   ·rw[e];exact .head _
   ·rcases kl hx with e | hx
    ·rw[e]at hc;exact hc.elim λv e=>nomatch e
    ·exact .tail _ (.tail _ hx)
 subst hce
 refine codeAny_compStart_list loop (self (λx hx=>(a3.inv.nw x ?_).1) loop)
 refine ax.mem_iff.mpr (.tail _ (lg (.inr (lg (.inr (.tail _ ?_))))))
 exact(iq Q3 p.up).symm▸lg (.inl hx)
theorem m6(a:At C m st (p.wi (z,aS ys kk)))(Mc:Jp (C.V p) acc ys)(hl:acc.length<=JL)
  (k:To p (p.mv p.s.heap tk (p.ad.add [(z,aS ys kk)]) p.φ)->At C m (alloc st (.lst acc)).2 (p.mv p.s.heap tk (p.ad.add [(z,aS ys kk)]) p.φ)->C.V (p.mv p.s.heap tk (p.ad.add [(z,aS ys kk)]) p.φ) (alloc st (.lst acc)).1 (.ref z)->G):G:=by
 have I:Inv C.hB C.L m p.s.heap (p.ad.add [(z,aS ys kk)]) (p.φ++p.ul):=a.inv.perm (mid:=[]) (ax.trans (Ad.LB (c:=[(z,aS ys kk)])).symm)
 have ml:=Ad.MR (ad:=p.ad) (c:=[(z,aS ys kk)])
 refine k (.mv (λJ h=>h) ml) ⟨I,(a.rep.cur.mono λJ J q=>q.mono (λJ h=>h) ml).snoc (.lst (Mc.mono λJ J q=>q.mono (λJ h=>h) ml) hl),a.rep.JR⟩ (lF.mk ?_)
 show((p.ad.cur++[_]).map adr)[st.cur.length]?=_
 (refine(a.rep.cur.length)▸?_;refine(R5)▸?_;refine(R4 (lw (lf _)))▸?_;rewrite[lf];rw[Sl]);rfl
noncomputable def nl(cs:List (Zs×Addr)):List (Zs×NameKind)->List (Zs×Addr)->List (Zs×Addr)
 | [],acc=>acc
 | (n,k)::r,acc=>if k==.free then nl cs r ((n,(cs.lookup n).getD 0)::acc) else nl cs r acc
theorem iV{env:Env}{f:Zs×NameKind->List (Zs×Addr)->Sem (ForInStep (List (Zs×Addr)))}(hf:∀n k cs,f (n,k) cs=if k==.free then(do let a <- cellOf env n;pure (.yield ((n,a)::cs))) else pure (.yield cs)) :
  ∀(l:List (Zs×NameKind))(acc:List (Zs×Addr)),(∀y∈l,y.2=.free->∃a,env.cells.lookup y.1=some a)->(forIn l acc f:Sem _)=pure (nl env.cells l acc)
 | [],acc,_=>by rw[List.forIn_nil];rfl
 | (n,k)::r,acc,h=>by
  rw[List.forIn_cons,hf]
  unfold nl
  by_cases hk:(k==NameKind.free)=true
  ·obtain⟨a,ha⟩:=h (n,k) (.head _) (ld hk)
   have hc:cellOf env n=pure a:=by unfold cellOf;rw[show env.cells.lookup n=some a from ha]
   rw[if_pos hk,if_pos hk,hc,pure_bind,pure_bind,show env.cells.lookup n=some a from ha]
   exact iV hf r _ λy hy=>h y (.tail _ hy)
  ·rw[if_neg hk,if_neg hk,pure_bind]
   exact iV hf r _ λy hy=>h y (.tail _ hy)
theorem ni(h:∀y∈sc.names,y.2=.free->∃a,env.cells.lookup y.1=some a):closureFor sc env=pure (nl env.cells sc.names []):=by
 show(forIn sc.names [] _ >>= λcs=>pure cs)=_
 rw[iV (env:=env) (λn k cs=>?_) _ _ h,pure_bind]
 cases hk:k==NameKind.free <;> simp[hk]
theorem gB{cs:List (Zs×Addr)}{x:Zs}{a:Addr}(hx:cs.lookup x=some a):∀(l:List (Zs×NameKind))(acc:List (Zs×Addr)),(∀y∈acc,cs.lookup y.1=some y.2)->(∀y∈l,y.2=.free->∃a,cs.lookup y.1=some a)->(x∈acc.map (·.1)∨(x,.free)∈l)->(nl cs l acc).lookup x=some a
 | [],acc,h1,_,h=>by
  show acc.lookup x=some a
  cases hl:acc.lookup x with
  | some b=>rw[<- hx,h1 _ (mem_of_lookup hl)]
  | none=>
   obtain⟨y,hy,e⟩:=List.mem_map.mp (h.resolve_right (λh=>nomatch h))
   have:=(List.lookup_eq_none_iff.mp hl) y hy
   rw[e]at this
   exact J4 ((bne_self_eq_false x).symm.trans this)
 | (n,k)::r,acc,h1,h2,h=>by
  unfold nl
  by_cases hk:(k==NameKind.free)=true
  ·rw[if_pos hk]
   obtain⟨b,hb⟩:=h2 (n,k) (.head _) (ld hk)
   refine gB hx r _ (λy hy=>(kl hy).elim (λe=>by rw[e,show cs.lookup n=some b from hb];rfl) (h1 y)) (λy hy=>h2 y (.tail _ hy)) (h.elim (λh=>.inl (.tail _ h)) λh=>(kl h).elim (λe=>.inl (by rw[(Ti e).1];exact .head _)) .inr)
  ·rw[if_neg hk]
   refine gB hx r _ h1 (λy hy=>h2 y (.tail _ hy)) (h.elim .inl λh=>(kl h).elim (λe=>(hk (by rw[<- (Ti e).2];rfl)).elim) .inr)
end
theorem A2{l:List (Zs×NameKind)}{x:Zs}{P:Prop}(h:l.lookup x=some .local)(k:l.lookup x=some .cell):P:=J4 (kg (λz:Option NameKind=>z==some .cell) (h.symm.trans k))
structure CF(Kz sc:Scope)(ts cs:List Zs):Prop where
 nc:∀y∈sc.names,y.2≠.cell
 fr:∀y∈sc.names,y.2=.free->Kz.names.lookup y.1=some .cell/\y.1∈cs
 lo:∀y∈sc.names,y.2=.local->sc.names.lookup y.1=some .local
 kd:sc.kind=.function
 nd:(ts++cs).Nodup
 tl:∀x∈ts,(Oz sc).names.lookup x=some .local/\(x==("__debug__" : Zs))=false
 cl:∀x∈cs,(Oz sc).names.lookup x=some .cell/\(x==("__debug__" : Zs))=false
theorem uM{Kz:Scope}{cs:List Zs}(PA:EQ Kz sc ts cs=true):CF Kz sc ts cs:=aEl PA λh1 h2=>aEl h2 λh2 h3=>aEl h3 λh3 h4=>aEl h4 λh4 h5=>
 ⟨λy hy=>aEl (ma h1 y hy) λh J e=>(by rw[e]at h;exact J4 h),
  λy hy e=>aEl (ma h1 y hy) λJ h=>aEl h λh J=>(my h).elim (λh=>(by rw[e]at h;exact J4 h)) λh=>aEl h λh h'=>⟨ld h,List.contains_iff_mem.mp h'⟩,
  λy hy e=>aEl (ma h1 y hy) λJ h=>aEl h λJ h=>(my h).elim (λh=>(by rw[e]at h;exact J4 h)) ld,
  ld h2,kj h3,λx hx=>aEl (ma h4 x hx) λa b=>⟨ld a,lm b⟩,λx hx=>aEl (ma h5 x hx) λa b=>⟨ld a,lm b⟩⟩
theorem CF.lc{Kz:Scope}{cs:List Zs}(h:CF Kz sc ts cs):∀x∈ts++cs,((Oz sc).names.lookup x=some .local∨(Oz sc).names.lookup x=some .cell)/\(x==("__debug__" : Zs))=false:=λx hx=>(mx hx).elim (λhx=>⟨.inl (h.tl x hx).1,(h.tl x hx).2⟩) λhx=>⟨.inr (h.cl x hx).1,(h.cl x hx).2⟩
theorem CF.free{Kz:Scope}{cs:List Zs}(h:CF Kz sc ts cs){x:Zs}(hx:x∈cs):(x,.free)∈sc.names:=by
 obtain⟨y,hy,e⟩:=List.mem_map.mp (mem_of_lookup (h.cl x hx).1)
 by_cases hk:(y.2==NameKind.free)=true
 ·rw[if_pos hk]at e
  rw[<- (Ti e).1,<- ld hk];exact hy
 ·rw[if_neg hk]at e
  exact absurd (by rw[e]) (h.nc y hy)
theorem iW{l:List V}:∀{cs:List Nat}{cp:List V},oN l cs=some cp->Jp (λk v=>l[k]?=some v/\v≠.uu) cs cp
 | [],cp,h=>by obtain rfl:=kc h;exact .nil
 | k::cs,cp,h=>Jx h λv hv h=>Jx h λJ hu h=>Kc h λq hq e=>by
  subst e
  exact .cons ⟨hv,λe=>by subst e;exact KN hu λh J=>J4 h⟩ (iW hq)
section
variable{K:Bk}{m:Zs->Option Value}{p:Pt}{v:V}{x:Value}{e:Expr}{tk:Tok}{b:E}{X:Value->Shared->Prop}{cs:List Nat}
theorem nn(h:CF C.sc sc ts (fZ C.sl cs))(r:LR C p l m)(hc:oN l cs=some cp)(hk:k∈cs):∃v x,l[k]?=some v/\C.V p v x/\CeL C p (C.sl.getD k "") x:=by
 obtain⟨v,_,h1,h2⟩:=(iW hc).Rp hk
 obtain⟨n,x,h3,h4,h5⟩:=r.1 k v h1 h2
 have e:C.sl.getD k "" = n:=dJ h3
 have hm:n∈fZ C.sl cs:=e▸SM hk
 refine⟨v,x,h1,h5,e▸?_⟩
 rcases h4 with h4 | h4
 ·exact A2 h4.1 (h.fr _ (h.free hm) U).1
 ·exact h4.2
theorem qN(h:CF C.sc sc ts (fZ C.sl cs))(r:LR C p l m)(hc:oN l cs=some cp):∀y∈sc.names,y.2=.free->∃a,C.env.cells.lookup y.1=some a:=λy hy e=>by
 obtain⟨k,hk,ek⟩:=List.mem_map.mp (h.fr y hy e).2
 obtain⟨_,_,_,_,ca,_,h1,_⟩:=nn h r hc hk
 exact⟨ca,ek▸h1⟩
theorem mH(h:CF C.sc sc ts (fZ C.sl cs))(r:LR C p l m)(hc:oN l cs=some cp)(L:Addr)(m':Zs->Option Value):LR (C.inner (ts++fZ C.sl cs) (Oz sc) L (nl C.cells sc.names [])) p (List.replicate ts.length .uu++cp) m':=by
 have key:∀i v,(List.replicate ts.length V.uu++cp)[i]?=some v->ts.length<=i->∃k,k∈cs/\(ts++fZ C.sl cs)[i]?=some (C.sl.getD k "")/\l[k]?=some v/\v≠.uu:=λi v hi hle=>by
  rw[R4 (by rw[S1];exact hle),S1]at hi
  obtain⟨k,hk,h1,h2⟩:=(iW hc).get' hi
  refine⟨k,lx hk,?_,h1,h2⟩
  rw[R4 hle]
  exact dg _ hk
 refine⟨λi v hi hv=>?_,λi n hi hn hcell=>?_⟩
 ·by_cases KH:i < ts.length
  ·rw[Sa (by rw[S1];exact KH),List.getElem?_replicate,if_pos KH]at hi
   exact absurd (kc hi).symm hv
  ·obtain⟨k,hk,h1,h2,_⟩:=key i v hi (Nat.not_lt.mp KH)
   obtain⟨v',x,h3,h4,ca,oc,h5,h6,h7⟩:=nn h r hc hk
   obtain rfl:=kc (h2.symm.trans h3)
   have hm:C.sl.getD k "" ∈ fZ C.sl cs:=SM hk
   exact⟨_,x,h1,.inr ⟨(h.cl _ hm).1,ca,oc,gB h5 _ _ (λ_ h=>nomatch h) (qN h r hc) (.inr (h.free hm)),h6,h7⟩,h4⟩
 ·by_cases KH:i < ts.length
  ·have hn:(ts++fZ C.sl cs)[i]?=some n:=hn
   rw[Sa KH]at hn
   exact A2 (h.tl n (lx hn)).1 hcell
  ·obtain⟨_,_,_,_,h4⟩:=key i _ hi (Nat.not_lt.mp KH)
   exact absurd U h4
theorem Ok.inner(H:Ok C){sl:List Zs}(L:Addr)(cl:List (Zs×Addr))(hk:sc.kind=.function)(nd:sl.Nodup)(lc:∀x∈sl,(sc.names.lookup x=some .local∨sc.names.lookup x=some .cell)/\(x==("__debug__" : Zs))=false):Ok (C.inner sl sc L cl):=⟨H.O,H.K,hk,nd,lc,λh=>nomatch h⟩
theorem tV(H:Ok C){it:Addr}(hk:sc.kind=.function)(nd:(tn::cn).Nodup)(lc:∀x∈tn::cn,(sc.names.lookup x=some .local∨sc.names.lookup x=some .cell)/\(x==("__debug__" : Zs))=false)(hl:sc.names.lookup tn=some .local)(rm:K8 K.A C.n)(ry:C.V p v y) :
  oX C K p (λL=>C.inner (tn::cn) sc L cl) it (nE tn e1) (λj cs=>∃o,cs=[(it,o)]/\Qp y j o) 1 false cp (itemAt v):=by
 rintro L X QN QS q tv m st cs j w sub P hlen ⟨o,rfl,hI⟩ hw h0 h1
 have H':=H.inner L cl hk nd lc
 have a':At (C.inner (tn::cn) sc L cl) m st (q.wi (it,o)):=P.at'
 refine jw (C:=C.inner (tn::cn) sc L cl) rm.h a' (sub _ _ ry) hI hw (λe h' Pa=>h0 e h' ⟨a'.inv.NY Pa,a'.rep⟩) λu e h' y' tk o' NB hI' NQ rx=>?_
 have P2:Pre (C.inner (tn::cn) sc L cl) (K.at (tv++cp) m) st ((q.mv h' tk q.ad q.φ).wi (it,o')):=⟨P.rm,(LR.PR (z:=(it,o)) P.lr (vq _ _ hI)).wi,a'.inv.L9 NQ NB,a'.rep⟩
 refine wpAny_pure (jT (C:=C.inner (tn::cn) sc L cl) (e:=e1) (k:=0) (v:=u) (y:=y') H' (by show(decide (0 < cn.length+1)&&(sc.names.lookup tn==some .local))=true;rw[decide_eq_true (Nat.succ_pos _),hl];rfl) P2 rx λm3 q3 t3 P3=>?_)
 obtain⟨q',rfl,t'⟩:=t3.wi
 obtain⟨t0,rfl⟩:∃t0,tv=[t0]:=by
  match tv,hlen with
  | [t0],_=>exact⟨t0,rfl⟩
 exact h1 u e m3 q' [(it,o')] (To.h.trans t') P3 ⟨o',rfl,hI'⟩
theorem Inv.two{h:Heap}{e i:Addr}{ad:Ad}{oi oe' oi':Obj}(I:Inv hB L m h ad (φ++((e,oe)::(i,oi)::up)))(hn:h'.Ns L m')(h1:h'.get? e=some oe')(h2:h'.get? i=some oi')(hk:∀b o,b≠e->b≠i->b≠L->h.get? b=some o->h'.get? b=some o):Inv hB L m' h' ad (φ++((e,oe')::(i,oi')::up)):=by
 have z1:=I.KP
 have I2:Inv hB L m h ad (φ++((i,oi)::(e,oe)::up)):=I.perm (mid:=[]) (((List.Perm.swap _ _ _).append_left _).append_left _)
 have z2:=I2.KP
 have n1:=I.LM.1
 have n2:=I2.LM.1
 have old:∀z∈ad.led++(φ++up),z.1≠e/\z.1≠i:=λz hz=>⟨λe'=>n1 (mD (ax.mem_iff.mpr (.tail _ hz)) e'),λe'=>n2 (mD (ax.mem_iff.mpr (.tail _ hz)) e')⟩
 have cs:∀z∈ad.led++(φ++((e,oe')::(i,oi')::up)),z=(e,oe')∨z=(i,oi')∨z∈ad.led++(φ++up):=λz hz=>(kl (ax.mem_iff.mp hz)).elim .inl λhz=>(kl (ax.mem_iff.mp hz)).elim (λh=>.inr (.inl h)) λh=>.inr (.inr h)
 have up2:∀z∈ad.led++(φ++up),z∈ad.led++(φ++((e,oe)::(i,oi)::up)):=λz hz=>ax.mem_iff.mpr (.tail _ (ax.mem_iff.mpr (.tail _ hz)))
 have me:(e,oe)∈ad.led++(φ++((e,oe)::(i,oi)::up)):=ax.mem_iff.mpr (.head _)
 have mi:(i,oi)∈ad.led++(φ++((e,oe)::(i,oi)::up)):=ax.mem_iff.mpr (.tail _ (ax.mem_iff.mpr (.head _)))
 refine⟨⟨hn,λb o eb=>hk b o (λh=>nomatch (h▸eb).symm.trans z1.2.2) (λh=>nomatch (h▸eb).symm.trans z2.2.2) (SH (lh (Heap.lt_size eb) I.fr.above)) (I.fr.keep b o eb),I.fr.above⟩,λz hz=>?_,?_,λz hz=>?_⟩
 ·rcases cs z hz with rfl | rfl | hz
  ·exact⟨h1,z1.2⟩
  ·exact⟨h2,z2.2⟩
  ·have q:=I.nw z (up2 z hz)
   exact⟨hk _ _ (old z hz).1 (old z hz).2 q.2.1 q.1,q.2⟩
 ·have nd:=I.nd
  rw[R5,R5,Sh,Sh]at nd ⊢
  exact nd
 ·rcases cs z hz with rfl | rfl | hz
  ·exact I.lo (e,oe) me
  ·exact I.lo (i,oi) mi
  ·exact I.lo z (up2 z hz)
noncomputable def kY(it:Addr)(i:Int)(old:Value):Obj:={ cls:=.type "enumerate",dict:=none,data:=.fields #[.none,.bool false,.ref it,rawInt i,.none,old],slots:=#[]}
theorem tU(H:Ok C){ta tb:Zs}{eA la:Addr}{e2:Expr}(hk:sc.kind=.function)(nd:(ta::tb::cn).Nodup)(h1:sc.names.lookup ta=some .local)(h2:sc.names.lookup tb=some .local)(rm:K8 K.A C.n)(ry:C.V p v (.ref la)){r0:St}{lv:Nat×List V} :
  oX C K p (λL=>C.inner (ta::tb::cn) sc L cl) eA (.Tuple [nE ta e1,nE tb e2] kk tp) (λj cs=>∃it old o,cs=[(eA,kY it j old),(it,o)]/\oY la j o) 2 true cp (itemAt v):=by
 rintro L X QN QS q tv m st cs j w sub P hlen ⟨it,old,o,rfl,hI⟩ hw g0 g1
 have I:Inv C.hB L m q.s.heap q.ad (q.φ++((eA,kY it j old)::(it,o)::q.ul)):=P.at'.inv
 have he:IsEnum q.s.heap eA it j old:=I.KP.1
 have I2:Inv C.hB L m q.s.heap q.ad (q.φ++((it,o)::(eA,kY it j old)::q.ul)):=I.perm (mid:=[]) (((List.Perm.swap _ _ _).append_left _).append_left _)
 have hit:q.s.heap.IsListIter it la j:=⟨o,I2.KP.1,hI⟩
 have LP:eA≠it:=λh=>I.LM.1 (mD (ax.mem_iff.mpr (.head _)) h.symm)
 have r':(C.inner (ta::tb::cn) sc L cl).V (q.ws [(eA,kY it j old),(it,o)]) v (.ref la):=sub _ _ ry
 refine Ml hw (λhw=>Kc hw λt ht hw=>by cases r'.str ht) λhw=>Kc hw λl hl hw=>?_
 subst hw
 revert hit
 generalize hy:Value.ref la=y at r'
 revert hy
 refine P.at'.lst hl r' λc xs n hc hg hx hz hy hit=>?_
 cases hy
 have hp:((C.inner (ta::tb::cn) sc L cl).env.scope.kind==.class||((C.inner (ta::tb::cn) sc L cl).env.scope.kind==.module&&(C.inner (ta::tb::cn) sc L cl).env.locals != (C.inner (ta::tb::cn) sc L cl).env.globals))=false:=by show(sc.kind==.class||(sc.kind==.module&&_))=false;rw[hk];rfl
 cases hzj:l.2[j]? with
 | none=>exact wpAny_pyNext_enum_end rm.h he hit (aD hg) ((Su (xs:=xs)).trans (Si (hx.length▸List.getElem?_eq_none_iff.mp hzj))) λh' Pa=>g0 hzj h' ⟨(I2.NY Pa).Pe,P.at'.rep⟩
 | some u=>
  obtain⟨y,hyj,ryj⟩:=hx.get hzj
  refine wpAny_pyNext_enum_item he hit (aD hg) ((Su (xs:=xs)).trans hyj) LP λh3 he3 hit3 ht3 hz3 hk3=>?_
  refine wpAny_letOwnedTupleGo_enum he3 λh4 he4 hs4=>?_
  have hs4:Heap.SameBut eA h3 h4:=hs4
  have el:=Heap.lt_size he
  have nL:=I.KP.2.1
  have nL2:=I2.KP.2.1
  have Lsz:L < q.s.heap.objs.size:=I.fr.ns.lt
  have ht4:h4.IsTuple q.s.heap.objs.size #[.int j q.s.toks,y]:=⟨_,(hs4.2 _ (SF el)).trans ht3,rfl,_,rfl⟩
  have hn4:h4.Ns L m:=(I.fr.ns.at' λo x=>hk3 _ o nL.symm nL2.symm x).sameBut hs4 nL.symm
  refine kcp_assign rm.h ht4 (show sc.names.lookup ta=some .local from h1) (show sc.names.lookup tb=some .local from h2) hp hn4 λh5 tk5 hn5 hk5=>?_
  obtain⟨oi,hoi,hoiS⟩:=hit3
  have keep:∀b o,b≠eA->b≠it->b≠L->q.s.heap.get? b=some o->h5.get? b=some o:=λb o n1 n2 n3 hb=>hk5 b o n3 ((hs4.2 b n1).trans (hk3 b o n1 n2 hb))
  have ge:h5.get? eA=some (kY it ((j:Int)+1) y):=hk5 _ _ nL he4
  have gi:h5.get? it=some oi:=hk5 _ _ nL2 ((hs4.2 it LP.symm).trans hoi)
  have RY:=I.two hn5 ge gi keep
  obtain⟨t0,t1,rfl⟩:∃t0 t1,tv=[t0,t1]:=by
   match tv,hlen with
   | [t0,t1],_=>exact⟨t0,t1,rfl⟩
  have lr:=P.lr
  refine g1 u hzj _ (q.mv h5 tk5 q.ad q.φ) [(eA,kY it ((j+1:Nat):Int) y),(it,oi)] .h ⟨P.rm,?_,RY,P.at'.rep⟩ ⟨it,y,oi,rfl,hoiS⟩
  have lr':LR (C.inner (ta::tb::cn) sc L cl) ((q.mv h5 tk5 q.ad q.φ).ws [(eA,kY it ((j+1:Nat):Int) y),(it,oi)]) (t0::t1::cp) m:=lr.mv (λJ h=>h) (λx hx hc=>by
   rcases kl hx with e | hx
   ·rw[e]at hc;exact hc.elim λv e=>nomatch e
   ·rcases kl hx with e | hx
    ·rw[e]at hc;exact hc.elim λv e=>nomatch hI.2.symm.trans e
    ·exact .tail _ (.tail _ hx)) .rfl
  have nab:ta≠tb:=λe=>(List.nodup_cons.mp nd).1 (e▸.head _)
  refine⟨λi v hi hv=>?_,λi n hi hn hc=>?_⟩
  ·match i with
   | 0=>obtain rfl:=kc hi;exact⟨ta,_,rfl,.inl ⟨h1,(if_neg nab).trans (if_pos U)⟩,dL.mk _⟩
   | 1=>obtain rfl:=kc hi;exact⟨tb,y,rfl,.inl ⟨h2,if_pos U⟩,ryj⟩
   | i+2=>
    obtain⟨n,z,k1,k2,k3⟩:=lr'.1 (i+2) v hi hv
    refine⟨n,z,k1,k2.imp (λk2=>⟨k2.1,?_⟩) id,k3⟩
    have na:n≠ta:=λe=>absurd (i3 nd k1 (show(ta::tb::cn)[0]?=some ta from rfl) e) (Nat.succ_ne_zero _)
    have nb:n≠tb:=λe=>absurd (Tb (i3 nd k1 (show(ta::tb::cn)[1]?=some tb from rfl) e)) (Nat.succ_ne_zero _)
    exact(if_neg nb).trans ((if_neg na).trans k2.2)
  ·match i with
   | 0=>exact J4 (kg ae (kc (show some (V.b (.int j))=some V.uu from hi)))
   | 1=>
    obtain rfl:=kc hi
    exact(ryj:False).elim
   | i+2=>exact lr'.2 (i+2) n hi hn hc
end
section
variable{K:Bk}{m:Zs->Option Value}{p:Pt}{v:V}{x:Value}{e:Expr}{tk:Tok}{b:E}{X:Value->Shared->Prop}{cs:List Nat}
theorem Inv.add2{h:Heap}{e i:Addr}{ad:Ad}{oi:Obj}(I:Inv hB L m h ad (φ++up))(hk:∀b o,h.get? b=some o->h'.get? b=some o)(h1:h'.get? e=some oe)(h2:h'.get? i=some oi)(he:h.objs.size<=e)(hi:h.objs.size<=i)(LP:e≠i):Inv hB L m h' ad (φ++((e,oe)::(i,oi)::up)):=by
 have lt:∀z∈ad.led++(φ++up),z.1 < h.objs.size:=λz hz=>Heap.lt_size (I.nw z hz).1
 have ge:∀z∈[(e,oe),(i,oi)],h.objs.size<=z.1:=λz hz=>(kl hz).elim (λh=>by rw[h];exact he) λhz=>by rw[km hz];exact hi
 have gt:∀z∈[(e,oe),(i,oi)],h'.get? z.1=some z.2:=λz hz=>(kl hz).elim (λh=>by rw[h];exact h1) λhz=>by rw[km hz];exact h2
 refine I.more (c:=[(e,oe),(i,oi)]) ⟨I.fr.ns.keeps hk,λb o eb=>hk _ _ (I.fr.keep b o eb),I.fr.above⟩ (λz hz=>?_) ?_ (λz hz w hw=>SH (lh (lt w hw) (ge z hz))) (λz hz=>ke I.above (ge z hz)) ?_
 ·rcases mx hz with hz | hz
  ·exact⟨gt z hz,SF (lh I.fr.ns.lt (ge z hz)),Heap.get?_none_of_le (ke I.above (ge z hz))⟩
  ·exact⟨hk _ _ (I.nw z hz).1,(I.nw z hz).2⟩
 ·exact List.nodup_cons.mpr ⟨λh=>LP (km h),List.nodup_cons.mpr ⟨mo,.nil⟩⟩
 ·exact ax.trans (ax.cons _)
theorem n5{cs:List Zs}(H:Ok C)(F:CF C.sc sc ts cs):relabel sc C.env=Oz sc:=kg (λns=>{ sc with names:=ns}) (S6 λy hy=>by
 obtain⟨n,k⟩:=y
 show(if (k==NameKind.free&&C.sc.kind==.function&&C.sc.names.lookup n==some .cell)=true then(n,NameKind.cell) else(n,k))=if (k==NameKind.free)=true then(n,.cell) else(n,k)
 cases hk:k==NameKind.free with
 | false=>rfl
 | true=>rw[H.hk,(F.fr (n,k) hy (ld hk)).1];rfl)
theorem qK(H:Ok C)(hs:C.hs=true)(hi:JB C i)(hb:∀(sl:List Zs) sc L cl,sc.kind=.function->sl.Nodup->(∀x∈sl,(sc.names.lookup x=some .local∨sc.names.lookup x=some .cell)/\(x==("__debug__" : Zs))=false)->JB (C.inner sl sc L cl) b)(hc:J9 C.Y C.sc (.comp en cs i b) C.sl [] e0=true){r:V×St}(hv:Jq C.c (.comp en cs i b) K.l st=some r)(P:Pre C K st p){use:Option (Value->Sem Unit)}
  (post:∀Lc z m₂ q ys kk acc s',To p q->At C K.m s' (q.wi (z,aS ys kk))->Ni C (q.wi (z,aS ys kk)) Lc->q.s.heap.Ns Lc m₂->Jp (C.V q) acc ys->acc.length<=JL->r=alloc s' (.lst acc)->compPost C.M K.A K.X use Q (.ref z) Lc (.ok .next) q.s)  :
  wpAny C.M K.A (comprehension (JK C.Y (.comp en cs i b) C.sl [] e0) (OQ e0) C.env pos (newList []) false (eval (srE en (JK C.Y i C.sl [] (sbC en e0)) e0) C.env) use) Q K.X p.s:=aEl hc λh1 hc=>aEl hc λh2 hc=>aEl hc λhc h5=>aEl hc λh3 h4=>Jx hv λcp PD hv=>Jx hv λw hw hv=>Jx hv λlv hl hv=>Kc hv λz hz e'=>by
 have F:=uM h3
 have hB:=λL cl=>hb (tgN en e0++fZ C.sl cs) (Oz (OQ e0)) L cl F.kd F.nd F.lc
 refine wpAny_comprehension_free (use:=use) U ?_ (ni (qN F P.lr PD)) F.kd F.lo ?_
 ·cases en with
  | true=>exact λJ=>rfl
  | false=>exact uv (aW i h1) _
 rw[n5 H F]
 have fin:∀{q:Pt},To p q->∀(ce:Env)(z':Addr)(m₂:Zs->Option Value)(q2:Pt)(ys:List Value)(kk:Nat),To q q2->At C K.m z.2 (q2.wi (z',aS ys kk))->Ni C (q2.wi (z',aS ys kk)) ce.locals->q2.s.heap.Ns ce.locals m₂->Jp (C.V q2) z.1 ys->z.1.length<=JL->compPost C.M K.A K.X use Q (.ref z') ce.locals (.ok .next) q2.s:=λt ce z' m₂ q2 ys kk t2 a2 aw hn Mc hle=>post ce.locals z' m₂ q2 ys kk z.1 z.2 (t.trans t2) a2 aw hn Mc hle e'.symm
 cases en with
 | false=>
  refine hi _ h1 hw P λy q t a ry=>?_
  obtain⟨la,rfl⟩:∃la,y=.ref la:=a.lst hl ry λla J J J J J J=>⟨la,rfl⟩
  obtain⟨w0,hw0⟩:∃w0,itemAt w.1 w.2 0=some w0:=by
   revert hz
   cases C.c.wf with
   | zero=>exact nofun
   | succ n=>exact λhv=>Jx hv λw hw J=>⟨w,hw⟩
  refine jx a ry hw0 λo hfr Mt=>?_
  refine jE (p:=q.mv (q.s.heap.push o) q.s.toks q.ad q.φ) (en:=false) (sl:=tgN false e0++fZ C.sl cs) (Qy:=tgE false e0) (Q3:=[(q.s.heap.objs.size,o)]) (IT:=λj cs=>∃o,cs=[(q.s.heap.objs.size,o)]/\Qp (.ref la) j o) (go:=itemAt w.1) (RR:=λacc ce=>compPost C.M K.A K.X use Q acc ce.locals) H (λL=>hB L _) h2 F.nc F.kd (P.rm hs) ⟨a.inv.addUp o hfr,a.rep⟩ ⟨o,rfl,Mt⟩ (λL m=>mH (m:=K.m) (l:=K.l) F (P.lr.to (t.trans .h)) PD L m) (tV (sc:=Oz (OQ e0)) H F.kd F.nd F.lc (F.tl _ (.head _)).1 (P.rm hs) ry) (λhg h=>?_) hz (fin (t.trans .h))
  cases Mt with
  | lst e hS=>exact wpAny_pyIter_listiter (l:=_) (i:=0) ⟨o,hg _ (.head _),hS⟩ h
  | str e _=>cases e
 | true=>
  refine gC H h4 (by simp) (id:=.type "enumerate") (by boot_by_name) (by decide) P.at' [_] ?_
  (refine(nz (aW i h1))▸?_)
  refine PySem.callWith_type U (Calls.evalArgs_plain (Calls.spliced_cons (hi _ h1 hw P λy q t a ry=>Calls.spliced_nil ?_)))
  have ry':=ry
  revert ry'
  refine a.lst hl ry λla xs n hcx hg hx hzz ry=>?_
  refine call_enumerate_list (aD hg) λh' he hit hsz hkeep=>wpAny_pyIter_enum he ?_
  obtain⟨oi,hoi,hS⟩:=hit
  refine jE (p:=q.mv h' q.s.toks q.ad q.φ) (en:=true) (sl:=tgN true e0++fZ C.sl cs) (Qy:=tgE true e0) (IT:=λj cs=>∃it old o,cs=[(q.s.heap.objs.size+1,kY it j old),(it,o)]/\oY la j o) (Q3:=[(q.s.heap.objs.size+1,kY q.s.heap.objs.size 0 .none),(q.s.heap.objs.size,oi)]) (go:=itemAt w.1) (RR:=λacc ce=>compPost C.M K.A K.X use Q acc ce.locals) H (λL=>hB L _) h2 F.nc F.kd (P.rm hs) ⟨a.inv.add2 hkeep he hoi (mw _) (mf _) (Nat.succ_ne_self _),a.rep⟩ ⟨_,_,oi,rfl,hS⟩ (λL m=>mH (m:=K.m) (l:=K.l) F (P.lr.to (t.trans .h)) PD L m) (tU (sc:=Oz (OQ e0)) (r0:=st) (lv:=lv) H F.kd F.nd (F.tl _ (.head _)).1 (F.tl _ (.tail _ (.head _))).1 (P.rm hs) ry) (λhg h=>wpAny_pyIter_enum (hg _ (.head _)) h) hz (fin (t.trans .h))
theorem rM(H:Ok C)(hs:C.hs=true)(hi:JB C i)(hb:∀(sl:List Zs) sc L cl,sc.kind=.function->sl.Nodup->(∀x∈sl,(sc.names.lookup x=some .local∨sc.names.lookup x=some .cell)/\(x==("__debug__" : Zs))=false)->JB (C.inner sl sc L cl) b):JB C (.comp en cs i b):=λe0 hc K st p r Q hv P post=>by
 show wpAny C.M K.A (eval (.ListComp _ _ _ _) C.env) Q K.X p.s
 rw[eval_ListComp]
 refine qK H hs hi hb hc hv P (use:=none) λLc z m₂ q ys kk acc s' t a aw hn Mc hle e=>⟨m₂,hn,λOe hs3=>?_⟩
 subst e
 have a3:At C K.m _ ((q.mv Oe q.s.toks q.ad q.φ).wi (z,aS ys kk)):=a.but aw hs3
 exact m6 (p:=q.mv Oe q.s.toks q.ad q.φ) (tk:=q.s.toks) a3 Mc hle λt4 a4 r4=>post _ _ ((t.trans .h).trans t4) a4 r4
theorem rK(H:Ok C)(hs:C.hs=true)(hi:JB C i)(hb:∀(sl:List Zs) sc L cl,sc.kind=.function->sl.Nodup->(∀x∈sl,(sc.names.lookup x=some .local∨sc.names.lookup x=some .cell)/\(x==("__debug__" : Zs))=false)->JB (C.inner sl sc L cl) b):dj C (.Nf k cs i b):=λs0 hc K st p r Q hv P post=>aEl hc λhc hsw=>aEl hsw λhk hsw=>Kc hv λw0 hw0 e'=>by
 subst e'
 obtain⟨n,hx,hg,NC⟩:=uK hk
 have hg':=hg.symm
 subst hg'
 have hswap:swapsWith (JK C.Y (.comp false cs i b) C.sl [] (av 0 s0)) (some (nE (C.sl.getD k "") (av 1 s0))) s0.pos.line C.env=pure true:=by
  show pure (C.env.blockKind==.function&&C.env.kindOf (C.sl.getD k "")==some .local&&(av 1 s0).pos.line==(av 0 s0).pos.line&&!((OQ (av 0 s0)).names.any λy=>y.1==C.sl.getD k "" && (y.2==.local||y.2==.cell)))=pure true
  have e1:C.env.blockKind=.function:=by
   show(if C.sc.kind.isAnnotationScope then ScopeKind.function else C.sc.kind)=.function
   (refine(H.hk).symm▸?_);rfl
  (refine(e1).symm▸?_;rewrite[show C.env.kindOf (C.sl.getD k "")=some .local from NC];rewrite[Bool.and_assoc];rw[show((av 1 s0).pos.line==(av 0 s0).pos.line&&!((OQ (av 0 s0)).names.any λy=>y.1==C.sl.getD k "" && (y.2==.local||y.2==.cell)))=true from hsw]);rfl
 show wpAny C.M K.A (exec (.Assign [.Name (C.sl.getD k "") (av 1 s0).pos] (JK C.Y (.comp false cs i b) C.sl [] (av 0 s0)) s0.pos) C.env) Q K.X p.s
 (refine(exec_Assign_Name_used _ _ _ _ hswap)▸?_)
 refine wpAny_bind (wpAny_standAt (wpAny_bind ?_))
 show wpAny _ K.A (do let _ <- comprehension (JK C.Y (.comp false cs i b) C.sl [] (av 0 s0)) (OQ (av 0 s0)) C.env _ (newList []) false (eval (srE false (JK C.Y i C.sl [] (sbC false (av 0 s0))) (av 0 s0)) C.env) (some (assign (nE (C.sl.getD k "") (av 1 s0)) C.env))) _ _ p.s
 refine wpAny_bind (wpAny_mono (qK H hs hi hb hc hw0 P (use:=some (assign (nE (C.sl.getD k "") (av 1 s0)) C.env)) (Q:=λJ s'=>Q .next s') λLc z m₂ q ys kk acc s' t a aw hn Mc hle e=>?_) (λJ s' hq=>wpAny_pure (wpAny_pure hq)) λJ J e=>e)
 subst e
 refine wpAny_assign_Name (wpAny_storeName_local (env:=C.env) NC a.inv.fr.ns (λOe hn₃ OY=>?_) (by show(C.sc.kind==.class||(C.sc.kind==.module&&C.L != mainGlobals))=false;(refine(H.hk)▸?_);rfl))
 refine⟨m₂,hn.sameBut OY aw.fr,λh₄ hs₄=>?_⟩
 have a3:At C _ _ ((q.mv Oe q.s.toks q.ad q.φ).wi (z,aS ys kk)):=⟨⟨a.inv.fr.set hn₃ OY,a.inv.nw.set OY,a.inv.nd,a.inv.lo⟩,a.rep⟩
 have a4:=a3.but (tk:=q.s.toks+1) ⟨aw.led,aw.fr,aw.no⟩ hs₄
 exact m6 (p:=q.mv h₄ (q.s.toks+1) q.ad q.φ) (tk:=q.s.toks+1) a4 Mc hle λt5 a5 r5=>by
  have tt:=(t.trans (.h (t0:=q.s.toks+1) (h:=h₄))).trans t5
  exact post _ _ tt.s ⟨P.rm,LR.store (P.lr.to tt) H.nd hx NC r5,a5⟩
end
end
abbrev Hy(C:Cf):Prop:=
 Ok C/\
 C.hs=true/\
 d7 C.toWd C.c.fns/\
 (∀(k:Nat)(q:Fn×List Nat),C.c.Kd[k]?=some q->Km C.toWd k q)/\
 cX C.toWd C.c C.n
section
variable(zz:Hy C)
def Hy.ok:=zz.1
def Hy.hs:=zz.2.1
def Hy.T:=zz.2.2.1
def Hy.N:=zz.2.2.2.1
def Hy.Z:=zz.2.2.2.2
end
structure All(C:Cf)(i:E):Prop where
 e:JB C i
 t:Kk C i
 k:w7 C i
 l:fh C i
section
theorem All.pl(H:Hy C)(he:JB C i)(hp:∀e0,J9 C.Y C.sc i C.sl [] e0=true->eh (JK C.Y i C.sl [] e0)=true)(hl:∀{l:List V}{st:St},Kv C.c i l st=none):All C i:=
 ⟨he,gZ H.ok hp he,λJ J J J J J J J J hv=>nS (hl.symm.trans hv),λJ J J J J J J J J hv=>nS (hl.symm.trans hv)⟩
theorem All.et(he:JB C i)(ht:Kk C i)(hl:∀{l:List V}{st:St},Kv C.c i l st=none):All C i:=
 ⟨he,ht,λJ J J J J J J J J hv=>nS (hl.symm.trans hv),λJ J J J J J J J J hv=>nS (hl.symm.trans hv)⟩
theorem rX(h:∀{l:List V}{st:St},Jq C.c i l st=none):JB C i/\Kk C i:=⟨λJ J J J J J J hv=>nS (h.symm.trans hv),λJ J J J J J J J hv=>nS (h.symm.trans hv)⟩
theorem Hy.inner(H:Hy C){sl:List Zs}(L:Addr)(cl:List (Zs×Addr))(hk:sc.kind=.function)(nd:sl.Nodup)(lc:∀x∈sl,(sc.names.lookup x=some .local∨sc.names.lookup x=some .cell)/\(x==("__debug__" : Zs))=false):Hy (C.inner sl sc L cl):=⟨H.ok.inner L cl hk nd lc,H.hs,H.T,H.N,H.Z⟩
theorem gY(i:E):∀C:Cf,Hy C->All C i:=by
 induction i with
 | n0 o=>exact λC H=>.pl H (HG H.ok o) (λe0 hc=>by cases o with | stuck=>exact aEl hc λJ h=>h | _=>rfl) U
 | u1 o a ih=>exact λC H=>.et (pG (tJ H.ok H.hs o) (ih C H).e) (x4 H.ok H.hs (ih C H).e (ih C H).t) U
 | b2 o a b iha ihb=>exact λC H=>.et (pH H.ok H.hs (iha C H).e (ihb C H).e) (x6 H.ok H.hs (iha C H).e (ihb C H).e) U
 | slice a b d iha ihb ihd=>exact λC H=>.pl H (nT H.ok (iha C H).e (ihb C H).e (ihd C H).e) (λJ J=>rfl) U
 | and a b iha ihb=>exact λC H=>.et (uo H.ok (iha C H).e (ihb C H).e) (t9 (iha C H).t (ihb C H).t) U
 | or a b iha ihb=>exact λC H=>.et (x7 H.ok (iha C H).e (ihb C H).e) (x5 (iha C H).t (ihb C H).t) U
 | Ju t a b iht iha ihb=>exact λC H=>.et (um (iht C H).t (iha C H).e (ihb C H).e) (t6 (iht C H).t (iha C H).t (ihb C H).t) U
 | Ku o p a b d iha ihb ihd=>exact λC H=>.et (rN (iha C H).e (ihb C H).e (ihd C H).e) (rB (iha C H).e (ihb C H).e (ihd C H).e) U
 | new k as ih=>exact λC H=>.pl H (uj H.ok H.hs H.N (ih C H).l) (λJ J=>rfl) U
 | call k a as iha ih=>exact λC H=>.pl H (rO H.ok H.hs H.T H.Z (iha C H).e (ih C H).l) (λJ J=>rfl) U
 | Lh k a iha=>exact λC H=>.pl H (nV H.ok H.hs H.T H.Z (iha C H).e) (λJ J=>rfl) U
 | JG k as ih=>exact λC H=>.pl H (nW H.ok H.hs H.T H.Z (ih C H).l) (λJ J=>rfl) U
 | K4 k a as iha ih=>exact λC H=>.pl H (nX H.ok H.hs H.T H.Z (iha C H).e (ih C H).l) (λJ J=>rfl) U
 | LL k q as ih=>exact λC H=>.pl H (nU H.ok H.hs H.T H.Z (ih C H).l) (λJ J=>rfl) U
 | lst as ih=>exact λC H=>.pl H (uk (ih C H).l) (λJ J=>rfl) U
 | tup as ih=>exact λC H=>.pl H (ui (ih C H).l) (λJ J=>rfl) U
 | comp en cs s b ihs ihb=>exact λC H=>.pl H (rM H.ok H.hs (ihs C H).e λsl sc L cl hk nd lc=>(ihb _ (H.inner L cl hk nd lc)).e) (λJ J=>rfl) U
 | Qf a k iha=>exact λC H=>.pl H (un H.ok (iha C H).e k) (λJ J=>rfl) U
 | nil=>exact λC H=>⟨(rX U).1,(rX U).2,lU,pE lU (λJ J=>rfl) λhv=>by obtain rfl:=kc hv;rfl⟩
 | pos e r ihe ihr=>exact λC H=>⟨(rX U).1,(rX U).2,λJ J J J J J J J J hv hn=>Jx hv λq hq h=>Kc h λz hz e'=>(by subst e';cases hn),uh (ihe C H).e (ihr C H).l⟩
 | kw k e r ihe ihr=>exact λC H=>⟨(rX U).1,(rX U).2,pF (ihe C H).e (ihr C H).k,pE (pF (ihe C H).e (ihr C H).k) (λJ J=>rfl) λhv=>p9 hv λq z J J J e'=>by subst e';rfl⟩
theorem jk(H:Hy C)(i:S):OO i=true->(cR i=true->dj C i)/\(cR i=false->Lf C i):=by
 have E:∀i,JB C i:=λi=>(gY i C H).e
 have T:∀i,Kk C i:=λi=>(gY i C H).t
 have L:∀i,fh C i:=λi=>(gY i C H).l
 have no:∀{i:S},cR i=true->dj C i->(cR i=true->dj C i)/\(cR i=false->Lf C i):=λhi hs=>⟨λJ=>hs,λh=>J4 (h.symm.trans hi)⟩
 induction i with
 | nil=>exact λJ=>⟨λh=>J4 h,λJ=>uq⟩
 | cons s r ihs ihr=>exact λw=>aEl w λw1 w=>aEl w λw2 w=>aEl w λw3 w4=>⟨λh=>J4 h,λJ=>rP ((ihs w2).1 w1) ((ihr w4).2 (lm w3))⟩
 | stuck=>exact λJ=>no U λJ J J J J J J hv=>nS hv
 | pass=>exact λJ=>no U rE
 | expr e=>exact λJ=>no U (rG H.ok (E e))
 | asg ns e=>exact λJ=>no U (uf H.ok (E e))
 | Mu k e=>exact λJ=>no U (rJ H.ok (E e))
 | Nf k cs s b=>exact λJ=>no U (rK H.ok H.hs (E s) λsl sc L cl hk nd lc=>(gY b _ (H.inner L cl hk nd lc)).e)
 | Pq ns e=>exact λJ=>no U (ua H.ok H.hs (E e))
 | JD k o e=>exact λJ=>no U (rC H.ok (E o) (E e))
 | K5 k o e=>exact λJ=>no U (rH H.ok (E e))
 | KU k p o e=>exact λJ=>no U (rI H.ok (E o) (E e))
 | app o e=>exact λJ=>no U (ug H.ok (E o) (E e))
 | ext o e=>exact λJ=>no U (ue H.ok (E o) (E e))
 | Ju t a b iha ihb=>exact λw=>aEl w λw1 w=>aEl w λw2 w=>aEl w λw3 w4=>no U (uc (T t) ((iha w2).2 (lm w1)) ((ihb w4).2 (lm w3)))
 | «while» t b ihb=>exact λw=>aEl w λw1 w2=>no U (nR (T t) ((ihb w2).2 (lm w1)))
 | «for» k e b ihb=>exact λw=>aEl w λw1 w2=>no U (ud H.ok H.hs (E e) ((ihb w2).2 (lm w1)))
 | forR k fr e b ihb=>exact λw=>aEl w λw1 w2=>no U (rF H.ok H.hs (E e) ((ihb w2).2 (lm w1)))
 | ret e=>exact λJ=>no U (ub (E e))
 | MJ=>exact λJ=>no U rD
end
abbrev Lj(W:Wd)(c:Cx):Prop:=
 Lp W/\
 JO W.Y c/\
 d7 W c.fns/\
 (∀(k:Nat)(q:Fn×List Nat),c.Kd[k]?=some q->Km W k q)
section
variable(zz:Lj W c)
def Lj.O:=zz.1
def Lj.K:=zz.2.1
def Lj.T:=zz.2.2.1
def Lj.N:=zz.2.2.2
end
theorem Lj.hy{n:Nat}(Z:Lj W c)(h1:cX W c n){f:Fn}{d:FD}(F:Ks W k f d)(L f':Addr)(cs:List (Zs×Addr)):Hy (Cf.of W c n f.sl d L f' cs):=
 ⟨⟨Z.O,Z.K,F.ok.ki,F.nd,F.lc,λh=>nomatch h⟩,rfl,Z.T,Z.N,h1⟩
theorem wG{fns:List Fn}{Kd:List (Fn×List Nat)}{sup:List (List Nat)}{wf:Nat}(Z:∀n,Lj W (cxN fns Kd sup wf n))(n:Nat):cX W (cxN fns Kd sup wf n) n:=by
 have Ol:∀n,(cxN fns Kd sup wf n).fns=fns:=λn=>by cases n <;> rfl
 induction n with
 | zero=>exact λJ J J J J J J J J J J J J J J J J hr=>nS hr
 | succ n ih=>
  intro C hC k f d hf F A X Q m st p vs r args binds hr Rm a hb h1 bd post
  have hf:(cxN fns Kd sup wf n).fns[k]?=some f:=by (refine(Ol n).symm▸?_);exact hf
  exact yd (Z n).O hC hf F (λL f' cs=>((jk ((Z n).hy ih F L f' cs) f.body F.wf).2 F.bl)) hr Rm a hb h1 bd post
noncomputable def Cf.law(W:Wd)(c:Cx)(n:Nat)(sl:List Zs)(sc:Scope)(cn:Zs)(L f:Addr)(cd:Value)(cs:List (Zs×Addr)):Cf:={ toWd:=W,sl:=sl,sc:=sc,cn:=cn,L:=L,fa:=some f,fr:=some L,cd:=cd,c:=c,n:=n,hs:=true,cells:=cs,top:=true}
theorem CellsAre.ad(x:CellsAre cm cs cells):cells.map (·.1)=cs.map (·.2):=by
 induction x with
 | nil=>rfl
 | cons _ _ ih=>exact kg (_::·) ih
theorem CellsAre.at(x:CellsAre cm cs cells){n:Zs}{a:Addr}(h:(n,a)∈cs):∃o,(a,o)∈cells/\o.data=.cell (cm n):=by
 induction x with
 | nil=>exact nomatch h
 | cons hd _ ih=>
  rcases kl h with e | h
  ·cases e;exact⟨_,.head _,hd⟩
  ·exact(ih h).imp λJ z=>⟨.tail _ z.1,z.2⟩
theorem yI{n:Nat}(Z:Lj W c)(h1:cX W c n){sl:List Zs}{cn:Zs}{f:Addr}{cd:Value}(hk:sc.kind=.function)(nd:sl.Nodup)
  (lc:∀x∈sl,(sc.names.lookup x=some .local∨sc.names.lookup x=some .cell)/\(x==("__debug__" : Zs))=false) (LI:∀x∈sl,sc.names.lookup x=some .cell->∃a,cs.lookup x=some a) (hnd:(cs.map (·.1)).Nodup) (hcm:∀x,cm x=none) {i:S} {body:List Stmt} (ok:okB W.Y sl sc i body=true) (tx:toB W.Y sl i body=body) (wf:OO i=true) (bl:cR i=false)
   {X:Value->Shared->Prop} {Q:Flow->Shared->Prop} {s:Shared} {m:Zs->Option Value} {v:V} {x:Value}    {nm:Zs}
  (hr:JJ c i (v::List.replicate k .uu) ⟨[],[]⟩=some (.ret (.b (.bool true)),l,st)) (rm:K8 A n) (F:Fr W.hB L s.heap m) (Xc:Cl L cs s.heap cm) (hn:sl[0]?=some nm) (hnl:sc.names.lookup nm=some .local) (hm:m nm=some x) (hx:VR W.Y [] ⟨[],[]⟩ v x)
  (post:∀h tk,(∀b o,W.hB.get? b=some o->h.get? b=some o)->Q (.ret (.bool true)) { s with heap:=h,toks:=tk}):wpAny (model W.prog W.w) A (execs body (Cf.law W c n sl sc cn L f cd cs).env) Q X s:=by
 have H:Hy (Cf.law W c n sl sc cn L f cd cs):=⟨⟨Z.O,Z.K,hk,nd,lc,λJ a b d h h'=>name_of_addr Xc.apart (mem_of_lookup h) (mem_of_lookup h')⟩,rfl,Z.T,Z.N,h1⟩
 obtain⟨cells,N,Y⟩:=Cl.news (cm:=cm) F.above λa d hd=>⟨Xc.cell a d (lookup_of_mem_nodup hnd hd),Xc.above a d hd⟩
 have ea:=CellsAre.ad Y
 have eu:((cells.map λz=>(true,z)).map (·.2):Led)=cells:=by rw[SV];exact List.map_id cells
 have I:Inv W.hB L m s.heap ⟨[],[]⟩ ([]++(cells.map λz=>(true,z)).map (·.2)):=by
  rw[eu]
  refine⟨F,N,?_,λz hz=>?_⟩
  ·show(cells.map (·.1)).Nodup
   rw[ea]
   exact List.pairwise_map.mpr Xc.apart
  ·have:z.1∈cs.map (·.2):=ea▸SM hz
   obtain⟨y,hy,e⟩:=List.mem_map.mp this
   exact ke F.above (R8 (e▸Xc.above y.1 y.2 hy))
 (refine(tx)▸?_)
 refine(jk H i wf).2 bl _ ok (K:=⟨A,X,v::List.replicate k .uu,m⟩) (p:=⟨s,⟨[],[]⟩,[],cells.map λz=>(true,z)⟩) hr ⟨λJ=>rm,⟨λj w hj hw=>?_,λj a hj ha hc=>?_⟩,⟨I,⟨.nil,.nil⟩⟩⟩ λm' q t P y r=>?_
 ·cases j with
  | zero=>obtain rfl:=kc hj;exact⟨nm,x,hn,.inl ⟨hnl,hm⟩,hx⟩
  | succ j=>exact(hw (List.mem_replicate.mp (lx (show(List.replicate k V.uu)[j]?=some w from hj))).2).elim
 ·obtain⟨ca,hca⟩:=LI a (lx ha) hc
  obtain⟨o,ho,hd⟩:=CellsAre.at Y (mem_of_lookup hca)
  exact⟨ca,o,hca,rfl,List.mem_map.mpr ⟨_,ho,rfl⟩,hd.trans (kg _ (hcm a))⟩
 ·cases r
  have:=post q.s.heap q.s.toks P.at'.inv.fr.keep
  (refine(t.sh)▸?_);exact this
noncomputable def wD:List String:=["Event","NodeEvent","CollectionStartEvent","CollectionEndEvent","StreamStartEvent","StreamEndEvent","DocumentStartEvent","DocumentEndEvent","AliasEvent","ScalarEvent","SequenceStartEvent","SequenceEndEvent","MappingStartEvent","MappingEndEvent","ScalarAnalysis"]
noncomputable def H1:List Nat:=[330,337,344,352,359,366,373,381,388,395,403,410,417,424,431,438,445,452,459,466,473,480,487,495,502,509,517,524,531,538,545,552,559,566,573,580,587,594,601,608,615,622,629,636,643,650,658,665,673,680,687,695,704,711,718,725,733,761,768,754,316,782,789,796,804,811,818,823,830]
noncomputable def Gj:List Nat:=[59,81,101,113,133,145,165,185,197,217,229,241,253,265,296]
noncomputable def iI:List Nat:=[49,78,98,49,130,49,162,182,78,214,98,49,98,49,293]
noncomputable def fc(n:Nat):Fn:=gx.getD n RD
noncomputable def stN(s:String):Zs:=PySem.Str.ofString s
noncomputable def yw(n:Nat):Zs:=
 bif Nat.blt n 59 then stN (fc n).name else bif Nat.blt n 64 then J1 [n] else bif Nat.blt n 111 then stN (vR.getD (n - 64) "") else bif Nat.blt n 126 then J1 [n] else bif Nat.beq n 126 then "ESCAPE_REPLACEMENTS" else "DEFAULT_TAG_PREFIXES"
noncomputable def Yw(K:Frag)(P:Params)(sa:Addr)(so:Obj):Lay:=
 ⟨P,K,λn=>bif Nat.beq n 0 then 736 else 771,λn=>Gj.getD n 0,λn=>H1.getD n 0,696,308,yw,λn=>stN (fc n).name,λn=>stN (wD.getD n ""),
  λn=>((fc n).slots.take (fc n).JT).map stN,λn=>((Kd.getD n (RD,[])).1.slots).map stN,sa,so⟩
theorem w6{α:Type}{f g:Nat->α}:∀(n a:Nat),(List.range' a n).map f=(List.range' a n).map g->∀k,a<=k->k < a+n->f k=g k
 | 0,a,_,k,h1,h2=>(Sj _ (li h1 h2)).elim
 | n+1,a,h,k,h1,h2=>by
  cases h1 with
  | refl=>exact(SW h).1
  | step h1=>exact w6 n (a+1) (SW h).2 _ (mn h1) (by rw[Nat.succ_add_eq_add_succ];exact h2)
noncomputable def HS:FD:=⟨"", "",⟨[],[],none,[],[],none,[]⟩,[],⟨.function,[],false,false,[]⟩,.none,.none,.none,.none,.none,.none,.none,none,none,#[]⟩
noncomputable def xQ:FuncBody->List Stmt
 | .stmts b=>b | .expr _=>[]
noncomputable def dU(K:Frag)(a:Addr):FD:=match K.lookup a with
 | some ⟨oc,od,.func fd,osl⟩=>⟨fd.name,fd.qualname,fd.params,xQ fd.body,fd.scope,fd.defaults,fd.kwdefaults,fd.doc,fd.pyModule,fd.code,fd.closureTuple,oc,fd.annotations,od,osl⟩
 | _=>HS
noncomputable def Ch(d:FD):Obj:=⟨d.oc,d.od,.func d.fd,d.osl⟩
noncomputable def dbg(x:Zs):Bool:=!(x==("__debug__" : Zs))
noncomputable def fdB(K:Frag)(d:FD):Bool:=
 codeIn K d.cdv d.qual&&(d.params.posonlyargs.isEmpty&&(d.params.vararg.isNone&&(d.params.kwonlyargs.isEmpty&&(d.params.kwarg.isNone&&(!d.scope.isCoroutine&&(!d.scope.isGenerator&&(d.scope.kind==.function)))))))
noncomputable def plB(d:FD):Bool:=d.scope.names.all (λx=>!(x.2==.cell))&&d.ps.all (λy=>d.scope.names.lookup y==some .local)
noncomputable def ceT(d:FD):Zs:=((d.scope.names.filter λx=>x.2==.cell).headD ("",.local)).1
noncomputable def ceB(f:Fn)(d:FD):Bool:=(f.sl.take f.JT).contains (ceT d)&&(d.scope.names.filter (λx=>x.2==.cell)==[(ceT d,.cell)]&&(d.scope.names.lookup (ceT d)==some .cell&&d.ps.all (λy=>y==ceT d||d.scope.names.lookup y==some .local)))
theorem oh{α:Type}{l:List α}(h:l.isEmpty=true):l=[]:=by cases l with | nil=>rfl | cons=>exact J4 h
theorem pS{α:Type}{l:Option α}(h:l.isNone=true):l=none:=by cases l with | none=>rfl | some=>exact J4 h
theorem not_of(h:(!b)=true):b=false:=by cases b with | false=>rfl | true=>exact J4 h
theorem Bh{K:Frag}{a:Addr}{d:FD}(h:K.lookup a=some (Ch d))(b:fdB K d=true):FD.Ok K a d:=
 aEl b λh1 b=>aEl b λh2 b=>aEl b λh3 b=>aEl b λh4 b=>aEl b λh5 b=>aEl b λh6 b=>aEl b λh7 h8=>
  ⟨h,h1,oh h2,pS h3,oh h4,pS h5,not_of h6,not_of h7,ld h8⟩
theorem AI{d:FD}(b:plB d=true):FD.Pl d:=aEl b λh9 QW=>⟨λx hx e=>(by have:=ma h9 x hx;rw[e]at this;exact J4 this),λy hy=>ld (ma QW y hy)⟩
theorem jG:∀{l:List (Zs×NameKind)}{n:Nat}{acc:List (Zs×Addr)},l.filter (λx=>x.2==.cell)=[]->cellsFrom n l acc=acc
 | [],_,_,_=>rfl
 | (a,k)::l,n,acc,h=>by
  unfold cellsFrom
  cases hk:k==NameKind.cell with
  | true=>rw[List.filter_cons_of_pos (by exact hk)]at h;exact nomatch h
  | false=>rw[List.filter_cons_of_neg (by rw[hk];exact SI)]at h;exact jG h
theorem jF{t:Zs}:∀{l:List (Zs×NameKind)}{n:Nat},l.filter (λx=>x.2==.cell)=[(t,.cell)]->cellsFrom n l []=[(t,n)]
 | [],_,h=>nomatch h
 | (a,k)::l,n,h=>by
  unfold cellsFrom
  cases hk:k==NameKind.cell with
  | true=>rw[List.filter_cons_of_pos (by exact hk)]at h;rw[<- (Ti (SW h).1).1];exact jG (SW h).2
  | false=>rw[List.filter_cons_of_neg (by rw[hk];exact SI)]at h;exact jF h
theorem Gn{f:Fn}{d:FD}(b:ceB f d=true):FD.Ce f d:=aEl b λh1 b=>aEl b λh3 b=>aEl b λh4 h5=>by
 have h3:=ld h3
 refine⟨ceT d,List.contains_iff_mem.mp h1,λn=>jF h3,ld h4,λx hx=>?_,λy hy=>(my (ma h5 y hy)).imp ld ld⟩
 have:=(List.mem_filter (p:=λx:Zs×NameKind=>x.2==NameKind.cell)).mpr ⟨mem_of_lookup hx,rfl⟩
 rw[h3]at this
 exact(Ti (km this)).1
noncomputable def lcB(sc:Scope)(x:Zs):Bool:=(sc.names.lookup x==some .local||sc.names.lookup x==some .cell)&&dbg x
theorem A4{x:Zs}(h:lcB sc x=true):(sc.names.lookup x=some .local∨sc.names.lookup x=some .cell)/\(x==("__debug__" : Zs))=false:=aEl h λa b=>⟨(my a).imp ld ld,not_of b⟩
noncomputable def Bq:B->Value->Bool
 | .nul,.none=>true | .bool a,.bool b=>a==b | .int a,.int b _=>a==b | .str a,.str b _=>decide (a.length<=1000)&&J1 a==b | _,_=>false
theorem z5{P:Params}{b:B}{x:Value}(h:Bq b x=true):Mh P [] b x:=by
 cases b with
 | nul=>cases x with | none=>rfl | _=>exact J4 h
 | bool=>cases x with | bool=>cases ld h;rfl | _=>exact J4 h
 | int=>cases x with | int=>cases ld h;exact .mk _ | _=>exact J4 h
 | str=>cases x with | str=>exact aEl h λh1 h2=>by cases ld h2;exact .mk _ (iD (dEl h1)) | _=>exact J4 h
 | _=>cases x <;> exact J4 h
noncomputable def oP:List B->List Value->Bool
 | [],[]=>true | a::l,x::r=>Bq a x&&oP l r | _,_=>false
theorem ny{P:Params}:∀{l:List B}{r:List Value},oP l r=true->Jp (Mh P []) l r
 | [],[],_=>.nil
 | _::_,_::_,h=>aEl h λh1 h2=>.cons (z5 h1) (ny h2)
 | [],_::_,h=>nomatch h
 | _::_,[],h=>nomatch h
noncomputable def yU(K:Frag):Value->Option (List Value)
 | .ref T=>(K.lookup T).bind λo=>match o.data with | .seq items _=>some items.toList | _=>none
 | _=>none
noncomputable def HW:Value->Bool
 | .none=>true | _=>false
noncomputable def wr(K:Frag)(l:List B)(v:Value):Bool:=(l.isEmpty&&HW v)||(yU K v).any (oP l)
theorem qJ{K:Frag}{P:Params}{l:List B}{v:Value}(h:wr K l v=true):xw K P l v:=by
 rcases my h with h | h
 ·exact aEl h λh1 h2=>.inl ⟨oh h1,by cases v with | none=>rfl | _=>exact J4 h2⟩
 ·refine yEl h λxs h1 h2=>.inr ?_
  cases v with
  | ref T=>
   refine Jx h1 λo h3 h4=>?_
   obtain⟨oc,od,dt,osl⟩:=o
   cases dt with
   | seq items k=>obtain rfl:=kc h4;exact⟨T,_,items,k,rfl,h3,rfl,ny h2⟩
   | _=>exact nS h4
  | _=>exact nS h1
noncomputable def fnB(Y:Lay)(k:Nat)(f:Fn)(d:FD):Bool:=
 fdB Y.K d&&(d.ps==Y.pn k&&(f.JT==(Y.pn k).length&&(decide f.sl.Nodup&&(f.sl.all (lcB d.scope)&&(f.sl.take f.JT==Y.pn k&&(Nat.ble f.dflt.length f.JT&&(wr Y.K f.dflt d.dV&&
  (okB Y f.sl d.scope f.body d.body&&(OO f.body&&(!cR f.body&&(plB d||ceB f d)))))))))))
noncomputable def Nn(Y:Lay)(k:Nat):Bool×Option Obj×List Stmt:=(fnB Y k (fc k) (dU Y.K (Y.fn k)),Y.K.lookup (Y.fn k),toB Y (fc k).sl (fc k).body (dU Y.K (Y.fn k)).body)
noncomputable def Nm(Y:Lay)(k:Nat):Bool×Option Obj×List Stmt:=(true,some (Ch (dU Y.K (Y.fn k))),(dU Y.K (Y.fn k)).body)
theorem Fv(h:Nn W.Y k=Nm W.Y k):Ks W k (fc k) (dU W.Y.K (W.Y.fn k)):=
 aEl (kg (·.1) h) λh1 b=>aEl b λh2 b=>aEl b λh3 b=>aEl b λh4 b=>aEl b λh5 b=>aEl b λh6 b=>aEl b λh7 b=>aEl b λh8 b=>aEl b λh9 b=>aEl b λh11 b=>aEl b λQV h13=>
  ⟨Bh (kg (·.2.1) h) h1,ld h2,ld h3,dEl h4,λx hx=>A4 (ma h5 x hx),ld h6,lj h7,
     qJ h8,h9,kg (·.2.2) h,h11,not_of QV,(my h13).imp AI Gn⟩
noncomputable def iAt(k:Nat):Fn×List Nat:=Kd.getD k (RD,[])
noncomputable def mkL(K:Frag)(C fI:Addr):List Bool×List (Option (Option Value))×Option Value:=
 ([makesIn K C,plainOver K C,hasDictIn K C,keepIn K (.ref C)],[findIn K (.ref C) "__init__",findIn K (.ref C) "__setattr__"],typeIn K (.ref fI))
noncomputable def mkR(fI:Addr):List Bool×List (Option (Option Value))×Option Value:=
 ([true,true,true,true],[some (some (.ref fI)),some (some (.builtin "object.__setattr__"))],some (.type "function"))
theorem aZ{α β:Type}{x y:α}(h:x=y)(f:α->β):f x=f y:=kg f h
theorem AZ{K:Frag}{C:Addr}(h:mkL K C fI=mkR fI):Ki K C fI:=
 ⟨aZ h (·.1.getD 0 true),aZ h (·.2.1.getD 0 none),aZ h (·.2.2),aZ h (·.2.1.getD 1 none),aZ h (·.1.getD 1 true),aZ h (·.1.getD 2 true),aZ h (·.1.getD 3 true)⟩
noncomputable def inB(Y:Lay)(k:Nat)(q:Fn×List Nat)(d:FD):Bool:=
 fdB Y.K d&&(plB d&&(d.ps==Y.cp k&&(wr Y.K q.1.dflt d.dV&&(Y.cp k==(Y.cp k).headD "" :: (Y.cp k).tail&&(q.2.map Y.nm==(Y.cp k).tail&&((Y.cp k).tail.all (λnm=>takerIn Y.K (Y.J7 k) nm==some none)&&((Y.cp k).all dbg&&
  (q.1.JT==(Y.cp k).length&&(decide (Y.cp k).Nodup&&(Nat.ble q.1.dflt.length q.1.JT&&(q.2.all (λa=>Nat.blt a 128)&&Nat.ble q.2.length 100)))))))))))
noncomputable def CL(Y:Lay)(k:Nat):(List Bool×List (Option (Option Value))×Option Value)×Bool×Option Obj×List Stmt:=
 (mkL Y.K (Y.J7 k) (iI.getD k 0),inB Y k (iAt k) (dU Y.K (iI.getD k 0)),Y.K.lookup (iI.getD k 0),jC ((Y.cp k).headD "") (Y.cp k).tail (dU Y.K (iI.getD k 0)).body)
noncomputable def CK(Y:Lay)(k:Nat):(List Bool×List (Option (Option Value))×Option Value)×Bool×Option Obj×List Stmt:=
 (mkR (iI.getD k 0),true,some (Ch (dU Y.K (iI.getD k 0))),(dU Y.K (iI.getD k 0)).body)
theorem Fq(lt:k < 15)(h:CL W.Y k=CK W.Y k):Km W k (iAt k):=
 aEl (kg (·.2.1) h) λh1 b=>aEl b λh0 b=>aEl b λh2 b=>aEl b λh3 b=>aEl b λh4 b=>aEl b λh5 b=>aEl b λh6 b=>aEl b λh7 b=>aEl b λh8 b=>aEl b λh9 b=>aEl b λQW b=>aEl b λh11 QV=>
  ⟨lt,⟨_,_,_,_,AZ (kg (·.1) h),⟨Bh (kg (·.2.2.1) h) h1,AI h0⟩,ld h2,qJ h3,ld h4,kg (·.2.2.2) h,ld h5,λnm hn=>ld (ma h6 nm hn),
   λnm hn=>not_of (ma h7 nm (ld h4▸hn))⟩,ld h8,dEl h9,lj QW,λa ha=>lj (ma h11 a ha),lj QV⟩
noncomputable abbrev OV:=Option (Option Value)
noncomputable def bi(s:String):OV:=some (some (.builtin s))
noncomputable def rf(a:Addr):OV:=some (some (.ref a))
noncomputable def Kj(f:Nat->α)(a n:Nat):List α:=(List.range' a n).map f
theorem de{α:Type}{f g:Nat->α}{a n:Nat}(h:Kj f a n=Kj g a n)(h1:a<=k)(h2:k < a+n):f k=g k:=w6 n a h k h1 h2
theorem dm{α:Type}{f g:Nat->α}{n:Nat}(h:Kj f 0 n=Kj g 0 n)(h2:k < n):f k=g k:=de h (mj _) (by rw[SE];exact h2)
noncomputable def rL(Y:Lay)(k:Nat):List Bool×List OV×List (Option Bool)×List OV:=
 ([plainGet Y.K (Y.J7 k) "",hasDictIn Y.K (Y.J7 k)],
  [findIn Y.K (.ref (Y.J7 k)) "__bool__",findIn Y.K (.ref (Y.J7 k)) "__len__",findIn Y.K (.ref (Y.J7 k)) "__class__",nsIn Y.K mainGlobals (Y.cn k)],
  mroIn Y.K (Y.J7 k) (.type "object")::Kj (λd=>kitOne Y.K (.ref (Y.J7 k)) (.ref (Y.J7 d))) 0 14,
  Kj (λn=>findIn Y.K (.ref (Y.J7 k)) (Y.nm n)) 64 62)
noncomputable def rR(Y:Lay)(k:Nat):List Bool×List OV×List (Option Bool)×List OV:=
 ([true,true],[some none,some none,bi "object.__class__",rf (Y.J7 k)],
  some true::Kj (λd=>some ((ii[k]?).any λl=>l.contains d)) 0 14,Kj (λJ=>some none) 64 62)
noncomputable def iL(Y:Lay)(k:Nat):(List Bool×List (Option (Option Value))×Option Value)×List Bool×List OV×List OV×List OV:=
 (mkL Y.K (Y.JW k) (Y.fn (dd+1 - k)),[plainGet Y.K (Y.JW k) "",hasDictIn Y.K (Y.JW k),plainOver Y.K (Y.JW k)],[findIn Y.K (.ref (Y.JW k)) "__setattr__"],
  Kj (λn=>takerIn Y.K (Y.JW k) (Y.nm n)) 0 128,Kj (λn=>findIn Y.K (.ref (Y.JW k)) (Y.nm n)) 64 62)
noncomputable def iR(Y:Lay)(k:Nat):(List Bool×List (Option (Option Value))×Option Value)×List Bool×List OV×List OV×List OV:=
 (mkR (Y.fn (dd+1 - k)),[true,true,true],[bi "object.__setattr__"],Kj (λJ=>some none) 0 128,Kj (λJ=>some none) 64 62)
noncomputable def EZ(Y:Lay)(k:Nat):List Bool×List OV×Option Bool:=
 ([Nat.blt (fc k).own 2,isFn Y.K (.ref (Y.fn k)),copiedNames.contains (Y.nm k)],[findIn Y.K (.ref (Y.JW (fc k).own)) (Y.nm k),specialIn Y.K (.ref (Y.fn k)) "__get__",bif Nat.blt k 57 then findIn Y.K (.ref (Y.JW 0)) (Y.nm k) else none],takesIn Y.K (.ref (Y.fn k)))
noncomputable def mR(Y:Lay)(k:Nat):List Bool×List OV×Option Bool:=
 ([true,true,false],[rf (Y.fn k),bi "function.__get__",bif Nat.blt k 57 then rf (Y.fn k) else none],some false)
noncomputable def gL(Y:Lay)(k:Nat):List OV:=bif Nat.beq (fc k).own 2 then [nsIn Y.K mainGlobals (Y.gn k)] else []
noncomputable def gR(Y:Lay)(k:Nat):List OV:=List.replicate (bif Nat.beq (fc k).own 2 then 1 else 0) (rf (Y.fn k))
noncomputable def biL:List Zs:=[PySem.Str.ofString "len",PySem.Str.ofString "all",PySem.Str.ofString "isinstance",PySem.Str.ofString "sorted",PySem.Str.ofString "range",PySem.Str.ofString "enumerate"]
noncomputable def oL(Y:Lay):List OV×List OV×List Bool×Option Bool:=
 ([specialIn Y.K (.builtin "object.__class__") "__get__",nsIn Y.K mainGlobals "Emitter",nsIn Y.K mainGlobals "Rows",findIn Y.K (.ref (Y.JW 0)) "ESCAPE_REPLACEMENTS",findIn Y.K (.ref (Y.JW 0)) "DEFAULT_TAG_PREFIXES",specialIn Y.K (.ref Y.KO) "__get__",specialIn Y.K (.ref Y.MK) "__get__"],
  biL.map (λn=>nsIn Y.K mainGlobals n),[Y.KO==sysModules,Y.MK==sysModules,decide ((Kj Y.nm 0 128).Nodup)],takesIn Y.K (.builtin "object.__class__"))
noncomputable def oR(Y:Lay):List OV×List OV×List Bool×Option Bool:=
 ([bi "getset_descriptor.__get__",rf (Y.JW 0),rf (Y.JW 1),rf Y.KO,rf Y.MK,some none,some none],biL.map (λJ=>some none),[false,false,true],some true)
noncomputable def iP(P:Params)(l:List (Tx×Tx))(tk:List (Tok×Tok)):List DictEntry:=(l.zip tk).map λp=>⟨PyData.keyHash P (J1 p.1.1),.str (J1 p.1.1) p.2.1,.str (J1 p.1.2) p.2.2⟩
noncomputable def shB(l:List (Tx×Tx)):Bool:=l.all λp=>Nat.ble p.1.length 1000&&Nat.ble p.2.length 1000
theorem kZ{P:Params}:∀{l:List (Tx×Tx)}{tk:List (Tok×Tok)},l.length=tk.length->shB l=true->dB P l (iP P l tk)
 | [],_,_,_=>.nil
 | _::_,[],h,_=>nomatch h
 | _::_,_::_,h,b=>aEl b λb1 b2=>aEl b1 λb3 b4=>.cons ⟨.mk _ (iD (lj b3)),rfl,.mk _ (iD (lj b4))⟩ (kZ (Tb h) b2)
noncomputable def Bi:List (Tok×Tok):=[(1120,1121),(1122,1123),(1124,1125),(1126,1127),(1128,1129),(1130,1131),(1132,1133),(1134,1135),(1136,1137),(1138,1139),(1140,1141),(1142,1143),(1144,1145),(1146,1147),(1148,1149)]
noncomputable def jt:List Zs:=FL.sl
noncomputable abbrev OG(Y:Lay):FD:=dU Y.K 835
noncomputable def CA(sc:Scope):List Zs:=(cellsFrom 0 sc.names []).map (·.1)
noncomputable def Fb(Y:Lay):Bool×List Stmt:=
 (okB Y jt (OG Y).scope cF (OG Y).body&&((OG Y).scope.kind==.function&&(decide jt.Nodup&&(jt.all (lcB (OG Y).scope)&&(jt.all (λx=>!((OG Y).scope.names.lookup x==some .cell)||(CA (OG Y).scope).contains x)&&(decide (CA (OG Y).scope).Nodup&&((OG Y).scope.names.lookup (stN "script")==some .local)))))),
  toB Y jt cF (OG Y).body)
abbrev Facts(Y:Lay):Prop:=
 oL Y=oR Y/\
 iL Y 0=iR Y 0/\
 iL Y 1=iR Y 1/\
 Kj (CL Y) 0 15=Kj (CK Y) 0 15/\
 Kj (rL Y) 0 15=Kj (rR Y) 0 15/\
 Kj (EZ Y) 0 59=Kj (mR Y) 0 59/\
 Kj (gL Y) 0 69=Kj (gR Y) 0 69/\
 Kj (Nn Y) 0 10=Kj (Nm Y) 0 10/\
 Kj (Nn Y) 10 10=Kj (Nm Y) 10 10/\
 Kj (Nn Y) 20 10=Kj (Nm Y) 20 10/\
 Kj (Nn Y) 30 10=Kj (Nm Y) 30 10/\
 Kj (Nn Y) 40 10=Kj (Nm Y) 40 10/\
 Kj (Nn Y) 50 10=Kj (Nm Y) 50 10/\
 Kj (Nn Y) 60 9=Kj (Nm Y) 60 9/\
 (Y.K.lookup Y.KO,Y.K.lookup Y.MK)=(some (dictOf (iP Y.P cz Bi) 15),some (dictOf (iP Y.P aQ [(633,634),(635,636)]) 2))/\
 Fb Y=(true,(OG Y).body)
section
variable(zz:Facts Y)
def Facts.o:=zz.1
def Facts.i0:=zz.2.1
def Facts.i1:=zz.2.2.1
def Facts.n:=zz.2.2.2.1
def Facts.r:=zz.2.2.2.2.1
def Facts.m:=zz.2.2.2.2.2.1
def Facts.g:=zz.2.2.2.2.2.2.1
def Facts.f0:=zz.2.2.2.2.2.2.2.1
def Facts.f1:=zz.2.2.2.2.2.2.2.2.1
def Facts.f2:=zz.2.2.2.2.2.2.2.2.2.1
def Facts.f3:=zz.2.2.2.2.2.2.2.2.2.2.1
def Facts.f4:=zz.2.2.2.2.2.2.2.2.2.2.2.1
def Facts.f5:=zz.2.2.2.2.2.2.2.2.2.2.2.2.1
def Facts.f6:=zz.2.2.2.2.2.2.2.2.2.2.2.2.2.1
def Facts.d:=zz.2.2.2.2.2.2.2.2.2.2.2.2.2.2.1
def Facts.p:=zz.2.2.2.2.2.2.2.2.2.2.2.2.2.2.2
end
section
variable(P:Params)(sa:Addr)(so:Obj)
theorem H6:oL (Yw (kF P) P sa so)=oR (Yw (kF P) P sa so):=by kernel_rfl
theorem Fy:iL (Yw (kF P) P sa so) 0=iR (Yw (kF P) P sa so) 0:=by kernel_rfl
theorem Fx:iL (Yw (kF P) P sa so) 1=iR (Yw (kF P) P sa so) 1:=by kernel_rfl
theorem H7:Kj (CL (Yw (kF P) P sa so)) 0 15=Kj (CK (Yw (kF P) P sa so)) 0 15:=by kernel_rfl
theorem H3:Kj (rL (Yw (kF P) P sa so)) 0 15=Kj (rR (Yw (kF P) P sa so)) 0 15:=by kernel_rfl
theorem H8:Kj (EZ (Yw (kF P) P sa so)) 0 59=Kj (mR (Yw (kF P) P sa so)) 0 59:=by kernel_rfl
theorem H9:Kj (gL (Yw (kF P) P sa so)) 0 69=Kj (gR (Yw (kF P) P sa so)) 0 69:=by kernel_rfl
theorem FG:Kj (Nn (Yw (kF P) P sa so)) 0 10=Kj (Nm (Yw (kF P) P sa so)) 0 10:=by kernel_rfl
theorem FF:Kj (Nn (Yw (kF P) P sa so)) 10 10=Kj (Nm (Yw (kF P) P sa so)) 10 10:=by kernel_rfl
theorem FE:Kj (Nn (Yw (kF P) P sa so)) 20 10=Kj (Nm (Yw (kF P) P sa so)) 20 10:=by kernel_rfl
theorem FC:Kj (Nn (Yw (kF P) P sa so)) 30 10=Kj (Nm (Yw (kF P) P sa so)) 30 10:=by kernel_rfl
theorem FB:Kj (Nn (Yw (kF P) P sa so)) 40 10=Kj (Nm (Yw (kF P) P sa so)) 40 10:=by kernel_rfl
theorem FA:Kj (Nn (Yw (kF P) P sa so)) 50 10=Kj (Nm (Yw (kF P) P sa so)) 50 10:=by kernel_rfl
theorem Fz:Kj (Nn (Yw (kF P) P sa so)) 60 9=Kj (Nm (Yw (kF P) P sa so)) 60 9:=by kernel_rfl
theorem Ia:((Yw (kF P) P sa so).K.lookup (Yw (kF P) P sa so).KO,(Yw (kF P) P sa so).K.lookup (Yw (kF P) P sa so).MK)=(some (dictOf (iP (Yw (kF P) P sa so).P cz Bi) 15),some (dictOf (iP (Yw (kF P) P sa so).P aQ [(633,634),(635,636)]) 2)):=by kernel_rfl
theorem H4:Fb (Yw (kF P) P sa so)=(true,(OG (Yw (kF P) P sa so)).body):=by kernel_rfl
theorem CT:Facts (Yw (kF P) P sa so):=⟨H6 P sa so,Fy P sa so,Fx P sa so,H7 P sa so,H3 P sa so,H8 P sa so,H9 P sa so,FG P sa so,FF P sa so,FE P sa so,FC P sa so,FB P sa so,FA P sa so,Fz P sa so,Ia P sa so,H4 P sa so⟩
end
end
section
open PySem
theorem Jl{o:Option α}{f:α->Option β}{a:α}{z:Option β}(h:o=some a)(k:f a=z):o.bind f=z:=h▸k
theorem bU{b:Bool}{x:α}(h:b=true):af b x=some x:=h▸rfl
theorem ab{st:St}{j:Nat}{l:List V}(h:st.cur[j]?=some (.lst l)):aI st (.ref j)=some (j,l):=Jl (f:=λo=>(qT o).map λl=>(j,l)) h U
theorem eD{st:St}{j c:Nat}{l:List (Nat×V)}(h:st.cur[j]?=some (.ins c l)):cT st (.ref j)=some (j,c,l):=Jl (f:=λo=>(nA o).map λl=>(j,l)) h U
theorem bX{st:St}{v:V}{p:Nat×List V}(h:aI st v=some p):truth st v=some (!p.2.isEmpty):=by
 cases v with
 | ref j=>show(Option.map _ (aI st (.ref j))).or _=_;(refine(h)▸?_);rfl
 | _=>exact nS h
theorem Ci{st:St}{v:V}{b:Bool}(h:truth st v=some b):f1 cc .not v st=some (.o !b,st):=kg (Option.map λb=>(V.b (.bool !b),st)) h
theorem lC{st:St}{v:V}{j:Nat×Nat×List (Nat×V)}{w:V}(h:cT st v=some j)(hw:j.2.2.lookup n=some w):f1 cc (.JY n) v st=some (w,st):=by
 have:oS v=none:=by cases v with | rc a f=>cases h | _=>rfl
 show(iN n v st).map _=_
 unfold iN
 (refine(this)▸?_;refine(h)▸?_)
 show((j.2.2.lookup n).or _).map _=_
 (refine(hw)▸?_);rfl
theorem kO{st:St}{j:Nat×List V}{v u:V}{k:Int}(h:aI st v=some j)(h0:0<=k)(hu:j.2[k.toNat]?=some u):f2 .idx v (.i k) st=some (u,st):=by
 have e:FX v (.i k) st=some u:=by
  cases v with
  | ref a=>
   show(((aI st (.ref a)).bind λp=>(af (decide (0<=k)) ()).bind λJ=>p.2[k.toNat]?).or none)=_
   rw[Jl h (Jl (f:=λJ=>j.2[k.toNat]?) (bU (decide_eq_true h0)) hu)];rfl
  | _=>exact nS h
 exact kg (Option.map _) e
noncomputable abbrev Jr(d:Nat):Cx:=cxN gx Kd ii 60000 d
abbrev Ev(d:Nat)(x:E)(l:List V)(s:St)(v:V)(s':St):Prop:=Jq (Jr d) x l s=some (v,s')
abbrev Ep(d:Nat)(x:E)(l:List V)(s:St)(v:V):Prop:=Jq (Jr d) x l s=some (v,s)
abbrev Es(d:Nat)(x:S)(l:List V)(s:St)(l':List V)(s':St):Prop:=JJ (Jr d) x l s=some (.next,l',s')
noncomputable def yV(k:Nat):Bool:=k==6||k==10||k==12
noncomputable def Fj(k:Nat):Bool:=k==7||k==11||k==13
noncomputable def OC(lv:Int)(k:Nat):Int:=bif yV k then lv+1 else bif Fj k then lv - 1 else bif k==5 then -1 else lv
noncomputable def di:Int->List Nat->Bool
 | _,[]=>false
 | lv,k::r=>decide (OC lv k < 0)||di (OC lv k) r
noncomputable def bW(n:Nat)(ks:List Nat):Bool:=!di 0 ks.tail&&decide (ks.length < n+1)
noncomputable def bV(ks:List Nat):Bool:=match ks with
 | []=>true
 | k::_=>bif k==6 then bW 1 ks else bif k==10 then bW 2 ks else bif k==12 then bW 3 ks else false
noncomputable def Qe(k:Nat):Bool:=decide (4<=k)&&decide (k<=13)
noncomputable def nq:S:=match b_2 with | .cons _ (.cons (.for _ _ b) _)=>b | _=>.nil
theorem ev10{k:Nat}(h:Qe k=true):k=4∨k=5∨k=6∨k=7∨k=8∨k=9∨k=10∨k=11∨k=12∨k=13:=
 (by decide +kernel:∀k:Fin 14,Qe k.1=true->k.1=4∨k.1=5∨k.1=6∨k.1=7∨k.1=8∨k.1=9∨k.1=10∨k.1=11∨k.1=12∨k.1=13) ⟨k,S4 (kj (ly h).2)⟩ h
theorem wa{P:Nat->Prop}{k:Nat}(h:Qe k=true)(h4:P 4)(h5:P 5)(h6:P 6)(h7:P 7)(h8:P 8)(h9:P 9)(QW:P 10)(h11:P 11)(QV:P 12)(h13:P 13):P k:=by
 rcases ev10 h with rfl | rfl | rfl | rfl | rfl | rfl | rfl | rfl | rfl | rfl <;> assumption
theorem sQ(d:Nat)(s n:V)(lv:Int)(k:Nat)(f:List (Nat×B))(st:St)(h:Qe k=true):JJ (Jr d) nq [s,n,.i lv,.rc k f] st=
  some (bif decide (OC lv k < 0) then .ret .ff else .next,[s,n,.i (OC lv k),.rc k f],st):=by
 have hs:(Jr d).sup=ii:=by cases d <;> rfl
 have fin:∀k,∀Rq:Int,((bif decide (Rq < 0) then some (LD.ret .ff,[s,n,.i Rq,.rc k f],st) else some (LD.next,[s,n,.i Rq,.rc k f],st):Kf).bind λq=>thn q λl st=>some (.next,l,st))=some (bif decide (Rq < 0) then LD.ret .ff else .next,[s,n,.i Rq,.rc k f],st):=λk Rq=>by cases decide (Rq < 0) <;> rfl
 generalize Jr d=c at hs
 obtain⟨a1,a2,a3,a4,a5⟩:=c
 subst hs
 exact wa (P:=λk=>JJ ⟨a1,a2,ii,a4,a5⟩ nq [s,n,.i lv,.rc k f] st=some (bif decide (OC lv k < 0) then .ret .ff else .next,[s,n,.i (OC lv k),.rc k f],st)) h (fin 4 lv) (by exact fin 5 (-1)) (fin 6 (lv+1)) (fin 7 (lv - 1)) (fin 8 lv) (fin 9 lv) (fin 10 (lv+1)) (fin 11 (lv - 1)) (fin 12 (lv+1)) (fin 13 (lv - 1))
noncomputable def KG:V->Nat | .rc k _=>k | _=>99
noncomputable def bF(vs:List V):List Nat:=vs.map KG
def Kq(v:V):Prop:=∃k f,v=.rc k f/\Qe k=true
theorem dI{j:Nat}{vs r:List V}{st:St}{i:Nat}(hl:aI st (.ref j)=some (j,vs))(hd:vs.drop i=r):itemAt (.ref j) st i=some r.head?:=by
 show(Option.or none ((aI st (.ref j)).map _))=_
 rw[hl,<- hd,Ss];rfl
theorem ux(d:Nat)(s n:V){st:St}{j:Nat}{vs:List V}(hl:aI st (.ref j)=some (j,vs))(r:List V):∀(i:Nat)(lv:Int)(x:V)(fuel:Nat),vs.drop i=r->(∀v∈r,Kq v)->r.length < fuel->
  ∀{P:Prop},(∀y z,cy 3 (itemAt (.ref j)) (JJ (Jr d) nq) fuel i [s,n,.i lv,x] st=some (bif di lv (bF r) then .ret .ff else .next,[s,n,y,z],st)->P)->P:=by
 induction r with
 | nil=>
  intro i lv x fuel hd _ hf P post
  obtain⟨f,rfl⟩:=cN hf
  exact post _ _ (Jl (dI hl hd) U)
 | cons v r ih=>
  intro i lv x fuel hd he hf P post
  cases fuel with
  | zero=>exact absurd hf (Nat.not_lt_zero _)
  | succ f=>
   obtain⟨k,g,rfl,hk⟩:=he v (.head _)
   have hb:=sQ d s n lv k g st hk
   have cl:di lv (bF (.rc k g::r))=(decide (OC lv k < 0)||di (OC lv k) (bF r)):=rfl
   cases hc:decide (OC lv k < 0) with
   | true=>
    rw[hc]at hb cl
    rw[cl]at post
    exact post _ _ (Jl (dI hl hd) (Jl hb U))
   | false=>
    rw[hc]at hb cl
    rw[cl]at post
    exact ih (i+1) (OC lv k) (.rc k g) f (by rw[<- SA,hd];rfl) (λv hv=>he v (.tail _ hv)) (R7 hf) λy z e=>post y z (Jl (dI hl hd) (Jl hb e))
theorem go{c:Cx}{a b:S}{l l':List V}{st Jy:St}{R:Kf}(h:JJ c a l st=some (.next,l',Jy))(k:JJ c b l' Jy=R):JJ c (.cons a b) l st=R:=Jl h k
theorem KA{c:Cx}{a b:S}{l l':List V}{st Jy:St}{v:V}(h:JJ c a l st=some (.ret v,l',Jy)):JJ c (.cons a b) l st=some (.ret v,l',Jy):=Jl h U
structure Pp(st:St)(e q:Nat)(vs:List V):Prop where
 ins:∃fs,st.cur[e]?=some (.ins 0 fs)/\fs.lookup 68=some (.ref q)/\(fs.lookup 2).isNone=true
 lst:st.cur[q]?=some (.lst vs)
theorem Pp.al{st:St}{e q:Nat}{vs:List V}(h:Pp st e q vs)(o:Ob):Pp (alloc st o).2 e q vs:=by
 have up:∀{j:Nat}{o':Ob},st.cur[j]?=some o'->(alloc st o).2.cur[j]?=some o':=λhj=>(Sa (kh hj).1).trans hj
 obtain⟨fs,h1,h2⟩:=h.ins
 exact⟨⟨fs,up h1,h2⟩,up h.lst⟩
theorem Pp.ev{st:St}{e q:Nat}{vs:List V}(h:Pp st e q vs){c:Cx}{l:List V}(hl:l[0]?=some (.ref e)):Jq c MI l st=some (.ref q,st):=by
 obtain⟨fs,h1,h2,_⟩:=h.ins
 refine Jl (a:=(.ref e,st)) ?_ (lC (eD h1) h2)
 show(l[0]?).bind _=_
 rw[hl];rfl
theorem B3(vs:List V):ag vs (some 1) none=vs.tail:=by
 cases vs with
 | nil=>rfl
 | cons v vs=>
  show((v::vs).drop (min 1 (vs.length+1))).take (vs.length+1 - min 1 (vs.length+1))=vs
  rw[Sm (mn (mj _))]
  exact SJ (mf _)
theorem CQ{c:Cx}{e q:Nat}{st:St}{vs:List V}{l:List V}(h:Pp st e q vs)(h0:l[0]?=some (.ref e)):Jq c (.slice MI I4 I6) l st=some (alloc st (.lst vs.tail)):=by
 refine Jl (h.ev h0) ?_
 show(Option.or none (((aI st (.ref q)).map λl=>alloc st (.lst (ag l.2 (some 1) none))).or _))=_
 rw[ab h.lst]
 show some (alloc st (.lst (ag vs (some 1) none)))=_
 rw[B3]
theorem yG{c:Cx}{e q n:Nat}{st:St}{vs:List V}{l:List V}(h:Pp st e q vs)(h0:l[0]?=some (.ref e))(h1:l[1]?=some (.i n)):Jq c GJ l st=some (.o (decide ((bF vs).length < n+1)),st):=by
 have hlen:Jq c (.u1 .len MI) l st=some (.i ((bF vs).length),st):=by
  refine Jl (h.ev h0) ?_
  show(Option.or none ((aI _ (.ref q)).map _))=_
  rw[ab h.lst]
  exact kg (λn:Nat=>some (V.b (.int n),st)) (lf KG:(bF vs).length=_).symm
 have hn:Jq c I2 l st=some (.i n,st):=by show(l[1]?).bind _=_;rw[h1];rfl
 refine Jl hlen (Jl (Jl hn U) ?_)
 exact kg (λb=>some (V.b (.bool b),st)) (decide_eq_decide.mpr Int.ofNat_lt:decide (((bF vs).length:Int) < ((n+1:Nat):Int))=_)
theorem rZ(d:Nat){st:St}{e q:Nat}{vs:List V}(h:Pp st e q vs)(hv:∀v∈vs,Kq v)(hl:vs.length<=300)(n:Nat) :
  (Jr (d+1)).Jv 2 [.ref e,.i n] st=some (.o (bW n (bF vs)),(alloc st (.lst vs.tail)).2):=by
 have hj:aI (alloc st (.lst vs.tail)).2 (.ref st.cur.length)=some (st.cur.length,vs.tail):=ab (by
  show(st.cur++[_])[st.cur.length]?=_
  rw[R4 (mf _),Sl];rfl)
 have hw:(Jr d).wf=60000:=by cases d <;> rfl
 refine ux d (.ref e) (.i n) hj vs.tail 0 0 .uu 60000 U (λv hm=>hv v (List.mem_of_mem_tail hm)) (li (ke (lw List.length_tail) (ke (Nat.sub_le _ _) hl)) (by decide)) λy z e1=>?_
 have body:JJ (Jr d) (.for 3 (.slice MI I4 I6) nq) [.ref e,.i n,.i 0,.uu] st=some (bif di 0 (bF vs).tail then .ret .ff else .next,[.ref e,.i n,y,z],(alloc st (.lst vs.tail)).2):=by
  refine Jl (CQ h U) ?_
  show cy 3 (itemAt (.ref st.cur.length)) (JJ (Jr d) nq) (Jr d).wf 0 _ _=_
  rw[hw];exact(List.map_tail:bF vs.tail=(bF vs).tail)▸e1
 have whole:JJ (Jr d) b_2 [.ref e,.i n,.uu,.uu] st=some (.ret (.o (bW n (bF vs))),[.ref e,.i n,y,z],(alloc st (.lst vs.tail)).2):=by
  refine go (l':=[.ref e,.i n,.i 0,.uu]) (Jy:=st) U ?_
  unfold bW
  cases hc:di 0 (bF vs).tail with
  | true=>rw[hc]at body;exact KA body
  | false=>rw[hc]at body;exact go body (KA (kg (Option.map _) (yG (h.al (.lst vs.tail)) U U)))
 exact Jl (a:=f_2) (by cases d <;> rfl) (Jl whole U)
theorem bg(d:Nat):(Jr d).fns=gx:=by cases d <;> rfl
theorem dk(d:Nat):(Jr d).wf=60000:=by cases d <;> rfl
theorem sN(d:Nat){st:St}{e q:Nat}{vs:List V}(h:Pp st e q vs)(hv:∀v∈vs,Kq v)(hl:vs.length<=300)(n:Nat)(x:V) :
  JJ (Jr (d+1)) (.cons (.ret (.call 2 I0 (.pos (.n0 (.cst (.int n))) .nil))) .nil) [.ref e,x] st=some (.ret (.o (bW n (bF vs))),[.ref e,x],(alloc st (.lst vs.tail)).2):=
 h.ins.elim λfs h0=>KA (kg (Option.map _) (Jl (a:=(V.ref e,st)) U (Jl (Jl (eD h0.1) (Jl (a:=f_2) U (bU h0.2.2)):y5 (Jr (d+1)) 2 (.ref e) st=some f_2) (Jl (a:=(([V.b (.int n)],[]),st)) U (Jl (a:=[V.ref e,.i n]) U (rZ d h hv hl n)))):Ev (d+1) (.call 2 I0 (.pos (.n0 (.cst (.int n))) .nil)) [.ref e,x] st (.o (bW n (bF vs))) (alloc st (.lst vs.tail)).2))
noncomputable def uy:S:=match b_1 with | .cons _ (.cons _ r)=>r | _=>.nil
noncomputable def Pz(k:Nat):Nat:=bif k==6 then 1 else bif k==10 then 2 else bif k==12 then 3 else 0
theorem pU(d k e:Nat)(f:List (Nat×B))(st:St)(hk:Qe k=true){v:V}{l:List V}{s:St}:(Pz k=0->some (LD.ret .ff,[.ref e,.rc k f],st)=some (.ret v,l,s))->(∀n:Nat,Pz k=n+1->JJ (Jr (d+1)) (.cons (.ret (.call 2 I0 (.pos (.n0 (.cst (.int (n+1:Nat)))) .nil))) .nil) [.ref e,.rc k f] st=some (.ret v,l,s))->JJ (Jr (d+1)) uy [.ref e,.rc k f] st=some (.ret v,l,s):=
 wa (P:=λk=>(Pz k=0->some (LD.ret .ff,[.ref e,.rc k f],st)=some (.ret v,l,s))->(∀n:Nat,Pz k=n+1->JJ (Jr (d+1)) (.cons (.ret (.call 2 I0 (.pos (.n0 (.cst (.int (n+1:Nat)))) .nil))) .nil) [.ref e,.rc k f] st=some (.ret v,l,s))->JJ (Jr (d+1)) uy [.ref e,.rc k f] st=some (.ret v,l,s)) hk
  (λh0 J=>h0 U) (λh0 J=>h0 U) (λJ h1=>KA (h1 0 U)) (λh0 J=>h0 U) (λh0 J=>h0 U) (λh0 J=>h0 U) (λJ h1=>KA (KA (h1 1 U))) (λh0 J=>h0 U) (λJ h1=>KA (KA (KA (h1 2 U)))) (λh0 J=>h0 U)
theorem yx{k:Nat}{ks:List Nat}:bV (k::ks)=bif (Pz k==0) then false else bW (Pz k) (k::ks):=by
 show(bif k==6 then bW 1 (k::ks) else bif k==10 then bW 2 (k::ks) else bif k==12 then bW 3 (k::ks) else false)=_
 unfold Pz
 cases k==6 <;> cases k==10 <;> cases k==12 <;> rfl
theorem rY(d:Nat){st:St}{e q:Nat}{vs:List V}(h:Pp st e q vs)(hv:∀v∈vs,Kq v)(hl:vs.length<=300){P:Prop}(post:∀Jy,(Jr (d+2)).Jv 1 [.ref e] st=some (.o (bV (bF vs)),Jy)->((Jy=st∨Jy=(alloc st (.lst vs.tail)).2))->P):P:=by
 have hn:Ep (d+1) (.u1 .not MI) [.ref e,.uu] st (.o vs.isEmpty):=
  Jl (h.ev U) ((Ci (bX (ab h.lst))).trans (by show some (V.b (.bool (!!vs.isEmpty)),st)=_;rw[Bool.not_not]))
 have wrap:∀{b Jy l'},JJ (Jr (d+1)) b_1 [.ref e,.uu] st=some (.ret (.o b),l',Jy)->(Jr (d+2)).Jv 1 [.ref e] st=some (.o b,Jy):=λ{b Jy l'} h=>by
  show((JJ (Jr (d+1)) b_1 [.ref e,.uu] st).bind λq=>(EA q.1).map λv=>(v,q.2.2))=_
  exact Jl h U
 cases vs with
 | nil=>exact post st (wrap (KA (Jl hn U))) (.inl U)
 | cons v vs=>
  obtain⟨k,f,rfl,hk⟩:=hv v (.head _)
  have pre:∀{R},JJ (Jr (d+1)) uy [.ref e,.rc k f] st=R->JJ (Jr (d+1)) b_1 [.ref e,.uu] st=R:=λhr=>
   go (l':=[.ref e,.uu]) (Jy:=st) (Jl hn U) (go (l':=[.ref e,.rc k f]) (Jy:=st) (kg (Option.map _) (Jl (h.ev U) (Jl (a:=(V.b (.int 0),st)) U (kO (ab h.lst) (Sq _) U)):Ep (d+1) nI [.ref e,.uu] st (.rc k f))) hr)
  have nk:bV (bF (.rc k f::vs))=bif (Pz k==0) then false else bW (Pz k) (bF (.rc k f::vs)):=yx
  rw[nk]at post
  cases hq:Pz k with
  | zero=>rw[hq]at post;exact post st (wrap (pre (pU d k e f st hk (λJ=>rfl) (λn h=>absurd (hq.symm.trans h).symm (Nat.succ_ne_zero n))))) (.inl U)
  | succ n=>rw[hq]at post;exact post _ (wrap (l':=[.ref e,.rc k f]) (pre (pU d k e f st hk (λh=>absurd (hq.symm.trans h) (Nat.succ_ne_zero n)) (λm hm=>by cases Tb (hq.symm.trans hm);exact sN d h hv hl (n+1) _)))) (.inr U)
noncomputable def tk:Nat->S->S
 | n+1,.cons a r=>.cons a (tk n r)
 | _,_=>.nil
noncomputable def ah:Nat->S->S
 | n+1,.cons _ r=>ah n r
 | _,s=>s
noncomputable def LQ:S->S | .cons a _=>a | _=>.nil
theorem bz{c:Cx}{t a b:E}{l:List V}{st s1:St}{v:V}{u:Bool}(h:Jq c t l st=some (v,s1))(hu:truth s1 v=some u):Jq c (.Ju t a b) l st=bif u then Jq c a l s1 else Jq c b l s1:=Jl h (Jl hu U)
theorem Ae{c:Cx}{a b:E}{l:List V}{st s1:St}{v:V}{u:Bool}(h:Jq c a l st=some (v,s1))(hu:truth s1 v=some u):Jq c (.and a b) l st=bif u then Jq c b l s1 else some (v,s1):=Jl h (Jl hu U)
theorem Cb{c:Cx}{a b:E}{l:List V}{st s1:St}{v:V}{u:Bool}(h:Jq c a l st=some (v,s1))(hu:truth s1 v=some u):Jq c (.or a b) l st=bif u then some (v,s1) else Jq c b l s1:=Jl h (Jl hu U)
theorem aR{c:Cx}{e:E}{l:List V}{st s1:St}{v:V}(h:Jq c e l st=some (v,s1))(b:S):JJ c (.cons (.ret e) b) l st=some (.ret v,l,s1):=KA (kg (Option.map _) h)
theorem bP{c:Cx}{a b:E}{l:List V}{st:St}{u w:Bool}(h:Jq c a l st=some (.o u,st))(h':Jq c b l st=some (.o w,st)):Jq c (.and a b) l st=some (.o (u&&w),st):=by
 rw[Ae (u:=u) h U,h'];cases u <;> rfl
theorem cB{c:Cx}{a b:E}{l:List V}{st:St}{u w:Bool}(h:Jq c a l st=some (.o u,st))(h':Jq c b l st=some (.o w,st)):Jq c (.or a b) l st=some (.o (u||w),st):=by
 rw[Cb (u:=u) h U,h'];cases u <;> rfl
theorem EV{c:Cx}{a:E}{l:List V}{st:St}{u:Bool}(h:Jq c a l st=some (.o u,st)):Jq c (.u1 .not a) l st=some (.o (!u),st):=Jl h U
theorem aE{c:Cx}{k:Nat}{as:E}{l:List V}{st s1:St}{vs ws:List V}{f:Fn}{y:V×St}(h:Kv c as l st=some ((vs,[]),s1))(hf:c.fns[k]?=some f)(hl:aM f vs []=some ws)(ho:f.own=2)(hc:c.Jv k ws s1=some y):Jq c (.JG k as) l st=some y:=
 Jl h (Jl hf (Jl hl (Jl (a:=()) (bU (by rw[ho];rfl)) hc)))
theorem ay{d k:Nat}{f:Fn}{vs:List V}{st Jy:St}{v:V}{l:List V}(hf:gx[k]?=some f)(h:JJ (Jr d) f.body (vs++List.replicate (f.slots.length - f.JT) .uu) st=some (.ret v,l,Jy))(hv:ae v=false):(Jr (d+1)).Jv k vs st=some (v,Jy):=
 Jl (by rw[bg];exact hf) (Jl h (by show(af (!ae v) v).map _=_;rw[hv];rfl))
theorem aa{d k:Nat}{f:Fn}{vs:List V}{st Jy:St}{l:List V}(hf:gx[k]?=some f)(h:Es d f.body (vs++List.replicate (f.slots.length - f.JT) .uu) st l Jy):(Jr (d+1)).Jv k vs st=some (.b .nul,Jy):=
 Jl (by rw[bg];exact hf) (Jl h U)
theorem eH{c:Cx}{o e:E}{l:List V}{st s1:St}{k:Nat}{xs ys:List V}{v:V}(ho:Jq c o l st=some (.ref k,st))(hx:st.cur[k]?=some (.lst xs))(he:Jq c e l st=some (v,s1))(hy:s1.cur[k]?=some (.lst ys))(hl:ys.length < JL)(hu:ae v=false) :
  JJ c (.app o e) l st=some (.next,l,bx s1 k (.lst (ys++[v]))):=
 Jl ho (Jl (ab hx) (Jl he (Jl (ab hy) (bU (by (refine(hu)▸?_;refine(decide_eq_true hl).symm▸?_);rfl)))))
theorem p7:2000<=JL:=by decide
theorem ao{c:Cx}{t:E}{a b:S}{l:List V}{st s1:St}{v:V}{R:Kf}(h:Jq c t l st=some (v,s1))(hu:truth s1 v=some true)(k:JJ c a l s1=R):JJ c (.Ju t a b) l st=R:=Jl h (Jl hu k)
theorem aj{c:Cx}{t:E}{a b:S}{l:List V}{st s1:St}{v:V}{R:Kf}(h:Jq c t l st=some (v,s1))(hu:truth s1 v=some false)(k:JJ c b l s1=R):JJ c (.Ju t a b) l st=R:=Jl h (Jl hu k)
structure Wr where
 col:Int
 line:Int
 ws:Bool
 ind:Bool
 KJ:Bool
 rows:List Tx
structure Op where
 enc:V
 Jo:B
 wide:B
 bi:Int
 bw:Int
 lb:Tx
structure Ct where
 indent:B
 lvl:Int
 root:Bool
 sq:Bool
 mp:Bool
 sk:Bool
structure Ms where
 Lo:V
 Js:B
 tag:B
 J0:V
 JE:B
structure Sk where
 state:V
 event:V
 Jt:List V
 events:List V
 Jw:List V
structure Em where
 w:Wr
 o:Op
 c:Ct
 m:Ms
 k:Sk
noncomputable def MF(e:Em):List (Nat×V):=[(64,.ref 0),(65,e.o.enc),(66,.ref 3),(67,e.k.state),(68,.ref 4),(69,e.k.event),(70,.ref 5),(71,.b e.c.indent),(72,.i e.c.lvl),(73,.o e.c.root),(74,.o e.c.sq),(75,.o e.c.mp),(76,.o e.c.sk),(77,.i e.w.line),(78,.i e.w.col),(79,.o e.w.ws),(80,.o e.w.ind),(81,.o e.w.KJ),(82,.b e.o.Jo),(83,.b e.o.wide),(84,.i e.o.bi),(85,.i e.o.bw),(86,.s e.o.lb),(87,e.m.Lo),(88,.b e.m.Js),(89,.b e.m.tag),(90,e.m.J0),(91,.b e.m.JE)]
noncomputable def Jm(e:Em)(g:List Ob):St:=⟨.ins 1 [(107,.ref 1)]::.lst (aq e.w.rows)::.ins 0 (MF e)::.lst e.k.Jt::.lst e.k.events::.lst e.k.Jw::g,[]⟩
noncomputable def Wr.put(w:Wr)(s:Tx):Wr:=⟨w.col,w.line,w.ws,w.ind,w.KJ,w.rows++[s]⟩
noncomputable def Em.W(e:Em)(w:Wr):Em:=⟨w,e.o,e.c,e.m,e.k⟩
noncomputable def Em.C(e:Em)(c:Ct):Em:=⟨e.w,e.o,c,e.m,e.k⟩
noncomputable def Em.M(e:Em)(m:Ms):Em:=⟨e.w,e.o,e.c,m,e.k⟩
noncomputable def Em.K(e:Em)(k:Sk):Em:=⟨e.w,e.o,e.c,e.m,k⟩
abbrev Em.ok(e:Em)(n:Nat):Prop:=e.w.rows.length+n<=JL
section
variable{ch d j k m n p:Nat}{r val:Tx}{a as:E}{fs kw:List (Nat×Internal.V)}{f fa:List (Nat×Internal.B)}{l l' l1 vs ws:List Internal.V}{v y z:Internal.V}{JE Js fl tag x:Internal.B}{Jy:St}{P:Prop}{c:Cx}{b i0 i1 u:Bool}{w w':Wr}{e:Em}{R:Kf}{q:Internal.S}{G g:List Ob}{Q:Em->List Ob->Prop}
section
variable{st s1:St}{b:E}{w:Bool}
theorem yf(h:e.w.rows.length+(n+1)<=JL):(aq e.w.rows).length < JL:=(lf (as:=e.w.rows) (λt=>V.b (.str t))).symm▸lh (Nat.lt_add_of_pos_right (Nat.succ_pos n)) h
theorem bS{s t:Tx}(h:s.length+t.length<=JL):f2 (.bin .add) (.s s) (.s t) st=some (.s (s++t),st):=
 (kg (λo=>Option.or (Option.map (λv=>(v,st)) (Option.or none (Option.or o none))) none) (bU (decide_eq_true h):Df .add s t=some (.s (s++t))):_)
theorem uX{s:Tx}{n:Int}(h:sO .mul s n=some (.s r)):f2 (.bin .mul) (.s s) (.i n) st=some (.s r,st):=
 (kg (λo=>Option.or (Option.map (λv=>(v,st)) (Option.or none (Option.or none o))) none) h:_)
theorem A0{o:E}{cl:Nat}{f:Fn}{y:V×St}(ho:Jq c o l st=some (.ref j,st))(hj:st.cur[j]?=some (.ins cl fs))(hf:c.fns[k]?=some f)(hc:f.own=cl)(hn:(fs.lookup k).isNone=true)(ha:Kv c as l st=some ((vs,kw),s1))(hl:aM f (.ref j::vs) kw=some ws)(hr:c.Jv k ws s1=some y):Jq c (.call k o as) l st=some y:=
 Jl ho (Jl (Jl (eD hj) (Jl hf (bU (by rw[hc,hn,beq_self_eq_true];rfl))):y5 c k (.ref j) st=some f) (Jl ha (Jl hl hr)))
theorem aB(h:l[0]?=some (.ref 2)):Jq c I0 l st=some (.ref 2,st):=by show(l[0]?).bind _=_;rw[h];rfl
theorem az{y:V×St}(f:Fn)(h0:l[0]?=some (.ref 2))(hf:gx[k]?=some f)(ho:f.own=0)(hn:((MF e).lookup k).isNone=true)(ha:Kv (Jr d) as l (Jm e g)=some ((vs,kw),Jm e g))(hw:aM f (.ref 2::vs) kw=some ws)(hr:(Jr d).Jv k ws (Jm e g)=some y):Jq (Jr d) (.call k I0 as) l (Jm e g)=some y:=
 A0 (aB h0) U (by rw[bg];exact hf) ho hn ha hw hr
theorem aG{y:V×St}(h:Jq c a l st=some y):JJ c (.expr a) l st=some (.next,l,y.2):=kg (Option.map _) h
theorem qY(d:Nat)(s:Tx)(h:e.ok 1):(Jr (d+1)).Jv 57 [.ref 0,.s s] (Jm e g)=some (.b .nul,Jm (e.W (e.w.put s)) g):=by
 have h1:Es d Gv [.ref 0,.s s] (Jm e g) [.ref 0,.s s] (Jm (e.W (e.w.put s)) g):=by
  refine go (eH (k:=1) (ys:=aq e.w.rows) (v:=.s s) (s1:=Jm e g) U U U U (yf h) U) ?_
  exact kg (λl=>some (LD.next,[V.ref 0,V.b (.str s)],(⟨.ins 1 [(107,.ref 1)]::.lst l::.ins 0 (MF e)::.lst e.k.Jt::.lst e.k.events::.lst e.k.Jw::g,[]⟩:St))) (by unfold aq Em.W Wr.put;rw[R5];rfl)
 exact aa (f:=zh) U h1
theorem lJ(d:Nat){x:E}{s:Tx}(h0:l[0]?=some (.ref 2))(hx:Ep (d+1) x l (Jm e g) (.s s))(h:e.ok 1):Es (d+1) (.expr (.call 57 Qt (.pos x .nil))) l (Jm e g) l (Jm (e.W (e.w.put s)) g):=
 have ho:Ep (d+1) Qt l (Jm e g) (.ref 0):=Jl (aB h0) U
 aG (A0 (f:=zh) (as:=.pos x .nil) (kw:=[]) (s1:=Jm e g) (vs:=[.s s]) ho U (by rw[bg];rfl) U U (Jl hx U) U (qY d s h))
noncomputable def Wr.brk(w:Wr)(s:Tx):Wr:=⟨0,w.line+1,true,true,w.KJ,w.rows++[s]⟩
noncomputable def Cv(lb:Tx):B->Tx | .str s=>s | _=>lb
theorem ie(d:Nat)(x:B)(hx:x=.nul∨∃s,x=.str s)(h:e.ok 1):(Jr (d+2)).Jv 48 [.ref 2,.b x] (Jm e g)=some (.b .nul,Jm (e.W (e.w.brk (Cv e.o.lb x))) g):=by
 have h1:Es (d+1) Dh [.ref 2,.b x] (Jm e g) [.ref 2,.s (Cv e.o.lb x)] (Jm (e.W (e.w.brk (Cv e.o.lb x))) g):=by
  have fin:∀s:Tx,Es (d+1) (ah 1 Dh) [.ref 2,.s s] (Jm e g) [.ref 2,.s s] (Jm (e.W (e.w.brk s)) g):=λs=>
   go (l':=[.ref 2,.s s]) (Jy:=Jm (e.W ⟨e.w.col,e.w.line,true,e.w.ind,e.w.KJ,e.w.rows⟩) g) U <| go (l':=[.ref 2,.s s]) (Jy:=Jm (e.W ⟨e.w.col,e.w.line,true,true,e.w.KJ,e.w.rows⟩) g) U <|
    go (l':=[.ref 2,.s s]) (Jy:=Jm (e.W ⟨e.w.col,e.w.line+1,true,true,e.w.KJ,e.w.rows⟩) g) U <| go (l':=[.ref 2,.s s]) (Jy:=Jm (e.W ⟨0,e.w.line+1,true,true,e.w.KJ,e.w.rows⟩) g) U <|
    go (lJ d (e:=e.W ⟨0,e.w.line+1,true,true,e.w.KJ,e.w.rows⟩) U U h) U
  rcases hx with rfl | ⟨s,rfl⟩
  ·exact go (l':=[.ref 2,.s e.o.lb]) (Jy:=Jm e g) U (fin _)
  ·exact go (l':=[.ref 2,.s s]) (Jy:=Jm e g) U (fin _)
 exact aa (f:=oH) U h1
end
noncomputable def Wr.sgn(w:Wr)(s:Tx)(nw:Bool)(Kt:Bool)(i:Bool):Wr:=
 let t:=bif w.ws||!nw then s else 32::s
 ⟨w.col+(t.length:Int),w.line,Kt,w.ind&&i,false,w.rows++[t]⟩
section
theorem bK{st:St}(h:Jq c a l st=some (v,Jy)):JJ c (.asg [k] a) l st=some (.next,l.set k v,Jy):=kg (Option.map _) h
theorem cj(d:Nat)(s:Tx)(nw Kt i:Bool)(hs:s.length<=2000)(h:e.ok 1):(Jr (d+2)).Jv 46 [.ref 2,.s s,.o nw,.o Kt,.o i] (Jm e g)=some (.b .nul,Jm (e.W (e.w.sgn s nw Kt i)) g):=by
 have tl:∀t:Tx,t=(bif e.w.ws||!nw then s else 32::s)->Es (d+1) (ah 1 Gz) [.ref 2,.s s,.o nw,.o Kt,.o i,.s t] (Jm e g) [.ref 2,.s s,.o nw,.o Kt,.o i,.s t] (Jm (e.W (e.w.sgn s nw Kt i)) g):=λt ht=>by
  subst ht
  generalize ht:(bif e.w.ws||!nw then s else 32::s)=t
  have e4:e.w.sgn s nw Kt i=⟨e.w.col+(t.length:Int),e.w.line,Kt,e.w.ind&&i,false,e.w.rows++[t]⟩:=by rw[<- ht];rfl
  rw[e4]
  exact go (l':=[.ref 2,.s s,.o nw,.o Kt,.o i,.s t]) (Jy:=Jm (e.W ⟨e.w.col,e.w.line,Kt,e.w.ind,e.w.KJ,e.w.rows⟩) g) U <|
   go (l':=[.ref 2,.s s,.o nw,.o Kt,.o i,.s t]) (Jy:=Jm (e.W ⟨e.w.col,e.w.line,Kt,e.w.ind&&i,e.w.KJ,e.w.rows⟩) g) (Jl (bP U U) U) <|
   go (l':=[.ref 2,.s s,.o nw,.o Kt,.o i,.s t]) (Jy:=Jm (e.W ⟨e.w.col+(t.length:Int),e.w.line,Kt,e.w.ind&&i,e.w.KJ,e.w.rows⟩) g) U <|
   go (l':=[.ref 2,.s s,.o nw,.o Kt,.o i,.s t]) (Jy:=Jm (e.W ⟨e.w.col+(t.length:Int),e.w.line,Kt,e.w.ind&&i,false,e.w.rows⟩) g) U <|
   go (lJ d (e:=e.W ⟨e.w.col+(t.length:Int),e.w.line,Kt,e.w.ind&&i,false,e.w.rows⟩) U U h) U
 have hq:Ep (d+1) (.or (.u1 (.JY 79) I0) (.u1 .not I7)) [.ref 2,.s s,.o nw,.o Kt,.o i,.uu] (Jm e g) (.o (e.w.ws||!nw)):=cB U U
 refine aa (f:=gy) (l:=[.ref 2,.s s,.o nw,.o Kt,.o i,.s (bif e.w.ws||!nw then s else 32::s)]) U (go (Jy:=Jm e g) ?_ (tl _ U))
 cases hc:e.w.ws||!nw with
 | true=>exact ao hq (kg some hc) (go U U)
 | false=>exact aj hq (kg some hc) (go (bK (v:=.s (32::s)) (Jl (a:=(.s [32],Jm e g)) U (Jl (a:=(.s s,Jm e g)) U (bS (s:=[32]) (ke (mc hs 1) (by decide)))))) U)
noncomputable def ar:B->Int | .int i=>i | _=>0
noncomputable def ap(n:Int):Tx:=(List.replicate n.toNat [32]).flatten
noncomputable def Wr.Nz(w:Wr)(i:Int):Bool:=!w.ind||(decide (i < w.col)||(w.col==i&&!w.ws))
noncomputable def Wr.pad(w:Wr)(i:Int):Wr:=bif decide (w.col < i) then⟨i,w.line,true,w.ind,w.KJ,w.rows++[ap (i - w.col)]⟩ else w
noncomputable def Wr.JH(w:Wr)(i:Int)(lb:Tx):Wr:=(bif w.Nz i then w.brk lb else w).pad i
def JI(x:B):Prop:=x=.nul∨∃i:Int,x=.int i/\i<=2000
theorem JI.le(h:JI x):ar x<=2000:=by
 rcases h with rfl | ⟨i,rfl,h⟩
 ·exact(by decide:(0:Int)<=2000)
 ·exact h
theorem JI.or(h:JI e.c.indent){x:V}:Ep d (.or tw Lm) [.ref 2,x,y] (Jm e g) (.i (ar e.c.indent)):=by
 have h1:Ep d tw [.ref 2,x,y] (Jm e g) (.b e.c.indent):=rfl
 rcases h with h | ⟨i,h,_⟩
 ·rw[h]at h1 ⊢
  exact Jl h1 U
 ·rw[h]at h1 ⊢
  by_cases h0:i=0
  ·rw[h0]at h1 ⊢;exact Jl h1 U
  ·exact Jl h1 (Jl (a:=true) (kg some (bne_iff_ne.mpr h0)) U)
theorem pO(d:Nat){i:Int}(hi:i<=2000)(hc:0<=e.w.col)(h:e.ok 1)(post:∀x,Es (d+1) (ah 2 z7) [.ref 2,.i i,.uu] (Jm e g) [.ref 2,.i i,x] (Jm (e.W (e.w.pad i)) g)->P):P:=by
 have hq:Ep (d+1) (.b2 (.cmp .lt) pa I2) [.ref 2,.i i,.uu] (Jm e g) (.o (decide (e.w.col < i))):=rfl
 cases hb:decide (e.w.col < i) with
 | false=>
  rw[hb]at hq
  exact post .uu (by unfold Wr.pad;rw[hb];exact go (aj hq U U) U)
 | true=>
  rw[hb]at hq
  have e1:e.w.pad i=⟨i,e.w.line,true,e.w.ind,e.w.KJ,e.w.rows++[ap (i - e.w.col)]⟩:=by unfold Wr.pad;rw[hb];rfl
  have KH:=kj hb
  have gd:sO .mul [32] (i - e.w.col)=some (.s (ap (i - e.w.col))):=bU (by
   have h1:-1000000<=i - e.w.col:=by lia
   have h2:([32]:Tx).length*(i - e.w.col).toNat<=JL:=by
    have:(i - e.w.col).toNat<=2000:=by lia
    rw[show([32]:Tx).length=1 from rfl,Nat.one_mul];exact ke this p7
   rw[decide_eq_true h1,decide_eq_true h2];rfl)
  refine post (.s (ap (i - e.w.col))) ?_
  rw[e1]
  refine go (ao hq U ?_) U
  exact go (l':=[.ref 2,.i i,.uu]) (Jy:=Jm (e.W ⟨e.w.col,e.w.line,true,e.w.ind,e.w.KJ,e.w.rows⟩) g) U <|
   go (bK (v:=.s (ap (i - e.w.col))) (Jy:=Jm (e.W ⟨e.w.col,e.w.line,true,e.w.ind,e.w.KJ,e.w.rows⟩) g) (Jl (a:=(.s [32],Jm (e.W ⟨e.w.col,e.w.line,true,e.w.ind,e.w.KJ,e.w.rows⟩) g)) U (Jl (a:=(.i (i - e.w.col),Jm (e.W ⟨e.w.col,e.w.line,true,e.w.ind,e.w.KJ,e.w.rows⟩) g)) U
    (uX gd)))) <|
   go (l':=[.ref 2,.i i,.s (ap (i - e.w.col))]) (Jy:=Jm (e.W ⟨i,e.w.line,true,e.w.ind,e.w.KJ,e.w.rows⟩) g) U <|
   go (lJ d (e:=e.W ⟨i,e.w.line,true,e.w.ind,e.w.KJ,e.w.rows⟩) U U h) U
theorem fV(d:Nat)(hi:JI e.c.indent)(hc:0<=e.w.col)(h:e.ok 2):(Jr (d+3)).Jv 47 [.ref 2] (Jm e g)=some (.b .nul,Jm (e.W (e.w.JH (ar e.c.indent) e.o.lb)) g):=by
 have hq:Ep (d+2) I90 [.ref 2,.i (ar e.c.indent),.uu] (Jm e g) (.o (e.w.Nz (ar e.c.indent))):=cB U (cB U (bP U U))
 have pre:∀{R},JJ (Jr (d+2)) (ah 1 z7) [.ref 2,.i (ar e.c.indent),.uu] (Jm e g)=R->JJ (Jr (d+2)) z7 [.ref 2,.uu,.uu] (Jm e g)=R:=λhr=>go (l':=[.ref 2,.i (ar e.c.indent),.uu]) (bK hi.or) hr
 cases hb:e.w.Nz (ar e.c.indent) with
 | false=>
  rw[hb]at hq
  have e1:e.w.JH (ar e.c.indent) e.o.lb=e.w.pad (ar e.c.indent):=by unfold Wr.JH;rw[hb];rfl
  rw[e1]
  exact pO (d+1) hi.le hc (mq h) λx hx=>aa (f:=kU) U (pre (go (aj hq U U) hx))
 | true=>
  rw[hb]at hq
  have e1:e.w.JH (ar e.c.indent) e.o.lb=(e.w.brk e.o.lb).pad (ar e.c.indent):=by unfold Wr.JH;rw[hb];rfl
  rw[e1]
  have h2:(e.W (e.w.brk e.o.lb)).ok 1:=by show(e.w.rows++[_]).length+1<=JL;rw[ku];exact h
  exact pO (d+1) (e:=e.W (e.w.brk e.o.lb)) hi.le (Sq 0) h2 λx hx=>aa (f:=kU) U (pre (go (ao hq U (go (aG (az oH (vs:=[]) (kw:=[]) (ws:=[.ref 2,.b .nul]) U U U U U U (ie d .nul (.inl U) (mq h)))) U)) hx))
end
noncomputable def Oa{α:Type}(f:Nat->α->α)(a:α):Nat->α
 | 0=>a
 | i+1=>f i (Oa f a i)
theorem d9{t:E}{b:S}{I:Nat->List V->St->Prop}(step:∀i,i<=n->∀l st,I i l st->Jq c t l st=some (.tt,st)/\∀{P:Prop},(∀l' Jy,JJ c b l st=some (.next,l',Jy)->I (i+1) l' Jy->P)->P)(stop:∀l st,I (n+1) l st->Jq c t l st=some (.ff,st))(hw:n+2<=c.wf)
   {st:St} (h0:I 0 l st)  (post:∀l' Jy,JJ c (.while t b) l st=some (.next,l',Jy)->I (n+1) l' Jy->P):P:=by
 have main:∀k i fuel,i+k=n+1->k < fuel->∀l st,I i l st->∀{P:Prop},(∀l' Jy,cQ (Jq c t) (JJ c b) fuel l st=some (.next,l',Jy)->I (n+1) l' Jy->P)->P:=by
  intro k
  induction k with
  | zero=>
   intro i fuel hi hf l st h P post
   obtain rfl:i=n+1:=hi
   obtain⟨f,rfl⟩:∃f,fuel=f+1:=⟨fuel - 1,(R9 hf).symm⟩
   exact post l st (Jl (stop l st h) U) h
  | succ k ih=>
   intro i fuel hi hf l st h P post
   obtain⟨f,rfl⟩:∃f,fuel=f+1:=⟨fuel - 1,(R9 (R8 (li (mn (mj k)) hf))).symm⟩
   have hl:i<=n:=by lia
   obtain⟨h1,h2⟩:=step i hl l st h
   refine h2 λl' Jy hb h'=>ih (i+1) f (by rw[<- hi,SO,Td 1 k]) (R7 hf) l' Jy h' λl'' st'' hr QY=>post l'' st'' (Jl h1 (Jl (a:=true) U (Jl hb hr))) QY
 exact main (n+1) 0 c.wf (SE _) (Nat.lt_of_succ_le hw) l st h0 post
def Gr(w w':Wr)(n:Nat):Prop:=(0<=w.col->0<=w'.col)/\w'.rows.length<=w.rows.length+n
theorem Gr.refl:Gr w w n:=⟨id,lu _ _⟩
theorem Gr.trans{w'':Wr}(h:Gr w w' n)(h':Gr w' w'' m):Gr w w'' (n+m):=⟨λx=>h'.1 (h.1 x),ke h'.2 (by rw[<- SO];exact Se h.2 m)⟩
theorem Gr.le(h:Gr w w' n)(hm:n<=m):Gr w w' m:=⟨h.1,ke h.2 (mc hm _)⟩
theorem Gr.ok(h:Gr e.w w' n)(ho:e.ok (n+m)):(e.W w').ok m:=ke (Se h.2 m) (by rw[SO];exact ho)
theorem kR(w:Wr)(s:Tx):Gr w (w.brk s) 1:=⟨λJ=>Sq 0,lw (ku)⟩
theorem aY(w:Wr)(s:Tx)(a b i:Bool):Gr w (w.sgn s a b i) 1:=⟨λh=>Int.add_nonneg h (Sr _),lw (ku)⟩
theorem vB(w:Wr)(i:Int):Gr w (w.pad i) 1:=by
 unfold Wr.pad
 cases h:decide (w.col < i) with
 | true=>exact⟨λh0=>SN (Int.lt_of_le_of_lt h0 (kj h)),lw (ku)⟩
 | false=>exact .refl
theorem bZ(w:Wr)(i:Int)(lb:Tx):Gr w (w.JH i lb) 2:=by
 unfold Wr.JH
 cases w.Nz i with
 | true=>exact(kR w lb).trans (vB _ i)
 | false=>exact(vB w i).le (mw 1)
noncomputable def Wr.raw(w:Wr)(s:Tx):Wr:=⟨w.col+(s.length:Int),w.line,w.ws,w.ind,w.KJ,w.rows++[s]⟩
theorem bY(w:Wr)(s:Tx):Gr w (w.raw s) 1:=⟨λh=>Int.add_nonneg h (Sr _),lw (ku)⟩
noncomputable def Wr.Pg(lb:Tx)(w:Wr)(s:Tx):Wr:=s.foldl (λw c=>w.brk (bif c==10 then lb else [c])) w
theorem kQ(lb:Tx)(s:Tx):∀w:Wr,Gr w (w.Pg lb s) s.length:=by
 induction s with
 | nil=>exact λw=>.refl
 | cons c s ih=>exact λw=>((kR w _).trans (ih _)).le (lw (Td 1 _))
noncomputable def bN(c:Nat):Bool:=decide (c∈[10,133,8232,8233])
noncomputable def Ka(t:Tx)(a i:Nat):Tx:=ag t (some (a:Int)) (some (i:Int))
noncomputable def brB(k:Nat):S:=.cons (.Ju (.b2 (.cmp .eq) (.n0 (.loc k)) OK) Ax (.cons (.expr (.call 48 I0 (.pos (.n0 (.loc k)) .nil))) .nil)) .nil
section
theorem aC{st:St}(h:l[k]?=some v)(hv:ae v=false):Jq c (.n0 (.loc k)) l st=some (v,st):=by show(l[k]?).bind _=_;rw[h];exact bU (by rw[hv];rfl)
theorem zY(d k c:Nat)(h0:l[0]?=some (.ref 2))(hk:l[k]?=some (.s [c]))(h:e.ok 1):Es (d+2) (brB k) l (Jm e g) l (Jm (e.W (e.w.brk (bif c==10 then e.o.lb else [c]))) g):=by
 have hq:Ep (d+2) (.b2 (.cmp .eq) (.n0 (.loc k)) OK) l (Jm e g) (.o ([c]==[10])):=Jl (aC hk U) U
 have hb:([c]==([10]:Tx))=(c==10):=by rw[SR,beq_iff_eq,beq_iff_eq];exact⟨λh=>by injection h,λh=>h▸rfl⟩
 rw[hb]at hq
 cases hc:c==10 with
 | true=>
  rw[hc]at hq
  exact go (ao hq U (go (aG (az oH (vs:=[]) (kw:=[]) (ws:=[.ref 2,.b .nul]) h0 U U U U U (ie d .nul (.inl U) h))) U)) U
 | false=>
  rw[hc]at hq
  exact go (aj hq U (go (aG (az oH (vs:=[.s [c]]) (kw:=[]) (ws:=[.ref 2,.s [c]]) h0 U U U (Jl (aC hk U) U) U (ie d (.str [c]) (.inr ⟨_,rfl⟩) h))) U)) U
theorem wK(d k:Nat)(hk0:0 < k)(s:Tx):∀(r:Tx)(i:Nat)(e:Em)(l:List V)(fuel:Nat),s.drop i=r->k < l.length->l[0]?=some (.ref 2)->e.ok r.length->r.length < fuel->∀{P:Prop},(∀x,cy k (itemAt (.s s)) (JJ (Jr (d+2)) (brB k)) fuel i l (Jm e g)=some (.next,l.set k x,Jm (e.W (e.w.Pg e.o.lb r)) g)->P)->P:=by
 intro r
 induction r with
 | nil=>
  intro i e l fuel hd hl h0 ho hf P post
  obtain⟨f,rfl⟩:∃f,fuel=f+1:=⟨fuel - 1,(R9 hf).symm⟩
  have hi:s[i]?=none:=by rw[<- Ss,hd];rfl
  refine post (l[k]'hl) ?_
  rw[List.set_getElem_self]
  have hit:itemAt (.s s) (Jm e g) i=some none:=by show(some ((s[i]?).map λx=>V.b (.str [x]))).or _=_;rw[hi];rfl
  exact Jl hit U
 | cons c r ih=>
  intro i e l fuel hd hl h0 ho hf P post
  obtain⟨f,rfl⟩:∃f,fuel=f+1:=⟨fuel - 1,(R9 (li (mj _) hf)).symm⟩
  have hi:s[i]?=some c:=by rw[<- Ss,hd];rfl
  have hb:=zY (g:=g) (e:=e) (l:=l.set k (.s [c])) d k c (by rw[Sd (SF hk0)];exact h0) (SK hl) (ke (mc (mn (mj _)) _) ho)
  refine ih (i+1) (e.W (e.w.brk (bif c==10 then e.o.lb else [c]))) (l.set k (.s [c])) f (by rw[<- SA,hd];rfl) (by rw[List.length_set];exact hl) (by rw[Sd (SF hk0)];exact h0) ((kR e.w _).ok (by rw[Td];exact ho)) (R7 hf) λx hx=>post x ?_
  rw[List.set_set]at hx
  have hit:itemAt (.s s) (Jm e g) i=some (some (.s [c])):=by show(some ((s[i]?).map λx=>V.b (.str [x]))).or _=_;rw[hi];rfl
  exact Jl hit (Jl hb hx)
theorem zX(d k a b:Nat)(hk0:0 < k){t:Tx}{i:Nat}(hk:k < l.length)(h0:l[0]?=some (.ref 2))(h1:l[1]?=some (.s t))(ha:l[a]?=some (.i p))(hb:l[b]?=some (.i i))(ho:e.ok (Ka t p i).length)(hl:(Ka t p i).length < 400)(post:∀x,Es (d+2) (.for k (.slice I2 (.n0 (.loc a)) (.n0 (.loc b))) (brB k)) l (Jm e g) (l.set k x) (Jm (e.W (e.w.Pg e.o.lb (Ka t p i))) g)->P):P:=
 wK d k hk0 (Ka t p i) (Ka t p i) 0 e l (60000+BS (.s (Ka t p i))) U hk h0 ho (lh hl (ke (by decide) (lu 60000 _))) λx hx=>post x (Jl (a:=(.s (Ka t p i),Jm e g)) (Jl (aC h1 U) (Jl (aC ha U) (Jl (aC hb U) U))) (by rw[dk];exact hx))
theorem cq(d k:Nat){s:Tx}{r:S}(h0:l[0]?=some (.ref 2))(hk:l[k]?=some (.s s))(h:e.ok 1)(kr:JJ (Jr (d+1)) r l (Jm (e.W (e.w.raw s)) g)=R):JJ (Jr (d+1)) (.cons (.KU 78 .add I0 (.u1 .len (.n0 (.loc k)))) (.cons (.expr (.call 57 Qt (.pos (.n0 (.loc k)) .nil))) r)) l (Jm e g)=R:=
 go (l':=l) (Jy:=Jm (e.W ⟨e.w.col+(s.length:Int),e.w.line,e.w.ws,e.w.ind,e.w.KJ,e.w.rows⟩) g) (Jl (aB h0) (Jl (a:=.i e.w.col) U (Jl (a:=(.i s.length,Jm e g)) (Jl (aC hk U) U) U))) <|
  go (lJ d (e:=e.W ⟨e.w.col+(s.length:Int),e.w.line,e.w.ws,e.w.ind,e.w.KJ,e.w.rows⟩) h0 (aC hk U) h) kr
theorem dG(a b:Nat){t:Tx}{i:Nat}{st:St}(h1:l[1]?=some (.s t))(ha:l[a]?=some (.i p))(hb:l[b]?=some (.i i)):Jq c (.slice I2 (.n0 (.loc a)) (.n0 (.loc b))) l st=some (.s (Ka t p i),st):=Jl (aC h1 U) (Jl (aC ha U) (Jl (aC hb U) U))
end
noncomputable def jy(c:Nat):Bool:=decide (c∈[32,10,133,8232,8233])
theorem mT{t:Tx}{k:Int}{c:Nat}{st:St}(h:kP t k=some c):f2 .idx (.s t) (.i k) st=some (.s [c],st):=by
 show Option.map _ (Option.or (Option.or (Option.map _ (kP t k)) _) _)=_
 rw[h];rfl
noncomputable def bE(c:Nat):Bool:=[c]==([32]:Tx)
noncomputable def mC(t:Tx)(p:Nat):Bool:=(t[p]?).any λx=>[x]==([10]:Tx)
noncomputable def Mf(t:Tx)(i:Nat):V:=match t[i]? with | some c=>.b (.str [c]) | none=>.b .nul
theorem jZ(t:Tx)(a i:Nat):(Ka t a i).length<=t.length:=by
 unfold Ka ag
 rw[Sn,Sy]
 exact ke (Nat.min_le_right _ _) (Nat.sub_le _ _)
section
variable{st:St}
theorem mU{t:Tx}{i c:Nat}(h:t[i]?=some c):kP t (i:Int)=some c:=by
 unfold kP
 rw[if_pos (Sr i)]
 exact h
theorem oM{t:Tx}{i:Nat}(k n:Nat){r:S}(hk:k < l.length)(hk1:k≠1)(hkn:k≠n)(h1:l[1]?=some (.s t))(hn:l[n]?=some (.i i))(hi:i<=t.length)(kr:JJ c r (l.set k (Mf t i)) st=R) :
  JJ c (.cons (.asg [k] I6) (.cons (.Ju (.b2 (.cmp .lt) (.n0 (.loc n)) LU) (.cons (.asg [k] (.b2 .idx I2 (.n0 (.loc n)))) .nil) .nil) r)) l st=R:=by
 refine go (l':=l.set k (.b .nul)) (Jy:=st) U ?_
 have QX:(l.set k (.b .nul))[1]?=some (.s t):=by rw[Sd hk1];exact h1
 have hn':(l.set k (.b .nul))[n]?=some (.i i):=by rw[Sd hkn];exact hn
 have q:Jq c (.b2 (.cmp .lt) (.n0 (.loc n)) LU) (l.set k (.b .nul)) st=some (.o (decide ((i:Int) < t.length)),st):=Jl (aC hn' U) (Jl (Jl (aC QX U) U) U)
 unfold Mf at kr
 cases hq:t[i]? with
 | none=>
  rw[hq]at kr
  have:¬ (i:Int) < t.length:=by have:=List.getElem?_eq_none_iff.mp hq;lia
  rw[decide_eq_false this]at q
  exact go (aj q U U) kr
 | some x=>
  rw[hq]at kr
  have:(i:Int) < t.length:=by have:=(kh hq).1;lia
  rw[decide_eq_true this]at q
  refine go (ao q U (go (bK (v:=.s [x]) (Jl (aC QX U) (Jl (aC hn' U) (mT (mU hq))))) U)) ?_
  rw[List.set_set];exact kr
theorem eC{t:Tx}{i:Nat}(n:Nat)(h1:l[1]?=some (.s t))(hn:l[n]?=some (.i i)):Jq c (.b2 (.cmp .le) (.n0 (.loc n)) LU) l st=some (.o (decide ((i:Int)<=t.length)),st):=Jl (aC hn U) (Jl (Jl (aC h1 U) U) U)
end
noncomputable def whB:S->S | .cons (.while _ b) _=>b | _=>.nil
theorem oB{α:Type}{f:Nat->α->α}{p:α->Wr}{n:Nat}(h:∀i s,Gr (p s) (p (f i s)) n)(a:α):∀i,Gr (p a) (p (Oa f a i)) (n*i)
 | 0=>Gr.refl
 | i+1=>(oB h a i).trans (h i _)
noncomputable def eV(t:Tx):Nat:=(t.length+4)*(t.length+2)+10
theorem n4{t:Tx}{i:Nat}(h:i<=t.length):(t.length+4)*i+(t.length+4)+8<=eV t:=by
 have:(t.length+4)*(i+1)<=(t.length+4)*(t.length+2):=Nat.mul_le_mul_left _ (Sv (mn h))
 unfold eV
 rw[Nat.mul_add,Nat.mul_one]at this
 exact ke (Se this 8) (mc (by decide) _)
noncomputable def Wr.off(w:Wr):Wr:=⟨w.col,w.line,false,false,w.KJ,w.rows⟩
noncomputable def Wr.PZ(w:Wr)(t:Tx)(ind:Int)(lb:Tx)(bw:Int)(split:Bool)(p i:Nat):Wr:=bif ((p:Int)+1==(i:Int))&&(decide (bw < w.col)&&split) then(w.JH ind lb).off else w.raw (Ka t p i)
structure OI where
 w:Wr
 sp:Bool
 st:Nat
def iA(t:Tx):Prop:=∀c∈t,bN c=false
section
variable(t:Tx)(ind:Int)(lb:Tx)(bw:Int)(split:Bool)(i:Nat)(s:OI)
noncomputable def pN:OI:=bif s.sp then⟨s.w.PZ t ind lb bw split s.st i,s.sp,i⟩ else⟨s.w.raw (Ka t s.st i),s.sp,i⟩
noncomputable def uD(c:Nat):OI:=bif s.sp then(bif bE c then⟨s.w,true,s.st⟩ else⟨s.w.PZ t ind lb bw split s.st i,false,i⟩) else bif bE c then⟨s.w.raw (Ka t s.st i),true,i⟩ else⟨s.w,false,s.st⟩
noncomputable def fE:OI:=match t[i]? with | none=>pN t ind lb bw split i s | some c=>uD t ind lb bw split i s c
end
noncomputable def ym:S:=whB (ah 8 Gw)
section
variable{t:Tx}{ind:Int}{lb:Tx}{bw:Int}{split:Bool}{i c:Nat}{s:OI}
theorem n7(h:t[i]?=none):fE t ind lb bw split i s=pN t ind lb bw split i s:=by unfold fE;rw[h]
theorem n6(h:t[i]?=some c):fE t ind lb bw split i s=uD t ind lb bw split i s c:=by unfold fE;rw[h]
theorem vE(w:Wr)(t:Tx)(ind:Int)(lb:Tx)(bw:Int)(split:Bool)(p i:Nat):Gr w (w.PZ t ind lb bw split p i) 2:=by
 unfold Wr.PZ
 cases ((p:Int)+1==(i:Int))&&(decide (bw < w.col)&&split) with
 | true=>exact bZ w ind lb
 | false=>exact(bY w _).le (by decide)
theorem pM(t:Tx)(ind:Int)(lb:Tx)(bw:Int)(split:Bool)(i:Nat)(s:OI):Gr s.w (fE t ind lb bw split i s).w 2:=by
 obtain⟨w,sp,p⟩:=s
 cases hq:t[i]? with
 | none=>
  rw[n7 hq]
  unfold pN
  cases sp with
  | true=>exact vE w t ind lb bw split p i
  | false=>exact(bY w _).le (by decide)
 | some c=>
  rw[n6 hq]
  unfold uD
  cases sp with
  | true=>cases bE c with
   | true=>exact Gr.refl (w:=w)
   | false=>exact vE w t ind lb bw split p i
  | false=>cases bE c with
   | true=>exact(bY w _).le (by decide)
   | false=>exact Gr.refl (w:=w)
theorem mQ{c:Nat}(h:bN c=false):jy c=bE c:=by
 have h:=of_decide_eq_false h
 unfold jy bE
 rw[SR,decide_eq_true_iff,beq_iff_eq]
 exact⟨λhm=>(kl hm).elim (λe=>e▸rfl) λhm=>absurd hm h,λe=>by injection e with e;exact e▸.head _⟩
end
section
noncomputable def fF(t:Tx)(split sp:Bool)(p:Nat)(x y z:V)(i:Nat):List V:=[.ref 2,.s t,.o split,.o sp,.ff,.i p,x,y,z,.i i]
noncomputable def HO:S:=.cons I38 Qr
theorem hH(d:Nat){r:S}(h0:l[0]?=some (.ref 2))(kr:JJ (Jr d) r l (Jm (e.W e.w.off) g)=R):JJ (Jr d) (.cons ti (.cons th r)) l (Jm e g)=R:=
 go (l':=l) (Jy:=Jm (e.W ⟨e.w.col,e.w.line,false,e.w.ind,e.w.KJ,e.w.rows⟩) g) (Jl (a:=(.ff,Jm e g)) U (Jl (aB h0) U)) <|
  go (l':=l) (Jy:=Jm (e.W e.w.off) g) (Jl (a:=(.ff,Jm (e.W ⟨e.w.col,e.w.line,false,e.w.ind,e.w.KJ,e.w.rows⟩) g)) U (Jl (aB h0) U)) kr
theorem uC(d:Nat){t:Tx}{split sp:Bool}{i:Nat}{x:V}(hd:JI e.c.indent)(hc:0<=e.w.col)(ho:e.ok 2)(post:∀x',Es (d+3) HO (fF t split sp p x y z i) (Jm e g) (fF t split sp i x' y z i) (Jm (e.W (e.w.PZ t (ar e.c.indent) e.o.lb e.o.bw split p i)) g)->P):P:=by
 have q:Ep (d+3) (.and DE (.and I68 I7)) (fF t split sp p x y z i) (Jm e g) (.o (((p:Int)+1==(i:Int))&&(decide (e.o.bw < e.w.col)&&split))):=bP U (bP U U)
 unfold Wr.PZ at post
 cases hq:((p:Int)+1==(i:Int))&&(decide (e.o.bw < e.w.col)&&split) with
 | true=>
  rw[hq]at post q
  exact post x (go (ao q U (go (aG (az kU (vs:=[]) (kw:=[]) (ws:=[.ref 2]) U U U U U U (fV d hd hc ho))) (hH (e:=e.W (e.w.JH (ar e.c.indent) e.o.lb)) (d+3) U U))) (go U U))
 | false=>
  rw[hq]at post q
  exact post (.s (Ka t p i)) (go (aj q U (go (bK (dG 5 9 U U U)) (cq (d+2) 6 U U (mq ho) U))) (go U U))
theorem uB(d:Nat){t:Tx}{split:Bool}{i:Nat}(s:OI)(hi:i<=t.length)(hb:iA t)(hd:JI e.c.indent)(hc:0<=s.w.col)(ho:(e.W s.w).ok 2)(x y z:V)
  (post:∀x' y' z',Es (d+3) ym (fF t split s.sp s.st x y z i) (Jm (e.W s.w) g) (fF t split (fE t (ar e.c.indent) e.o.lb e.o.bw split i s).sp (fE t (ar e.c.indent) e.o.lb e.o.bw split i s).st x' y' z' (i+1)) (Jm (e.W (fE t (ar e.c.indent) e.o.lb e.o.bw split i s).w) g)->P):P:=by
 obtain⟨w,sp,p⟩:=s
 have o1:(e.W w).ok 1:=mq ho
 have cr:=λ(R:Kf)=>oM (c:=Jr (d+3)) (st:=Jm (e.W w) g) (R:=R) (l:=fF t split sp p x y z i) (r:=ah 2 ym) 7 9 (by decide:7 < 10) (by decide) (by decide) U U hi
 have mr:=λ(sp:Bool) (ch:V) {Q:Prop}=>uC (e:=e.W w) (g:=g) d (t:=t) (split:=split) (sp:=sp) (p:=p) (i:=i) (x:=x) (y:=ch) (z:=z) hd hc ho (P:=Q)
 cases hq:t[i]? with
 | none=>
  have hv:Mf t i=.b .nul:=by unfold Mf;rw[hq]
  rw[n7 hq]at post
  unfold pN at post
  rw[hv]at cr
  cases sp with
  | true=>
   refine mr true (.b .nul) λx' hm=>post x' (.b .nul) z (cr _ ?_)
   exact go (ao U U (go (ao (v:=.tt) U U hm) U)) (go (aj (v:=.ff) U U U) (go U U))
  | false=>
   refine post (.s (Ka t p i)) (.b .nul) z (cr _ ?_)
   exact go (aj U U (go (aj U U (go (ao (v:=.tt) U U (go (bK (dG 5 9 U U U)) (cq (d+2) 6 U U o1 (go U U)))) U)) U)) (go (aj (v:=.ff) U U U) (go U U))
 | some c=>
  have hv:Mf t i=.s [c]:=by unfold Mf;rw[hq]
  have hbc:bN c=false:=hb c (lx hq)
  rw[n6 hq]at post
  unfold uD at post
  rw[hv]at cr
  have tl:∀{w:Wr}{sp:Bool}{p:Nat}{x z:V},Es (d+3) (ah 3 ym) (fF t split sp p x (.s [c]) z i) (Jm (e.W w) g) (fF t split (bE c) p x (.s [c]) z (i+1)) (Jm (e.W w) g):=λ{w sp p x z}=>by
   have q3:Ep (d+3) (.b2 (.cmp .LO) L7 Qs) (fF t split (bE c) p x (.s [c]) z i) (Jm (e.W w) g) (.o (bN c)):=rfl
   rw[hbc]at q3
   exact go (ao (v:=.tt) U U (go (l':=fF t split (bE c) p x (.s [c]) z i) (Jy:=Jm (e.W w) g) U (go (bK q3) U))) (go U U)
  have qS:∀{sp:Bool},Ep (d+3) (.b2 (.cmp .ne) L7 Ll) (fF t split sp p x (.s [c]) z i) (Jm (e.W w) g) (.o (!bE c)):=rfl
  have qI:∀{sp:Bool},Ep (d+3) G9 (fF t split sp p x (.s [c]) z i) (Jm (e.W w) g) (.o (bE c)):=by
   rw[<- mQ hbc];exact rfl
  cases hs:bE c with
  | true=>
   rw[hs]at post tl qS qI
   cases sp with
   | true=>exact post x (.s [c]) z (cr _ (go (ao U U (go (aj qS U U) U)) tl))
   | false=>exact post (.s (Ka t p i)) (.s [c]) z (cr _ (go (aj U U (go (aj U U (go (ao qI U (go (bK (dG 5 9 U U U)) (cq (d+2) 6 U U o1 (go U U)))) U)) U)) tl))
  | false=>
   rw[hs]at post tl qS qI
   cases sp with
   | true=>exact mr true (.s [c]) λx' hm=>post x' (.s [c]) z (cr _ (go (ao U U (go (ao qS U hm) U)) tl))
   | false=>exact post x (.s [c]) z (cr _ (go (aj U U (go (aj U U (go (aj qI U U) U)) U)) tl))
noncomputable def l6(t:Tx)(ind:Int)(lb:Tx)(bw:Int)(split:Bool)(w:Wr)(i:Nat):OI:=Oa (fE t ind lb bw split) ⟨w,false,0⟩ i
noncomputable def Wr.M5(w:Wr)(root:Bool):Wr:=⟨w.col,w.line,w.ws,w.ind,bif root then true else w.KJ,w.rows⟩
noncomputable def Wr.gap(w:Wr):Wr:=bif w.ws then w else w.raw [32]
noncomputable def Wr.OA(w:Wr)(t:Tx)(ind bw:Int)(lb:Tx)(split root:Bool):Wr:=bif t.isEmpty then w.M5 root else(l6 t ind lb bw split (w.M5 root).gap.off (t.length+1)).w
theorem yl(d:Nat){t:Tx}{split:Bool}(ht:t.length < 390)(hb:iA t)(hd:JI e.c.indent)(hc:0<=e.w.col)(ho:e.ok (eV t)):(Jr (d+4)).Jv 56 [.ref 2,.s t,.o split] (Jm e g)=some (.b .nul,Jm (e.W (e.w.OA t (ar e.c.indent) e.o.bw e.o.lb split e.c.root)) g):=by
 have s0:∀{R r},JJ (Jr (d+3)) r [.ref 2,.s t,.o split,.uu,.uu,.uu,.uu,.uu,.uu,.uu] (Jm (e.W (e.w.M5 e.c.root)) g)=R->JJ (Jr (d+3)) (.cons GO r) [.ref 2,.s t,.o split,.uu,.uu,.uu,.uu,.uu,.uu,.uu] (Jm e g)=R:=λ{R r} hr=>by
  have q:Ep (d+3) (.u1 (.JY 73) I0) [.ref 2,.s t,.o split,.uu,.uu,.uu,.uu,.uu,.uu,.uu] (Jm e g) (.o e.c.root):=rfl
  unfold Wr.M5 at hr
  cases hr':e.c.root with
  | true=>rw[hr']at q hr;exact go (ao q U (go (l':=[.ref 2,.s t,.o split,.uu,.uu,.uu,.uu,.uu,.uu,.uu]) (Jy:=Jm (e.W ⟨e.w.col,e.w.line,e.w.ws,e.w.ind,true,e.w.rows⟩) g) U U)) hr
  | false=>rw[hr']at q hr;exact go (aj q U U) hr
 unfold Wr.OA
 have c1:0<=(e.w.M5 e.c.root).col:=hc
 have r1:(e.w.M5 e.c.root).rows.length=e.w.rows.length:=rfl
 generalize e.w.M5 e.c.root=w1 at s0 c1 r1
 cases t with
 | nil=>exact ay (f:=vY) U (s0 (KA (ao (v:=.tt) U U (KA U)))) U
 | cons c0 r0=>
 generalize ht0:c0::r0=t at*
 have LP:Ep (d+3) gF [.ref 2,.s t,.o split,.uu,.uu,.uu,.uu,.uu,.uu,.uu] (Jm (e.W w1) g) .ff:=by rw[<- ht0];rfl
 have hem:t.isEmpty=false:=by rw[<- ht0];rfl
 rw[hem]
 have OU:∀n,n<=10->(e.W w1).ok n:=λn h=>ke (S8 (lw r1) (ke h (mu 10 _))) ho
 have g3:Gr w1 w1.gap.off 1:=by
  unfold Wr.gap
  cases w1.ws with
  | true=>exact⟨id,mw _⟩
  | false=>exact bY w1 [32]
 have s1:∀{P:Prop},(∀x,(∀{R r},JJ (Jr (d+3)) r [.ref 2,.s t,.o split,.uu,.uu,.uu,x,.uu,.uu,.uu] (Jm (e.W w1.gap.off) g)=R->JJ (Jr (d+3)) (.cons (.Ju Av (.cons (.asg [6] Ll) I77) .nil) (.cons ti (.cons th r))) [.ref 2,.s t,.o split,.uu,.uu,.uu,.uu,.uu,.uu,.uu] (Jm (e.W w1) g)=R)->P)->P:=by
  intro P k
  have q:∀{l:List V},l[0]?=some (.ref 2)->Ep (d+3) Av l (Jm (e.W w1) g) (.o (!w1.ws)):=λh=>Jl (Jl (aB h) U) U
  unfold Wr.gap at k
  cases hw:w1.ws with
  | true=>
   rw[hw]at k q
   exact k .uu λhr=>go (aj (q U) U U) (hH (e:=e.W w1) (d+3) U hr)
  | false=>
   rw[hw]at k q
   exact k (.s [32]) λhr=>go (ao (q U) U (go (l':=[.ref 2,.s t,.o split,.uu,.uu,.uu,.s [32],.uu,.uu,.uu]) (Jy:=Jm (e.W w1) g) U (cq (e:=e.W w1) (d+2) 6 U U (OU 1 (by decide)) U))) (hH (e:=e.W (w1.raw [32])) (d+3) U hr)
 have G:∀i,Gr w1 (l6 t (ar e.c.indent) e.o.lb e.o.bw split w1.gap.off i).w (1+2*i):=λi=>g3.trans (oB (p:=OI.w) (pM t (ar e.c.indent) e.o.lb e.o.bw split) ⟨w1.gap.off,false,0⟩ i)
 have o3:∀i,i<=t.length->(e.W (l6 t (ar e.c.indent) e.o.lb e.o.bw split w1.gap.off i).w).ok 2:=λi hi=>(G i).ok (e:=e.W w1) (ke (S8 (lw r1) (by
  have h1:=n4 hi
  have h2:2*i<=(t.length+4)*i:=Nat.mul_le_mul_right i (ke (by decide) (mu 4 _))
  lia)) ho)
 have e0:l6 t (ar e.c.indent) e.o.lb e.o.bw split w1.gap.off 0=⟨w1.gap.off,false,0⟩:=rfl
 have eS:∀i,l6 t (ar e.c.indent) e.o.lb e.o.bw split w1.gap.off (i+1)=fE t (ar e.c.indent) e.o.lb e.o.bw split i (l6 t (ar e.c.indent) e.o.lb e.o.bw split w1.gap.off i):=λJ=>rfl
 generalize l6 t (ar e.c.indent) e.o.lb e.o.bw split w1.gap.off=F at G o3 e0 eS
 refine s1 λx s1=>?_
 refine d9 (c:=Jr (d+3)) (t:=.b2 (.cmp .le) Lv LU) (b:=ym) (n:=t.length) (I:=λi l st=>∃x y z,l=fF t split (F i).sp (F i).st x y z i/\st=Jm (e.W (F i).w) g)
  (λi hi l st=>?_) (λl st=>?_) (by rw[dk];lia) ⟨x,.uu,.uu,rfl,rfl⟩ λl' Jy hr hx=>?_
 ·rintro ⟨x,y,z,rfl,rfl⟩
  refine⟨(eC 9 U U).trans (by rw[decide_eq_true (Int.ofNat_le.mpr hi)]),λ{P} post=>?_⟩
  exact uB (e:=e) (g:=g) d (F i) hi hb hd ((G i).1 c1) (o3 i hi) x y z λx' y' z' hs=>post _ _ hs ⟨x',y',z',by rw[eS],by rw[eS]⟩
 ·rintro ⟨x,y,z,rfl,rfl⟩
  exact(eC 9 U U).trans (by rw[decide_eq_false (by lia)])
 ·obtain⟨x',y',z',rfl,rfl⟩:=hx
  rw[e0]at hr
  exact aa (f:=vY) U <| s0 <| go (aj LP U U) <| s1 <|
   go (l':=[.ref 2,.s t,.o split,.ff,.uu,.uu,x,.uu,.uu,.uu]) (Jy:=Jm (e.W w1.gap.off) g) U <| go (l':=[.ref 2,.s t,.o split,.ff,.ff,.uu,x,.uu,.uu,.uu]) (Jy:=Jm (e.W w1.gap.off) g) U <|
   go (l':=fF t split false 0 x .uu .uu 0) (Jy:=Jm (e.W w1.gap.off) g) U <| go hr U
end
noncomputable def isQ(c:Nat):Bool:=[c]==([39]:Tx)
noncomputable def Wr.N9(w:Wr)(t:Tx)(ind:Int)(lb:Tx)(bw:Int)(split:Bool)(p i:Nat):Wr:=bif ((p:Int)+1==(i:Int))&&(decide (bw < w.col)&&(split&&(((p:Int) != 0)&&((i:Int) != (t.length:Int))))) then w.JH ind lb else w.raw (Ka t p i)
noncomputable def Wr.brd(w:Wr)(t:Tx)(ind:Int)(lb:Tx)(p i:Nat):Wr:=((bif mC t p then w.brk lb else w).Pg lb (Ka t p i)).JH ind lb
noncomputable def Wr.Ls(w:Wr)(t:Tx)(p i:Nat):Wr:=bif decide ((p:Int) < i) then w.raw (Ka t p i) else w
noncomputable def Le(p i:Nat):Nat:=bif decide ((p:Int) < i) then i else p
structure SS where
 w:Wr
 sp:Bool
 brk:Bool
 st:Nat
section
variable(t:Tx)(ind:Int)(lb:Tx)(bw:Int)(split:Bool)(i:Nat)(s:SS)
noncomputable def xS:SS:=bif s.sp then⟨s.w.N9 t ind lb bw split s.st i,s.sp,s.brk,i⟩ else bif s.brk then⟨s.w.brd t ind lb s.st i,s.sp,s.brk,i⟩ else⟨s.w.Ls t s.st i,s.sp,s.brk,Le s.st i⟩
noncomputable def Nu(c:Nat):SS:=bif s.sp then(bif bE c then s else⟨s.w.N9 t ind lb bw split s.st i,s.sp,s.brk,i⟩) else bif s.brk then(bif bN c then s else⟨s.w.brd t ind lb s.st i,s.sp,s.brk,i⟩) else bif jy c||isQ c then⟨s.w.Ls t s.st i,s.sp,s.brk,Le s.st i⟩ else s
noncomputable def sqQ(c:Nat):SS:=bif isQ c then⟨s.w.raw [39,39],bE c,bN c,i+1⟩ else⟨s.w,bE c,bN c,s.st⟩
noncomputable def Nj:SS:=match t[i]? with | none=>xS t ind lb bw split i s | some c=>sqQ i (Nu t ind lb bw split i s c) c
end
noncomputable def sqB:S:=whB (ah 4 Gy)
section
variable{t:Tx}{ind:Int}{lb:Tx}{bw:Int}{split:Bool}{i c:Nat}{s:SS}
theorem tX(h:t[i]?=none):Nj t ind lb bw split i s=xS t ind lb bw split i s:=by unfold Nj;rw[h]
theorem tW(h:t[i]?=some c):Nj t ind lb bw split i s=sqQ i (Nu t ind lb bw split i s c) c:=by unfold Nj;rw[h]
theorem vC(w:Wr)(t:Tx)(ind:Int)(lb:Tx)(bw:Int)(split:Bool)(p i:Nat):Gr w (w.N9 t ind lb bw split p i) 2:=by
 unfold Wr.N9
 cases ((p:Int)+1==(i:Int))&&(decide (bw < w.col)&&(split&&(((p:Int) != 0)&&((i:Int) != (t.length:Int))))) with
 | true=>exact bZ w ind lb
 | false=>exact(bY w _).le (by decide)
theorem Bb(w:Wr)(t:Tx)(lb:Tx)(p:Nat):Gr w (bif mC t p then w.brk lb else w) 1:=by
 cases mC t p with
 | true=>exact kR w lb
 | false=>exact Gr.refl
theorem vH(w:Wr)(t:Tx)(ind:Int)(lb:Tx)(p i:Nat):Gr w (w.brd t ind lb p i) (t.length+3):=
 (((Bb w t lb p).trans (kQ lb (Ka t p i) _)).trans (bZ _ ind lb)).le (by have:=jZ t p i;lia)
theorem iJ(w:Wr)(t:Tx)(p i:Nat):Gr w (w.Ls t p i) 1:=by
 unfold Wr.Ls
 cases decide ((p:Int) < i) with
 | true=>exact bY w _
 | false=>exact Gr.refl
theorem kS{i:Nat}(h:p<=i):Le p i=i:=by
 unfold Le
 cases hd:decide ((p:Int) < i) with
 | true=>rfl
 | false=>have:=of_decide_eq_false hd;show p=i;lia
def SS.Inv(s:SS)(i:Nat):Prop:=s.st<=i/\(s.brk=true->s.st < i)
theorem tY(t:Tx)(ind:Int)(lb:Tx)(bw:Int)(split:Bool)(i:Nat)(s:SS)(c:Nat)(hs:s.st<=i):Gr s.w (Nu t ind lb bw split i s c).w (t.length+3)/\(Nu t ind lb bw split i s c).st<=i/\(bN c=true->s.Inv i->(Nu t ind lb bw split i s c).st < i+1):=by
 obtain⟨w,sp,b,p⟩:=s
 unfold Nu
 have k:∀n,n<=3->n<=t.length+3:=λn h=>ke h (mu _ _)
 have l1:i < i+1:=So i
 have hs:p<=i:=hs
 cases sp with
 | true=>cases bE c with
  | true=>exact⟨Gr.refl (w:=w),hs,λJ J=>S4 hs⟩
  | false=>exact⟨(vC w t ind lb bw split p i).le (k 2 (by decide)),mf i,λJ J=>l1⟩
 | false=>cases b with
  | true=>cases bN c with
   | true=>exact⟨Gr.refl (w:=w),hs,λJ J=>S4 hs⟩
   | false=>exact⟨vH w t ind lb p i,mf i,λJ J=>l1⟩
  | false=>cases jy c||isQ c with
   | true=>exact⟨(iJ w t p i).le (k 1 (by decide)),lw (kS hs),λJ J=>S4 (lw (kS hs))⟩
   | false=>exact⟨Gr.refl (w:=w),hs,λJ J=>S4 hs⟩
theorem nO(t:Tx)(ind:Int)(lb:Tx)(bw:Int)(split:Bool)(i:Nat)(s:SS)(h:s.Inv i):Gr s.w (Nj t ind lb bw split i s).w (t.length+4)/\(i < t.length->(Nj t ind lb bw split i s).Inv (i+1)):=by
 cases hq:t[i]? with
 | none=>
  rw[tX hq]
  refine⟨?_,λhi=>absurd hi (Nat.not_lt.mpr (List.getElem?_eq_none_iff.mp hq))⟩
  obtain⟨w,sp,b,p⟩:=s
  unfold xS
  cases sp with
  | true=>exact(vC w t ind lb bw split p i).le (ke (by decide:2<=4) (mu _ _))
  | false=>cases b with
   | true=>exact(vH w t ind lb p i).le (mw _)
   | false=>exact(iJ w t p i).le (ke (by decide:1<=4) (mu _ _))
 | some c=>
  rw[tW hq]
  obtain⟨g,h1,h2⟩:=tY t ind lb bw split i s c h.1
  generalize Nu t ind lb bw split i s c=s1 at g h1 h2
  unfold sqQ
  have nb:isQ c=true->bN c=false:=λhq=>by
   have e:c=39:=by have:=ld hq;injection this
   rw[e];rfl
  cases hQ:isQ c with
  | true=>exact⟨g.trans (bY s1.w _),λJ=>⟨mf _,λhb=>absurd ((nb hQ).symm.trans hb) SI⟩⟩
  | false=>exact⟨g.le (mw _),λJ=>⟨Sv h1,λhb=>h2 hb h⟩⟩
end
section
noncomputable def Lg(t:Tx)(split sp b:Bool)(p:Nat)(x y z:V)(i:Nat):List V:=[.ref 2,.s t,.o split,.o sp,.o b,.i p,x,y,z,.i i]
noncomputable def HF:S:=.cons I87 Qr
theorem xT(d:Nat){t:Tx}{split sp:Bool}{i:Nat}{x:V}(hd:JI e.c.indent)(hc:0<=e.w.col)(ho:e.ok 2)(post:∀y',Es (d+3) HF (Lg t split sp b p x y z i) (Jm e g) (Lg t split sp b i x y' z i) (Jm (e.W (e.w.N9 t (ar e.c.indent) e.o.lb e.o.bw split p i)) g)->P):P:=by
 have q:Ep (d+3) I32 (Lg t split sp b p x y z i) (Jm e g) (.o (((p:Int)+1==(i:Int))&&(decide (e.o.bw < e.w.col)&&(split&&(((p:Int) != 0)&&((i:Int) != (t.length:Int))))))):=bP U (bP U (bP U (bP U U)))
 unfold Wr.N9 at post
 cases hq:((p:Int)+1==(i:Int))&&(decide (e.o.bw < e.w.col)&&(split&&(((p:Int) != 0)&&((i:Int) != (t.length:Int))))) with
 | true=>
  rw[hq]at post q
  exact post y (go (ao q U (go (aG (az kU (vs:=[]) (kw:=[]) (ws:=[.ref 2]) U U U U U U (fV d hd hc ho))) U)) (go U U))
 | false=>
  rw[hq]at post q
  exact post (.s (Ka t p i)) (go (aj q U (go (bK (dG 5 9 U U U)) (cq (d+2) 7 U U (mq ho) U))) (go U U))
noncomputable def sqD:S:=.cons I49 (.cons (.for 8 tu (brB 8)) (.cons OL Qr))
theorem xV(d:Nat){t:Tx}{split sp:Bool}{i:Nat}{x:V}(ht:t.length < 390)(hp:p < t.length)(hd:JI e.c.indent)(hc:0<=e.w.col)(ho:e.ok (t.length+3))(post:∀z',Es (d+3) sqD (Lg t split sp b p x y z i) (Jm e g) (Lg t split sp b i x y z' i) (Jm (e.W (e.w.brd t (ar e.c.indent) e.o.lb p i)) g)->P):P:=by
 obtain⟨u,hu⟩:∃u,t[p]?=some u:=⟨_,kq hp⟩
 have sl:=jZ t p i
 have q0:Ep (d+3) (.b2 (.cmp .eq) (.b2 .idx I2 I9) OK) (Lg t split sp b p x y z i) (Jm e g) (.o (mC t p)):=by
  unfold mC;rw[hu]
  exact Jl (a:=(.s [u],Jm e g)) (Jl (a:=(.s t,Jm e g)) U (Jl (a:=(.i p,Jm e g)) U (mT (mU hu)))) U
 have s1:Es (d+3) I49 (Lg t split sp b p x y z i) (Jm e g) (Lg t split sp b p x y z i) (Jm (e.W (bif mC t p then e.w.brk e.o.lb else e.w)) g):=by
  cases hB:mC t p with
  | true=>rw[hB]at q0;exact ao q0 U (go (aG (az oH (vs:=[]) (kw:=[]) (ws:=[.ref 2,.b .nul]) U U U U U U (ie (e:=e) (g:=g) (d+1) .nul (.inl U) (ke (mc (by lia) _) ho)))) U)
  | false=>rw[hB]at q0;exact aj q0 U U
 have g1:=Bb e.w t e.o.lb p
 unfold Wr.brd at post
 generalize (bif mC t p then e.w.brk e.o.lb else e.w)=w1 at s1 g1 post
 have o4:(e.W w1).ok ((Ka t p i).length+2):=g1.ok (ke (mc (by lia) _) ho)
 have dr:=fV (e:=e.W (w1.Pg e.o.lb (Ka t p i))) (g:=g) d hd ((kQ e.o.lb (Ka t p i) w1).1 (g1.1 hc)) ((kQ e.o.lb (Ka t p i) w1).ok (e:=e.W w1) o4)
 refine zX (e:=e.W w1) (g:=g) (l:=Lg t split sp b p x y z i) (d+1) 8 5 9 (by decide) (by decide:8 < 10) U U U U (ke (mc (lu _ 2) _) o4) (by lia) λz' hz=>post z' ?_
 exact go s1 (go hz (go (aG (az kU (vs:=[]) (kw:=[]) (ws:=[.ref 2]) U U U U U U dr)) (go U U)))
noncomputable def sqF:S:=.cons I86 .nil
theorem xU(d:Nat){t:Tx}{split sp:Bool}{i:Nat}{x:V}(ho:e.ok 1)(post:∀y',Es (d+3) sqF (Lg t split sp b p x y z i) (Jm e g) (Lg t split sp b (Le p i) x y' z i) (Jm (e.W (e.w.Ls t p i)) g)->P):P:=by
 have q:Ep (d+3) (.b2 (.cmp .lt) I9 Lv) (Lg t split sp b p x y z i) (Jm e g) (.o (decide ((p:Int) < i))):=rfl
 unfold Wr.Ls Le at post
 cases hq:decide ((p:Int) < i) with
 | true=>
  rw[hq]at post q
  exact post (.s (Ka t p i)) (go (ao q U (go (bK (dG 5 9 U U U)) (cq (d+2) 7 U U ho (go U U)))) U)
 | false=>
  rw[hq]at post q
  exact post y (go (aj q U U) U)
theorem xR(d:Nat){t:Tx}{split:Bool}{i:Nat}(s:SS)(hi:i<=t.length)(ht:t.length < 390)(Mt:s.Inv i)(hd:JI e.c.indent)(hc:0<=s.w.col)(ho:(e.W s.w).ok (t.length+4))(x y z:V)
  (post:∀x' y' z',Es (d+3) sqB (Lg t split s.sp s.brk s.st x y z i) (Jm (e.W s.w) g) (Lg t split (Nj t (ar e.c.indent) e.o.lb e.o.bw split i s).sp (Nj t (ar e.c.indent) e.o.lb e.o.bw split i s).brk (Nj t (ar e.c.indent) e.o.lb e.o.bw split i s).st x' y' z' (i+1)) (Jm (e.W (Nj t (ar e.c.indent) e.o.lb e.o.bw split i s).w) g)->P):P:=by
 have cr:=λ(R:Kf)=>oM (c:=Jr (d+3)) (st:=Jm (e.W s.w) g) (R:=R) (l:=Lg t split s.sp s.brk s.st x y z i) (r:=ah 2 sqB) 6 9 (by decide:6 < 10) (by decide) (by decide) U U hi
 have o1:(e.W s.w).ok 1:=ke (mc (ke (by decide:1<=4) (mu _ _)) _) ho
 have o2:(e.W s.w).ok 2:=ke (mc (ke (by decide:2<=4) (mu _ _)) _) ho
 have o3:(e.W s.w).ok (t.length+3):=mq ho
 have hbp:s.brk=true->s.st < t.length:=λh=>lh (Mt.2 h) hi
 have mr:=λ(sp b:Bool) (p:Nat) (ch:V) (h2:(e.W s.w).ok 2) {Q:Prop}=>xT (e:=e.W s.w) (g:=g) d (t:=t) (split:=split) (sp:=sp) (b:=b) (p:=p) (i:=i) (x:=ch) (y:=y) (z:=z) hd hc h2 (P:=Q)
 have dr:=λ(sp b:Bool) (p:Nat) (ch:V) (hp:p < t.length) {Q:Prop}=>xV (e:=e.W s.w) (g:=g) d (t:=t) (split:=split) (sp:=sp) (b:=b) (p:=p) (i:=i) (x:=ch) (y:=y) (z:=z) ht hp hd hc o3 (P:=Q)
 have fr:=λ(sp b:Bool) (p:Nat) (ch:V) {Q:Prop}=>xU (e:=e.W s.w) (g:=g) d (t:=t) (split:=split) (sp:=sp) (b:=b) (p:=p) (i:=i) (x:=ch) (y:=y) (z:=z) o1 (P:=Q)
 cases hq:t[i]? with
 | none=>
  have hv:Mf t i=.b .nul:=by unfold Mf;rw[hq]
  rw[tX hq]at post
  unfold xS at post
  rw[hv]at cr
  obtain⟨w,sp,b,p⟩:=s
  have tl:∀{w:Wr}{sp b:Bool}{p:Nat}{y z:V},Es (d+3) (ah 3 sqB) (Lg t split sp b p (.b .nul) y z i) (Jm (e.W w) g) (Lg t split sp b p (.b .nul) y z (i+1)) (Jm (e.W w) g):=λ{w sp b p y z}=>go (aj (v:=.ff) U U U) (go (aj (v:=.ff) U U U) (go U U))
  cases sp with
  | true=>exact mr true b p (.b .nul) o2 λy' hm=>post (.b .nul) y' z (cr _ (go (ao U U (go (ao (v:=.tt) U U hm) U)) tl))
  | false=>cases b with
   | true=>exact dr false true p (.b .nul) (hbp U) λz' hm=>post (.b .nul) y z' (cr _ (go (aj U U (go (ao U U (go (ao (v:=.tt) U U hm) U)) U)) tl))
   | false=>exact fr false false p (.b .nul) λy' hm=>post (.b .nul) y' z (cr _ (go (aj U U (go (aj U U (go (ao (v:=.tt) U U hm) U)) U)) tl))
 | some c=>
  have hv:Mf t i=.s [c]:=by unfold Mf;rw[hq]
  rw[tW hq]at post
  rw[hv]at cr
  have md:∀{Q:Prop},(∀y' z',Es (d+3) (LQ (ah 2 sqB)) (Lg t split s.sp s.brk s.st (.s [c]) y z i) (Jm (e.W s.w) g) (Lg t split (Nu t (ar e.c.indent) e.o.lb e.o.bw split i s c).sp (Nu t (ar e.c.indent) e.o.lb e.o.bw split i s c).brk (Nu t (ar e.c.indent) e.o.lb e.o.bw split i s c).st (.s [c]) y' z' i) (Jm (e.W (Nu t (ar e.c.indent) e.o.lb e.o.bw split i s c).w) g)->Q)->Q:=by
   clear post cr
   intro Q k
   unfold Nu at k
   obtain⟨w,sp,b,p⟩:=s
   have qS:∀{sp b:Bool},Ep (d+3) (.or xm (.b2 (.cmp .ne) Kp Ll)) (Lg t split sp b p (.s [c]) y z i) (Jm (e.W w) g) (.o (!bE c)):=rfl
   have qA:∀{sp b:Bool},Ep (d+3) (.or xm (.b2 (.cmp .nin) Kp Qs)) (Lg t split sp b p (.s [c]) y z i) (Jm (e.W w) g) (.o (!bN c)):=rfl
   have qI:∀{sp b:Bool},Ep (d+3) He (Lg t split sp b p (.s [c]) y z i) (Jm (e.W w) g) (.o (jy c||isQ c)):=λ{sp b}=>Jl U (Jl (a:=false) U (cB U U))
   cases sp with
   | true=>
    cases hs:bE c with
    | true=>rw[hs]at k qS;exact k y z (ao U U (go (aj qS U U) U))
    | false=>rw[hs]at k qS;exact mr true b p (.s [c]) o2 λy' hm=>k y' z (ao U U (go (ao qS U hm) U))
   | false=>cases b with
    | true=>
     cases hb:bN c with
     | true=>rw[hb]at k qA;exact k y z (aj U U (go (ao U U (go (aj qA U U) U)) U))
     | false=>rw[hb]at k qA;exact dr false true p (.s [c]) (hbp U) λz' hm=>k y z' (aj U U (go (ao U U (go (ao qA U hm) U)) U))
    | false=>
     cases hI:jy c||isQ c with
     | true=>rw[hI]at k qI;exact fr false false p (.s [c]) λy' hm=>k y' z (aj U U (go (aj U U (go (ao qI U hm) U)) U))
     | false=>rw[hI]at k qI;exact k y z (aj U U (go (aj U U (go (aj qI U U) U)) U))
  refine md λy' z' h1=>?_
  have gM:=(tY t (ar e.c.indent) e.o.lb e.o.bw split i s c Mt.1).1
  have o5:(e.W (Nu t (ar e.c.indent) e.o.lb e.o.bw split i s c).w).ok 1:=gM.ok (e:=e.W s.w) ho
  generalize Nu t (ar e.c.indent) e.o.lb e.o.bw split i s c=s1 at h1 post o5
  obtain⟨w,sp,b,p⟩:=s1
  unfold sqQ at post
  have tl:∀{w:Wr}{p:Nat}{y z:V},Es (d+3) (ah 4 sqB) (Lg t split sp b p (.s [c]) y z i) (Jm (e.W w) g) (Lg t split (bE c) (bN c) p (.s [c]) y z (i+1)) (Jm (e.W w) g):=λ{w p y z}=>
   go (ao (v:=.tt) U U (go (l':=Lg t split (bE c) b p (.s [c]) y z i) (Jy:=Jm (e.W w) g) U (go (l':=Lg t split (bE c) (bN c) p (.s [c]) y z i) (Jy:=Jm (e.W w) g) U U))) (go U U)
  have qQ:Ep (d+3) (.b2 (.cmp .eq) Kp PN) (Lg t split sp b p (.s [c]) y' z' i) (Jm (e.W w) g) (.o (isQ c)):=rfl
  cases hQ:isQ c with
  | true=>
   rw[hQ]at post qQ
   refine post (.s [c]) (.s [39,39]) z' (cr _ (go h1 ?_))
   exact go (ao qQ U (go (l':=Lg t split sp b p (.s [c]) (.s [39,39]) z' i) (Jy:=Jm (e.W w) g) U (go (l':=Lg t split sp b p (.s [c]) (.s [39,39]) z' i) (Jy:=Jm (e.W ⟨w.col+2,w.line,w.ws,w.ind,w.KJ,w.rows⟩) g) U (go (lJ (d+2) (e:=e.W ⟨w.col+2,w.line,w.ws,w.ind,w.KJ,w.rows⟩) U U o5) (go (l':=Lg t split sp b (i+1) (.s [c]) (.s [39,39]) z' i) (Jy:=Jm (e.W (w.raw [39,39])) g) U U))))) tl
  | false=>
   rw[hQ]at post qQ
   exact post (.s [c]) y' z' (cr _ (go h1 (go (aj qQ U U) tl)))
noncomputable def Oy(t:Tx)(ind:Int)(lb:Tx)(bw:Int)(split:Bool)(w:Wr)(i:Nat):SS:=Oa (Nj t ind lb bw split) ⟨w,false,false,0⟩ i
noncomputable def Wr.sq(w:Wr)(t:Tx)(ind bw:Int)(lb:Tx)(split:Bool):Wr:=(Oy t ind lb bw split (w.sgn [39] true false false) (t.length+1)).w.sgn [39] false false false
theorem nP(t:Tx)(ind:Int)(lb:Tx)(bw:Int)(split:Bool)(w:Wr):∀i,i<=t.length->(Oy t ind lb bw split w i).Inv i/\Gr w (Oy t ind lb bw split w i).w ((t.length+4)*i)
 | 0,_=>⟨⟨mf 0,λh=>absurd h SI⟩,Gr.refl⟩
 | i+1,h=>
  have h0:=nP t ind lb bw split w i (mq h)
  have h1:=nO t ind lb bw split i _ h0.1
  ⟨h1.2 h,h0.2.trans h1.1⟩
theorem B2(d:Nat){t:Tx}{split:Bool}(ht:t.length < 390)(hd:JI e.c.indent)(hc:0<=e.w.col)(ho:e.ok (eV t)):(Jr (d+4)).Jv 51 [.ref 2,.s t,.o split] (Jm e g)=some (.b .nul,Jm (e.W (e.w.sq t (ar e.c.indent) e.o.bw e.o.lb split)) g):=by
 have OU:∀n,n<=10->e.ok n:=λn h=>ke (mc (ke h (mu 10 _)) _) ho
 have H2:=cj (e:=e) (g:=g) (d+1) [39] true false false (by decide) (OU 1 (by decide))
 have g1:=aY e.w [39] true false false
 unfold Wr.sq
 generalize e.w.sgn [39] true false false=w1 at H2 g1
 have G:=nP t (ar e.c.indent) e.o.lb e.o.bw split w1
 have o3:∀i,i<=t.length->(e.W (Oy t (ar e.c.indent) e.o.lb e.o.bw split w1 i).w).ok (t.length+4):=λi hi=>(g1.trans (G i hi).2).ok (ke (mc (by have:=n4 hi;lia) _) ho)
 have G1:Gr w1 (Oy t (ar e.c.indent) e.o.lb e.o.bw split w1 (t.length+1)).w ((t.length+4)*t.length+(t.length+4)):=(G _ (mf _)).2.trans (nO t _ _ _ _ _ _ (G _ (mf _)).1).1
 have H5:=cj (e:=e.W (Oy t (ar e.c.indent) e.o.lb e.o.bw split w1 (t.length+1)).w) (g:=g) (d+1) [39] false false false (by decide) ((g1.trans G1).ok (ke (mc (by have:=n4 (mf t.length);omega) _) ho))
 have e0:Oy t (ar e.c.indent) e.o.lb e.o.bw split w1 0=⟨w1,false,false,0⟩:=rfl
 have eS:∀i,Oy t (ar e.c.indent) e.o.lb e.o.bw split w1 (i+1)=Nj t (ar e.c.indent) e.o.lb e.o.bw split i (Oy t (ar e.c.indent) e.o.lb e.o.bw split w1 i):=λJ=>rfl
 generalize Oy t (ar e.c.indent) e.o.lb e.o.bw split w1=F at G o3 H5 e0 eS
 refine d9 (c:=Jr (d+3)) (t:=.b2 (.cmp .le) Lv LU) (b:=sqB) (n:=t.length) (I:=λi l st=>∃x y z,l=Lg t split (F i).sp (F i).brk (F i).st x y z i/\st=Jm (e.W (F i).w) g)
  (λi hi l st=>?_) (λl st=>?_) (by rw[dk];lia) ⟨.uu,.uu,.uu,rfl,rfl⟩ λl' Jy hr hx=>?_
 ·rintro ⟨x,y,z,rfl,rfl⟩
  refine⟨(eC 9 U U).trans (by rw[decide_eq_true (Int.ofNat_le.mpr hi)]),λ{P} post=>?_⟩
  exact xR (e:=e) (g:=g) d (F i) hi ht (G i hi).1 hd ((G i hi).2.1 (g1.1 hc)) (o3 i hi) x y z λx' y' z' hs=>post _ _ hs ⟨x',y',z',by rw[eS],by rw[eS]⟩
 ·rintro ⟨x,y,z,rfl,rfl⟩
  exact(eC 9 U U).trans (by rw[decide_eq_false (by lia)])
 ·obtain⟨x,y,z,rfl,rfl⟩:=hx
  rw[e0]at hr
  exact aa (f:=zj) U <| go (aG (az gy (vs:=[.s [39],.tt]) (kw:=[]) (ws:=[.ref 2,.s [39],.tt,.ff,.ff]) U U U U U U H2)) <|
   go (l':=[.ref 2,.s t,.o split,.ff,.uu,.uu,.uu,.uu,.uu,.uu]) (Jy:=Jm (e.W w1) g) U <| go (l':=[.ref 2,.s t,.o split,.ff,.ff,.uu,.uu,.uu,.uu,.uu]) (Jy:=Jm (e.W w1) g) U <|
   go (l':=Lg t split false false 0 .uu .uu .uu 0) (Jy:=Jm (e.W w1) g) U <| go hr <|
   go (aG (az gy (vs:=[.s [39],.ff]) (kw:=[]) (ws:=[.ref 2,.s [39],.ff,.ff,.ff]) U U U U U U H5)) U
end
section
variable{b d:E}{st:St}{x:V}{w:Bool}{p q:B}
theorem bh{o k:NK}(ha:Jq c a l st=some (x,st))(hb:Jq c b l st=some (y,st))(h:cop o x y=some u)(hd:Jq c d l st=some (z,st))(h':cop k y z=some w):Jq c (.Ku o k a b d) l st=some (.o (u&&w),st):=by
 refine Jl ha (Jl hb (Jl h ?_))
 cases u with
 | true=>exact Jl hd (kg (Option.map _) h')
 | false=>rfl
theorem EJ(ha:Jq c a l st=some (.b p,st))(hb:Jq c b l st=some (.b q,st)):Jq c (.or a b) l st=some (.b (bif p.truth then p else q),st):=by
 refine Jl ha (Jl (a:=p.truth) U ?_)
 cases p.truth with
 | true=>rfl
 | false=>exact hb
theorem Dl(ha:Jq c a l st=some (.b p,st))(hb:Jq c b l st=some (.b q,st)):Jq c (.and a b) l st=some (.b (bif p.truth then q else p),st):=by
 refine Jl ha (Jl (a:=p.truth) U ?_)
 cases p.truth with
 | true=>exact hb
 | false=>rfl
theorem D0:(bif p.truth then p else q).truth=(p.truth||q.truth):=by
 cases h:p.truth with
 | true=>exact h
 | false=>rfl
theorem BI:(bif p.truth then q else p).truth=(p.truth&&q.truth):=by
 cases h:p.truth with
 | true=>rfl
 | false=>exact h
theorem AT(h:Jq c a l st=some (.b p,st)):Jq c (.u1 .not a) l st=some (.o (!p.truth),st):=Jl h U
end
noncomputable def inR(lo hi c:Nat):Bool:=!Nk [c] [lo]&&!Nk [hi] [c]
noncomputable def aK(wide:B)(c:Nat):Bool:=decide (c∈[34,92,133,8232,8233,65279])||!(inR 32 126 c||(wide.truth&&(inR 160 55295 c||inR 57344 65533 c)))
noncomputable def KO(c:Nat):Option Tx:=(dX c).map ([92]++·)
noncomputable def eK(c:Nat):Tx:=(KO c).getD []
def dW(wide:B)(t:Tx):Prop:=∀c∈t,aK wide c=true->(KO c).isSome=true
structure DS where
 w:Wr
 st:Nat
noncomputable def A8(q:Option Nat):Bool:=q.any bE
section
variable(t:Tx)(ind:Int)(lb:Tx)(bw:Int)(split:Bool)(wide:B)(i:Nat)(s:DS)
noncomputable def Oq(q:Option Nat):DS:=match q with
 | none=>⟨s.w.Ls t s.st i,Le s.st i⟩
 | some c=>bif aK wide c then⟨(s.w.Ls t s.st i).raw (eK c),i+1⟩ else s
noncomputable def dqC(q:Option Nat):Bool:=(decide ((0:Int) < i)&&decide ((i:Int) < (t.length:Int) - 1))&&((A8 q||decide ((i:Int)<=s.st))&&(decide (bw < s.w.col+((i:Int) - s.st))&&split))
noncomputable def Nq:Wr:=((s.w.raw (Ka t s.st i++[92])).JH ind lb).off
noncomputable def dqF:DS:=⟨bif (t[Le s.st i]?).any bE then(Nq t ind lb i s).raw [92] else Nq t ind lb i s,Le s.st i⟩
noncomputable def PF(q:Option Nat):DS:=bif dqC t bw split i s q then dqF t ind lb i s else s
noncomputable def Oo:DS:=PF t ind lb bw split i (Oq t wide i s t[i]?) t[i]?
end
noncomputable def RH:S:=whB (ah 2 Gx)
theorem wn(t:Tx)(wide:B)(i:Nat)(s:DS)(q:Option Nat)(h:s.st<=i):Gr s.w (Oq t wide i s q).w 2/\(Oq t wide i s q).st<=i+1:=by
 unfold Oq
 cases q with
 | none=>exact⟨(iJ _ _ _ _).le (by decide),Sv (lw (kS h))⟩
 | some c=>
  show Gr s.w (bif aK wide c then _ else s).w 2/\(bif aK wide c then _ else s).st<=i+1
  cases aK wide c with
  | true=>exact⟨(iJ _ _ _ _).trans (bY _ _),mf _⟩
  | false=>exact⟨Gr.refl,Sv h⟩
theorem qw{i:Nat}(h:p<=i+1):Le p i<=i+1:=by
 unfold Le
 cases decide ((p:Int) < i) with
 | true=>exact mw i
 | false=>exact h
theorem oE(t:Tx)(ind:Int)(lb:Tx)(i:Nat)(s:DS):Gr s.w (Nq t ind lb i s) 3:=(bY s.w _).trans (bZ _ ind lb)
theorem C7(t:Tx)(ind:Int)(lb:Tx)(bw:Int)(split:Bool)(i:Nat)(s:DS)(q:Option Nat)(h:s.st<=i+1):Gr s.w (PF t ind lb bw split i s q).w 4/\(PF t ind lb bw split i s q).st<=i+1:=by
 unfold PF
 cases dqC t bw split i s q with
 | false=>exact⟨Gr.refl,h⟩
 | true=>
  refine⟨?_,qw h⟩
  show Gr s.w (bif (t[Le s.st i]?).any bE then(Nq t ind lb i s).raw [92] else Nq t ind lb i s) 4
  cases (t[Le s.st i]?).any bE with
  | true=>exact(oE t ind lb i s).trans (bY _ _)
  | false=>exact(oE t ind lb i s).le (by decide)
theorem C6(t:Tx)(ind:Int)(lb:Tx)(bw:Int)(split:Bool)(wide:B)(i:Nat)(s:DS)(h:s.st<=i):Gr s.w (Oo t ind lb bw split wide i s).w 6/\(Oo t ind lb bw split wide i s).st<=i+1:=
 have h1:=wn t wide i s t[i]? h
 have h2:=C7 t ind lb bw split i (Oq t wide i s t[i]?) t[i]? h1.2
 ⟨h1.1.trans h2.1,h2.2⟩
section
noncomputable def Lz(t:Tx)(split:Bool)(p:Nat)(x y:V)(i:Nat):List V:=[.ref 2,.s t,.o split,.i p,x,y,.i i]
noncomputable def Ig:S:=.Ju tA G6 .nil
theorem zO(d:Nat){t:Tx}{split:Bool}{i:Nat}{x:V}(ho:e.ok 1)(post:∀y',Es (d+3) Ig (Lz t split p x y i) (Jm e g) (Lz t split (Le p i) x y' i) (Jm (e.W (e.w.Ls t p i)) g)->P):P:=by
 have q:Ep (d+3) tA (Lz t split p x y i) (Jm e g) (.o (decide ((p:Int) < i))):=rfl
 unfold Wr.Ls Le at post
 cases hq:decide ((p:Int) < i) with
 | true=>
  rw[hq]at post q
  exact post (.s (Ka t p i)) (ao q U (go (bK (dG 3 6 U U U)) (cq (d+2) 5 U U ho (go U U))))
 | false=>
  rw[hq]at post q
  exact post y (aj q U U)
noncomputable def Ie:S:=.Ju (.b2 .Ly I8 I0) GK I95
theorem zM(d:Nat){t:Tx}{split:Bool}{i c:Nat}(hc:(KO c).isSome=true):Es (d+3) Ie (Lz t split p (.s [c]) y i) (Jm e g) (Lz t split p (.s [c]) (.s (eK c)) i) (Jm e g):=by
 have q:Ep (d+3) (.b2 .Ly I8 I0) (Lz t split p (.s [c]) y i) (Jm e g) (.o ((dX c).isSome)):=rfl
 unfold eK
 unfold KO at hc ⊢
 cases he:dX c with
 | none=>rw[he]at hc;exact nomatch hc
 | some z=>
  rw[he]at q
  have q2:Ep (d+3) (.Qf I0 4) (Lz t split p (.s [c]) y i) (Jm e g) (.s z):=by
   show Option.map _ (dX c)=_;rw[he];rfl
  have lz:z.length<=1:=by
   unfold dX at he
   cases hl:gz.lookup c with
   | none=>rw[hl]at he;exact nomatch he
   | some y=>rw[hl]at he;cases he;exact mf 1
  exact ao q U (go (bK (Jl (a:=(.s [92],Jm e g)) U (Jl q2 (bS (s:=[92]) (ke (mc lz 1) (by decide)))))) U)
theorem Bo{t:Tx}{i:Nat}(h:t[i]?=none):Mf t i=.b .nul:=by unfold Mf;rw[h]
theorem Bn{t:Tx}{i c:Nat}(h:t[i]?=some c):Mf t i=.s [c]:=by unfold Mf;rw[h]
theorem zQ(d:Nat){t:Tx}{split:Bool}{i:Nat}(s:DS)(he:dW e.o.wide t)(ho:(e.W s.w).ok 2)
  (post:∀y',Es (d+3) (LQ (ah 2 RH)) (Lz t split s.st (Mf t i) y i) (Jm (e.W s.w) g) (Lz t split (Oq t e.o.wide i s t[i]?).st (Mf t i) y' i) (Jm (e.W (Oq t e.o.wide i s t[i]?).w) g)->P):P:=by
 obtain⟨w,p⟩:=s
 have o1:(e.W w).ok 1:=mq ho
 have fr:=λ(ch:V) {Q:Prop}=>zO (e:=e.W w) (g:=g) d (t:=t) (split:=split) (p:=p) (i:=i) (x:=ch) (y:=y) o1 (P:=Q)
 cases hq:t[i]? with
 | none=>
  have hv:Mf t i=.b .nul:=Bo hq
  rw[hq]at post
  rw[hv]at post
  exact fr (.b .nul) λy' hm=>post y' (ao (v:=.tt) U U (go hm (go (aj (v:=.ff) U U U) U)))
 | some c=>
  have hv:Mf t i=.s [c]:=Bn hq
  rw[hq]at post
  rw[hv]at post
  have hX:Jq (Jr (d+3)) I23 (Lz t split p (.s [c]) y i) (Jm (e.W w) g)=_:=
   EJ (p:=.bool (inR 32 126 c)) (q:=bif e.o.wide.truth then .bool (inR 160 55295 c||inR 57344 65533 c) else e.o.wide) (bh U U U U U) (Dl (p:=e.o.wide) (q:=.bool (inR 160 55295 c||inR 57344 65533 c)) U (cB (bh U U U U U) (bh U U U U U)))
  have hN:=AT hX
  rw[D0,BI]at hN
  have q2:Ep (d+3) Hc (Lz t split p (.s [c]) y i) (Jm (e.W w) g) (.o (aK e.o.wide c)):=Jl U (Jl (a:=false) U (cB U hN))
  cases hm:aK e.o.wide c with
  | true=>
   have e1:Oq t e.o.wide i ⟨w,p⟩ (some c)=⟨(w.Ls t p i).raw (eK c),i+1⟩:=by show(bif aK e.o.wide c then _ else _)=_;rw[hm];rfl
   rw[e1]at post
   rw[hm]at q2
   refine fr (.s [c]) λy' hf=>post (.s (eK c)) (ao q2 U (go hf (go (ao (v:=.tt) U U (go (zM (e:=e.W (w.Ls t p i)) d (he c (lx hq) hm)) (cq (e:=e.W (w.Ls t p i)) (d+2) 5 U U ((iJ w t p i).ok (e:=e.W w) ho) (go (l':=Lz t split (i+1) (.s [c]) (.s (eK c)) i) (Jy:=Jm (e.W ((w.Ls t p i).raw (eK c))) g) U U)))) U)))
  | false=>
   have e1:Oq t e.o.wide i ⟨w,p⟩ (some c)=⟨w,p⟩:=by show(bif aK e.o.wide c then _ else _)=_;rw[hm];rfl
   rw[e1]at post
   rw[hm]at q2
   exact post y (aj q2 U U)
theorem zN(d:Nat){t:Tx}{split:Bool}{i:Nat}(s:DS)(ht:t.length < 390)(Mt:s.st<=i+1)(hd:JI e.c.indent)(hc:0<=s.w.col)(ho:(e.W s.w).ok 4)
  (post:∀y',Es (d+3) (LQ (ah 3 RH)) (Lz t split s.st (Mf t i) y i) (Jm (e.W s.w) g) (Lz t split (PF t (ar e.c.indent) e.o.lb e.o.bw split i s t[i]?).st (Mf t i) y' i) (Jm (e.W (PF t (ar e.c.indent) e.o.lb e.o.bw split i s t[i]?).w) g)->P):P:=by
 have qS:Ep (d+3) (.b2 (.cmp .eq) I8 Ll) (Lz t split s.st (Mf t i) y i) (Jm (e.W s.w) g) (.o (A8 t[i]?)):=by
  cases hq:t[i]? with
  | none=>rw[Bo hq];rfl
  | some c=>rw[Bn hq];rfl
 generalize Mf t i=x at qS post
 generalize t[i]?=q at qS post
 have qC:Ep (d+3) I59 (Lz t split s.st x y i) (Jm (e.W s.w) g) (.o (dqC t e.o.bw split i s q)):=bP (bh U U U U U) (bP (cB qS U) (bP U U))
 unfold PF at post
 cases hC:dqC t e.o.bw split i s q with
 | false=>rw[hC]at post qC;exact post y (aj qC U U)
 | true=>
  rw[hC]at post qC
  have hi:(i:Int) < (t.length:Int) - 1:=kj (ly (ly hC).1).2
  obtain⟨w,p⟩:=s
  have hp:Le p i < t.length:=by have h1:Le p i<=i+1:=qw Mt;lia
  obtain⟨u,hu⟩:∃u,t[Le p i]?=some u:=⟨_,kq hp⟩
  have sl:(Ka t p i).length+1<=JL:=ke (mn (jZ t p i)) (ke (R8 (lh (Nat.succ_lt_succ ht) (by decide:391<=2000))) p7)
  have o1:(e.W w).ok 1:=ke (mc (by decide) _) ho
  have g1:=bY w (Ka t p i++[92])
  have o2:(e.W (w.raw (Ka t p i++[92]))).ok 2:=g1.ok (e:=e.W w) (ke (mc (by decide) _) ho)
  have dr:=fV (e:=e.W (w.raw (Ka t p i++[92]))) (g:=g) d hd (g1.1 hc) o2
  have o5:(e.W (Nq t (ar e.c.indent) e.o.lb i ⟨w,p⟩)).ok 1:=(oE t (ar e.c.indent) e.o.lb i ⟨w,p⟩).ok (e:=e.W w) ho
  have s2:Es (d+3) (.Ju tA Dr .nil) (Lz t split p x (.s (Ka t p i++[92])) i) (Jm (e.W w) g) (Lz t split (Le p i) x (.s (Ka t p i++[92])) i) (Jm (e.W w) g):=by
   have q:Ep (d+3) tA (Lz t split p x (.s (Ka t p i++[92])) i) (Jm (e.W w) g) (.o (decide ((p:Int) < i))):=rfl
   unfold Le
   cases hq:decide ((p:Int) < i) with
   | true=>rw[hq]at q;exact ao q U (go U U)
   | false=>rw[hq]at q;exact aj q U U
  have q0:Ep (d+3) (.b2 (.cmp .eq) (.b2 .idx I2 Kr) Ll) (Lz t split (Le p i) x (.s (Ka t p i++[92])) i) (Jm (e.W (Nq t (ar e.c.indent) e.o.lb i ⟨w,p⟩)) g) (.o ((t[Le p i]?).any bE)):=by
   rw[hu]
   exact Jl (a:=(.s [u],Jm (e.W (Nq t (ar e.c.indent) e.o.lb i ⟨w,p⟩)) g)) (Jl (a:=(.s t,Jm (e.W (Nq t (ar e.c.indent) e.o.lb i ⟨w,p⟩)) g)) U (Jl (a:=(.i (Le p i),Jm (e.W (Nq t (ar e.c.indent) e.o.lb i ⟨w,p⟩)) g)) U (mT (mU hu)))) U
  have post:∀y',Es (d+3) (LQ (ah 3 RH)) (Lz t split p x y i) (Jm (e.W w) g) (Lz t split (Le p i) x y' i) (Jm (e.W (bif (t[Le p i]?).any bE then(Nq t (ar e.c.indent) e.o.lb i ⟨w,p⟩).raw [92] else Nq t (ar e.c.indent) e.o.lb i ⟨w,p⟩)) g)->P:=post
  have pre:∀{R:Kf},JJ (Jr (d+3)) Hb (Lz t split (Le p i) x (.s (Ka t p i++[92])) i) (Jm (e.W (Nq t (ar e.c.indent) e.o.lb i ⟨w,p⟩)) g)=R->JJ (Jr (d+3)) (LQ (ah 3 RH)) (Lz t split p x y i) (Jm (e.W w) g)=R:=λ{R} hr=>
   ao qC U <| go (bK (Jl (a:=(.s (Ka t p i),Jm (e.W w) g)) (dG 3 6 U U U) (Jl (a:=(.s [92],Jm (e.W w) g)) U (bS (t:=[92]) sl)))) <| go s2 <|
    cq (e:=e.W w) (d+2) 5 U U o1 <| go (aG (az kU (vs:=[]) (kw:=[]) (ws:=[.ref 2]) U U U U U U dr)) <| hH (e:=e.W ((w.raw (Ka t p i++[92])).JH (ar e.c.indent) e.o.lb)) (d+3) U hr
  cases hS:(t[Le p i]?).any bE with
  | true=>
   rw[hS]at post q0
   exact post (.s [92]) (pre (go (ao q0 U (go (bK (v:=.s [92]) U) (cq (e:=e.W (Nq t (ar e.c.indent) e.o.lb i ⟨w,p⟩)) (d+2) 5 U U o5 U))) U))
  | false=>
   rw[hS]at post q0
   exact post (.s (Ka t p i++[92])) (pre (go (aj q0 U U) U))
theorem zL(d:Nat){t:Tx}{split:Bool}{i:Nat}(s:DS)(hi:i<=t.length)(ht:t.length < 390)(Mt:s.st<=i)(he:dW e.o.wide t)(hd:JI e.c.indent)(hc:0<=s.w.col)(ho:(e.W s.w).ok 6)(x y:V)
  (post:∀x' y',Es (d+3) RH (Lz t split s.st x y i) (Jm (e.W s.w) g) (Lz t split (Oo t (ar e.c.indent) e.o.lb e.o.bw split e.o.wide i s).st x' y' (i+1)) (Jm (e.W (Oo t (ar e.c.indent) e.o.lb e.o.bw split e.o.wide i s).w) g)->P):P:=by
 have g1:=wn t e.o.wide i s t[i]? Mt
 refine zQ (e:=e) (g:=g) d (split:=split) (i:=i) s he (ke (mc (by decide) _) ho) (y:=y) λy1 h1=>?_
 refine zN (e:=e) (g:=g) d (split:=split) (i:=i) (Oq t e.o.wide i s t[i]?) ht g1.2 hd (g1.1.1 hc) (g1.1.ok (e:=e.W s.w) ho) (y:=y1) λy2 h2=>post (Mf t i) y2 ?_
 exact oM (l:=Lz t split s.st x y i) (r:=ah 2 RH) 4 6 (by decide:4 < 7) (by decide) (by decide) U U hi (go h1 (go h2 (go U U)))
noncomputable def PE(t:Tx)(ind:Int)(lb:Tx)(bw:Int)(split:Bool)(wide:B)(w:Wr)(i:Nat):DS:=Oa (Oo t ind lb bw split wide) ⟨w,0⟩ i
noncomputable def Wr.dq(w:Wr)(t:Tx)(ind bw:Int)(lb:Tx)(split:Bool)(wide:B):Wr:=(PE t ind lb bw split wide (w.sgn [34] true false false) (t.length+1)).w.sgn [34] false false false
theorem oJ(t:Tx)(ind:Int)(lb:Tx)(bw:Int)(split:Bool)(wide:B)(w:Wr):∀i,(PE t ind lb bw split wide w i).st<=i/\Gr w (PE t ind lb bw split wide w i).w (6*i)
 | 0=>⟨mf 0,Gr.refl⟩
 | i+1=>
  have h0:=oJ t ind lb bw split wide w i
  have h1:=C6 t ind lb bw split wide i _ h0.1
  ⟨h1.2,h0.2.trans h1.1⟩
theorem Ey(t:Tx):6*(t.length+1)+10<=eV t:=by
 unfold eV
 rw[Nat.add_mul,Nat.mul_add t.length]
 have:0<=t.length*t.length:=mj _
 lia
theorem C5(d:Nat){t:Tx}{split:Bool}(ht:t.length < 390)(he:dW e.o.wide t)(hd:JI e.c.indent)(hc:0<=e.w.col)(ho:e.ok (eV t)):(Jr (d+4)).Jv 52 [.ref 2,.s t,.o split] (Jm e g)=some (.b .nul,Jm (e.W (e.w.dq t (ar e.c.indent) e.o.bw e.o.lb split e.o.wide)) g):=by
 have r6:=Ey t
 have OU:∀n,n<=10->e.ok n:=λn h=>ke (mc (ke h (mu 10 _)) _) ho
 have H2:=cj (e:=e) (g:=g) (d+1) [34] true false false (by decide) (OU 1 (by decide))
 have g1:=aY e.w [34] true false false
 unfold Wr.dq
 generalize e.w.sgn [34] true false false=w1 at H2 g1
 have G:=oJ t (ar e.c.indent) e.o.lb e.o.bw split e.o.wide w1
 have o3:∀i,i<=t.length->(e.W (PE t (ar e.c.indent) e.o.lb e.o.bw split e.o.wide w1 i).w).ok 6:=λi hi=>(g1.trans (G i).2).ok (ke (mc (by lia) _) ho)
 have H5:=cj (e:=e.W (PE t (ar e.c.indent) e.o.lb e.o.bw split e.o.wide w1 (t.length+1)).w) (g:=g) (d+1) [34] false false false (by decide) ((g1.trans (G (t.length+1)).2).ok (ke (mc (by lia) _) ho))
 have e0:PE t (ar e.c.indent) e.o.lb e.o.bw split e.o.wide w1 0=⟨w1,0⟩:=rfl
 have eS:∀i,PE t (ar e.c.indent) e.o.lb e.o.bw split e.o.wide w1 (i+1)=Oo t (ar e.c.indent) e.o.lb e.o.bw split e.o.wide i (PE t (ar e.c.indent) e.o.lb e.o.bw split e.o.wide w1 i):=λJ=>rfl
 generalize PE t (ar e.c.indent) e.o.lb e.o.bw split e.o.wide w1=F at G o3 H5 e0 eS
 refine d9 (c:=Jr (d+3)) (t:=.b2 (.cmp .le) Kp LU) (b:=RH) (n:=t.length) (I:=λi l st=>∃x y,l=Lz t split (F i).st x y i/\st=Jm (e.W (F i).w) g)
  (λi hi l st=>?_) (λl st=>?_) (by rw[dk];lia) ⟨.uu,.uu,rfl,rfl⟩ λl' Jy hr hx=>?_
 ·rintro ⟨x,y,rfl,rfl⟩
  refine⟨(eC 6 U U).trans (by rw[decide_eq_true (Int.ofNat_le.mpr hi)]),λ{P} post=>?_⟩
  exact zL (e:=e) (g:=g) d (F i) hi ht (G i).1 he hd ((G i).2.1 (g1.1 hc)) (o3 i hi) x y λx' y' hs=>post _ _ hs ⟨x',y',by rw[eS],by rw[eS]⟩
 ·rintro ⟨x,y,rfl,rfl⟩
  exact(eC 6 U U).trans (by rw[decide_eq_false (by lia)])
 ·obtain⟨x,y,rfl,rfl⟩:=hx
  rw[e0]at hr
  exact aa (f:=zi) U <| go (aG (az gy (vs:=[.s [34],.tt]) (kw:=[]) (ws:=[.ref 2,.s [34],.tt,.ff,.ff]) U U U U U U H2)) <|
   go (l':=Lz t split 0 .uu .uu 0) (Jy:=Jm (e.W w1) g) U <| go hr <|
   go (aG (az gy (vs:=[.s [34],.ff]) (kw:=[]) (ws:=[.ref 2,.s [34],.ff,.ff,.ff]) U U U U U U H5)) U
end
structure AS where
 bi:Bool
 fi:Bool
 lb:Bool
 sc:Bool
 ls:Bool
 lk:Bool
 ts:Bool
 tb:Bool
 bs:Bool
 sb:Bool
 pw:Bool
 fw:Bool
 ps:Bool
 pb:Bool
noncomputable def Kl(t:Tx)(s:AS)(i:Nat)(x y:V):List V:=[.ref 2,.s t,.o s.bi,.o s.fi,.o s.lb,.o s.sc,.o s.ls,.o s.lk,.o s.ts,.o s.tb,.o s.bs,.o s.sb,.o s.pw,.o s.fw,.o s.ps,.o s.pb,.i i,.uu,.uu,.uu,.uu,.uu,x,y]
noncomputable def vt(c:Nat):Bool:=decide (c∈[0,32,9,13,10,133,8232,8233])
noncomputable def MT(l:List Nat)(c:Nat):Bool:=decide (c∈l)
noncomputable def NX(c d:Nat):Bool:=[c]==([d]:Tx)
noncomputable def an1(c:Nat)(s:AS):AS:=
 ⟨(NX c 45&&s.fw)||((MT [63,58] c&&s.fw)||(MT [35,44,91,93,123,125,38,42,33,124,62,39,34,37,64,96] c||s.bi)),(NX c 45&&s.fw)||(MT [63,58] c||(MT [35,44,91,93,123,125,38,42,33,124,62,39,34,37,64,96] c||s.fi)),s.lb,s.sc,s.ls,s.lk,s.ts,s.tb,s.bs,s.sb,s.pw,s.fw,s.ps,s.pb⟩
noncomputable def an2(c:Nat)(s:AS):AS:=
 ⟨(NX c 35&&s.pw)||((NX c 58&&s.fw)||s.bi),(NX c 35&&s.pw)||(NX c 58||(MT [44,63,91,93,123,125] c||s.fi)),s.lb,s.sc,s.ls,s.lk,s.ts,s.tb,s.bs,s.sb,s.pw,s.fw,s.ps,s.pb⟩
noncomputable def an3(c:Nat)(s:AS):AS:=⟨s.bi,s.fi,bN c||s.lb,s.sc,s.ls,s.lk,s.ts,s.tb,s.bs,s.sb,s.pw,s.fw,s.ps,s.pb⟩
noncomputable def spN(c:Nat):Bool:=!(NX c 10||inR 32 126 c)
noncomputable def spO(c:Nat):Bool:=(NX c 133||(inR 160 55295 c||(inR 57344 65533 c||(!Nk [c] [65536]&&Nk [c] [1114111]))))&&!NX c 65279
noncomputable def an4(wide:B)(c:Nat)(s:AS):AS:=⟨s.bi,s.fi,s.lb,(spN c&&bif spO c then !wide.truth else true)||s.sc,s.ls,s.lk,s.ts,s.tb,s.bs,s.sb,s.pw,s.fw,s.ps,s.pb⟩
noncomputable def an5(z la:Bool)(c:Nat)(s:AS):AS:=
 bif bE c then⟨s.bi,s.fi,s.lb,s.sc,z||s.ls,s.lk,la||s.ts,s.tb,s.pb||s.bs,s.sb,s.pw,s.fw,true,false⟩
 else bif bN c then⟨s.bi,s.fi,s.lb,s.sc,s.ls,z||s.lk,s.ts,la||s.tb,s.bs,s.ps||s.sb,s.pw,s.fw,false,true⟩
 else⟨s.bi,s.fi,s.lb,s.sc,s.ls,s.lk,s.ts,s.tb,s.bs,s.sb,s.pw,s.fw,false,false⟩
noncomputable def fwA(t:Tx)(j:Nat):Bool:=decide ((t.length:Int)<=((j+1:Nat):Int))||(t[j+1]?).any vt
noncomputable def an6(t:Tx)(i:Nat)(c:Nat)(s:AS):AS:=⟨s.bi,s.fi,s.lb,s.sc,s.ls,s.lk,s.ts,s.tb,s.bs,s.sb,vt c,fwA t (i+1),s.ps,s.pb⟩
noncomputable def an0(z:Bool)(c:Nat)(s:AS):AS:=bif z then an1 c s else an2 c s
noncomputable def anC(t:Tx)(wide:B)(i:Nat)(c:Nat)(s:AS):AS:=an6 t i c (an5 ((i:Int)==0) ((i:Int)==(t.length:Int) - 1) c (an4 wide c (an3 c (an0 ((i:Int)==0) c s))))
noncomputable def anS(t:Tx)(wide:B)(i:Nat)(s:AS):AS:=match t[i]? with | some c=>anC t wide i c s | none=>s
noncomputable def anB:S:=whB (ah 17 Di)
section
variable{st:St}
theorem cD{t:E}{p:S}{L:Bool->List V}(h:Jq c t l st=some (v,st))(hu:truth st v=some u)(kt:JJ c p l st=some (.next,L true,st))(kf:JJ c q l st=some (.next,L false,st)):JJ c (.Ju t p q) l st=some (.next,L u,st):=by
 cases u with
 | true=>exact ao h hu kt
 | false=>exact aj h hu kf
theorem Ak(d:Nat){t:Tx}{i:Nat}(s:AS)(y:V):Es d I18 (Kl t s i (.s [ch]) y) (Jm e g) (Kl t (an1 ch s) i (.s [ch]) y) (Jm e g):=by
 obtain⟨bi,fi,lb,sc,ls,lk,ts,tb,bs,sb,pw,fw,ps,pb⟩:=s
 exact go (cD (u:=MT [35,44,91,93,123,125,38,42,33,124,62,39,34,37,64,96] ch) (L:=λu=>Kl t ⟨u||bi,u||fi,lb,sc,ls,lk,ts,tb,bs,sb,pw,fw,ps,pb⟩ i (.s [ch]) y) U U (go U (go U U)) U) <|
  go (cD (u:=MT [63,58] ch) (L:=λu=>Kl t ⟨(u&&fw)||(MT [35,44,91,93,123,125,38,42,33,124,62,39,34,37,64,96] ch||bi),u||(MT [35,44,91,93,123,125,38,42,33,124,62,39,34,37,64,96] ch||fi),lb,sc,ls,lk,ts,tb,bs,sb,pw,fw,ps,pb⟩ i (.s [ch]) y) U U (go (l':=Kl t ⟨MT [35,44,91,93,123,125,38,42,33,124,62,39,34,37,64,96] ch||bi,true,lb,sc,ls,lk,ts,tb,bs,sb,pw,fw,ps,pb⟩ i (.s [ch]) y) (Jy:=Jm e g) U (go (cD (u:=fw) (L:=λw=>Kl t ⟨w||(MT [35,44,91,93,123,125,38,42,33,124,62,39,34,37,64,96] ch||bi),true,lb,sc,ls,lk,ts,tb,bs,sb,pw,fw,ps,pb⟩ i (.s [ch]) y) U U (go U U) U) U)) U) <|
  go (cD (u:=NX ch 45&&fw) (L:=λu=>Kl t ⟨u||((MT [63,58] ch&&fw)||(MT [35,44,91,93,123,125,38,42,33,124,62,39,34,37,64,96] ch||bi)),u||(MT [63,58] ch||(MT [35,44,91,93,123,125,38,42,33,124,62,39,34,37,64,96] ch||fi)),lb,sc,ls,lk,ts,tb,bs,sb,pw,fw,ps,pb⟩ i (.s [ch]) y) (bP U U) U (go U (go U U)) U) U
theorem Aj(d:Nat){t:Tx}{i:Nat}(s:AS)(y:V):Es d I25 (Kl t s i (.s [ch]) y) (Jm e g) (Kl t (an2 ch s) i (.s [ch]) y) (Jm e g):=by
 obtain⟨bi,fi,lb,sc,ls,lk,ts,tb,bs,sb,pw,fw,ps,pb⟩:=s
 exact go (cD (u:=MT [44,63,91,93,123,125] ch) (L:=λu=>Kl t ⟨bi,u||fi,lb,sc,ls,lk,ts,tb,bs,sb,pw,fw,ps,pb⟩ i (.s [ch]) y) U U (go U U) U) <|
  go (cD (u:=NX ch 58) (L:=λu=>Kl t ⟨(u&&fw)||bi,u||(MT [44,63,91,93,123,125] ch||fi),lb,sc,ls,lk,ts,tb,bs,sb,pw,fw,ps,pb⟩ i (.s [ch]) y) U U (go (l':=Kl t ⟨bi,true,lb,sc,ls,lk,ts,tb,bs,sb,pw,fw,ps,pb⟩ i (.s [ch]) y) (Jy:=Jm e g) U (go (cD (u:=fw) (L:=λw=>Kl t ⟨w||bi,true,lb,sc,ls,lk,ts,tb,bs,sb,pw,fw,ps,pb⟩ i (.s [ch]) y) U U (go U U) U) U)) U) <|
  go (cD (u:=NX ch 35&&pw) (L:=λu=>Kl t ⟨u||((NX ch 58&&fw)||bi),u||(NX ch 58||(MT [44,63,91,93,123,125] ch||fi)),lb,sc,ls,lk,ts,tb,bs,sb,pw,fw,ps,pb⟩ i (.s [ch]) y) (bP U U) U (go U (go U U)) U) U
theorem Ai(d:Nat){t:Tx}{i:Nat}(s:AS)(y:V)(post:∀y',Es d (LQ (ah 3 anB)) (Kl t s i (.s [ch]) y) (Jm e g) (Kl t (an4 e.o.wide ch s) i (.s [ch]) y') (Jm e g)->P):P:=by
 obtain⟨bi,fi,lb,sc,ls,lk,ts,tb,bs,sb,pw,fw,ps,pb⟩:=s
 have q1:Ep d G7 (Kl t ⟨bi,fi,lb,sc,ls,lk,ts,tb,bs,sb,pw,fw,ps,pb⟩ i (.s [ch]) y) (Jm e g) (.o (spN ch)):=EV (cB U (bh U U U U U))
 have q2:Ep d I31 (Kl t ⟨bi,fi,lb,sc,ls,lk,ts,tb,bs,sb,pw,fw,ps,pb⟩ i (.s [ch]) y) (Jm e g) (.o (spO ch)):=bP (cB U (cB (bh U U U U U) (cB (bh U U U U U) (bh U U U U U)))) U
 unfold an4 at post
 cases h1:spN ch with
 | false=>rw[h1]at post q1;exact post y (aj q1 U U)
 | true=>
  rw[h1]at post q1
  cases h2:spO ch with
  | false=>rw[h2]at post q2;exact post y (ao q1 U (go (aj q2 U (go U U)) U))
  | true=>
   rw[h2]at post q2
   refine post .tt (ao q1 U (go (ao q2 U (go (l':=Kl t ⟨bi,fi,lb,sc,ls,lk,ts,tb,bs,sb,pw,fw,ps,pb⟩ i (.s [ch]) .tt) (Jy:=Jm e g) U (go (cD (u:=!e.o.wide.truth) (L:=λw=>Kl t ⟨bi,fi,lb,w||sc,ls,lk,ts,tb,bs,sb,pw,fw,ps,pb⟩ i (.s [ch]) .tt) (AT (p:=e.o.wide) U) U (go U U) U) U))) U))
theorem Ah(d:Nat){t:Tx}{i:Nat}(s:AS)(y:V):Es d (LQ (ah 4 anB)) (Kl t s i (.s [ch]) y) (Jm e g) (Kl t (an5 ((i:Int)==0) ((i:Int)==(t.length:Int) - 1) ch s) i (.s [ch]) y) (Jm e g):=by
 obtain⟨bi,fi,lb,sc,ls,lk,ts,tb,bs,sb,pw,fw,ps,pb⟩:=s
 have q1:Ep d (.b2 (.cmp .eq) Mo Ll) (Kl t ⟨bi,fi,lb,sc,ls,lk,ts,tb,bs,sb,pw,fw,ps,pb⟩ i (.s [ch]) y) (Jm e g) (.o (bE ch)):=rfl
 have q2:Ep d (.b2 (.cmp .LO) Mo Qs) (Kl t ⟨bi,fi,lb,sc,ls,lk,ts,tb,bs,sb,pw,fw,ps,pb⟩ i (.s [ch]) y) (Jm e g) (.o (bN ch)):=rfl
 unfold an5
 generalize hz:((i:Int)==0)=z
 generalize hla:((i:Int)==(t.length:Int) - 1)=la
 have qz:∀{s:AS},Ep d As (Kl t s i (.s [ch]) y) (Jm e g) (.o z):=hz▸rfl
 have ql:∀{s:AS},Ep d DJ (Kl t s i (.s [ch]) y) (Jm e g) (.o la):=hla▸rfl
 cases h1:bE ch with
 | true=>
  rw[h1]at q1
  exact ao q1 U <| go (cD (u:=z) (L:=λu=>Kl t ⟨bi,fi,lb,sc,u||ls,lk,ts,tb,bs,sb,pw,fw,ps,pb⟩ i (.s [ch]) y) qz U (go U U) U) <| go (cD (u:=la) (L:=λu=>Kl t ⟨bi,fi,lb,sc,z||ls,lk,u||ts,tb,bs,sb,pw,fw,ps,pb⟩ i (.s [ch]) y) ql U (go U U) U) <|
   go (cD (u:=pb) (L:=λu=>Kl t ⟨bi,fi,lb,sc,z||ls,lk,la||ts,tb,u||bs,sb,pw,fw,ps,pb⟩ i (.s [ch]) y) U U (go U U) U) <| go (l':=Kl t ⟨bi,fi,lb,sc,z||ls,lk,la||ts,tb,pb||bs,sb,pw,fw,true,pb⟩ i (.s [ch]) y) (Jy:=Jm e g) U <| go U U
 | false=>
  rw[h1]at q1
  refine aj q1 U (go ?_ U)
  cases h2:bN ch with
  | true=>
   rw[h2]at q2
   exact ao q2 U <| go (cD (u:=z) (L:=λu=>Kl t ⟨bi,fi,lb,sc,ls,u||lk,ts,tb,bs,sb,pw,fw,ps,pb⟩ i (.s [ch]) y) qz U (go U U) U) <| go (cD (u:=la) (L:=λu=>Kl t ⟨bi,fi,lb,sc,ls,z||lk,ts,u||tb,bs,sb,pw,fw,ps,pb⟩ i (.s [ch]) y) ql U (go U U) U) <|
    go (cD (u:=ps) (L:=λu=>Kl t ⟨bi,fi,lb,sc,ls,z||lk,ts,la||tb,bs,u||sb,pw,fw,ps,pb⟩ i (.s [ch]) y) U U (go U U) U) <| go (l':=Kl t ⟨bi,fi,lb,sc,ls,z||lk,ts,la||tb,bs,ps||sb,pw,fw,false,pb⟩ i (.s [ch]) y) (Jy:=Jm e g) U <| go U U
  | false=>
   rw[h2]at q2
   exact aj q2 U <| go (l':=Kl t ⟨bi,fi,lb,sc,ls,lk,ts,tb,bs,sb,pw,fw,false,pb⟩ i (.s [ch]) y) (Jy:=Jm e g) U <| go U U
theorem dc(d:Nat):(Jr d).Kd=Kd:=by cases d <;> rfl
theorem vN(d:Nat){t:Tx}{k:E}(h1:l[1]?=some (.s t))(hk:Ep d k l (Jm e g) (.i ((j+1:Nat):Int))){q:E}(hq:Ep d q l (Jm e g) (.o b))(hb:b=false->j+1 < t.length):Ep d (.or q (.b2 (.cmp .LO) (.b2 .idx I2 k) I75)) l (Jm e g) (.o (b||(t[j+1]?).any vt)):=by
 cases b with
 | true=>exact Jl hq (Jl (a:=true) U U)
 | false=>
  obtain⟨u,hu⟩:∃u,t[j+1]?=some u:=⟨_,kq (hb U)⟩
  rw[hu]
  exact Jl hq (Jl (a:=false) U (Jl (a:=(.s [u],Jm e g)) (Jl (aC h1 U) (Jl hk (mT (mU hu)))) U))
theorem Ag(d:Nat){t:Tx}{i:Nat}(s:AS)(hi:i < t.length)(x y:V)(post:∀x' y',Es d anB (Kl t s i x y) (Jm e g) (Kl t (anS t e.o.wide i s) (i+1) x' y') (Jm e g)->P):P:=by
 obtain⟨c,hc⟩:∃c,t[i]?=some c:=⟨_,kq hi⟩
 have e1:anS t e.o.wide i s=anC t e.o.wide i c s:=by unfold anS;rw[hc]
 rw[e1]at post
 unfold anC at post
 have s1:Es d (LQ (ah 1 anB)) (Kl t s i (.s [c]) y) (Jm e g) (Kl t (an0 ((i:Int)==0) c s) i (.s [c]) y) (Jm e g):=
  cD (u:=(i:Int)==0) (L:=λu=>Kl t (an0 u c s) i (.s [c]) y) U U (Ak d s y) (Aj d s y)
 generalize an0 ((i:Int)==0) c s=s1' at s1 post
 have s2:Es d (LQ (ah 2 anB)) (Kl t s1' i (.s [c]) y) (Jm e g) (Kl t (an3 c s1') i (.s [c]) y) (Jm e g):=by
  obtain⟨bi,fi,lb,sc,ls,lk,ts,tb,bs,sb,pw,fw,ps,pb⟩:=s1'
  exact cD (u:=bN c) (L:=λu=>Kl t ⟨bi,fi,u||lb,sc,ls,lk,ts,tb,bs,sb,pw,fw,ps,pb⟩ i (.s [c]) y) U U (go U U) U
 generalize an3 c s1'=s2' at s2 post
 refine Ai (e:=e) (g:=g) d (t:=t) (i:=i) (ch:=c) s2' y λy' s3=>?_
 generalize an4 e.o.wide c s2'=s3' at s3 post
 have s4:=Ah (e:=e) (g:=g) d (t:=t) (i:=i) (ch:=c) s3' y'
 generalize an5 ((i:Int)==0) ((i:Int)==(t.length:Int) - 1) c s3'=s4' at s4 post
 obtain⟨bi,fi,lb,sc,ls,lk,ts,tb,bs,sb,pw,fw,ps,pb⟩:=s4'
 refine post (.s [c]) y' (go (l':=Kl t s i (.s [c]) y) (Jy:=Jm e g) (bK (v:=.s [c]) (Jl (a:=(.s t,Jm e g)) U (Jl (a:=(.i i,Jm e g)) U (mT (mU hc))))) (go s1 (go s2 (go s3 (go s4 ?_)))))
 refine go (l':=Kl t ⟨bi,fi,lb,sc,ls,lk,ts,tb,bs,sb,pw,fw,ps,pb⟩ (i+1) (.s [c]) y') (Jy:=Jm e g) U (go (l':=Kl t ⟨bi,fi,lb,sc,ls,lk,ts,tb,bs,sb,vt c,fw,ps,pb⟩ (i+1) (.s [c]) y') (Jy:=Jm e g) U (go (bK (vN (e:=e) (g:=g) d (j:=i+1) (b:=decide ((t.length:Int)<=((i+1+1:Nat):Int))) U U U λh=>?_)) U))
 have:=of_decide_eq_false h
 omega
noncomputable def fw0(t:Tx):Bool:=((t.length:Int)==1)||(t[0+1]?).any vt
noncomputable def gX(t:Tx):Bool:=[45,45,45].isPrefixOf t||[46,46,46].isPrefixOf t
noncomputable def Al(t:Tx):AS:=⟨gX t||false,gX t||false,false,false,false,false,false,false,false,false,true,fw0 t,false,false⟩
noncomputable def anN(t:Tx)(wide:B):Nat->AS:=Oa (anS t wide) (Al t)
noncomputable def OH(t:Tx)(wide:B):AS:=anN t wide t.length
noncomputable def AS.edge(s:AS):Bool:=s.ls||(s.lk||(s.ts||s.tb))
noncomputable def AS.fp(s:AS):Bool:=!s.fi&&(!s.lb&&(!(s.sb||s.sc)&&(!s.bs&&(!s.edge&&true))))
noncomputable def AS.bp(s:AS):Bool:=!s.bi&&(!s.lb&&(!(s.sb||s.sc)&&(!s.bs&&(!s.edge&&true))))
noncomputable def AS.sq(s:AS):Bool:=!(s.sb||s.sc)&&(!s.bs&&true)
noncomputable def AS.bk(s:AS):Bool:=!(s.sb||s.sc)&&(!s.ts&&true)
noncomputable def anV(t:Tx)(em lb fp bp sq bk:Bool):V:=.rc 14 [(100,.str t),(101,.bool em),(102,.bool lb),(103,.bool fp),(104,.bool bp),(106,.bool sq),(110,.bool true),(105,.bool bk)]
noncomputable def J0(t:Tx)(wide:B):V:=bif t.isEmpty then anV [] true false false true true false else anV t false (OH t wide).lb (OH t wide).fp (OH t wide).bp (OH t wide).sq (OH t wide).bk
noncomputable def Ql(t:Tx)(s:AS)(i:Nat)(a b c f h:Bool)(x y:V):List V:=[.ref 2,.s t,.o s.bi,.o s.fi,.o s.lb,.o s.sc,.o s.ls,.o s.lk,.o s.ts,.o s.tb,.o s.bs,.o s.sb,.o s.pw,.o s.fw,.o s.ps,.o s.pb,.i i,.o a,.o b,.o c,.o f,.o h,x,y]
theorem pT(d:Nat){st:St}{a1 a2 a3 a4 a5 a6 a7 a8:E}{b1 b2 b3 b4 b5 b6 b7 b8:B}(h1:Ep d a1 l st (.b b1))(h2:Ep d a2 l st (.b b2))(h3:Ep d a3 l st (.b b3))(h4:Ep d a4 l st (.b b4))(h5:Ep d a5 l st (.b b5))(h6:Ep d a6 l st (.b b6))(h7:Ep d a7 l st (.b b7))(h8:Ep d a8 l st (.b b8)):Ep d (.new 14 (.kw 1 a1 (.kw 2 a2 (.kw 3 a3 (.kw 4 a4 (.kw 5 a5 (.kw 6 a6 (.kw 7 a7 (.kw 8 a8 .nil))))))))) l st (.rc 14 [(100,b1),(101,b2),(102,b3),(103,b4),(104,b5),(106,b6),(110,b7),(105,b8)]):=
 Jl (a:=(([],[(1,.b b1),(2,.b b2),(3,.b b3),(4,.b b4),(5,.b b5),(6,.b b6),(7,.b b7),(8,.b b8)]),st)) (Jl h1 (Jl (a:=(([],[(2,.b b2),(3,.b b3),(4,.b b4),(5,.b b5),(6,.b b6),(7,.b b7),(8,.b b8)]),st)) (Jl h2 (Jl (a:=(([],[(3,.b b3),(4,.b b4),(5,.b b5),(6,.b b6),(7,.b b7),(8,.b b8)]),st)) (Jl h3 (Jl (a:=(([],[(4,.b b4),(5,.b b5),(6,.b b6),(7,.b b7),(8,.b b8)]),st)) (Jl h4 (Jl (a:=(([],[(5,.b b5),(6,.b b6),(7,.b b7),(8,.b b8)]),st)) (Jl h5 (Jl (a:=(([],[(6,.b b6),(7,.b b7),(8,.b b8)]),st)) (Jl h6 (Jl (a:=(([],[(7,.b b7),(8,.b b8)]),st)) (Jl h7 (Jl (a:=(([],[(8,.b b8)]),st)) (Jl h8 (Jl (a:=(([],[]),st)) ((rfl:Kv (Jr d) .nil l st=some (([],[]),st))) U)) U)) U)) U)) U)) U)) U)) U)) (Jl (a:=(⟨"__init__",["self", "scalar", "empty", "multiline", "allow_flow_plain", "allow_block_plain", "allow_single_quoted", "allow_double_quoted", "allow_block"],9,[],2,.nil⟩,[100,101,102,103,104,106,110,105])) (by rw[dc];rfl) (Jl (a:=[.uu,.b b1,.b b2,.b b3,.b b4,.b b5,.b b6,.b b7,.b b8]) U (kg (Option.map _) (rfl:GB [.b b1,.b b2,.b b3,.b b4,.b b5,.b b6,.b b7,.b b8]=some [b1,b2,b3,b4,b5,b6,b7,b8]))))
theorem Dn(d:Nat){t:Tx}{i:Nat}(s:AS)(x y:V):∃l',JJ (Jr d) (ah 18 Di) (Kl t s i x y) (Jm e g)=some (.ret (anV t false s.lb s.fp s.bp s.sq s.bk),l',Jm e g):=by
 obtain⟨bi,fi,lb,sc,ls,lk,ts,tb,bs,sb,pw,fw,ps,pb⟩:=s
 refine⟨Ql t ⟨bi,fi,lb,sc,ls,lk,ts,tb,bs,sb,pw,fw,ps,pb⟩ i (!fi&&(!lb&&(!(sb||sc)&&(!bs&&(!(ls||(lk||(ts||tb)))&&true))))) (!bi&&(!lb&&(!(sb||sc)&&(!bs&&(!(ls||(lk||(ts||tb)))&&true))))) (!(sb||sc)&&(!bs&&true)) true (!(sb||sc)&&(!ts&&true)) x y,?_⟩
 refine go (l':=(Kl t ⟨bi,fi,lb,sc,ls,lk,ts,tb,bs,sb,pw,fw,ps,pb⟩ i x y).set 17 .tt) (Jy:=Jm e g) U <| go (l':=((Kl t ⟨bi,fi,lb,sc,ls,lk,ts,tb,bs,sb,pw,fw,ps,pb⟩ i x y).set 17 .tt).set 18 .tt) (Jy:=Jm e g) U <| go (l':=(((Kl t ⟨bi,fi,lb,sc,ls,lk,ts,tb,bs,sb,pw,fw,ps,pb⟩ i x y).set 17 .tt).set 18 .tt).set 19 .tt) (Jy:=Jm e g) U <|
  go (l':=((((Kl t ⟨bi,fi,lb,sc,ls,lk,ts,tb,bs,sb,pw,fw,ps,pb⟩ i x y).set 17 .tt).set 18 .tt).set 19 .tt).set 20 .tt) (Jy:=Jm e g) U <| go (l':=Ql t ⟨bi,fi,lb,sc,ls,lk,ts,tb,bs,sb,pw,fw,ps,pb⟩ i true true true true true x y) (Jy:=Jm e g) U <| ?_
 exact go (cD (u:=ls||(lk||(ts||tb))) (L:=λu=>Ql t ⟨bi,fi,lb,sc,ls,lk,ts,tb,bs,sb,pw,fw,ps,pb⟩ i (!u&&true) (!u&&true) true true true x y) (cB U (cB U (cB U U))) U (go U U) U) <|
  go (cD (u:=ts) (L:=λu=>Ql t ⟨bi,fi,lb,sc,ls,lk,ts,tb,bs,sb,pw,fw,ps,pb⟩ i (!(ls||(lk||(ts||tb)))&&true) (!(ls||(lk||(ts||tb)))&&true) true true (!u&&true) x y) U U (go U U) U) <|
  go (cD (u:=bs) (L:=λu=>Ql t ⟨bi,fi,lb,sc,ls,lk,ts,tb,bs,sb,pw,fw,ps,pb⟩ i (!u&&(!(ls||(lk||(ts||tb)))&&true)) (!u&&(!(ls||(lk||(ts||tb)))&&true)) (!u&&true) true (!ts&&true) x y) U U (go U U) U) <|
  go (cD (u:=sb||sc) (L:=λu=>Ql t ⟨bi,fi,lb,sc,ls,lk,ts,tb,bs,sb,pw,fw,ps,pb⟩ i (!u&&(!bs&&(!(ls||(lk||(ts||tb)))&&true))) (!u&&(!bs&&(!(ls||(lk||(ts||tb)))&&true))) (!u&&(!bs&&true)) true (!u&&(!ts&&true)) x y) (cB U U) U (go U U) U) <|
  go (cD (u:=lb) (L:=λu=>Ql t ⟨bi,fi,lb,sc,ls,lk,ts,tb,bs,sb,pw,fw,ps,pb⟩ i (!u&&(!(sb||sc)&&(!bs&&(!(ls||(lk||(ts||tb)))&&true)))) (!u&&(!(sb||sc)&&(!bs&&(!(ls||(lk||(ts||tb)))&&true)))) (!(sb||sc)&&(!bs&&true)) true (!(sb||sc)&&(!ts&&true)) x y) U U (go U U) U) <|
  go (cD (u:=fi) (L:=λu=>Ql t ⟨bi,fi,lb,sc,ls,lk,ts,tb,bs,sb,pw,fw,ps,pb⟩ i (!u&&(!lb&&(!(sb||sc)&&(!bs&&(!(ls||(lk||(ts||tb)))&&true))))) (!lb&&(!(sb||sc)&&(!bs&&(!(ls||(lk||(ts||tb)))&&true)))) (!(sb||sc)&&(!bs&&true)) true (!(sb||sc)&&(!ts&&true)) x y) U U (go U U) U) <|
  go (cD (u:=bi) (L:=λu=>Ql t ⟨bi,fi,lb,sc,ls,lk,ts,tb,bs,sb,pw,fw,ps,pb⟩ i (!fi&&(!lb&&(!(sb||sc)&&(!bs&&(!(ls||(lk||(ts||tb)))&&true))))) (!u&&(!lb&&(!(sb||sc)&&(!bs&&(!(ls||(lk||(ts||tb)))&&true))))) (!(sb||sc)&&(!bs&&true)) true (!(sb||sc)&&(!ts&&true)) x y) U U (go U U) U) <|
  KA (kg (Option.map _) (pT d U U U U U U U U))
theorem Dm(d:Nat){t:Tx}(ht:t.length < 390):(Jr (d+1)).Jv 42 [.ref 2,.s t] (Jm e g)=some (J0 t e.o.wide,Jm e g):=by
 cases t with
 | nil=>exact ay (f:=vZ) (l:=[.ref 2,.s [],.uu,.uu,.uu,.uu,.uu,.uu,.uu,.uu,.uu,.uu,.uu,.uu,.uu,.uu,.uu,.uu,.uu,.uu,.uu,.uu,.uu,.uu]) U (KA (ao (v:=.tt) U U (KA (kg (Option.map _) (pT d U U U U U U U U))))) U
 | cons c0 r0=>
 have hem:(c0::r0).isEmpty=false:=rfl
 have LP:Ep d gF [.ref 2,.s (c0::r0),.uu,.uu,.uu,.uu,.uu,.uu,.uu,.uu,.uu,.uu,.uu,.uu,.uu,.uu,.uu,.uu,.uu,.uu,.uu,.uu,.uu,.uu] (Jm e g) .ff:=rfl
 have hlen:(c0::r0).length=r0.length+1:=rfl
 have hsz:((c0::r0).length:Int)≠1->0+1 < (c0::r0).length:=λh=>by rw[hlen]at h ⊢;lia
 unfold J0
 rw[hem]
 generalize c0::r0=t at*
 have e0:anN t e.o.wide 0=Al t:=rfl
 have eS:∀i,anN t e.o.wide (i+1)=anS t e.o.wide i (anN t e.o.wide i):=λJ=>rfl
 have eE:OH t e.o.wide=anN t e.o.wide (r0.length+1):=by unfold OH;rw[hlen]
 rw[eE]
 generalize anN t e.o.wide=F at e0 eS
 have q0:∀{l:List V},l[1]?=some (.s t)->Ep d I69 l (Jm e g) (.o (gX t)):=λh=>cB (Jl (aC h U) U) (Jl (aC h U) U)
 have s0:∀{R:Kf}{r:S},JJ (Jr d) r (Kl t (Al t) 0 .uu .uu) (Jm e g)=R->JJ (Jr d) (.cons GQ (.cons (.asg [12] I1) (.cons G4 (.cons (.asg [14] I3) (.cons (.asg [15] I3) (.cons (.asg [16] Lm) r)))))) [.ref 2,.s t,.ff,.ff,.ff,.ff,.ff,.ff,.ff,.ff,.ff,.ff,.uu,.uu,.uu,.uu,.uu,.uu,.uu,.uu,.uu,.uu,.uu,.uu] (Jm e g)=R:=λ{R r} hr=>
  go (cD (u:=gX t) (L:=λu=>[.ref 2,.s t,.o (u||false),.o (u||false),.ff,.ff,.ff,.ff,.ff,.ff,.ff,.ff,.uu,.uu,.uu,.uu,.uu,.uu,.uu,.uu,.uu,.uu,.uu,.uu]) (q0 U) U (go U (go U U)) U) <|
  go (l':=[.ref 2,.s t,.o (gX t||false),.o (gX t||false),.ff,.ff,.ff,.ff,.ff,.ff,.ff,.ff,.tt,.uu,.uu,.uu,.uu,.uu,.uu,.uu,.uu,.uu,.uu,.uu]) (Jy:=Jm e g) U <|
  go (l':=[.ref 2,.s t,.o (gX t||false),.o (gX t||false),.ff,.ff,.ff,.ff,.ff,.ff,.ff,.ff,.tt,.o (fw0 t),.uu,.uu,.uu,.uu,.uu,.uu,.uu,.uu,.uu,.uu]) (Jy:=Jm e g) (bK (vN (e:=e) (g:=g) d (j:=0) (b:=(t.length:Int)==1) U U U λh=>hsz (beq_eq_false_iff_ne.mp h))) <|
  go (l':=[.ref 2,.s t,.o (gX t||false),.o (gX t||false),.ff,.ff,.ff,.ff,.ff,.ff,.ff,.ff,.tt,.o (fw0 t),.ff,.uu,.uu,.uu,.uu,.uu,.uu,.uu,.uu,.uu]) (Jy:=Jm e g) U <|
  go (l':=[.ref 2,.s t,.o (gX t||false),.o (gX t||false),.ff,.ff,.ff,.ff,.ff,.ff,.ff,.ff,.tt,.o (fw0 t),.ff,.ff,.uu,.uu,.uu,.uu,.uu,.uu,.uu,.uu]) (Jy:=Jm e g) U <|
  go (l':=Kl t (Al t) 0 .uu .uu) (Jy:=Jm e g) U hr
 refine d9 (c:=Jr d) (t:=.b2 (.cmp .lt) N4 LU) (b:=anB) (n:=r0.length) (I:=λi l st=>∃x y,l=Kl t (F i) i x y/\st=Jm e g)
  (λi hi l st=>?_) (λl st=>?_) (by rw[dk];lia) ⟨.uu,.uu,rfl,rfl⟩ λl' Jy hr hx=>?_
 ·rintro ⟨x,y,rfl,rfl⟩
  refine⟨(show Ep d (.b2 (.cmp .lt) N4 LU) (Kl t (F i) i x y) (Jm e g) (.o (decide ((i:Int) < t.length))) from rfl).trans (by rw[decide_eq_true (by lia)]),λ{P} post=>?_⟩
  exact Ag (e:=e) (g:=g) d (F i) (by lia) x y λx' y' hs=>post _ _ hs ⟨x',y',by rw[eS],rfl⟩
 ·rintro ⟨x,y,rfl,rfl⟩
  exact(show Ep d (.b2 (.cmp .lt) N4 LU) (Kl t (F (r0.length+1)) (r0.length+1) x y) (Jm e g) (.o (decide (((r0.length+1:Nat):Int) < t.length))) from rfl).trans (by rw[decide_eq_false (by lia)])
 ·obtain⟨x,y,rfl,rfl⟩:=hx
  obtain⟨lz,hz⟩:=Dn (e:=e) (g:=g) d (t:=t) (i:=r0.length+1) (F (r0.length+1)) x y
  rw[e0]at hr
  exact ay (f:=vZ) (l:=lz) U (go (aj LP U U) (go (l':=[.ref 2,.s t,.ff,.uu,.uu,.uu,.uu,.uu,.uu,.uu,.uu,.uu,.uu,.uu,.uu,.uu,.uu,.uu,.uu,.uu,.uu,.uu,.uu,.uu]) (Jy:=Jm e g) U <|
   go (l':=[.ref 2,.s t,.ff,.ff,.uu,.uu,.uu,.uu,.uu,.uu,.uu,.uu,.uu,.uu,.uu,.uu,.uu,.uu,.uu,.uu,.uu,.uu,.uu,.uu]) (Jy:=Jm e g) U <|
   go (l':=[.ref 2,.s t,.ff,.ff,.ff,.uu,.uu,.uu,.uu,.uu,.uu,.uu,.uu,.uu,.uu,.uu,.uu,.uu,.uu,.uu,.uu,.uu,.uu,.uu]) (Jy:=Jm e g) U <|
   go (l':=[.ref 2,.s t,.ff,.ff,.ff,.ff,.uu,.uu,.uu,.uu,.uu,.uu,.uu,.uu,.uu,.uu,.uu,.uu,.uu,.uu,.uu,.uu,.uu,.uu]) (Jy:=Jm e g) U <|
   go (l':=[.ref 2,.s t,.ff,.ff,.ff,.ff,.ff,.uu,.uu,.uu,.uu,.uu,.uu,.uu,.uu,.uu,.uu,.uu,.uu,.uu,.uu,.uu,.uu,.uu]) (Jy:=Jm e g) U <|
   go (l':=[.ref 2,.s t,.ff,.ff,.ff,.ff,.ff,.ff,.uu,.uu,.uu,.uu,.uu,.uu,.uu,.uu,.uu,.uu,.uu,.uu,.uu,.uu,.uu,.uu]) (Jy:=Jm e g) U <|
   go (l':=[.ref 2,.s t,.ff,.ff,.ff,.ff,.ff,.ff,.ff,.uu,.uu,.uu,.uu,.uu,.uu,.uu,.uu,.uu,.uu,.uu,.uu,.uu,.uu,.uu]) (Jy:=Jm e g) U <|
   go (l':=[.ref 2,.s t,.ff,.ff,.ff,.ff,.ff,.ff,.ff,.ff,.uu,.uu,.uu,.uu,.uu,.uu,.uu,.uu,.uu,.uu,.uu,.uu,.uu,.uu]) (Jy:=Jm e g) U <|
   go (l':=[.ref 2,.s t,.ff,.ff,.ff,.ff,.ff,.ff,.ff,.ff,.ff,.uu,.uu,.uu,.uu,.uu,.uu,.uu,.uu,.uu,.uu,.uu,.uu,.uu]) (Jy:=Jm e g) U <|
   go (l':=[.ref 2,.s t,.ff,.ff,.ff,.ff,.ff,.ff,.ff,.ff,.ff,.ff,.uu,.uu,.uu,.uu,.uu,.uu,.uu,.uu,.uu,.uu,.uu,.uu]) (Jy:=Jm e g) U <|
   s0 (go hr hz))) U
end
def Tr(c:Cx)(t:E)(l:List V)(st:St)(b:Bool):Prop:=∃v,Jq c t l st=some (v,st)/\truth st v=some b/\ae v=false
section
variable{t:E}{st:St}{w:Bool}
theorem Tr.of(h:Jq c t l st=some (.b x,st)):Tr c t l st x.truth:=⟨_,h,rfl,rfl⟩
theorem Tr.bl(h:Jq c t l st=some (.o u,st)):Tr c t l st u:=⟨_,h,rfl,rfl⟩
theorem Tr.or(h:Tr c t l st u)(h':Tr c a l st w):Tr c (.or t a) l st (u||w):=by
 obtain⟨v,h1,h2⟩:=h
 cases u with
 | true=>exact⟨v,Jl h1 (Jl h2.1 U),h2⟩
 | false=>obtain⟨v',h3,h4⟩:=h';exact⟨v',Jl h1 (Jl h2.1 h3),h4⟩
theorem Tr.and(h:Tr c t l st u)(h':u=true->Tr c a l st w):Tr c (.and t a) l st (u&&w):=by
 obtain⟨v,h1,h2⟩:=h
 cases u with
 | false=>exact⟨v,Jl h1 (Jl h2.1 U),h2⟩
 | true=>obtain⟨v',h3,h4⟩:=h' U;exact⟨v',Jl h1 (Jl h2.1 h3),h4⟩
theorem Tr.not(h:Tr c t l st u):Jq c (.u1 .not t) l st=some (.o (!u),st):=by
 obtain⟨v,h1,h2⟩:=h
 exact Jl h1 (kg (Option.map _) h2.1)
theorem Tr.yes{p:S}(h:Tr c t l st true)(k:JJ c p l st=R):JJ c (.Ju t p q) l st=R:=by
 obtain⟨v,h1,h2⟩:=h
 exact ao h1 h2.1 k
theorem Tr.no{p:S}(h:Tr c t l st false)(k:JJ c q l st=R):JJ c (.Ju t p q) l st=R:=by
 obtain⟨v,h1,h2⟩:=h
 exact aj h1 h2.1 k
end
theorem Ay(d:Nat):(Jr d).sup=ii:=by cases d <;> rfl
noncomputable def JZ(cs:List Nat)(k:Nat):Bool:=cs.any λj=>(ii[k]?).any λl=>l.contains j
noncomputable def OS(Js tag:B)(i0 i1:Bool)(val:Tx)(JE:B):V:=.rc 9 [(96,Js),(97,tag),(98,.bb i0 i1),(99,.str val),(108,.nul),(109,.nul),(91,JE)]
noncomputable def NZ(c:Nat)(Js tag:B)(imp:Bool)(fl:B):V:=.rc c [(96,Js),(97,tag),(98,.bool imp),(108,.nul),(109,.nul),(95,fl)]
noncomputable def alV(Js:B):V:=.rc 8 [(96,Js),(108,.nul),(109,.nul)]
noncomputable def Ko(c:Nat):V:=.rc c [(108,.nul),(109,.nul)]
section
theorem v9(h0:l[0]?=some (.ref 2))(h:e.k.event=.rc k f):Jq c I5 l (Jm e g)=some (.rc k f,Jm e g):=
 Jl (aB h0) (lC (j:=(2,0,MF e)) U (kg some h))
theorem oQ{st:St}(hx:f.lookup n=some x):f1 c (.JY n) (.rc k f) st=some (.b x,st):=by
 have h:iN n (.rc k f) st=some (.b x):=by
  unfold iN
  show Option.or (Option.map V.b (f.lookup n)) _=_
  rw[hx];rfl
 exact kg (Option.map λx=>(x,st)) h
theorem au(d:Nat){y:Bool}{cs:List Nat}(h0:l[0]?=some (.ref 2))(h:e.k.event=.rc k f):Ep d (.u1 (.KZ y cs) I5) l (Jm e g) (.o (JZ cs k)):=
 Jl (v9 h0 h) (by show some (V.b (.bool (cs.any λj=>((Jr d).sup[k]?).any λl=>l.contains j)),Jm e g)=_;rw[Ay];rfl)
theorem JU(h0:l[0]?=some (.ref 2))(h:e.k.event=.rc k f)(hx:f.lookup n=some x):Jq c (.u1 (.JY n) I5) l (Jm e g)=some (.b x,Jm e g):=
 Jl (v9 h0 h) (oQ hx)
noncomputable def aF(c:Nat)(l:List V):Bool:=match l with | .rc k _::_=>JZ [c] k | _=>false
def Mx(l:List V):Prop:=∀v∈l,∃k f,v=.rc k f
noncomputable def C4(a b:Nat):E:=.and (.u1 (.KZ false [a]) I5) (.and MI (.u1 (.KZ false [b]) nI))
theorem iS(d a b:Nat)(h:e.k.event=.rc k f)(hr:Mx e.k.events):Tr (Jr d) (C4 a b) [.ref 2] (Jm e g) (JZ [a] k&&aF b e.k.events):=by
 refine(Tr.bl (au (e:=e) (g:=g) (l:=[.ref 2]) d (y:=false) (cs:=[a]) U h)).and λJ=>?_
 have h1:Ep d MI [.ref 2] (Jm e g) (.ref 4):=rfl
 have h2:truth (Jm e g) (.ref 4)=some (!e.k.events.isEmpty):=bX (p:=(4,e.k.events)) U
 have t1:Tr (Jr d) MI [.ref 2] (Jm e g) (!e.k.events.isEmpty):=⟨_,h1,h2,rfl⟩
 cases he:e.k.events with
 | nil=>
  rw[he]at t1
  exact t1.and (w:=false) λh=>nomatch h
 | cons v r=>
  obtain⟨k',f',rfl⟩:=hr v (he▸.head _)
  rw[he]at t1
  have h3:Ep d nI [.ref 2] (Jm e g) (.rc k' f'):=
   Jl h1 (Jl (a:=(.i 0,Jm e g)) U (kO (j:=(4,e.k.events)) U (Sq 0) (by rw[he];rfl)))
  have h4:Ep d (.u1 (.KZ false [b]) nI) [.ref 2] (Jm e g) (.o (JZ [b] k')):=
   Jl h3 (by show some (V.b (.bool ([b].any λj=>((Jr d).sup[k']?).any λl=>l.contains j)),Jm e g)=_;rw[Ay];rfl)
  exact t1.and λJ=>Tr.bl h4
theorem qG(d:Nat)(h0:l[0]?=some (.ref 2))(h:e.k.event=.rc k f)(hr:Mx e.k.events):Tr (Jr (d+1)) (.call 29 I0 .nil) l (Jm e g) (JZ [10] k&&aF 11 e.k.events):=by
 obtain⟨v,h1,h2,h3⟩:=iS (e:=e) (g:=g) d 10 11 h hr
 exact⟨v,az zq (vs:=[]) (kw:=[]) (ws:=[.ref 2]) h0 U U U U U (ay (f:=zq) (l:=[.ref 2]) U (KA (kg (Option.map _) h1)) h3),h2,h3⟩
theorem qF(d:Nat)(h0:l[0]?=some (.ref 2))(h:e.k.event=.rc k f)(hr:Mx e.k.events):Tr (Jr (d+1)) (.call 30 I0 .nil) l (Jm e g) (JZ [12] k&&aF 13 e.k.events):=by
 obtain⟨v,h1,h2,h3⟩:=iS (e:=e) (g:=g) d 12 13 h hr
 exact⟨v,az zp (vs:=[]) (kw:=[]) (ws:=[.ref 2]) h0 U U U U U (ay (f:=zp) (l:=[.ref 2]) U (KA (kg (Option.map _) h1)) h3),h2,h3⟩
noncomputable def fK(x:B)(bi:Int)(flow less:Bool):B:=match x with | .int i=>bif less then .int i else .int (i+bi) | _=>bif flow then .int bi else .int 0
noncomputable def Ct.ind(c:Ct)(x:B):Ct:=⟨x,c.lvl,c.root,c.sq,c.mp,c.sk⟩
noncomputable def Sk.M4(k:Sk)(x:V):Sk:=⟨k.state,k.event,k.Jt,k.events,k.Jw++[x]⟩
theorem fJ(d:Nat)(fl le:Bool)(hi:JI e.c.indent)(hl:e.k.Jw.length < JL):(Jr (d+1)).Jv 3 [.ref 2,.o fl,.o le] (Jm e g)=some (.b .nul,Jm ((e.C (e.c.ind (fK e.c.indent e.o.bi fl le))).K (e.k.M4 (.b e.c.indent))) g):=by
 have s0:Es d (LQ b_3) [.ref 2,.o fl,.o le] (Jm e g) [.ref 2,.o fl,.o le] (Jm (e.K (e.k.M4 (.b e.c.indent))) g):=eH (k:=5) (xs:=e.k.Jw) (ys:=e.k.Jw) (v:=.b e.c.indent) (s1:=Jm e g) U U U U hl U
 have q:Ep d (.u1 (.isNone true) tw) [.ref 2,.o fl,.o le] (Jm (e.K (e.k.M4 (.b e.c.indent))) g) (.o (bif bf (.b e.c.indent) then true else !true)):=rfl
 generalize hk:e.k.M4 (.b e.c.indent)=K at s0 q ⊢
 rcases hi with h | ⟨i,h,_⟩
 ·rw[h]at q ⊢
  cases fl with
  | true=>exact aa (f:=Pc) (l:=[.ref 2,.tt,.o le]) U (go s0 (go (ao q U (go (ao (v:=.tt) U U (go U U)) U)) U))
  | false=>exact aa (f:=Pc) (l:=[.ref 2,.ff,.o le]) U (go s0 (go (ao q U (go (aj (v:=.ff) U U (go U U)) U)) U))
 ·rw[h]at q ⊢
  cases le with
  | true=>
   have e2:e.c.ind (.int i)=e.c:=by unfold Ct.ind;rw[<- h]
   have e1:Jm ((e.C (e.c.ind (fK (.int i) e.o.bi fl true))).K K) g=Jm (e.K K) g:=by show Jm ((e.C (e.c.ind (.int i))).K K) g=_;rw[e2];rfl
   rw[e1]
   exact aa (f:=Pc) (l:=[.ref 2,.o fl,.tt]) U (go s0 (go (aj q U (go (aj (v:=.ff) U U U) U)) U))
  | false=>
   have s3:Es d (.KU 71 .add I0 pe) [.ref 2,.o fl,.ff] (Jm (e.K K) g) [.ref 2,.o fl,.ff] (Jm ((e.C (e.c.ind (.int (i+e.o.bi)))).K K) g):=
    Jl (a:=(.ref 2,Jm (e.K K) g)) U (Jl (a:=.b e.c.indent) U (Jl (a:=(.i e.o.bi,Jm (e.K K) g)) U (by rw[h];rfl)))
   exact aa (f:=Pc) (l:=[.ref 2,.o fl,.ff]) U (go s0 (go (aj q U (go (ao (v:=.tt) U U (go s3 U)) U)) U))
end
noncomputable def pR(c:Nat):Bool:=inR 48 57 c||(inR 65 90 c||(inR 97 122 c||decide (c∈[45,95])))
def i5(a:Tx):Prop:=a≠[]/\∀c∈a,pR c=true
noncomputable def w5:S:=match ah 1 GA with | .cons (.for _ _ b) _=>b | _=>.nil
section
theorem wZ(d:Nat){a:Tx}{c:Nat}(h:pR c=true){st:St}:Es d w5 [.ref 2,.s a,.s [c]] st [.ref 2,.s a,.s [c]] st:=by
 have q:Ep d I44 [.ref 2,.s a,.s [c]] st (.o (!pR c)):=EV (cB (bh U U U U U) (cB (bh U U U U U) (cB (bh U U U U U) U)))
 rw[h]at q
 exact go (aj q U U) U
theorem wY(d:Nat)(a:Tx){st:St}:∀(r:Tx)(i fuel:Nat)(x:V),a.drop i=r->(∀c∈r,pR c=true)->r.length < fuel->∃y,cy 2 (itemAt (.s a)) (JJ (Jr d) w5) fuel i [.ref 2,.s a,x] st=some (.next,[.ref 2,.s a,y],st):=by
 intro r
 induction r with
 | nil=>
  intro i fuel x hd _ hf
  obtain⟨f,rfl⟩:∃f,fuel=f+1:=⟨fuel - 1,(R9 hf).symm⟩
  have hi:a[i]?=none:=by rw[<- Ss,hd];rfl
  have hit:itemAt (.s a) st i=some none:=by show(some ((a[i]?).map λx=>V.b (.str [x]))).or _=_;rw[hi];rfl
  exact⟨x,Jl hit U⟩
 | cons c r ih=>
  intro i fuel x hd ho hf
  obtain⟨f,rfl⟩:∃f,fuel=f+1:=⟨fuel - 1,(R9 (li (mj _) hf)).symm⟩
  have hi:a[i]?=some c:=by rw[<- Ss,hd];rfl
  have hit:itemAt (.s a) st i=some (some (.s [c])):=by show(some ((a[i]?).map λx=>V.b (.str [x]))).or _=_;rw[hi];rfl
  obtain⟨y,hy⟩:=ih (i+1) f (.s [c]) (by rw[<- SA,hd];rfl) (λc hc=>ho c (.tail _ hc)) (R7 hf)
  exact⟨y,Jl hit (Jl (wZ d (ho c (.head _))) hy)⟩
theorem Af(d:Nat){a:Tx}(h:i5 a)(hl:a.length < 390){st:St}:(Jr (d+1)).Jv 41 [.ref 2,.s a] st=some (.s a,st):=by
 obtain⟨y,hy⟩:=wY d a (st:=st) a 0 (60000+BS (.s a)) .uu U h.2 (lh hl (ke (by decide) (lu 60000 _)))
 have hn:Ep d gF [.ref 2,.s a,.uu] st .ff:=by
  cases a with
  | nil=>exact absurd U h.1
  | cons c r=>rfl
 have hf:Es d (.for 2 I2 w5) [.ref 2,.s a,.uu] st [.ref 2,.s a,y] st:=Jl (a:=(.s a,st)) U (by rw[dk];exact hy)
 exact ay (f:=zm) (l:=[.ref 2,.s a,y]) U (go (aj hn U U) (go hf (KA U))) U
noncomputable def AN(c:Nat):Bool:=inR 48 57 c||(inR 65 90 c||inR 97 122 c)
def lP(t:Tx):Prop:=t=[33]∨∃c,t=[33,c]/\AN c=true
def bn(e:Em)(g:List Ob):Prop:=∃j,e.m.Lo=.ref (j+6)/\g[j]?=some (.Md aQ)
noncomputable def bQ:List V:=[.s [33],.s yT]
theorem yM:aq (jj (aQ.map (·.1)))=bQ:=by kernel_rfl
theorem Cs{t:List V->St->Option (V×St)}{b:List V->St->Kf}{st:St}{f:Nat}(h1:t l st=some (.tt,st))(hb:b l st=some (.next,l1,st))(h2:t l1 st=some (.ff,st)):cQ t b (f+2) l st=some (.next,l1,st):=Jl h1 (Jl (a:=true) U (Jl hb (Jl h2 (Jl (a:=false) U U))))
theorem ut{α:Type}(l:List α)(a b:α):(l++[a]).set l.length b=l++[b]:=by
 induction l with
 | nil=>rfl
 | cons x l ih=>exact kg (x::·) ih
noncomputable def CS:S->S | .cons (.for _ _ b) _=>b | _=>.nil
theorem xK(d:Nat){t:Tx}(h:lP t)(hp:bn e g)(post:∀x,(Jr (d+1)).Jv 40 [.ref 2,.s t] (Jm e g)=some (.s t,Jm e (g++x))->P):P:=by
 rcases h with rfl | ⟨c,rfl,hc⟩
 ·refine post [] ?_
  rw[mh]
  exact ay (f:=v6) (l:=[.ref 2,.s [33],.uu,.uu,.uu,.uu,.uu,.uu,.uu,.uu,.uu,.uu]) U (go (aj (v:=.ff) U U U) (KA (ao (v:=.tt) U U (KA U)))) U
 obtain⟨j,hj,hg⟩:=hp
 have q0:Ep d (.b2 (.cmp .eq) I2 tB) [.ref 2,.s [33,c],.uu,.uu,.uu,.uu,.uu,.uu,.uu,.uu,.uu,.uu] (Jm e g) .ff:=rfl
 have Md:∀{g':List Ob},gK (Jm e (g++g')) (.ref (j+6))=some (j+6,aQ):=λ{g'}=>Jl (f:=λo=>(nB o).map λl=>(j+6,l)) ((Sa (kh hg).1).trans hg:(Jm e (g++g')).cur[j+6]?=_) U
 have dct0:gK (Jm e g) (.ref (j+6))=some (j+6,aQ):=Jl (f:=λo=>(nB o).map λl=>(j+6,l)) (hg:(Jm e g).cur[j+6]?=_) U
 have JY:∀{g':List Ob}{l:List V},l[0]?=some (.ref 2)->Ep d (.u1 (.JY 87) I0) l (Jm e g') (.ref (j+6)):=λ{g' l} h0=>Jl (aB h0) (lC (j:=(2,0,MF e)) U (kg some hj))
 have hk:Ev d (.u1 .keys (.u1 (.JY 87) I0)) [.ref 2,.s [33,c],.b .nul,.s [33,c],.uu,.uu,.uu,.uu,.uu,.uu,.uu,.uu] (Jm e g) (.ref (g.length+6)) (Jm e (g++[Ob.lst bQ])):=by
  refine Jl (JY U) ?_
  show Option.map _ (Option.or none (Option.map _ (gK (Jm e g) (.ref (j+6)))))=_
  rw[dct0,<- yM];rfl
 have hl:aI (Jm e (g++[Ob.lst bQ])) (.ref (g.length+6))=some (g.length+6,bQ):=ab (by
  show(g++[Ob.lst bQ])[g.length]?=_
  rw[R4 (mf _),Sl];rfl)
 have it:∀i,itemAt (.ref (g.length+6)) (Jm e (g++[Ob.lst bQ])) i=some (bQ[i]?):=λi=>by
  show(Option.or none ((aI (Jm e (g++[Ob.lst bQ])) (.ref (g.length+6))).map _))=_
  rw[hl];rfl
 have b0:Es d (CS (ah 5 wU)) [.ref 2,.s [33,c],.b .nul,.s [33,c],.ref (g.length+6),.s [33],.uu,.uu,.uu,.uu,.uu,.uu] (Jm e (g++[Ob.lst bQ])) [.ref 2,.s [33,c],.s [33],.s [c],.ref (g.length+6),.s [33],.uu,.uu,.uu,.uu,.uu,.uu] (Jm e (g++[Ob.lst bQ])):=by
  refine go (ao (v:=.tt) U U (go (bK (v:=.s [33]) (Jl (JY U) (Jl (a:=(.s [33],Jm e (g++[Ob.lst bQ]))) U ?_))) (go U U))) U
  show Option.map _ (Option.or none (Option.bind (Option.or none (Option.map _ (gK (Jm e (g++[Ob.lst bQ])) (.ref (j+6))))) _))=_
  rw[Md];rfl
 have b1:Es d (CS (ah 5 wU)) [.ref 2,.s [33,c],.s [33],.s [c],.ref (g.length+6),.s yT,.uu,.uu,.uu,.uu,.uu,.uu] (Jm e (g++[Ob.lst bQ])) [.ref 2,.s [33,c],.s [33],.s [c],.ref (g.length+6),.s yT,.uu,.uu,.uu,.uu,.uu,.uu] (Jm e (g++[Ob.lst bQ])):=
  go (aj (v:=.ff) U U U) U
 have lp:Es d (.for 5 I8 (CS (ah 5 wU))) [.ref 2,.s [33,c],.b .nul,.s [33,c],.ref (g.length+6),.uu,.uu,.uu,.uu,.uu,.uu,.uu] (Jm e (g++[Ob.lst bQ])) [.ref 2,.s [33,c],.s [33],.s [c],.ref (g.length+6),.s yT,.uu,.uu,.uu,.uu,.uu,.uu] (Jm e (g++[Ob.lst bQ])):=
  Jl (a:=(.ref (g.length+6),Jm e (g++[Ob.lst bQ]))) U (by
   show cy 5 _ _ (Jr d).wf 0 _ _=_
   rw[dk]
   exact Jl (it 0) (Jl b0 (Jl (it 1) (Jl b1 (Jl (it 2) U)))))
 generalize hG:g++[Ob.lst bQ]=G at*
 have hl2:∀{xs:List V},aI (Jm e (G++[Ob.lst xs])) (.ref (G.length+6))=some (G.length+6,xs):=λ{xs}=>ab (by
  show(G++[Ob.lst xs])[G.length]?=_
  rw[R4 (mf _),Sl];rfl)
 have qc:Ep d I26 [.ref 2,.s [33,c],.s [33],.s [c],.ref (g.length+6),.s yT,.ref (G.length+6),.i 0,.uu,.s [c],.uu,.i 0] (Jm e (G++[Ob.lst []])) (.o (inR 48 57 c||(inR 65 90 c||(inR 97 122 c||(decide (c∈[45,59,47,63,58,64,38,61,43,36,44,95,46,126,42,39,40,41,91,93])||(([c]==([33]:Tx))&&false)))))):=
  cB (bh U U U U U) (cB (bh U U U U U) (cB (bh U U U U U) (cB U (bP U U))))
 have Qc:(inR 48 57 c||(inR 65 90 c||(inR 97 122 c||(decide (c∈[45,59,47,63,58,64,38,61,43,36,44,95,46,126,42,39,40,41,91,93])||(([c]==([33]:Tx))&&false)))))=true:=by
  unfold AN at hc
  revert hc
  cases inR 48 57 c <;> cases inR 65 90 c <;> cases inR 97 122 c <;> intro hc <;> first | rfl | exact nomatch hc
 rw[Qc]at qc
 have w1:Es d (LQ (ah 8 wU)) [.ref 2,.s [33,c],.s [33],.s [c],.ref (g.length+6),.s yT,.ref (G.length+6),.i 0,.uu,.uu,.uu,.i 0] (Jm e (G++[Ob.lst []])) [.ref 2,.s [33,c],.s [33],.s [c],.ref (g.length+6),.s yT,.ref (G.length+6),.i 0,.uu,.s [c],.uu,.i 1] (Jm e (G++[Ob.lst []])):=by
  show cQ _ _ (Jr d).wf _ _=_
  rw[dk]
  exact Cs (f:=59998) U (go (bK (v:=.s [c]) U) (go (ao qc U (go U U)) U)) U
 have a1:Es d (.app Kp (.slice Kr L7 lI)) [.ref 2,.s [33,c],.s [33],.s [c],.ref (g.length+6),.s yT,.ref (G.length+6),.i 0,.uu,.s [c],.uu,.i 1] (Jm e (G++[Ob.lst []])) [.ref 2,.s [33,c],.s [33],.s [c],.ref (g.length+6),.s yT,.ref (G.length+6),.i 0,.uu,.s [c],.uu,.i 1] (Jm e (G++[Ob.lst [.s [c]]])):=by
  have hx:(Jm e (G++[Ob.lst []])).cur[G.length+6]?=some (.lst []):=by
   show(G++[Ob.lst []])[G.length]?=_
   rw[R4 (mf _),Sl];rfl
  refine(eH (k:=G.length+6) (xs:=[]) (ys:=[]) (v:=.s [c]) (s1:=Jm e (G++[Ob.lst []])) U hx U hx (by decide) U).trans ?_
  have:bx (Jm e (G++[Ob.lst []])) (G.length+6) (.lst [.s [c]])=Jm e (G++[Ob.lst [.s [c]]]):=by
   show St.mk (_::_::_::_::_::_::(G++[Ob.lst []]).set G.length _) []=_
   rw[ut];rfl
  exact kg (λs=>some (LD.next,_,s)) this
 have hj:Ep d (.u1 .join Kp) [.ref 2,.s [33,c],.s [33],.s [c],.ref (g.length+6),.s yT,.ref (G.length+6),.i 0,.uu,.s [c],.uu,.i 1] (Jm e (G++[Ob.lst [.s [c]]])) (.s [c]):=
  Jl (a:=(.ref (G.length+6),Jm e (G++[Ob.lst [.s [c]]]))) U (Jl hl2 (Jl (a:=[[c]]) U (bU (decide_eq_true (show [[c]].flatten.length<=JL from ke (by decide:1<=2000) p7)))))
 refine post ([Ob.lst bQ]++[Ob.lst [.s [c]]]) ?_
 rw[<- lq,hG]
 exact ay (f:=v6) (l:=[.ref 2,.s [33,c],.s [33],.s [c],.ref (g.length+6),.s yT,.ref (G.length+6),.i 0,.s [c],.s [c],.uu,.i 1]) U
  (go (aj (v:=.ff) U U U) (go (aj q0 U U) (go (l':=[.ref 2,.s [33,c],.b .nul,.uu,.uu,.uu,.uu,.uu,.uu,.uu,.uu,.uu]) (Jy:=Jm e g) U (go (l':=[.ref 2,.s [33,c],.b .nul,.s [33,c],.uu,.uu,.uu,.uu,.uu,.uu,.uu,.uu]) (Jy:=Jm e g) U (go (bK hk) (go lp
   (go (l':=[.ref 2,.s [33,c],.s [33],.s [c],.ref (g.length+6),.s yT,.ref (G.length+6),.uu,.uu,.uu,.uu,.uu]) (Jy:=Jm e (G++[Ob.lst []])) U
   (go (l':=[.ref 2,.s [33,c],.s [33],.s [c],.ref (g.length+6),.s yT,.ref (G.length+6),.i 0,.uu,.uu,.uu,.i 0]) (Jy:=Jm e (G++[Ob.lst []])) U
   (go w1 (go (ao (v:=.tt) U U (go a1 U)) (go (bK hj) (KA (ao (v:=.s [33]) U U (KA U)))))))))))))) U
end
noncomputable def MV(t:Tx):Bool:=t.isEmpty
noncomputable def MU(t:Tx)(w:B):Bool:=bif t.isEmpty then false else(OH t w).lb
noncomputable def Pj(t:Tx)(w:B):Bool:=bif t.isEmpty then false else(OH t w).fp
noncomputable def Pk(t:Tx)(w:B):Bool:=bif t.isEmpty then true else(OH t w).bp
noncomputable def Ph(t:Tx)(w:B):Bool:=bif t.isEmpty then true else(OH t w).sq
noncomputable def Pn(t:Tx)(w:B):Bool:=bif t.isEmpty then false else(OH t w).bk
theorem i7(t:Tx)(w:B):J0 t w=anV t (MV t) (MU t w) (Pj t w) (Pk t w) (Ph t w) (Pn t w):=by cases t <;> rfl
noncomputable def Ms.JM(m:Ms)(x:V):Ms:=⟨m.Lo,m.Js,m.tag,x,m.JE⟩
noncomputable def Ms.JQ(m:Ms)(x:B):Ms:=⟨m.Lo,x,m.tag,m.J0,m.JE⟩
noncomputable def Ms.setTag(m:Ms)(x:B):Ms:=⟨m.Lo,m.Js,x,m.J0,m.JE⟩
noncomputable def Ms.J6(m:Ms)(x:B):Ms:=⟨m.Lo,m.Js,m.tag,m.J0,x⟩
noncomputable def isStr(x:B)(t:Tx):Bool:=match x with | .str s=>s==t | _=>false
noncomputable def yZ(x:B):Bool:=match x with | .str [c]=>decide (c∈[124,62]) | _=>false
def d8(x:B):Prop:=x=.nul∨x=.str []∨∃c,x=.str [c]
noncomputable def jR(JE:B)(i0 Jo fl sk em lb fp bp sq bk:Bool):B:=
 bif isStr JE [34]||Jo then .str [34] else bif (!JE.truth&&i0)&&(!(sk&&(em||lb))&&((fl&&fp)||(!fl&&bp))) then .str []
 else bif (JE.truth&&yZ JE)&&(!fl&&(!sk&&bk)) then JE else bif (!JE.truth||isStr JE [39])&&(sq&&!(sk&&lb)) then .str [39] else .str [34]
section
variable{st:St}{w:Bool}{C C' x:E}{v':V}{r:S}
theorem B8(h:Tr c C l st u)(hx:u=true->Jq c x l st=some (v,st))(k:u=false->JJ c r l st=some (.ret v',l,st)):JJ c (.cons (.Ju C (.cons (.ret x) .nil) .nil) r) l st=some (.ret (bif u then v else v'),l,st):=by
 cases u with
 | true=>exact KA (h.yes (KA (kg (Option.map _) (hx U))))
 | false=>exact go (h.no U) (k U)
theorem j7(h:Tr c C l st u)(h':u=true->Tr c C' l st w)(hx:u=true->Jq c x l st=some (v,st))(k:JJ c r l st=some (.ret v',l,st)):JJ c (.cons (.Ju C (.cons (.Ju C' (.cons (.ret x) .nil) .nil) .nil) .nil) r) l st=some (.ret (bif u&&w then v else v'),l,st):=by
 cases u with
 | false=>exact go (h.no U) k
 | true=>
  cases w with
  | true=>exact KA (h.yes (KA ((h' U).yes (KA (kg (Option.map _) (hx U))))))
  | false=>exact go (h.yes (go ((h' U).no U) U)) k
end
section
noncomputable def Jg:S:=.Ju (.u1 (.isNone true) MY) GY .nil
theorem i6(t:Tx)(w:B):bf (J0 t w)=false/\ae (J0 t w)=false:=by rw[i7];exact⟨rfl,rfl⟩
theorem nD(d:Nat)(h0:l[0]?=some (.ref 2))(h:e.k.event=.rc k f)(hv:f.lookup 99=some (.str val))(hl:val.length < 390)(ha:e.m.J0=.b .nul∨e.m.J0=J0 val e.o.wide):Es (d+1) Jg l (Jm e g) l (Jm (e.M (e.m.JM (J0 val e.o.wide))) g):=by
 have q0:Ep (d+1) MY l (Jm e g) e.m.J0:=Jl (aB h0) U
 have r:=JU (e:=e) (g:=g) (c:=Jr (d+1)) h0 h hv
 rcases ha with h1 | h1
 ·rw[h1]at q0
  refine ao (v:=.tt) (Jl q0 U) U (go ?_ U)
  refine Jl (a:=(J0 val e.o.wide,Jm e g)) (az vZ (vs:=[.s val]) (kw:=[]) (ws:=[.ref 2,.s val]) h0 U U U (Jl r U) U (Dm d hl)) (Jl (aB h0) ?_)
  have hu:=(i6 val e.o.wide).2
  show Option.map _ ((af (decide ((MF e).length < 100)&&decide (90 < 128)&&!ae (J0 val e.o.wide)) _))=_
  rw[hu];rfl
 ·rw[h1]at q0
  have e1:e.M (e.m.JM (J0 val e.o.wide))=e:=by unfold Em.M Ms.JM;rw[<- h1]
  rw[e1]
  refine aj (v:=.ff) (Jl q0 ?_) U U
  show(af (!ae (J0 val e.o.wide)) (V.b (.bool (bif bf (J0 val e.o.wide) then true else !true)),Jm e g))=_
  rw[(i6 val e.o.wide).2,(i6 val e.o.wide).1];rfl
theorem cK(h0:l[0]?=some (.ref 2))(ha:e.m.J0=.rc j fa)(hx:fa.lookup n=some x):Jq c (.u1 (.JY n) MY) l (Jm e g)=some (.b x,Jm e g):=
 Jl (Jl (a:=(.ref 2,Jm e g)) (aB h0) (lC (j:=(2,0,MF e)) U (kg some ha))) (oQ hx)
theorem gv{t:Tx}{st:St}(h:Jq c a l st=some (.b x,st))(hx:d8 x):Jq c (.b2 (.cmp .eq) a (.n0 (.cst (.str t)))) l st=some (.o (isStr x t),st):=by
 rcases hx with rfl | rfl | ⟨c,rfl⟩ <;> exact Jl h (Jl (a:=(.s t,st)) rfl rfl)
theorem vz{st:St}(h:Jq c a l st=some (.b x,st))(hx:d8 x)(ht:x.truth=true):Jq c (.b2 (.cmp .LO) a (.n0 (.cst (.str [124,62])))) l st=some (.o (yZ x),st):=by
 rcases hx with rfl | rfl | ⟨c,rfl⟩
 ·exact nomatch ht
 ·exact nomatch ht
 ·exact Jl h (Jl (a:=(.s [124,62],st)) U U)
theorem oC(h0:l[0]?=some (.ref 2))(h:e.k.event=.rc k f)(hi:f.lookup 98=some (.bb i0 i1)):Jq c xt l (Jm e g)=some (.o i0,Jm e g):=Jl (JU h0 h hi) (Jl (a:=(.i 0,Jm e g)) U U)
theorem CO(h0:l[0]?=some (.ref 2))(h:e.k.event=.rc k f)(hi:f.lookup 98=some (.bb i0 i1)):Jq c (.b2 .idx xb I4) l (Jm e g)=some (.o i1,Jm e g):=Jl (JU h0 h hi) (Jl (a:=(.i 1,Jm e g)) U U)
noncomputable def bD(e:Em)(val:Tx)(JE:B)(i0:Bool):B:=jR JE i0 e.o.Jo.truth (e.c.lvl != 0) e.c.sk (MV val) (MU val e.o.wide) (Pj val e.o.wide) (Pk val e.o.wide) (Ph val e.o.wide) (Pn val e.o.wide)
theorem xN(d:Nat)(h:e.k.event=.rc k f)(hv:f.lookup 99=some (.str val))(hs:f.lookup 91=some JE)(hi:f.lookup 98=some (.bb i0 i1))(hS:d8 JE)(hl:val.length < 390)(ha:e.m.J0=.b .nul∨e.m.J0=J0 val e.o.wide) :
  (Jr (d+2)).Jv 35 [.ref 2] (Jm e g)=some (.b (bD e val JE i0),Jm (e.M (e.m.JM (J0 val e.o.wide))) g):=by
 have s0:=nD (e:=e) (g:=g) (l:=[.ref 2]) d U h hv hl ha
 have hE:(e.M (e.m.JM (J0 val e.o.wide))).k.event=.rc k f:=h
 have hA:(e.M (e.m.JM (J0 val e.o.wide))).m.J0=anV val (MV val) (MU val e.o.wide) (Pj val e.o.wide) (Pk val e.o.wide) (Ph val e.o.wide) (Pn val e.o.wide):=i7 val e.o.wide
 unfold bD
 have eo:(e.M (e.m.JM (J0 val e.o.wide))).o=e.o:=rfl
 have ec:(e.M (e.m.JM (J0 val e.o.wide))).c=e.c:=rfl
 generalize e.M (e.m.JM (J0 val e.o.wide))=E at s0 hE hA eo ec
 rw[<- eo,<- ec]
 rw[<- eo]at hA
 generalize MV val=em at hA
 generalize MU val E.o.wide=lb at hA
 generalize Pj val E.o.wide=fp at hA
 generalize Pk val E.o.wide=bp at hA
 generalize Ph val E.o.wide=sq at hA
 generalize Pn val E.o.wide=bk at hA
 have qs:Ep (d+1) nH [.ref 2] (Jm E g) (.b JE):=JU U hE hs
 have ts:=Tr.of qs
 have tfl:Tr (Jr (d+1)) PL [.ref 2] (Jm E g) (E.c.lvl != 0):=Tr.of (x:=.int E.c.lvl) U
 have tsk:Tr (Jr (d+1)) xa [.ref 2] (Jm E g) E.c.sk:=Tr.bl U
 have tem:Tr (Jr (d+1)) (.u1 (.JY 101) MY) [.ref 2] (Jm E g) em:=Tr.bl (cK U hA U)
 have tlb:Tr (Jr (d+1)) Ao [.ref 2] (Jm E g) lb:=Tr.bl (cK U hA U)
 have tfp:Tr (Jr (d+1)) (.u1 (.JY 103) MY) [.ref 2] (Jm E g) fp:=Tr.bl (cK U hA U)
 have tbp:Tr (Jr (d+1)) (.u1 (.JY 104) MY) [.ref 2] (Jm E g) bp:=Tr.bl (cK U hA U)
 have tsq:Tr (Jr (d+1)) (.u1 (.JY 106) MY) [.ref 2] (Jm E g) sq:=Tr.bl (cK U hA U)
 have tbk:Tr (Jr (d+1)) (.u1 (.JY 105) MY) [.ref 2] (Jm E g) bk:=Tr.bl (cK U hA U)
 have Mp:Tr (Jr (d+1)) Nh [.ref 2] (Jm E g) E.o.Jo.truth:=Tr.of (x:=E.o.Jo) U
 have key:∀{y:B},JJ (Jr (d+1)) (ah 1 sS) [.ref 2] (Jm E g)=some (.ret (.b (jR JE i0 E.o.Jo.truth (E.c.lvl != 0) E.c.sk em lb fp bp sq bk)),[.ref 2],Jm E g):=λ{y}=>by
  have main:=B8 (x:=.n0 (.cst (.str [34]))) (r:=ah 2 sS) (v:=.s [34]) ((Tr.bl (gv (t:=[34]) qs hS)).or Mp) (λJ=>rfl) λJ=>
   j7 (x:=.n0 (.cst (.str []))) (r:=ah 3 sS) (v:=.s []) ((Tr.bl ts.not).and λJ=>Tr.bl (oC U hE hi)) (λJ=>(Tr.bl (tsk.and λJ=>tem.or tlb).not).and λJ=>(tfl.and λJ=>tfp).or ((Tr.bl tfl.not).and λJ=>tbp)) (λJ=>rfl) <|
   j7 (r:=ah 4 sS) (v:=.b JE) (ts.and λh=>Tr.bl (vz qs hS h)) (λJ=>(Tr.bl tfl.not).and λJ=>(Tr.bl tsk.not).and λJ=>tbk) (λJ=>qs) <|
   j7 (x:=.n0 (.cst (.str [39]))) (r:=ah 5 sS) (v:=.s [39]) (v':=.s [34]) ((Tr.bl ts.not).or (Tr.bl (gv (t:=[39]) qs hS))) (λJ=>tsq.and λJ=>Tr.bl (tsk.and λJ=>tlb).not) (λJ=>rfl) (KA U)
  refine main.trans ?_
  unfold jR
  cases isStr JE [34]||E.o.Jo.truth with
  | true=>rfl
  | false=>
   cases (!JE.truth&&i0)&&(!(E.c.sk&&(em||lb))&&(((E.c.lvl != 0)&&fp)||(!(E.c.lvl != 0)&&bp))) with
   | true=>rfl
   | false=>
    cases (JE.truth&&yZ JE)&&(!(E.c.lvl != 0)&&(!E.c.sk&&bk)) with
    | true=>rfl
    | false=>cases (!JE.truth||isStr JE [39])&&(sq&&!(E.c.sk&&lb)) <;> rfl
 exact ay (f:=zo) (l:=[.ref 2]) U (go s0 (key (y:=.nul))) U
end
def eR(x:B):Prop:=x=.nul∨∃a,x=.str a/\i5 a/\a.length < 128
noncomputable def Wr.MB(w:Wr)(ind:Tx)(x:B):Wr:=match x with | .str a=>w.sgn (ind++a) true false false | _=>w
section
theorem gh{m:Ms}(h:m=e.m):e.M m=e:=by subst h;rfl
theorem AH(d:Nat){n:Nat}{a:Tx}(h0:l[0]?=some (.ref 2))(h:e.k.event=.rc k f)(hf:f.lookup 96=some (.str a))(ho:i5 a)(hl:a.length < 390)(hm:e.m.Js=.nul∨e.m.Js=.str a):Es (d+1) I52 l (Jm e g) l (Jm (e.M (e.m.JQ (.str a))) g):=by
 have q0:Ep (d+1) xc l (Jm e g) (.b e.m.Js):=Jl (aB h0) U
 rcases hm with h1 | h1
 ·rw[h1]at q0
  exact ao (v:=.tt) (Jl q0 U) U (go (Jl (a:=(.s a,Jm e g)) (az zm (vs:=[.s a]) (kw:=[]) (ws:=[.ref 2,.s a]) h0 U U U (Jl (JU h0 h hf) U) U (Af d ho hl)) (Jl (aB h0) U)) U)
 ·rw[h1]at q0
  rw[gh (by unfold Ms.JQ;rw[<- h1])]
  exact aj (v:=.ff) (Jl q0 U) U U
theorem g9(d:Nat){ind:Tx}(hi:ind.length<=1)(h:e.k.event=.rc k f)(hf:f.lookup 96=some x)(hx:eR x)(hm:e.m.Js=.nul∨e.m.Js=x)(ho:e.ok 1):(Jr (d+3)).Jv 33 [.ref 2,.s ind] (Jm e g)=some (.b .nul,Jm ((e.W (e.w.MB ind x)).M (e.m.JQ .nul)) g):=by
 have q0:Ep (d+2) xg [.ref 2,.s ind] (Jm e g) (.b x):=JU U h hf
 rcases hx with rfl | ⟨a,rfl,ha,hl⟩
 ·exact ay (f:=mY) (l:=[.ref 2,.s ind]) U (KA (ao (v:=.tt) (Jl q0 U) U (go (l':=[.ref 2,.s ind]) (Jy:=Jm (e.M (e.m.JQ .nul)) g) U (KA U)))) U
 ·have s1:=AH (e:=e) (g:=g) (l:=[.ref 2,.s ind]) (d+1) (n:=0) U h hf ha (SG hl (by decide)) hm
  have la:ind.length+a.length<=2000:=ke (S8 hi (R8 hl)) (by decide)
  have s2:=cj (e:=e.M (e.m.JQ (.str a))) (g:=g) d (ind++a) true false false (by rw[ku];exact la) ho
  have ne:(B.str a).truth=true:=by
   cases a with
   | nil=>exact absurd U ha.1
   | cons c r=>rfl
  refine aa (f:=mY) (l:=[.ref 2,.s ind]) U (go (aj (v:=.ff) (Jl q0 U) U U) (go s1 (go (ao (v:=.s a) U (kg some ne) (go (aG (az gy (vs:=[.s (ind++a),.tt]) (kw:=[]) (ws:=[.ref 2,.s (ind++a),.tt,.ff,.ff]) U U U U (Jl (a:=(.s (ind++a),Jm (e.M (e.m.JQ (.str a))) g)) (Jl (a:=(.s ind,Jm (e.M (e.m.JQ (.str a))) g)) U (Jl (a:=(.s a,Jm (e.M (e.m.JQ (.str a))) g)) U (bS (ke la p7)))) U) U s2)) U)) (go U U))))
theorem n8{m:Ms}(hm:m.Lo=e.m.Lo)(h:bn e g):bn ((e.W w).M m) g:=by
 obtain⟨j,h1,h2⟩:=h
 exact⟨j,hm.trans h1,h2⟩
theorem uE{x:List Ob}(h:bn e g):bn e (g++x):=by
 obtain⟨j,h1,h2⟩:=h
 exact⟨j,h1,(Sa (kh h2).1).trans h2⟩
theorem AG(d:Nat){t:Tx}(h0:l[0]?=some (.ref 2))(ha:Ep (d+1) a l (Jm e g) (.s t))(ho:lP t)(hp:bn e g)(hm:e.m.tag=.nul∨e.m.tag=.str t)(post:∀x,Es (d+1) (.Ju (.u1 (.isNone true) pc) (.cons (.JD 89 I0 (.call 40 I0 (.pos a .nil))) .nil) .nil) l (Jm e g) l (Jm (e.M (e.m.setTag (.str t))) (g++x))->P):P:=by
 have q0:Ep (d+1) pc l (Jm e g) (.b e.m.tag):=Jl (aB h0) U
 rcases hm with h1 | h1
 ·rw[h1]at q0
  exact xK (e:=e) (g:=g) d ho hp λx hx=>post x (ao (v:=.tt) (Jl q0 U) U (go (Jl (a:=(.s t,Jm e (g++x))) (az v6 (vs:=[.s t]) (kw:=[]) (ws:=[.ref 2,.s t]) h0 U U U (Jl ha U) U hx) (Jl (aB h0) U)) U))
 ·rw[h1]at q0
  refine post [] ?_
  rw[mh,gh (by unfold Ms.setTag;rw[<- h1])]
  exact aj (v:=.ff) (Jl q0 U) U U
theorem xL{t:Tx}(h:lP t):t.length<=2/\(B.str t).truth=true:=by
 rcases h with rfl | ⟨c,rfl,_⟩
 ·exact⟨by decide,rfl⟩
 ·exact⟨mf 2,rfl⟩
theorem uz(d:Nat){t:Tx}(ho:lP t)(hp:bn e g)(hm:e.m.tag=.nul∨e.m.tag=.str t)(hr:e.ok 1)(post:∀x,Es (d+2) (ah 2 z9) [.ref 2,.s t] (Jm e g) [.ref 2,.s t] (Jm ((e.W (e.w.sgn t true false false)).M (e.m.setTag .nul)) (g++x))->P):P:=by
 have ln:=xL ho
 refine AG (e:=e) (g:=g) (l:=[.ref 2,.s t]) (a:=.n0 (.loc 1)) (d+1) U U ho hp hm λx s1=>post x ?_
 have s2:=cj (e:=e.M (e.m.setTag (.str t))) (g:=g++x) d t true false false (ke ln.1 (by decide)) hr
 exact go (aj (v:=.ff) U U U) (go s1 (go (ao (v:=.s t) U (kg some ln.2) (go (aG (az gy (vs:=[.s t,.tt]) (kw:=[]) (ws:=[.ref 2,.s t,.tt,.ff,.ff]) U U U U (Jl (a:=(.s t,Jm (e.M (e.m.setTag (.str t))) (g++x))) U U) U s2)) U)) (go U U)))
def KD(x:B):Prop:=x=.nul∨∃t,x=.str t/\lP t
noncomputable def isNul(x:B):Bool:=match x with | .nul=>true | _=>false
noncomputable def NN(Jo tag:B)(imp:Bool):Bool:=(!Jo.truth||isNul tag)&&imp
noncomputable def Wr.tg(w:Wr)(q:Bool)(tag:B):Wr:=bif q then w else match tag with | .str t=>w.sgn t true false false | _=>w
theorem kB{st:St}(h:Jq c a l st=some (.b x,st))(hx:x=.nul∨∃t,x=.str t):Jq c (.u1 (.isNone true) a) l st=some (.o (isNul x),st):=by
 rcases hx with rfl | ⟨t,rfl⟩ <;> exact Jl h rfl
theorem KD.s(h:KD x):x=.nul∨∃t,x=.str t:=h.imp id λ⟨t,h,_⟩=>⟨t,h⟩
theorem pL(d:Nat){imp:Bool}(h:e.k.event=.rc k f)(hk:JZ [9] k=false)(ht:f.lookup 97=some tag)(hi:f.lookup 98=some (.bool imp))(hT:KD tag)(hq:NN e.o.Jo tag imp=false->tag≠.nul)(hp:bn e g)(hm:e.m.tag=.nul∨e.m.tag=tag)(hr:e.ok 1)
  (post:∀x,(Jr (d+3)).Jv 34 [.ref 2] (Jm e g)=some (.b .nul,Jm ((e.W (e.w.tg (NN e.o.Jo tag imp) tag)).M (e.m.setTag .nul)) (g++x))->P):P:=by
 have s0:Es (d+2) (LQ z9) [.ref 2,.uu] (Jm e g) [.ref 2,.b tag] (Jm e g):=bK (JU U h ht)
 have q9:=au (e:=e) (g:=g) (l:=[.ref 2,.b tag]) (d+2) (y:=false) (cs:=[9]) U h
 rw[hk]at q9
 have Mp:Tr (Jr (d+2)) Nh [.ref 2,.b tag] (Jm e g) e.o.Jo.truth:=Tr.of (x:=e.o.Jo) U
 have tq:Tr (Jr (d+2)) (.and (.or s8 pg) xb) [.ref 2,.b tag] (Jm e g) (NN e.o.Jo tag imp):=
  ((Tr.bl Mp.not).or (Tr.bl (kB U hT.s))).and λJ=>Tr.bl (JU U h hi)
 cases hQ:NN e.o.Jo tag imp with
 | true=>
  rw[hQ]at post tq
  refine post [] ?_
  rw[mh]
  exact ay (f:=jd) (l:=[.ref 2,.b tag]) U (go s0 (KA (aj q9 U (KA (tq.yes (go (l':=[.ref 2,.b tag]) (Jy:=Jm (e.M (e.m.setTag .nul)) g) U (KA U))))))) U
 | false=>
  rw[hQ]at post tq
  rcases hT with rfl | ⟨t,rfl,hT⟩
  ·exact absurd U (hq hQ)
  ·exact uz (e:=e) (g:=g) d hT hp hm hr λx s2=>post x (aa (f:=jd) (l:=[.ref 2,.s t]) U (go s0 (go (aj q9 U (go (tq.no U) U)) s2)))
end
noncomputable def Nv(Jo tag JE:B)(i0 i1:Bool):Bool:=(!Jo.truth||isNul tag)&&((isStr JE []&&i0)||(!isStr JE []&&i1))
noncomputable def Pr(tag:B)(i0:Bool):B:=bif i0&&isNul tag then .str [33] else tag
theorem nN(JE:B)(i0 Jo fl sk em lb fp bp sq bk:Bool)(hS:d8 JE):d8 (jR JE i0 Jo fl sk em lb fp bp sq bk)/\∃s,jR JE i0 Jo fl sk em lb fp bp sq bk=.str s:=by
 unfold jR
 cases isStr JE [34]||Jo with
 | true=>exact⟨.inr (.inr ⟨_,rfl⟩),_,rfl⟩
 | false=>
  cases (!JE.truth&&i0)&&(!(sk&&(em||lb))&&((fl&&fp)||(!fl&&bp))) with
  | true=>exact⟨.inr (.inl U),_,rfl⟩
  | false=>
   cases hb:(JE.truth&&yZ JE)&&(!fl&&(!sk&&bk)) with
   | true=>
    refine⟨hS,?_⟩
    rcases hS with rfl | rfl | ⟨c,rfl⟩
    ·exact nomatch hb
    ·exact⟨_,rfl⟩
    ·exact⟨_,rfl⟩
   | false=>cases (!JE.truth||isStr JE [39])&&(sq&&!(sk&&lb)) <;> exact⟨.inr (.inr ⟨_,rfl⟩),_,rfl⟩
section
noncomputable def Hp:S:=.Ju (.u1 (.isNone true) N3) DK .nil
theorem tR(d:Nat)(h0:l[0]?=some (.ref 2))(h:e.k.event=.rc k f)(hv:f.lookup 99=some (.str val))(hs:f.lookup 91=some JE)(hi:f.lookup 98=some (.bb i0 i1))(hS:d8 JE)(hl:val.length < 390)(ha:e.m.J0=.b .nul∨e.m.J0=J0 val e.o.wide)(hn:e.m.JE=.nul) :
  Es (d+2) Hp l (Jm e g) l (Jm (e.M ((e.m.JM (J0 val e.o.wide)).J6 (bD e val JE i0))) g):=by
 have q0:Ep (d+2) N3 l (Jm e g) (.b e.m.JE):=Jl (aB h0) U
 rw[hn]at q0
 exact ao (v:=.tt) (Jl q0 U) U (go (Jl (a:=(.b (bD e val JE i0),Jm (e.M (e.m.JM (J0 val e.o.wide))) g)) (az zo (vs:=[]) (kw:=[]) (ws:=[.ref 2]) h0 U U U U U (xN d h hv hs hi hS hl ha)) (Jl (aB h0) U)) U)
theorem yi(d:Nat)(h:e.k.event=.rc k f)(hk:JZ [9] k=true)(hv:f.lookup 99=some (.str val))(hs:f.lookup 91=some JE)(ht:f.lookup 97=some tag)(hi:f.lookup 98=some (.bb i0 i1))(hS:d8 JE)(hl:val.length < 390)(ha:e.m.J0=.b .nul∨e.m.J0=J0 val e.o.wide)(hn:e.m.JE=.nul)
  (hT:KD tag) (hq:Nv e.o.Jo tag (bD e val JE i0) i0 i1=false->Pr tag i0≠.nul) (hp:bn e g) (hm:e.m.tag=.nul∨e.m.tag=tag) (hr:e.ok 1) 
  (post:∀x,(Jr (d+4)).Jv 34 [.ref 2] (Jm e g)=some (.b .nul,Jm ((e.W (e.w.tg (Nv e.o.Jo tag (bD e val JE i0) i0 i1) (Pr tag i0))).M (((e.m.JM (J0 val e.o.wide)).J6 (bD e val JE i0)).setTag .nul)) (g++x))->P):P:=by
 have s0:Es (d+3) (LQ z9) [.ref 2,.uu] (Jm e g) [.ref 2,.b tag] (Jm e g):=bK (JU U h ht)
 have q9:=au (e:=e) (g:=g) (l:=[.ref 2,.b tag]) (d+3) (y:=false) (cs:=[9]) U h
 rw[hk]at q9
 have s1:=tR (e:=e) (g:=g) (l:=[.ref 2,.b tag]) (d+1) U h hv hs hi hS hl ha hn
 have hz:=nN JE i0 e.o.Jo.truth (e.c.lvl != 0) e.c.sk (MV val) (MU val e.o.wide) (Pj val e.o.wide) (Pk val e.o.wide) (Ph val e.o.wide) (Pn val e.o.wide) hS
 have hz:d8 (bD e val JE i0)/\∃s,bD e val JE i0=.str s:=hz
 generalize bD e val JE i0=z at s1 hz hq post
 generalize J0 val e.o.wide=A at s1 post
 have hE:(e.M ((e.m.JM A).J6 z)).k.event=.rc k f:=h
 have Mp:Tr (Jr (d+3)) Nh [.ref 2,.b tag] (Jm (e.M ((e.m.JM A).J6 z)) g) e.o.Jo.truth:=Tr.of (x:=e.o.Jo) U
 have qz:Ep (d+3) N3 [.ref 2,.b tag] (Jm (e.M ((e.m.JM A).J6 z)) g) (.b z):=rfl
 have qn:Ep (d+3) (.b2 (.cmp .ne) N3 PM) [.ref 2,.b tag] (Jm (e.M ((e.m.JM A).J6 z)) g) (.o (!isStr z [])):=by
  obtain⟨s,hs⟩:=hz.2
  rw[hs]at qz ⊢
  exact Jl qz (Jl (a:=(.s [],Jm (e.M ((e.m.JM A).J6 (.str s))) g)) U U)
 have tq:Tr (Jr (d+3)) I51 [.ref 2,.b tag] (Jm (e.M ((e.m.JM A).J6 z)) g) (Nv e.o.Jo tag z i0 i1):=
  ((Tr.bl Mp.not).or (Tr.bl (kB U hT.s))).and λJ=>((Tr.bl (gv qz hz.1)).and λJ=>Tr.bl (oC U hE hi)).or ((Tr.bl qn).and λJ=>Tr.bl (CO U hE hi))
 have t3:Tr (Jr (d+3)) (.and xt pg) [.ref 2,.b tag] (Jm (e.M ((e.m.JM A).J6 z)) g) (i0&&isNul tag):=(Tr.bl (oC U hE hi)).and λJ=>Tr.bl (kB U hT.s)
 cases hQ:Nv e.o.Jo tag z i0 i1 with
 | true=>
  rw[hQ]at post tq
  refine post [] ?_
  rw[mh]
  exact ay (f:=jd) (l:=[.ref 2,.b tag]) U (go s0 (KA (ao q9 U (go s1 (KA (tq.yes (go (l':=[.ref 2,.b tag]) (Jy:=Jm (e.M (((e.m.JM A).J6 z).setTag .nul)) g) U (KA U)))))))) U
 | false=>
  rw[hQ]at post tq
  have hq:=hq hQ
  unfold Pr at hq post
  cases h3:i0&&isNul tag with
  | true=>
   rw[h3]at post t3
   refine uz (e:=e.M (((e.m.JM A).J6 z).setTag .nul)) (g:=g) (d+1) (t:=[33]) (.inl U) (n8 (w:=e.w) U hp) (.inl U) hr λx s2=>post x (aa (f:=jd) (l:=[.ref 2,.s [33]]) U (go s0 (go (ao q9 U (go s1 (go (tq.no U) (go (t3.yes (go (l':=[.ref 2,.s [33]]) (Jy:=Jm (e.M ((e.m.JM A).J6 z)) g) U (go U U))) U)))) s2)))
  | false=>
   rw[h3]at post t3 hq
   rcases hT with rfl | ⟨t,rfl,hT⟩
   ·exact absurd U hq
   ·exact uz (e:=e.M ((e.m.JM A).J6 z)) (g:=g) (d+1) hT (n8 (w:=e.w) U hp) hm hr λx s2=>post x (aa (f:=jd) (l:=[.ref 2,.s t]) U (go s0 (go (ao q9 U (go s1 (go (tq.no U) (go (t3.no U) U)))) s2)))
noncomputable def Wr.Lb(w:Wr)(val s:Tx)(ind bi bw:Int)(lb:Tx)(sk root:Bool)(wide:B):Wr:=
 bif s==[34] then w.dq val ind bw lb (!sk) wide else bif s==[39] then w.sq val ind bw lb (!sk) else w.OA val ind bw lb (!sk) root
theorem yj(d:Nat){s:Tx}(hv:val.length < 390)(ha:e.m.J0=J0 val e.o.wide)(hs:e.m.JE=.str s)(hd:JI e.c.indent)(hc:0<=e.w.col)(h0:0<=e.o.bi)(h9:e.o.bi<=9)(ho:e.ok (eV val))(hE:(s==[34])=true->dW e.o.wide val)(hB:(s==[34]||s==[39])=false->s=[]/\iA val) :
  (Jr (d+5)).Jv 36 [.ref 2] (Jm e g)=some (.b .nul,Jm ((e.W (e.w.Lb val s (ar e.c.indent) e.o.bi e.o.bw e.o.lb e.c.sk e.c.root e.o.wide)).M ((e.m.JM (.b .nul)).J6 .nul)) g):=by
 have qa:∀{l:List V},l[0]?=some (.ref 2)->Ep (d+4) MY l (Jm e g) (J0 val e.o.wide):=λh=>Jl (aB h) (by rw[<- ha];rfl)
 have s1:Es (d+4) (LQ z8) [.ref 2,.uu] (Jm e g) [.ref 2,.uu] (Jm e g):=aj (v:=.ff) (Jl (qa U) (by
  show(af (!ae (J0 val e.o.wide)) (V.b (.bool (bif bf (J0 val e.o.wide) then true else !true)),Jm e g))=_
  rw[(i6 val e.o.wide).2,(i6 val e.o.wide).1];rfl)) U U
 have qs:∀{l:List V},l[0]?=some (.ref 2)->Ep (d+4) N3 l (Jm e g) (.s s):=λh=>Jl (aB h) (by show _=some (V.b (B.str s),_);rw[<- hs];rfl)
 have s2:Es (d+4) (LQ (ah 1 z8)) [.ref 2,.uu] (Jm e g) [.ref 2,.uu] (Jm e g):=aj (v:=.ff) (Jl (qs U) U) U U
 have q:∀t:Tx,Ep (d+4) (.b2 (.cmp .eq) N3 (.n0 (.cst (.str t)))) [.ref 2,.o (!e.c.sk)] (Jm e g) (.o (s==t)):=λt=>Jl (qs U) (Jl (a:=(.s t,Jm e g)) U U)
 have qv:Ep (d+4) PK [.ref 2,.o (!e.c.sk)] (Jm e g) (.s val):=Jl (qa U) (by rw[i7];exact oQ U)
 have a2:Kv (Jr (d+4)) (.pos PK Qq) [.ref 2,.o (!e.c.sk)] (Jm e g)=some (([.s val,.o (!e.c.sk)],[]),Jm e g):=Jl qv U
 have a1:Kv (Jr (d+4)) (.pos PK .nil) [.ref 2,.o (!e.c.sk)] (Jm e g)=some (([.s val],[]),Jm e g):=Jl qv U
 have fin:∀{w:Wr},Es (d+4) (LQ (ah 3 z8)) [.ref 2,.o (!e.c.sk)] (Jm e g) [.ref 2,.o (!e.c.sk)] (Jm (e.W w) g)->(Jr (d+5)).Jv 36 [.ref 2] (Jm e g)=some (.b .nul,Jm ((e.W w).M ((e.m.JM (.b .nul)).J6 .nul)) g):=λ{w} h3=>
  aa (f:=zn) (l:=[.ref 2,.o (!e.c.sk)]) U (go s1 (go s2 (go (l':=[.ref 2,.o (!e.c.sk)]) (Jy:=Jm e g) U (go h3 (go (l':=[.ref 2,.o (!e.c.sk)]) (Jy:=Jm ((e.W w).M (e.m.JM (.b .nul))) g) U (go U U))))))
 unfold Wr.Lb
 have p1:=q [34]
 cases h1:s==[34] with
 | true=>
  rw[h1]at p1
  exact fin (ao p1 U (go (aG (az zi (vs:=[.s val,.o (!e.c.sk)]) (kw:=[]) (ws:=[.ref 2,.s val,.o (!e.c.sk)]) U U U U a2 U (C5 d hv (hE h1) hd hc ho))) U))
 | false=>
  rw[h1]at p1 hB
  have p2:=q [39]
  cases h2:s==[39] with
  | true=>
   rw[h2]at p2
   exact fin (aj p1 U (go (ao p2 U (go (aG (az zj (vs:=[.s val,.o (!e.c.sk)]) (kw:=[]) (ws:=[.ref 2,.s val,.o (!e.c.sk)]) U U U U a2 U (B2 d hv hd hc ho))) U)) U))
  | false=>
   rw[h2]at p2 hB
   have p3:=q [62]
   have p4:=q [124]
   obtain⟨hz,hn⟩:=hB U
   rw[show(s==([62]:Tx))=false by rw[hz];rfl]at p3
   rw[show(s==([124]:Tx))=false by rw[hz];rfl]at p4
   exact fin (aj p1 U (go (aj p2 U (go (aj p3 U (go (aj p4 U (go (aG (az vY (vs:=[.s val,.o (!e.c.sk)]) (kw:=[]) (ws:=[.ref 2,.s val,.o (!e.c.sk)]) U U U U a2 U (yl d hv hn hd hc ho))) U)) U)) U)) U))
end
noncomputable def LX(x:B)(n:Int):Int:=match x with | .str s=>n+(s.length:Int) | _=>n
noncomputable def bA(x y:B):B:=match x with | .nul=>y | _=>x
structure Nd where
 k:Nat
 f:List (Nat×B)
 Js:B
 tag:B
 sc:Bool
 val:Tx
structure Nd.Ok(n:Nd):Prop where
 node:JZ [1] n.k=true
 la:n.f.lookup 96=some n.Js
 ha:eR n.Js
 lt:JZ [9,2] n.k=true->n.f.lookup 97=some n.tag
 nt:JZ [9,2] n.k=false->n.tag=.nul
 ht:KD n.tag
 s9:JZ [9] n.k=n.sc
 lv:n.sc=true->n.f.lookup 99=some (.str n.val)
 hl:n.val.length < 390
noncomputable def Nd.V(n:Nd):V:=.rc n.k n.f
noncomputable def Nd.len(n:Nd):Int:=bif n.sc then LX n.tag (LX n.Js 0)+(n.val.length:Int) else LX n.tag (LX n.Js 0)
noncomputable def Nd.key(n:Nd)(wide:B)(evs:List Internal.V):Bool:=decide (n.len < 128)&&(JZ [8] n.k||((n.sc&&(!MV n.val&&!MU n.val wide))||((JZ [10] n.k&&aF 11 evs)||(JZ [12] n.k&&aF 13 evs))))
noncomputable def Nd.ms(n:Nd)(wide:B)(m:Ms):Ms:=⟨m.Lo,bA n.Js m.Js,bA n.tag m.tag,bif n.sc then J0 n.val wide else m.J0,m.JE⟩
section
variable{n:Nd}
theorem qb(d:Nat)(h:e.k.event=n.V)(ok:n.Ok)(hr:Mx e.k.events)(hp:bn e g)(h1:e.m.Js=.nul∨e.m.Js=n.Js)(h2:e.m.tag=.nul∨e.m.tag=n.tag)(h3:e.m.J0=.b .nul∨e.m.J0=J0 n.val e.o.wide)
  (post:∀x v,(Jr (d+2)).Jv 32 [.ref 2] (Jm e g)=some (v,Jm (e.M (n.ms e.o.wide e.m)) (g++x))->truth (Jm (e.M (n.ms e.o.wide e.m)) (g++x)) v=some (n.key e.o.wide e.k.events)->P):P:=by
 obtain⟨k,f,Js,tag,sc,val⟩:=n
 have h:e.k.event=.rc k f:=h
 have la:f.lookup 96=some Js:=ok.la
 have ha:eR Js:=ok.ha
 have s9:JZ [9] k=sc:=ok.s9
 have sA:Es (d+1) (LQ (ah 1 Aa)) [.ref 2,.i 0] (Jm e g) [.ref 2,.i (LX Js 0)] (Jm (e.M (e.m.JQ (bA Js e.m.Js))) g):=by
  have t0:Tr (Jr (d+1)) GM [.ref 2,.i 0] (Jm e g) (JZ [1] k&&!isNul Js):=(Tr.bl (au (d+1) U h)).and λJ=>Tr.bl (by
   rcases ha with rfl | ⟨a,rfl,_⟩ <;> exact Jl (JU rfl h la) rfl)
  rw[show JZ [1] k=true from ok.node]at t0
  rcases ha with rfl | ⟨a,rfl,hA,hL⟩
  ·rw[gh (m:=e.m.JQ (bA .nul e.m.Js)) U]
   exact t0.no U
  ·have s1:=AH (e:=e) (g:=g) (l:=[.ref 2,.i 0]) d (n:=0) U h la hA (SG hL (by decide)) h1
   exact t0.yes (go s1 (go U U))
 have hE:(e.M (e.m.JQ (bA Js e.m.Js))).k.event=.rc k f:=h
 have NS:bn (e.M (e.m.JQ (bA Js e.m.Js))) g:=n8 (w:=e.w) U hp
 have tE:∀{Q:Prop},(∀x,Es (d+1) (LQ (ah 2 Aa)) [.ref 2,.i (LX Js 0)] (Jm (e.M (e.m.JQ (bA Js e.m.Js))) g) [.ref 2,.i (LX tag (LX Js 0))] (Jm (e.M ((e.m.JQ (bA Js e.m.Js)).setTag (bA tag e.m.tag))) (g++x))->Q)->Q:=by
  intro Q q
  have e1:(e.m.JQ (bA Js e.m.Js)).tag=e.m.tag:=rfl
  generalize LX Js 0=n0 at q ⊢
  generalize e.m.JQ (bA Js e.m.Js)=m1 at q hE NS e1
  have same:m1.setTag (bA .nul e.m.tag)=m1:=by show m1.setTag e.m.tag=m1;unfold Ms.setTag;rw[<- e1]
  have t0:Tr (Jr (d+1)) (.and (.u1 (.KZ true [9,2]) I5) (.u1 (.isNone false) (.u1 (.JY 97) I5))) [.ref 2,.i n0] (Jm (e.M m1) g) (JZ [9,2] k&&!isNul tag):=(Tr.bl (au (d+1) U hE)).and λhk=>Tr.bl (by
   have hT:=ok.ht
   have lt:f.lookup 97=some tag:=ok.lt hk
   rcases (show KD tag from hT) with rfl | ⟨a,rfl,_⟩ <;> exact Jl (JU rfl hE lt) rfl)
  cases hk:JZ [9,2] k with
  | false=>
   have hn:tag=.nul:=ok.nt hk
   rw[hk]at t0
   rw[hn]at q
   rw[same]at q
   exact q [] (by rw[mh];exact t0.no U)
  | true=>
   have lt:f.lookup 97=some tag:=ok.lt hk
   rw[hk]at t0
   rcases (show KD tag from ok.ht) with rfl | ⟨a,rfl,hA⟩
   ·rw[same]at q
    exact q [] (by rw[mh];exact t0.no U)
   ·refine AG (e:=e.M m1) (g:=g) (l:=[.ref 2,.i n0]) d U (JU U hE lt) hA NS (h2.imp (λx=>e1.trans x) λx=>e1.trans x) λx s1=>q x ?_
    exact t0.yes (go s1 (go U U))
 refine tE λx sT=>?_
 have hE2:(e.M ((e.m.JQ (bA Js e.m.Js)).setTag (bA tag e.m.tag))).k.event=.rc k f:=h
 have sV:Es (d+1) (LQ (ah 3 Aa)) [.ref 2,.i (LX tag (LX Js 0))] (Jm (e.M ((e.m.JQ (bA Js e.m.Js)).setTag (bA tag e.m.tag))) (g++x)) [.ref 2,.i (Nd.len ⟨k,f,Js,tag,sc,val⟩)] (Jm (e.M (Nd.ms ⟨k,f,Js,tag,sc,val⟩ e.o.wide e.m)) (g++x)):=by
  have q9:=au (e:=e.M ((e.m.JQ (bA Js e.m.Js)).setTag (bA tag e.m.tag))) (g:=g++x) (l:=[.ref 2,.i (LX tag (LX Js 0))]) (d+1) (y:=false) (cs:=[9]) U hE2
  rw[s9]at q9
  cases sc with
  | false=>exact aj q9 U U
  | true=>
   have s1:=nD (e:=e.M ((e.m.JQ (bA Js e.m.Js)).setTag (bA tag e.m.tag))) (g:=g++x) (l:=[.ref 2,.i (LX tag (LX Js 0))]) d U hE2 (ok.lv U) ok.hl h3
   have q2:Ep (d+1) (.u1 .len PK) [.ref 2,.i (LX tag (LX Js 0))] (Jm (e.M (((e.m.JQ (bA Js e.m.Js)).setTag (bA tag e.m.tag)).JM (J0 val e.o.wide))) (g++x)) (.i val.length):=
    Jl (cK U (i7 val e.o.wide) U) U
   exact ao q9 U (go s1 (go (Jl (a:=.i (LX tag (LX Js 0))) U (Jl q2 U)) U))
 have hE3:(e.M (Nd.ms ⟨k,f,Js,tag,sc,val⟩ e.o.wide e.m)).k.event=.rc k f:=h
 have tr:Tr (Jr (d+1)) I56 [.ref 2,.i (Nd.len ⟨k,f,Js,tag,sc,val⟩)] (Jm (e.M (Nd.ms ⟨k,f,Js,tag,sc,val⟩ e.o.wide e.m)) (g++x)) (Nd.key ⟨k,f,Js,tag,sc,val⟩ e.o.wide e.k.events):=by
  refine(Tr.bl U).and λJ=>(Tr.bl (au (d+1) U hE3)).or (Tr.or (u:=sc&&(!MV val&&!MU val e.o.wide)) ?_ ((qG d U hE3 hr).or (qF d U hE3 hr)))
  have i9:=au (e:=e.M (Nd.ms ⟨k,f,Js,tag,sc,val⟩ e.o.wide e.m)) (g:=g++x) (l:=[.ref 2,.i (Nd.len ⟨k,f,Js,tag,sc,val⟩)]) (d+1) (y:=false) (cs:=[9]) U hE3
  rw[s9]at i9
  refine(Tr.bl i9).and λhs=>?_
  subst hs
  have hA:(e.M (Nd.ms ⟨k,f,Js,tag,true,val⟩ e.o.wide e.m)).m.J0=anV val (MV val) (MU val e.o.wide) (Pj val e.o.wide) (Pk val e.o.wide) (Ph val e.o.wide) (Pn val e.o.wide):=i7 val e.o.wide
  exact(Tr.bl (Tr.bl (cK U hA U)).not).and λJ=>Tr.bl (Tr.bl (cK U hA U)).not
 obtain⟨v,hv,hb,hu⟩:=tr
 exact post x v (ay (f:=v7) (l:=[.ref 2,.i (Nd.len ⟨k,f,Js,tag,sc,val⟩)]) U (go (l':=[.ref 2,.i 0]) (Jy:=Jm e g) U (go sA (go sT (go sV (KA (kg (Option.map _) hv)))))) hu) hb
end
noncomputable def Sk.st(k:Sk)(x:V):Sk:=⟨x,k.event,k.Jt,k.events,k.Jw⟩
noncomputable def Sk.sts(k:Sk)(x:List V):Sk:=⟨k.state,k.event,x,k.events,k.Jw⟩
noncomputable def Sk.Ld(k:Sk)(x:List V):Sk:=⟨k.state,k.event,k.Jt,k.events,x⟩
noncomputable def Ct.lv(c:Ct)(x:Int):Ct:=⟨c.indent,x,c.root,c.sq,c.mp,c.sk⟩
section
theorem cw{S:List V}{s:V}(h0:l[0]?=some (.ref 2))(h:e.k.Jt=S++[s])(hs:ae s=false):JJ c (.JD 67 I0 (.u1 (.pop false) NJ)) l (Jm e g)=some (.next,l,Jm (e.K ((e.k.st s).sts S)) g):=by
 have q:Jq c (.u1 (.pop false) NJ) l (Jm e g)=some (s,Jm (e.K (e.k.sts S)) g):=by
  refine Jl (a:=(.ref 3,Jm e g)) (Jl (aB h0) U) (Jl (a:=(3,e.k.Jt)) U ?_)
  show Option.map (λx=>(x,bx (Jm e g) 3 (.lst e.k.Jt.dropLast))) e.k.Jt.getLast?=_
  rw[h,List.getLast?_append,SP];rfl
 refine Jl q (Jl (aB h0) ?_)
 show Option.map _ (af (decide ((MF e).length < 100)&&decide (67 < 128)&&!ae s) _)=_
 rw[hs];rfl
theorem cP{I:List V}(h0:l[0]?=some (.ref 2))(h:e.k.Jw=I++[.b x]):JJ c Ra l (Jm e g)=some (.next,l,Jm ((e.C (e.c.ind x)).K (e.k.Ld I)) g):=by
 have q:Jq c (.u1 (.pop false) (.u1 (.JY 70) I0)) l (Jm e g)=some (.b x,Jm (e.K (e.k.Ld I)) g):=by
  refine Jl (a:=(.ref 5,Jm e g)) (Jl (aB h0) U) (Jl (a:=(5,e.k.Jw)) U ?_)
  show Option.map (λx=>(x,bx (Jm e g) 5 (.lst e.k.Jw.dropLast))) e.k.Jw.getLast?=_
  rw[h,List.getLast?_append,SP];rfl
 exact Jl q (Jl (aB h0) U)
theorem uY(h0:l[0]?=some (.ref 2))(hj:((MF e).lookup j).isNone=true):Jq c (.u1 (.LH j) I0) l (Jm e g)=some (.JA j 2,Jm e g):=
 Jl (aB h0) (by show af ((0:Nat)==0&&((MF e).lookup j).isNone) (V.JA j 2,Jm e g)=_;rw[hj];rfl)
theorem bq(h0:l[0]?=some (.ref 2))(hj:((MF e).lookup j).isNone=true)(hl:e.k.Jt.length < JL):JJ c (.app NJ (.u1 (.LH j) I0)) l (Jm e g)=some (.next,l,Jm (e.K (e.k.sts (e.k.Jt++[.JA j 2]))) g):=
 eH (k:=3) (xs:=e.k.Jt) (ys:=e.k.Jt) (v:=.JA j 2) (s1:=Jm e g) (Jl (aB h0) U) U (uY h0 hj) U hl U
theorem bO(h0:l[0]?=some (.ref 2))(hj:((MF e).lookup j).isNone=true):JJ c (.JD 67 I0 (.u1 (.LH j) I0)) l (Jm e g)=some (.next,l,Jm (e.K (e.k.st (.JA j 2))) g):=
 Jl (uY h0 hj) (Jl (aB h0) U)
theorem yb(d:Nat){s:Tx}{S:List V}{t:V}(hv:val.length < 390)(ha:e.m.J0=J0 val e.o.wide)(hs:e.m.JE=.str s)(hd:JI e.c.indent)(Pb:JI (fK e.c.indent e.o.bi true false))(hc:0<=e.w.col)(h0:0<=e.o.bi)(h9:e.o.bi<=9)(ho:e.ok (eV val))(hE:(s==[34])=true->dW e.o.wide val)(hB:(s==[34]||s==[39])=false->s=[]/\iA val)
  (hI:e.k.Jw.length < JL) (hS:e.k.Jt=S++[t]) (ht:ae t=false):(Jr (d+6)).Jv 12 [.ref 2] (Jm e g)=some (.b .nul,Jm (((e.W (e.w.Lb val s (ar (fK e.c.indent e.o.bi true false)) e.o.bi e.o.bw e.o.lb e.c.sk e.c.root e.o.wide)).M ((e.m.JM (.b .nul)).J6 .nul)).K ((e.k.st t).sts S)) g):=by
 have s1:=fJ (e:=e) (g:=g) (d+4) true false hd hI
 have s2:=yj (e:=(e.C (e.c.ind (fK e.c.indent e.o.bi true false))).K (e.k.M4 (.b e.c.indent))) (g:=g) d hv ha hs Pb hc h0 h9 ho hE hB
 refine aa (f:=zC) (l:=[.ref 2]) U (go (aG (az Pc (vs:=[]) (kw:=[(1,.tt)]) (ws:=[.ref 2,.tt,.ff]) U U U U U U s1)) (go (aG (az zn (vs:=[]) (kw:=[]) (ws:=[.ref 2]) U U U U U U s2)) (go (cP (I:=e.k.Jw) (x:=e.c.indent) U U) ?_)))
 exact go (cw (S:=S) (s:=t) U hS ht) U
noncomputable def Em.Nx(e:Em)(c:Nat)(st:Nat):Em:=((e.W (e.w.sgn [c] true true false)).C ((e.c.lv (e.c.lvl+1)).ind (fK e.c.indent e.o.bi true false))).K ((e.k.Ld (e.k.Jw++[.b e.c.indent])).st (.JA st 2))
theorem EN(d:Nat)(hd:JI e.c.indent)(ho:e.ok 1)(hI:e.k.Jw.length < JL):(Jr (d+3)).Jv 13 [.ref 2] (Jm e g)=some (.b .nul,Jm (e.Nx 91 14) g):=by
 have s1:=cj (e:=e) (g:=g) d [91] true true false (by decide) ho
 have s2:=fJ (e:=(e.W (e.w.sgn [91] true true false)).C (e.c.lv (e.c.lvl+1))) (g:=g) (d+1) true false hd hI
 exact aa (f:=zB) (l:=[.ref 2]) U (go (aG (az gy (vs:=[.s [91],.tt]) (kw:=[(3,.tt)]) (ws:=[.ref 2,.s [91],.tt,.tt,.ff]) U U U U U U s1)) (go (l':=[.ref 2]) (Jy:=Jm ((e.W (e.w.sgn [91] true true false)).C (e.c.lv (e.c.lvl+1))) g) U (go (aG (az Pc (vs:=[]) (kw:=[(1,.tt)]) (ws:=[.ref 2,.tt,.ff]) U U U U U U s2)) (go (bO U U) U))))
theorem EM(d:Nat)(hd:JI e.c.indent)(ho:e.ok 1)(hI:e.k.Jw.length < JL):(Jr (d+3)).Jv 16 [.ref 2] (Jm e g)=some (.b .nul,Jm (e.Nx 123 17) g):=by
 have s1:=cj (e:=e) (g:=g) d [123] true true false (by decide) ho
 have s2:=fJ (e:=(e.W (e.w.sgn [123] true true false)).C (e.c.lv (e.c.lvl+1))) (g:=g) (d+1) true false hd hI
 exact aa (f:=zx) (l:=[.ref 2]) U (go (aG (az gy (vs:=[.s [123],.tt]) (kw:=[(3,.tt)]) (ws:=[.ref 2,.s [123],.tt,.tt,.ff]) U U U U U U s1)) (go (l':=[.ref 2]) (Jy:=Jm ((e.W (e.w.sgn [123] true true false)).C (e.c.lv (e.c.lvl+1))) g) U (go (aG (az Pc (vs:=[]) (kw:=[(1,.tt)]) (ws:=[.ref 2,.tt,.ff]) U U U U U U s2)) (go (bO U U) U))))
noncomputable def Em.Ny(e:Em)(less:Bool)(st:Nat):Em:=(e.C (e.c.ind (fK e.c.indent e.o.bi false less))).K ((e.k.Ld (e.k.Jw++[.b e.c.indent])).st (.JA st 2))
theorem EL(d:Nat)(hd:JI e.c.indent)(hI:e.k.Jw.length < JL):(Jr (d+2)).Jv 21 [.ref 2] (Jm e g)=some (.b .nul,Jm (e.Ny (e.c.mp&&!e.w.ind) 22) g):=by
 have s2:=fJ (e:=e) (g:=g) d false (e.c.mp&&!e.w.ind) hd hI
 exact aa (f:=zt) (l:=[.ref 2,.o (e.c.mp&&!e.w.ind)]) U (go (bK (bP U U)) (go (aG (az Pc (vs:=[]) (kw:=[(1,.ff),(2,.o (e.c.mp&&!e.w.ind))]) (ws:=[.ref 2,.ff,.o (e.c.mp&&!e.w.ind)]) U U U U U U s2)) (go (bO U U) U)))
theorem EK(d:Nat)(hd:JI e.c.indent)(hI:e.k.Jw.length < JL):(Jr (d+2)).Jv 24 [.ref 2] (Jm e g)=some (.b .nul,Jm (e.Ny false 25) g):=by
 have s2:=fJ (e:=e) (g:=g) d false false hd hI
 exact aa (f:=zr) (l:=[.ref 2]) U (go (aG (az Pc (vs:=[]) (kw:=[(1,.ff)]) (ws:=[.ref 2,.ff,.ff]) U U U U U U s2)) (go (bO U U) U))
end
structure N5(e:Em)(n:Nat):Prop where
 ok:e.ok n
 col:0<=e.w.col
 ind:e.c.indent=.nul∨∃i:Int,e.c.indent=.int i/\i<=1900
 b0:0<=e.o.bi
 b9:e.o.bi<=9
 Ld:e.k.Jw.length < JL
theorem N5.MD(h:N5 e n):JI e.c.indent:=h.ind.imp id λ⟨i,h1,h2⟩=>⟨i,h1,Ta h2 (by decide)⟩
theorem N5.inc(h:N5 e n)(a b:Bool):JI (fK e.c.indent e.o.bi a b):=by
 have b9:=h.b9
 rcases h.ind with h1 | ⟨i,h1,h2⟩
 ·rw[h1]
  cases a with
  | true=>exact .inr ⟨_,rfl,by lia⟩
  | false=>exact .inr ⟨_,rfl,by decide⟩
 ·rw[h1]
  cases b with
  | true=>exact .inr ⟨_,rfl,by lia⟩
  | false=>exact .inr ⟨_,rfl,by lia⟩
noncomputable def strOf:B->Tx | .str s=>s | _=>[]
noncomputable def Em.ctx(e:Em)(r s m k:Bool):Em:=e.C ⟨e.c.indent,e.c.lvl,r,s,m,k⟩
noncomputable def Em.Kn(e:Em)(Js:B):Em:=(e.W (e.w.MB [38] Js)).M (e.m.JQ .nul)
noncomputable def Em.PW(e:Em)(tag:B)(i0 i1:Bool)(val:Tx)(JE:B):Em:=(e.W (e.w.tg (Nv e.o.Jo tag (bD e val JE i0) i0 i1) (Pr tag i0))).M (((e.m.JM (J0 val e.o.wide)).J6 (bD e val JE i0)).setTag .nul)
noncomputable def Em.J3(e:Em)(tag:B)(imp:Bool):Em:=(e.W (e.w.tg (NN e.o.Jo tag imp) tag)).M (e.m.setTag .nul)
noncomputable def Em.Lb(e:Em)(val s:Tx):Em:=(e.W (e.w.Lb val s (ar (fK e.c.indent e.o.bi true false)) e.o.bi e.o.bw e.o.lb e.c.sk e.c.root e.o.wide)).M ((e.m.JM (.b .nul)).J6 .nul)
noncomputable def Em.pop(e:Em)(S:List V)(s:V):Em:=e.K ((e.k.st s).sts S)
theorem e9(w:Wr)(ind:Tx)(x:B):Gr w (w.MB ind x) 1:=by
 unfold Wr.MB
 cases x with
 | str a=>exact aY w _ _ _ _
 | _=>exact Gr.refl
theorem mV(w:Wr)(q:Bool)(x:B):Gr w (w.tg q x) 1:=by
 unfold Wr.tg
 cases q with
 | true=>exact Gr.refl
 | false=>cases x with
  | str a=>exact aY w _ _ _ _
  | _=>exact Gr.refl
section
theorem ic(d:Nat)(r s m k:Bool)(kr:JJ (Jr d) q (cL r s m k) (Jm (e.ctx r s m k) g)=R):JJ (Jr d) (.cons (.JD 73 I0 I2) (.cons (.JD 74 I0 I7) (.cons (.JD 75 I0 Kr) (.cons (.JD 76 I0 I8) q)))) (cL r s m k) (Jm e g)=R:=
 go (l':=(cL r s m k)) (Jy:=Jm (e.C ⟨e.c.indent,e.c.lvl,r,e.c.sq,e.c.mp,e.c.sk⟩) g) U <| go (l':=(cL r s m k)) (Jy:=Jm (e.C ⟨e.c.indent,e.c.lvl,r,s,e.c.mp,e.c.sk⟩) g) U <|
 go (l':=(cL r s m k)) (Jy:=Jm (e.C ⟨e.c.indent,e.c.lvl,r,s,m,e.c.sk⟩) g) U <| go (l':=(cL r s m k)) (Jy:=Jm (e.ctx r s m k) g) U kr
theorem yt(d:Nat)(r s m k:Bool){a:Tx}{S:List V}{t:V}(h:e.k.event=alV (.str a))(ha:i5 a)(hl:a.length < 128)(hm:e.m.Js=.nul∨e.m.Js=.str a)(ho:e.ok 1)(hS:e.k.Jt=S++[t])(ht:ae t=false) :
  (Jr (d+5)).Jv 10 (cL r s m k) (Jm e g)=some (.b .nul,Jm ((((e.ctx r s m k).W (e.w.MB [42] (.str a))).M (e.m.JQ .nul)).pop S t) g):=by
 have q8:=au (e:=e.ctx r s m k) (g:=g) (l:=cL r s m k) (d+4) (y:=false) (cs:=[8]) U h
 have s1:=g9 (e:=e.ctx r s m k) (g:=g) d (ind:=[42]) (x:=.str a) (mf 1) h U (.inr ⟨a,rfl,ha,hl⟩) hm ho
 have s2:(Jr (d+4)).Jv 11 [.ref 2] (Jm (e.ctx r s m k) g)=some (.b .nul,Jm ((((e.ctx r s m k).W (e.w.MB [42] (.str a))).M (e.m.JQ .nul)).pop S t) g):=
  aa (f:=zD) (l:=[.ref 2]) U (go (aj (v:=.ff) (Jl (JU (e:=e.ctx r s m k) U h (rfl:List.lookup 96 [(96,B.str a),(108,.nul),(109,.nul)]=some (.str a))) U) U U) (go (aG (az mY (vs:=[.s [42]]) (kw:=[]) (ws:=[.ref 2,.s [42]]) U U U U U U s1)) (go (cw (e:=((e.ctx r s m k).W (e.w.MB [42] (.str a))).M (e.m.JQ .nul)) U hS ht) U)))
 exact aa (f:=je) (l:=cL r s m k) U (ic (e:=e) (g:=g) (d+4) r s m k (go (ao q8 U (go (aG (az zD (vs:=[]) (kw:=[]) (ws:=[.ref 2]) U U U U U U s2)) U)) U))
theorem yq(d:Nat)(r s m k:Bool){S:List V}{t:V}(h:e.k.event=OS Js tag i0 i1 val JE)(ha:eR Js)(hA:e.m.Js=.nul∨e.m.Js=Js)(hT:KD tag)(hm:e.m.tag=.nul∨e.m.tag=tag)(hn:e.m.JE=.nul)(hna:e.m.J0=.b .nul∨e.m.J0=J0 val e.o.wide)(hS:d8 JE)(hl:val.length < 390)
  (hq:Nv e.o.Jo tag (bD (e.ctx r s m k) val JE i0) i0 i1=false->Pr tag i0≠.nul) (hp:bn e g) (ft:N5 e (eV val+2)) (hE:isStr (bD (e.ctx r s m k) val JE i0) [34]=true->dW e.o.wide val) (hB:(strOf (bD (e.ctx r s m k) val JE i0)==[34]||strOf (bD (e.ctx r s m k) val JE i0)==[39])=false->strOf (bD (e.ctx r s m k) val JE i0)=[]/\iA val) (Mt:e.k.Jt=S++[t]) (ht:ae t=false) 
  (post:∀x,(Jr (d+7)).Jv 10 (cL r s m k) (Jm e g)=some (.b .nul,Jm (((((e.ctx r s m k).Kn Js).PW tag i0 i1 val JE).Lb val (strOf (bD (e.ctx r s m k) val JE i0))).pop S t) (g++x))->P):P:=by
 have o1:e.ok (1+(eV val+1)):=by rw[Td 1];exact ft.ok
 have q8:=au (e:=e.ctx r s m k) (g:=g) (l:=cL r s m k) (d+6) (y:=false) (cs:=[8]) U h
 have q92:=au (e:=e.ctx r s m k) (g:=g) (l:=cL r s m k) (d+6) (y:=true) (cs:=[9,2]) U h
 have s1:=g9 (e:=e.ctx r s m k) (g:=g) (d+3) (ind:=[38]) (x:=Js) (mf 1) h U ha hA (ke (mc (lu 1 _) _) o1)
 have g1:=e9 e.w [38] Js
 have QD:((e.ctx r s m k).Kn Js).ok (1+eV val):=(Td 1 (eV val))▸g1.ok (e:=e) o1
 have g2:=mV ((e.ctx r s m k).Kn Js).w (Nv e.o.Jo tag (bD (e.ctx r s m k) val JE i0) i0 i1) (Pr tag i0)
 have hz:=(nN JE i0 e.o.Jo.truth (e.c.lvl != 0) k (MV val) (MU val e.o.wide) (Pj val e.o.wide) (Pk val e.o.wide) (Ph val e.o.wide) (Pn val e.o.wide) hS).2
 have hz:∃z,bD (e.ctx r s m k) val JE i0=.str z:=hz
 refine yi (e:=(e.ctx r s m k).Kn Js) (g:=g) (d+2) (JE:=JE) (tag:=tag) (val:=val) h U U U U U hS hl hna hn hT hq (n8 (e:=e.ctx r s m k) (w:=e.w.MB [38] Js) U hp) hm (ke (mc (lu 1 _) _) QD) λx s2=>post x ?_
 obtain⟨z,hz⟩:=hz
 have ez:strOf (bD (e.ctx r s m k) val JE i0)=z:=by rw[hz];rfl
 rw[ez]at hB ⊢
 have s3:=yb (e:=((e.ctx r s m k).Kn Js).PW tag i0 i1 val JE) (g:=g++x) d (val:=val) (s:=z) (S:=S) (t:=t) hl U hz ft.MD (ft.inc true false) (g2.1 (g1.1 ft.col)) ft.b0 ft.b9 (g2.ok (e:=(e.ctx r s m k).Kn Js) QD) (λhh=>hE (by rw[hz];exact hh)) hB ft.Ld Mt ht
 have q9:=au (e:=((e.ctx r s m k).Kn Js).PW tag i0 i1 val JE) (g:=g++x) (l:=cL r s m k) (d+6) (y:=false) (cs:=[9]) U h
 exact aa (f:=je) (l:=cL r s m k) U (ic (e:=e) (g:=g) (d+6) r s m k (go (aj q8 U (go (ao q92 U (go (aG (az mY (vs:=[.s [38]]) (kw:=[]) (ws:=[.ref 2,.s [38]]) U U U U U U s1)) (go (aG (az jd (vs:=[]) (kw:=[]) (ws:=[.ref 2]) U U U U U U s2)) (go (ao q9 U (go (aG (az zC (vs:=[]) (kw:=[]) (ws:=[.ref 2]) U U U U U U s3)) U)) U)))) U)) U))
end
noncomputable def Em.QZ(e:Em)(fl:B)(c:Nat):Bool:=(e.c.lvl != 0)||(e.o.Jo.truth||(fl.truth||aF c e.k.events))
section
theorem yp(d:Nat)(r s m k:Bool){imp:Bool}(h:e.k.event=NZ 10 Js tag imp fl)(ha:eR Js)(hA:e.m.Js=.nul∨e.m.Js=Js)(hT:KD tag)(hm:e.m.tag=.nul∨e.m.tag=tag)(hq:NN e.o.Jo tag imp=false->tag≠.nul)(hp:bn e g)(hr:Mx e.k.events)(ft:N5 e 3)
  (post:∀x,(Jr (d+4)).Jv 10 (cL r s m k) (Jm e g)=some (.b .nul,Jm (bif e.QZ fl 11 then(((e.ctx r s m k).Kn Js).J3 tag imp).Nx 91 14 else(((e.ctx r s m k).Kn Js).J3 tag imp).Ny (m&&!(((e.ctx r s m k).Kn Js).J3 tag imp).w.ind) 22) (g++x))->P):P:=by
 have q8:=au (e:=e.ctx r s m k) (g:=g) (l:=cL r s m k) (d+3) (y:=false) (cs:=[8]) U h
 have q92:=au (e:=e.ctx r s m k) (g:=g) (l:=cL r s m k) (d+3) (y:=true) (cs:=[9,2]) U h
 have s1:=g9 (e:=e.ctx r s m k) (g:=g) d (ind:=[38]) (x:=Js) (mf 1) h U ha hA (ke (mc (by decide) _) ft.ok)
 have g1:=e9 e.w [38] Js
 have QD:((e.ctx r s m k).Kn Js).ok (1+1):=g1.ok (e:=e) ft.ok
 have g2:=mV ((e.ctx r s m k).Kn Js).w (NN e.o.Jo tag imp) tag
 refine pL (e:=(e.ctx r s m k).Kn Js) (g:=g) d (tag:=tag) (imp:=imp) h U U U hT hq (n8 (e:=e.ctx r s m k) (w:=e.w.MB [38] Js) U hp) hm (mq QD) λx s2=>post x ?_
 have ok2:(((e.ctx r s m k).Kn Js).J3 tag imp).ok 1:=g2.ok (e:=(e.ctx r s m k).Kn Js) QD
 have q9:=au (e:=((e.ctx r s m k).Kn Js).J3 tag imp) (g:=g++x) (l:=cL r s m k) (d+3) (y:=false) (cs:=[9]) U h
 have q10:=au (e:=((e.ctx r s m k).Kn Js).J3 tag imp) (g:=g++x) (l:=cL r s m k) (d+3) (y:=false) (cs:=[10]) U h
 have q12:=au (e:=((e.ctx r s m k).Kn Js).J3 tag imp) (g:=g++x) (l:=cL r s m k) (d+3) (y:=false) (cs:=[12]) U h
 have t72:Tr (Jr (d+3)) PL (cL r s m k) (Jm (((e.ctx r s m k).Kn Js).J3 tag imp) (g++x)) (e.c.lvl != 0):=Tr.of (x:=.int e.c.lvl) U
 have t82:Tr (Jr (d+3)) Nh (cL r s m k) (Jm (((e.ctx r s m k).Kn Js).J3 tag imp) (g++x)) e.o.Jo.truth:=Tr.of (x:=e.o.Jo) U
 have t95:Tr (Jr (d+3)) tj (cL r s m k) (Jm (((e.ctx r s m k).Kn Js).J3 tag imp) (g++x)) fl.truth:=Tr.of (x:=fl) (JU (e:=((e.ctx r s m k).Kn Js).J3 tag imp) U h U)
 have tE:Tr (Jr (d+3)) (.or PL (.or Nh (.or tj (.call 29 I0 .nil)))) (cL r s m k) (Jm (((e.ctx r s m k).Kn Js).J3 tag imp) (g++x)) (e.QZ fl 11):=t72.or (t82.or (t95.or (qG (e:=((e.ctx r s m k).Kn Js).J3 tag imp) (g:=g++x) (d+2) U h hr)))
 have fin:∀{E:Em},Es (d+3) I91 (cL r s m k) (Jm (((e.ctx r s m k).Kn Js).J3 tag imp) (g++x)) (cL r s m k) (Jm E (g++x))->(Jr (d+4)).Jv 10 (cL r s m k) (Jm e g)=some (.b .nul,Jm E (g++x)):=λ{E} h3=>
  aa (f:=je) (l:=cL r s m k) U (ic (e:=e) (g:=g) (d+3) r s m k (go (aj q8 U (go (ao q92 U (go (aG (az mY (vs:=[.s [38]]) (kw:=[]) (ws:=[.ref 2,.s [38]]) U U U U U U s1)) (go (aG (az jd (vs:=[]) (kw:=[]) (ws:=[.ref 2]) U U U U U U s2)) (go (aj q9 U (go (ao q10 U (go h3 U)) U)) U)))) U)) U))
 cases hF:e.QZ fl 11 with
 | true=>
  rw[hF]at tE
  exact fin (tE.yes (go (aG (az zB (vs:=[]) (kw:=[]) (ws:=[.ref 2]) U U U U U U (EN (e:=((e.ctx r s m k).Kn Js).J3 tag imp) (g:=g++x) d ft.MD ok2 ft.Ld))) U))
 | false=>
  rw[hF]at tE
  exact fin (tE.no (go (aG (az zt (vs:=[]) (kw:=[]) (ws:=[.ref 2]) U U U U U U (EL (e:=((e.ctx r s m k).Kn Js).J3 tag imp) (g:=g++x) (d+1) ft.MD ft.Ld))) U))
theorem yr(d:Nat)(r s m k:Bool){imp:Bool}(h:e.k.event=NZ 12 Js tag imp fl)(ha:eR Js)(hA:e.m.Js=.nul∨e.m.Js=Js)(hT:KD tag)(hm:e.m.tag=.nul∨e.m.tag=tag)(hq:NN e.o.Jo tag imp=false->tag≠.nul)(hp:bn e g)(hr:Mx e.k.events)(ft:N5 e 3)
  (post:∀x,(Jr (d+4)).Jv 10 (cL r s m k) (Jm e g)=some (.b .nul,Jm (bif e.QZ fl 13 then(((e.ctx r s m k).Kn Js).J3 tag imp).Nx 123 17 else(((e.ctx r s m k).Kn Js).J3 tag imp).Ny false 25) (g++x))->P):P:=by
 have q8:=au (e:=e.ctx r s m k) (g:=g) (l:=cL r s m k) (d+3) (y:=false) (cs:=[8]) U h
 have q92:=au (e:=e.ctx r s m k) (g:=g) (l:=cL r s m k) (d+3) (y:=true) (cs:=[9,2]) U h
 have s1:=g9 (e:=e.ctx r s m k) (g:=g) d (ind:=[38]) (x:=Js) (mf 1) h U ha hA (ke (mc (by decide) _) ft.ok)
 have g1:=e9 e.w [38] Js
 have QD:((e.ctx r s m k).Kn Js).ok (1+1):=g1.ok (e:=e) ft.ok
 have g2:=mV ((e.ctx r s m k).Kn Js).w (NN e.o.Jo tag imp) tag
 refine pL (e:=(e.ctx r s m k).Kn Js) (g:=g) d (tag:=tag) (imp:=imp) h U U U hT hq (n8 (e:=e.ctx r s m k) (w:=e.w.MB [38] Js) U hp) hm (mq QD) λx s2=>post x ?_
 have ok2:(((e.ctx r s m k).Kn Js).J3 tag imp).ok 1:=g2.ok (e:=(e.ctx r s m k).Kn Js) QD
 have q9:=au (e:=((e.ctx r s m k).Kn Js).J3 tag imp) (g:=g++x) (l:=cL r s m k) (d+3) (y:=false) (cs:=[9]) U h
 have q10:=au (e:=((e.ctx r s m k).Kn Js).J3 tag imp) (g:=g++x) (l:=cL r s m k) (d+3) (y:=false) (cs:=[10]) U h
 have q12:=au (e:=((e.ctx r s m k).Kn Js).J3 tag imp) (g:=g++x) (l:=cL r s m k) (d+3) (y:=false) (cs:=[12]) U h
 have t72:Tr (Jr (d+3)) PL (cL r s m k) (Jm (((e.ctx r s m k).Kn Js).J3 tag imp) (g++x)) (e.c.lvl != 0):=Tr.of (x:=.int e.c.lvl) U
 have t82:Tr (Jr (d+3)) Nh (cL r s m k) (Jm (((e.ctx r s m k).Kn Js).J3 tag imp) (g++x)) e.o.Jo.truth:=Tr.of (x:=e.o.Jo) U
 have t95:Tr (Jr (d+3)) tj (cL r s m k) (Jm (((e.ctx r s m k).Kn Js).J3 tag imp) (g++x)) fl.truth:=Tr.of (x:=fl) (JU (e:=((e.ctx r s m k).Kn Js).J3 tag imp) U h U)
 have tE:Tr (Jr (d+3)) (.or PL (.or Nh (.or tj (.call 30 I0 .nil)))) (cL r s m k) (Jm (((e.ctx r s m k).Kn Js).J3 tag imp) (g++x)) (e.QZ fl 13):=t72.or (t82.or (t95.or (qF (e:=((e.ctx r s m k).Kn Js).J3 tag imp) (g:=g++x) (d+2) U h hr)))
 have fin:∀{E:Em},Es (d+3) I92 (cL r s m k) (Jm (((e.ctx r s m k).Kn Js).J3 tag imp) (g++x)) (cL r s m k) (Jm E (g++x))->(Jr (d+4)).Jv 10 (cL r s m k) (Jm e g)=some (.b .nul,Jm E (g++x)):=λ{E} h3=>
  aa (f:=je) (l:=cL r s m k) U (ic (e:=e) (g:=g) (d+3) r s m k (go (aj q8 U (go (ao q92 U (go (aG (az mY (vs:=[.s [38]]) (kw:=[]) (ws:=[.ref 2,.s [38]]) U U U U U U s1)) (go (aG (az jd (vs:=[]) (kw:=[]) (ws:=[.ref 2]) U U U U U U s2)) (go (aj q9 U (go (aj q10 U (go (ao q12 U (go h3 U)) U)) U)) U)))) U)) U))
 cases hF:e.QZ fl 13 with
 | true=>
  rw[hF]at tE
  exact fin (tE.yes (go (aG (az zx (vs:=[]) (kw:=[]) (ws:=[.ref 2]) U U U U U U (EM (e:=((e.ctx r s m k).Kn Js).J3 tag imp) (g:=g++x) d ft.MD ok2 ft.Ld))) U))
 | false=>
  rw[hF]at tE
  exact fin (tE.no (go (aG (az zr (vs:=[]) (kw:=[]) (ws:=[.ref 2]) U U U U U U (EK (e:=((e.ctx r s m k).Kn Js).J3 tag imp) (g:=g++x) (d+1) ft.MD ft.Ld))) U))
end
def bm(d k:Nat)(vs:List V)(e:Em)(g:List Ob)(E:Em):Prop:=∃x,(Jr d).Jv k vs (Jm e g)=some (.b .nul,Jm E (g++x))
noncomputable def cC(r s m k:Bool):List V:=(cL r s m k)
noncomputable def Em.push(e:Em)(j:Nat):Em:=e.K (e.k.sts (e.k.Jt++[.JA j 2]))
noncomputable def Em.JH(e:Em):Em:=e.W (e.w.JH (ar e.c.indent) e.o.lb)
noncomputable def Em.sgn(e:Em)(s:Tx)(a b c:Bool):Em:=e.W (e.w.sgn s a b c)
section
variable{E:Em}
theorem k9(h0:l[0]?=some (.ref 2))(hi:JI e.c.indent)(hc:0<=e.w.col)(ho:e.ok 2):Es (d+3) OL l (Jm e g) l (Jm e.JH g):=
 aG (az kU (vs:=[]) (kw:=[]) (ws:=[.ref 2]) h0 U U U U U (fV d hi hc ho))
theorem gf{s:Tx}{a:Bool}(h0:l[0]?=some (.ref 2))(hs:s.length<=2000)(ho:e.ok 1):Es (d+2) (.expr (.call 46 I0 (.pos (.n0 (.cst (.str s))) (.pos (.n0 (.cst (.bool a))) .nil)))) l (Jm e g) l (Jm (e.sgn s a false false) g):=
 aG (az gy (vs:=[.s s,.o a]) (kw:=[]) (ws:=[.ref 2,.s s,.o a,.ff,.ff]) h0 U U U U U (cj d s a false false hs ho))
theorem AD{s:Tx}{a:Bool}(h0:l[0]?=some (.ref 2))(hs:s.length<=2000)(ho:e.ok 1):Es (d+2) (.expr (.call 46 I0 (.pos (.n0 (.cst (.str s))) (.pos (.n0 (.cst (.bool a))) (.kw 4 I1 .nil))))) l (Jm e g) l (Jm (e.sgn s a false true) g):=
 aG (az gy (vs:=[.s s,.o a]) (kw:=[(4,.tt)]) (ws:=[.ref 2,.s s,.o a,.ff,.tt]) h0 U U U U U (cj d s a false true hs ho))
theorem uR{x:List Ob}(h0:l[0]?=some (.ref 2))(h:(Jr d).Jv 10 (cC false false true false) (Jm e g)=some (.b .nul,Jm E (g++x))):Es d (.expr (.call 10 I0 tf)) l (Jm e g) l (Jm E (g++x)):=
 aG (az je (vs:=[]) (kw:=[(3,.tt)]) (ws:=cC false false true false) h0 U U U U U h)
theorem AV{x:List Ob}(h0:l[0]?=some (.ref 2))(h:(Jr d).Jv 10 (cC false false true true) (Jm e g)=some (.b .nul,Jm E (g++x))):Es d DM l (Jm e g) l (Jm E (g++x)):=
 aG (az je (vs:=[]) (kw:=[(3,.tt),(4,.tt)]) (ws:=cC false false true true) h0 U U U U U h)
theorem uQ{x:List Ob}(h0:l[0]?=some (.ref 2))(h:(Jr d).Jv 10 (cC false true false false) (Jm e g)=some (.b .nul,Jm E (g++x))):Es d DN l (Jm e g) l (Jm E (g++x)):=
 aG (az je (vs:=[]) (kw:=[(2,.tt)]) (ws:=cC false true false false) h0 U U U U U h)
theorem HA(ho:e.ok 1)(hS:e.k.Jt.length < JL)(h:bm (d+2) 10 (cC false false true false) ((e.sgn [58] false false false).push 18) g E):bm (d+3) 19 [.ref 2] e g E:=
 h.imp λx h=>aa (f:=CZ) (l:=[.ref 2]) U (go (gf U (by decide) ho) (go (bq U U hS) (go (uR U h) U)))
theorem Ht(ho:e.ok 1)(hS:e.k.Jt.length < JL)(h:bm (d+2) 10 (cC false false true false) ((e.sgn [58] false false false).push 26) g E):bm (d+3) 27 [.ref 2] e g E:=
 h.imp λx h=>aa (f:=CV) (l:=[.ref 2]) U (go (gf U (by decide) ho) (go (bq U U hS) (go (uR U h) U)))
theorem okD(h:e.ok (2+n)):e.JH.ok n:=(bZ e.w _ _).ok h
noncomputable def Em.clo(e:Em)(x:B)(I S:List V)(t:V):Em:=((e.C (e.c.ind x)).K (e.k.Ld I)).pop S t
theorem Hw(first:Bool)(hv:e.k.event=.rc k f)(hk:(!first&&JZ [11] k)=false)(hi:JI e.c.indent)(hc:0<=e.w.col)(ho:e.ok 3)(hS:e.k.Jt.length < JL)(h:bm (d+3) 10 (cC false true false false) ((e.JH.sgn [45] true false true).push 23) g E):bm (d+4) 23 [.ref 2,.o first] e g E:=by
 have q:Tr (Jr (d+3)) (.and gF xp) [.ref 2,.o first] (Jm e g) (!first&&JZ [11] k):=(Tr.bl U).and λJ=>Tr.bl (au (d+3) U hv)
 rw[hk]at q
 exact h.imp λx h=>aa (f:=v8) (l:=[.ref 2,.o first]) U (go (q.no (go (k9 U hi hc (mq ho)) (go (AD U (by decide) (okD ho)) (go (bq U U hS) (go (uQ U h) U))))) U)
theorem F1(hv:e.k.event=.rc k f)(hk:JZ [11] k=true){I S:List V}{t:V}(hI:e.k.Jw=I++[.b x])(hS:e.k.Jt=S++[t])(ht:ae t=false):bm (d+1) 23 [.ref 2,.ff] e g (e.clo x I S t):=by
 have q:Tr (Jr d) (.and gF xp) [.ref 2,.ff] (Jm e g) (!false&&JZ [11] k):=(Tr.bl U).and λJ=>Tr.bl (au d U hv)
 rw[hk]at q
 refine⟨[],?_⟩
 rw[mh]
 exact aa (f:=v8) (l:=[.ref 2,.ff]) U (go (q.yes (go (cP U hI) (go (cw (e:=(e.C (e.c.ind x)).K (e.k.Ld I)) U hS ht) U))) U)
theorem Hx(h:bm d 23 [.ref 2,.tt] e g E):bm (d+1) 22 [.ref 2] e g E:=
 h.imp λx h=>ay (f:=CX) (l:=[.ref 2]) U (aR (az v8 (vs:=[]) (kw:=[(1,.tt)]) (ws:=[.ref 2,.tt]) U U U U U U h) .nil) U
theorem Hv(h:bm d 26 [.ref 2,.tt] e g E):bm (d+1) 25 [.ref 2] e g E:=
 h.imp λx h=>ay (f:=CW) (l:=[.ref 2]) U (aR (az sI (vs:=[]) (kw:=[(1,.tt)]) (ws:=[.ref 2,.tt]) U U U U U U h) .nil) U
theorem F0(hv:e.k.event=.rc k f)(hk:JZ [13] k=true){I S:List V}{t:V}(hI:e.k.Jw=I++[.b x])(hS:e.k.Jt=S++[t])(ht:ae t=false):bm (d+1) 26 [.ref 2,.ff] e g (e.clo x I S t):=by
 have q:Tr (Jr d) (.and gF xo) [.ref 2,.ff] (Jm e g) (!false&&JZ [13] k):=(Tr.bl U).and λJ=>Tr.bl (au d U hv)
 rw[hk]at q
 refine⟨[],?_⟩
 rw[mh]
 exact aa (f:=sI) (l:=[.ref 2,.ff]) U (go (q.yes (go (cP U hI) (go (cw (e:=(e.C (e.c.ind x)).K (e.k.Ld I)) U hS ht) U))) U)
theorem Hu(first:Bool){n:Nd}(hv:e.k.event=n.V)(hk:(!first&&JZ [13] n.k)=false)(hi:JI e.c.indent)(hc:0<=e.w.col)(ho:e.ok 3)(hS:e.k.Jt.length < JL)(ok:n.Ok)(hr:Mx e.k.events)(hp:bn e g)(h1:e.m.Js=.nul∨e.m.Js=n.Js)(h2:e.m.tag=.nul∨e.m.tag=n.tag)(h3:e.m.J0=.b .nul∨e.m.J0=J0 n.val e.o.wide)
  (ht:n.key e.o.wide e.k.events=true->∀x,bm (d+3) 10 (cC false false true true) ((e.JH.M (n.ms e.o.wide e.m)).push 27) (g++x) E)
  (hf:n.key e.o.wide e.k.events=false->∀x,bm (d+3) 10 (cC false false true false) (((e.JH.M (n.ms e.o.wide e.m)).sgn [63] true false true).push 28) (g++x) E):bm (d+4) 26 [.ref 2,.o first] e g E:=by
 have q:Tr (Jr (d+3)) (.and gF xo) [.ref 2,.o first] (Jm e g) (!first&&JZ [13] n.k):=(Tr.bl U).and λJ=>Tr.bl (au (d+3) U hv)
 rw[hk]at q
 refine qb (e:=e.JH) (g:=g) (d+1) (n:=n) hv ok hr (n8 (w:=e.JH.w) U hp) h1 h2 h3 λx v Qc hb=>?_
 have hq:Ev (d+3) (.call 32 I0 .nil) [.ref 2,.o first] (Jm e.JH g) v (Jm (e.JH.M (n.ms e.o.wide e.m)) (g++x)):=az v7 (vs:=[]) (kw:=[]) (ws:=[.ref 2]) U U U U U U Qc
 have hb:truth (Jm (e.JH.M (n.ms e.o.wide e.m)) (g++x)) v=some (n.key e.o.wide e.k.events):=hb
 cases hK:n.key e.o.wide e.k.events with
 | true=>
  rw[hK]at hb
  obtain⟨y,hy⟩:=ht hK x
  refine⟨x++y,?_⟩
  rw[<- lq]
  exact aa (f:=sI) (l:=[.ref 2,.o first]) U (go (q.no (go (k9 U hi hc (mq ho)) (go (ao hq hb (go (bq U U hS) (go (AV U hy) U))) U))) U)
 | false=>
  rw[hK]at hb
  obtain⟨y,hy⟩:=hf hK x
  refine⟨x++y,?_⟩
  rw[<- lq]
  exact aa (f:=sI) (l:=[.ref 2,.o first]) U (go (q.no (go (k9 U hi hc (mq ho)) (go (aj hq hb (go (AD U (by decide) (okD ho)) (go (bq U U hS) (go (uR U hy) U)))) U))) U)
end
noncomputable def Em.JX(e:Em):Em:=bif e.o.Jo.truth||decide (e.o.bw < e.w.col) then e.JH else e
noncomputable def Em.J8(e:Em)(x:B)(I:List V):Em:=(e.C ((e.c.ind x).lv (e.c.lvl - 1))).K (e.k.Ld I)
noncomputable def Em.cm(e:Em):Em:=bif e.o.Jo.truth then(e.sgn [44] false false false).JH else e
section
variable{E:Em}
theorem CP(e:Em):Gr e.w e.JX.w 2:=by
 unfold Em.JX
 cases e.o.Jo.truth||decide (e.o.bw < e.w.col) with
 | true=>exact bZ e.w _ _
 | false=>exact Gr.refl
theorem cU(e:Em):e.JX.o=e.o/\e.JX.c=e.c/\e.JX.m=e.m/\e.JX.k=e.k:=by
 unfold Em.JX
 cases e.o.Jo.truth||decide (e.o.bw < e.w.col) <;> exact⟨rfl,rfl,rfl,rfl⟩
theorem Mp(h0:l[0]?=some (.ref 2)):Tr c Nh l (Jm e g) e.o.Jo.truth:=Tr.of (x:=e.o.Jo) (Jl (aB h0) U)
theorem vU(h0:l[0]?=some (.ref 2))(hi:JI e.c.indent)(hc:0<=e.w.col)(ho:e.ok 2):Es (d+3) I17 l (Jm e g) l (Jm e.JX g):=by
 have q2:Ep (d+3) I68 l (Jm e g) (.o (decide (e.o.bw < e.w.col))):=Jl (a:=(.i e.w.col,Jm e g)) (Jl (aB h0) U) (Jl (a:=(.i e.o.bw,Jm e g)) (Jl (aB h0) U) U)
 have t:=(Mp (e:=e) (g:=g) (c:=Jr (d+3)) h0).or (Tr.bl q2)
 unfold Em.JX
 cases hb:e.o.Jo.truth||decide (e.o.bw < e.w.col) with
 | true=>rw[hb]at t;exact t.yes (go (k9 h0 hi hc ho) U)
 | false=>rw[hb]at t;exact t.no U
theorem cmS(h0:l[0]?=some (.ref 2))(hi:JI e.c.indent)(hc:0<=e.w.col)(ho:e.ok 3):Es (d+3) Dt l (Jm e g) l (Jm e.cm g):=by
 have t:=Mp (e:=e) (g:=g) (c:=Jr (d+3)) h0
 unfold Em.cm
 cases hb:e.o.Jo.truth with
 | true=>
  rw[hb]at t
  exact t.yes (go (gf (e:=e) (s:=[44]) (a:=false) h0 (by decide) (ke (mc (by decide) _) ho)) (go (k9 (e:=e.sgn [44] false false false) h0 hi ((aY e.w [44] false false false).1 hc) ((aY e.w [44] false false false).ok (e:=e) ho)) U))
 | false=>rw[hb]at t;exact t.no U
theorem hO(h0:l[0]?=some (.ref 2)):Es d xf l (Jm e g) l (Jm (e.C (e.c.lv (e.c.lvl - 1))) g):=Jl (aB h0) (Jl (a:=.i e.c.lvl) U (Jl (a:=(.i 1,Jm e g)) U U))
theorem F6(hv:e.k.event=.rc k f)(hk:JZ [11] k=true)(ho:e.ok 1){I S:List V}{t:V}(hI:e.k.Jw=I++[.b x])(hS:e.k.Jt=S++[t])(ht:ae t=false):bm (d+3) 14 [.ref 2] e g (((e.J8 x I).sgn [93] false false false).pop S t):=by
 have q:=au (e:=e) (g:=g) (l:=[.ref 2]) (d+2) (y:=false) (cs:=[11]) U hv
 rw[hk]at q
 refine⟨[],?_⟩
 rw[mh]
 exact aa (f:=zA) (l:=[.ref 2]) U (go (ao q U (go (cP U hI) (go (hO U) (go (gf (e:=e.J8 x I) U (by decide) ho) (go (cw (e:=(e.J8 x I).sgn [93] false false false) U hS ht) U))))) U)
theorem F4(hv:e.k.event=.rc k f)(hk:JZ [13] k=true)(ho:e.ok 1){I S:List V}{t:V}(hI:e.k.Jw=I++[.b x])(hS:e.k.Jt=S++[t])(ht:ae t=false):bm (d+3) 17 [.ref 2] e g (((e.J8 x I).sgn [125] false false false).pop S t):=by
 have q:=au (e:=e) (g:=g) (l:=[.ref 2]) (d+2) (y:=false) (cs:=[13]) U hv
 rw[hk]at q
 refine⟨[],?_⟩
 rw[mh]
 exact aa (f:=zw) (l:=[.ref 2]) U (go (ao q U (go (cP U hI) (go (hO U) (go (gf (e:=e.J8 x I) U (by decide) ho) (go (cw (e:=(e.J8 x I).sgn [125] false false false) U hS ht) U))))) U)
theorem fY(e:Em):e.cm.o=e.o/\e.cm.c=e.c/\e.cm.m=e.m/\e.cm.k=e.k:=by
 unfold Em.cm
 cases e.o.Jo.truth <;> exact⟨rfl,rfl,rfl,rfl⟩
theorem vG(e:Em):Gr e.w e.cm.w 3:=by
 unfold Em.cm
 cases e.o.Jo.truth with
 | true=>exact(aY e.w [44] false false false).trans (bZ _ _ _)
 | false=>exact Gr.refl
theorem F5(hv:e.k.event=.rc k f)(hk:JZ [11] k=true)(hi:JI x)(hc:0<=e.w.col)(ho:e.ok 4){I S:List V}{t:V}(hI:e.k.Jw=I++[.b x])(hS:e.k.Jt=S++[t])(ht:ae t=false):bm (d+4) 15 [.ref 2] e g ((((e.J8 x I).cm).sgn [93] false false false).pop S t):=by
 have q:=au (e:=e) (g:=g) (l:=[.ref 2]) (d+3) (y:=false) (cs:=[11]) U hv
 rw[hk]at q
 refine⟨[],?_⟩
 rw[mh]
 have hs:=fY (e.J8 x I)
 have g3:=vG (e.J8 x I)
 have NG:(e.J8 x I).cm.k.Jt=S++[t]:=by rw[hs.2.2.2];exact hS
 have s1:=cmS (e:=e.J8 x I) (g:=g) (l:=[.ref 2]) (d:=d) U hi hc (mq ho)
 have o1:((e.J8 x I).cm).ok 1:=ke (Se g3.2 1) (by rw[SO];exact ho)
 generalize (e.J8 x I).cm=E1 at s1 o1 NG
 exact aa (f:=zy) (l:=[.ref 2]) U (go (ao q U (go (cP U hI) (go (hO U) (go s1 (go (gf (e:=E1) U (by decide) o1) (go (cw (e:=E1.sgn [93] false false false) U NG ht) U)))))) U)
theorem F3(hv:e.k.event=.rc k f)(hk:JZ [13] k=true)(hi:JI x)(hc:0<=e.w.col)(ho:e.ok 4){I S:List V}{t:V}(hI:e.k.Jw=I++[.b x])(hS:e.k.Jt=S++[t])(ht:ae t=false):bm (d+4) 18 [.ref 2] e g ((((e.J8 x I).cm).sgn [125] false false false).pop S t):=by
 have q:=au (e:=e) (g:=g) (l:=[.ref 2]) (d+3) (y:=false) (cs:=[13]) U hv
 rw[hk]at q
 refine⟨[],?_⟩
 rw[mh]
 have hs:=fY (e.J8 x I)
 have g3:=vG (e.J8 x I)
 have NG:(e.J8 x I).cm.k.Jt=S++[t]:=by rw[hs.2.2.2];exact hS
 have s1:=cmS (e:=e.J8 x I) (g:=g) (l:=[.ref 2]) (d:=d) U hi hc (mq ho)
 have o1:((e.J8 x I).cm).ok 1:=ke (Se g3.2 1) (by rw[SO];exact ho)
 generalize (e.J8 x I).cm=E1 at s1 o1 NG
 exact aa (f:=zu) (l:=[.ref 2]) U (go (ao q U (go (cP U hI) (go (hO U) (go s1 (go (gf (e:=E1) U (by decide) o1) (go (cw (e:=E1.sgn [125] false false false) U NG ht) U)))))) U)
theorem oG(h:e.ok (2+n)):e.JX.ok n:=ke (Se (CP e).2 n) (by rw[SO];exact h)
theorem HE(hv:e.k.event=.rc k f)(hk:JZ [11] k=false)(hi:JI e.c.indent)(hc:0<=e.w.col)(ho:e.ok 2)(hS:e.k.Jt.length < JL)(h:bm (d+3) 10 (cC false true false false) (e.JX.push 15) g E):bm (d+4) 14 [.ref 2] e g E:=by
 have q:=au (e:=e) (g:=g) (l:=[.ref 2]) (d+3) (y:=false) (cs:=[11]) U hv
 rw[hk]at q
 have NG:e.JX.k.Jt.length < JL:=by rw[(cU e).2.2.2];exact hS
 exact h.imp λx h=>aa (f:=zA) (l:=[.ref 2]) U (go (aj q U (go (vU U hi hc ho) (go (bq U U NG) (go (uQ U h) U)))) U)
theorem HD(hv:e.k.event=.rc k f)(hk:JZ [11] k=false)(hi:JI e.c.indent)(hc:0<=e.w.col)(ho:e.ok 3)(hS:e.k.Jt.length < JL)(h:bm (d+3) 10 (cC false true false false) ((e.sgn [44] false false false).JX.push 15) g E):bm (d+4) 15 [.ref 2] e g E:=by
 have q:=au (e:=e) (g:=g) (l:=[.ref 2]) (d+3) (y:=false) (cs:=[11]) U hv
 rw[hk]at q
 have g1:=aY e.w [44] false false false
 have NG:(e.sgn [44] false false false).JX.k.Jt.length < JL:=by rw[(cU _).2.2.2];exact hS
 exact h.imp λx h=>aa (f:=zy) (l:=[.ref 2]) U (go (aj q U (go (gf (e:=e) (s:=[44]) (a:=false) U (by decide) (ke (mc (by decide) _) ho)) (go (vU (e:=e.sgn [44] false false false) U hi (g1.1 hc) (g1.ok (e:=e) ho)) (go (bq U U NG) (go (uQ U h) U))))) U)
theorem Hz(hi:JI e.c.indent)(hc:0<=e.w.col)(ho:e.ok 3)(hS:e.k.Jt.length < JL)(h:bm (d+3) 10 (cC false false true false) ((e.JX.sgn [58] true false false).push 18) g E):bm (d+4) 20 [.ref 2] e g E:=by
 have NG:(e.JX.sgn [58] true false false).k.Jt.length < JL:=by show e.JX.k.Jt.length < JL;rw[(cU e).2.2.2];exact hS
 exact h.imp λx h=>aa (f:=CY) (l:=[.ref 2]) U (go (vU U hi hc (mq ho)) (go (gf (e:=e.JX) (s:=[58]) (a:=true) U (by decide) (oG ho)) (go (bq U U NG) (go (uR U h) U))))
end
noncomputable def Fc:S:=.cons I16 .nil
noncomputable def Em.Mm(e:Em)(n:Nd):Em:=bif e.o.Jo.truth then e else e.M (n.ms e.o.wide e.m)
noncomputable def Em.kb(e:Em)(n:Nd):Bool:=!e.o.Jo.truth&&n.key e.o.wide e.k.events
section
variable{E:Em}{n:Nd}
theorem mL(hv:e.k.event=n.V)(ho:e.ok 1)(hS:e.k.Jt.length < JL)(ok:n.Ok)(hr:Mx e.k.events)(hp:bn e g)(h1:e.m.Js=.nul∨e.m.Js=n.Js)(h2:e.m.tag=.nul∨e.m.tag=n.tag)(h3:e.m.J0=.b .nul∨e.m.J0=J0 n.val e.o.wide)
  (ht:e.kb n=true->∀x,bm (d+3) 10 (cC false false true true) ((e.Mm n).push 19) (g++x) E)
  (hf:e.kb n=false->∀x,bm (d+3) 10 (cC false false true false) (((e.Mm n).sgn [63] true false false).push 20) (g++x) E):∃x,Es (d+3) Fc [.ref 2] (Jm e g) [.ref 2] (Jm E (g++x)):=by
 have t:=Mp (e:=e) (g:=g) (l:=[.ref 2]) (c:=Jr (d+3)) U
 have tn:=t.not
 have fin:∀{v:V}{x:List Ob}{E1:Em},Ev (d+3) (.and s8 (.call 32 I0 .nil)) [.ref 2] (Jm e g) v (Jm E1 (g++x))->truth (Jm E1 (g++x)) v=some (e.kb n)->e.Mm n=E1->E1.ok 1->E1.k.Jt.length < JL->∃x,Es (d+3) Fc [.ref 2] (Jm e g) [.ref 2] (Jm E (g++x)):=λ{v x E1} hq hb hE o1 s1=>by
  rw[hE]at ht hf
  cases hK:e.kb n with
  | true=>
   rw[hK]at hb
   obtain⟨y,hy⟩:=ht hK x
   refine⟨x++y,?_⟩
   rw[<- lq]
   exact go (ao hq hb (go (bq U U s1) (go (AV U hy) U))) U
  | false=>
   rw[hK]at hb
   obtain⟨y,hy⟩:=hf hK x
   refine⟨x++y,?_⟩
   rw[<- lq]
   exact go (aj hq hb (go (gf (e:=E1) (s:=[63]) (a:=true) U (by decide) o1) (go (bq U U s1) (go (uR U hy) U)))) U
 cases hc:e.o.Jo.truth with
 | true=>
  rw[hc]at tn
  exact fin (x:=[]) (E1:=e) (by rw[mh];exact Jl tn (Jl (a:=false) U U)) (by unfold Em.kb;rw[hc];rfl) (by unfold Em.Mm;rw[hc];rfl) ho hS
 | false=>
  rw[hc]at tn
  refine qb (e:=e) (g:=g) (d+1) (n:=n) hv ok hr hp h1 h2 h3 λx v Qc hb=>?_
  exact fin (x:=x) (E1:=e.M (n.ms e.o.wide e.m)) (Jl tn (Jl (a:=true) U (az v7 (vs:=[]) (kw:=[]) (ws:=[.ref 2]) U U U U U U Qc))) (by unfold Em.kb;rw[hc];exact hb) (by unfold Em.Mm;rw[hc];rfl) ho hS
theorem fO(hp:bn e g):bn e.JX g:=by
 obtain⟨j,h1,h2⟩:=hp
 exact⟨j,by rw[(cU e).2.2.1];exact h1,h2⟩
theorem HC(hv:e.k.event=n.V)(hk:JZ [13] n.k=false)(hi:JI e.c.indent)(hc:0<=e.w.col)(ho:e.ok 3)(hS:e.k.Jt.length < JL)(ok:n.Ok)(hr:Mx e.k.events)(hp:bn e g)(h1:e.m.Js=.nul∨e.m.Js=n.Js)(h2:e.m.tag=.nul∨e.m.tag=n.tag)(h3:e.m.J0=.b .nul∨e.m.J0=J0 n.val e.o.wide)
  (ht:e.kb n=true->∀x,bm (d+3) 10 (cC false false true true) ((e.JX.Mm n).push 19) (g++x) E)
  (hf:e.kb n=false->∀x,bm (d+3) 10 (cC false false true false) (((e.JX.Mm n).sgn [63] true false false).push 20) (g++x) E):bm (d+4) 17 [.ref 2] e g E:=by
 have q:=au (e:=e) (g:=g) (l:=[.ref 2]) (d+3) (y:=false) (cs:=[13]) U hv
 rw[hk]at q
 have s1:=vU (e:=e) (g:=g) (l:=[.ref 2]) (d:=d) U hi hc (mq ho)
 have hs:=cU e
 have o1:e.JX.ok 1:=oG ho
 have p1:=fO hp
 have kb:e.JX.kb n=e.kb n:=by unfold Em.kb;rw[hs.1,hs.2.2.2]
 rw[<- kb]at ht hf
 have Of:e.JX.k.event=n.V:=by rw[hs.2.2.2];exact hv
 have NG:e.JX.k.Jt.length < JL:=by rw[hs.2.2.2];exact hS
 have hr':Mx e.JX.k.events:=by rw[hs.2.2.2];exact hr
 have QX:e.JX.m.Js=.nul∨e.JX.m.Js=n.Js:=by rw[hs.2.2.1];exact h1
 have h2':e.JX.m.tag=.nul∨e.JX.m.tag=n.tag:=by rw[hs.2.2.1];exact h2
 have h3':e.JX.m.J0=.b .nul∨e.JX.m.J0=J0 n.val e.JX.o.wide:=by rw[hs.2.2.1,hs.1];exact h3
 obtain⟨x,hx⟩:=mL (e:=e.JX) (g:=g) (d:=d) (E:=E) Of o1 NG ok hr' p1 QX h2' h3' ht hf
 exact⟨x,aa (f:=zw) (l:=[.ref 2]) U (go (aj q U (go s1 hx)) U)⟩
theorem HB(hv:e.k.event=n.V)(hk:JZ [13] n.k=false)(hi:JI e.c.indent)(hc:0<=e.w.col)(ho:e.ok 4)(hS:e.k.Jt.length < JL)(ok:n.Ok)(hr:Mx e.k.events)(hp:bn e g)(h1:e.m.Js=.nul∨e.m.Js=n.Js)(h2:e.m.tag=.nul∨e.m.tag=n.tag)(h3:e.m.J0=.b .nul∨e.m.J0=J0 n.val e.o.wide)
  (ht:e.kb n=true->∀x,bm (d+3) 10 (cC false false true true) (((e.sgn [44] false false false).JX.Mm n).push 19) (g++x) E)
  (hf:e.kb n=false->∀x,bm (d+3) 10 (cC false false true false) ((((e.sgn [44] false false false).JX.Mm n).sgn [63] true false false).push 20) (g++x) E):bm (d+4) 18 [.ref 2] e g E:=by
 have q:=au (e:=e) (g:=g) (l:=[.ref 2]) (d+3) (y:=false) (cs:=[13]) U hv
 rw[hk]at q
 have s0:=gf (e:=e) (g:=g) (l:=[.ref 2]) (d:=d+1) (s:=[44]) (a:=false) U (by decide) (ke (mc (by decide) _) ho)
 have g1:=aY e.w [44] false false false
 have oA:(e.sgn [44] false false false).ok 3:=g1.ok (e:=e) ho
 have s1:=vU (e:=e.sgn [44] false false false) (g:=g) (l:=[.ref 2]) (d:=d) U hi (g1.1 hc) (mq oA)
 have hs:=cU (e.sgn [44] false false false)
 have o1:(e.sgn [44] false false false).JX.ok 1:=oG oA
 have p1:bn (e.sgn [44] false false false).JX g:=fO (e:=e.sgn [44] false false false) hp
 have kb:(e.sgn [44] false false false).JX.kb n=e.kb n:=by unfold Em.kb;rw[hs.1,hs.2.2.2];rfl
 rw[<- kb]at ht hf
 have Of:(e.sgn [44] false false false).JX.k.event=n.V:=by rw[hs.2.2.2];exact hv
 have NG:(e.sgn [44] false false false).JX.k.Jt.length < JL:=by rw[hs.2.2.2];exact hS
 have hr':Mx (e.sgn [44] false false false).JX.k.events:=by rw[hs.2.2.2];exact hr
 have QX:(e.sgn [44] false false false).JX.m.Js=.nul∨(e.sgn [44] false false false).JX.m.Js=n.Js:=by rw[hs.2.2.1];exact h1
 have h2':(e.sgn [44] false false false).JX.m.tag=.nul∨(e.sgn [44] false false false).JX.m.tag=n.tag:=by rw[hs.2.2.1];exact h2
 have h3':(e.sgn [44] false false false).JX.m.J0=.b .nul∨(e.sgn [44] false false false).JX.m.J0=J0 n.val (e.sgn [44] false false false).JX.o.wide:=by rw[hs.2.2.1,hs.1];exact h3
 obtain⟨x,hx⟩:=mL (e:=(e.sgn [44] false false false).JX) (g:=g) (d:=d) (E:=E) Of o1 NG ok hr' p1 QX h2' h3' ht hf
 exact⟨x,aa (f:=zu) (l:=[.ref 2]) U (go (aj q U (go s0 (go s1 hx))) U)⟩
end
noncomputable def NM:V:=.rc 4 [(108,.nul),(109,.nul),(65,.nul)]
noncomputable def M1:V:=.rc 5 [(108,.nul),(109,.nul)]
noncomputable def L0:V:=.rc 6 [(108,.nul),(109,.nul),(94,.bool true),(92,.nul),(93,.nul)]
noncomputable def deV:V:=.rc 7 [(108,.nul),(109,.nul),(94,.bool true)]
noncomputable def Em.KI(e:Em)(j:Nat):Em:=e.K (e.k.st (.JA j 2))
noncomputable def Ms.Ky(m:Ms)(x:V):Ms:=⟨x,m.Js,m.tag,m.J0,m.JE⟩
section
variable{E:Em}
theorem QB(hv:e.k.event=NM):bm (d+2) 4 [.ref 2] e g (e.KI 6):=by
 have q:=au (e:=e) (g:=g) (l:=[.ref 2]) (d+1) (y:=false) (cs:=[4]) U hv
 refine⟨[],?_⟩
 rw[mh]
 exact aa (f:=f_4) (l:=[.ref 2]) U (go (ao q U (go (aG (az zl (vs:=[]) (kw:=[]) (ws:=[.ref 2]) U U U U U U (aa (f:=zl) (l:=[.ref 2]) U (go (l':=[.ref 2]) (Jy:=Jm e g) U U)))) (go (bO U U) U))) U)
theorem st9(hS:e.k.Jt.length < JL)(h:bm d 10 (cC true false false false) (e.push 8) g E):bm (d+1) 9 [.ref 2] e g E:=
 h.imp λx h=>aa (f:=f_9) (l:=[.ref 2]) U (go (bq U U hS) (go (aG (az je (vs:=[]) (kw:=[(1,.tt)]) (ws:=cC true false false false) U U U U U U h)) U))
theorem st8(hv:e.k.event=deV)(hi:JI e.c.indent)(hc:0<=e.w.col)(ho:e.ok 5):bm (d+4) 8 [.ref 2] e g (((e.JH.sgn [46,46,46] true false false).JH).KI 7):=by
 have q:=au (e:=e) (g:=g) (l:=[.ref 2]) (d+3) (y:=false) (cs:=[7]) U hv
 have q2:Ep (d+3) xd [.ref 2] (Jm e.JH g) .tt:=JU (e:=e.JH) U hv U
 have g1:=bZ e.w (ar e.c.indent) e.o.lb
 have o1:e.JH.ok 3:=okD ho
 have g2:=aY e.JH.w [46,46,46] true false false
 have o2:(e.JH.sgn [46,46,46] true false false).ok 2:=g2.ok (e:=e.JH) o1
 refine⟨[],?_⟩
 rw[mh]
 exact aa (f:=f_8) (l:=[.ref 2]) U (go (ao q U (go (k9 U hi hc (ke (mc (by decide) _) ho)) (go (ao q2 U (go (gf (e:=e.JH) (s:=[46,46,46]) (a:=true) U (by decide) (ke (mc (by decide) _) o1)) (go (k9 (e:=e.JH.sgn [46,46,46] true false false) U hi (g2.1 (g1.1 hc)) o2) U))) (go (aG (az sH (vs:=[]) (kw:=[]) (ws:=[.ref 2]) U U U U U U (aa (f:=sH) (l:=[.ref 2]) U (go (l':=[.ref 2]) (Jy:=Jm ((e.JH.sgn [46,46,46] true false false).JH) g) U U)))) (go (bO (e:=(e.JH.sgn [46,46,46] true false false).JH) U U) U))))) U)
noncomputable def l7(x y:V):List V:=[.ref 2,x,y,.uu,.uu,.uu,.uu,.uu,.uu]
theorem Hs(hv:e.k.event=M1)(ho:e.w.KJ=false):bm (d+3) 7 [.ref 2,.o b] e g (e.KI 5):=by
 have q6:=au (e:=e) (g:=g) (l:=l7 (.o b) .uu) (d+2) (y:=false) (cs:=[6]) U hv
 have q5:=au (e:=e) (g:=g) (l:=l7 (.o b) .uu) (d+2) (y:=false) (cs:=[5]) U hv
 have qo:Ep (d+2) (.u1 (.JY 81) I0) (l7 (.o b) .uu) (Jm e g) .ff:=by show _=some (V.b (B.bool false),_);rw[<- ho];rfl
 refine⟨[],?_⟩
 rw[mh]
 have s45:(Jr (d+2)).Jv 45 [.ref 2] (Jm e g)=some (.b .nul,Jm e g):=aa (f:=zk) (l:=[.ref 2]) U (go (aG (az sH (vs:=[]) (kw:=[]) (ws:=[.ref 2]) U U U U U U (aa (f:=sH) (l:=[.ref 2]) U (go (l':=[.ref 2]) (Jy:=Jm e g) U U)))) U)
 exact aa (f:=f_7) (l:=l7 (.o b) .uu) U (go (aj q6 U (go (ao q5 U (go (aj qo U U) (go (aG (az zk (vs:=[]) (kw:=[]) (ws:=[.ref 2]) U U U U U U s45)) (go (bO U U) U)))) U)) U)
noncomputable def Em.doc(e:Em)(j:Nat):Em:=
 let e1:=((e.M (e.m.Ky (.ref j))).JH).sgn [45,45,45] true false false
 (bif e.o.Jo.truth then e1.JH else e1).KI 9
theorem Hr(hv:e.k.event=L0)(hi:JI e.c.indent)(hc:0<=e.w.col)(ho:e.ok 5):(Jr (d+4)).Jv 7 [.ref 2,.o b] (Jm e g)=some (.b .nul,Jm (e.doc (g.length+6)) (g++[.Md aQ])):=by
 have q6:=au (e:=e) (g:=g) (l:=l7 (.o b) .uu) (d+3) (y:=false) (cs:=[6]) U hv
 have f92:∀{e':Em}{g':List Ob}{x:V},e'.k.event=L0->Ep (d+3) (.u1 (.JY 92) I5) (l7 (.o b) x) (Jm e' g') (.b .nul):=λh=>JU U h U
 have f93:∀{e':Em}{g':List Ob}{x:V},e'.k.event=L0->Ep (d+3) (.u1 (.JY 93) I5) (l7 (.o b) x) (Jm e' g') (.b .nul):=λh=>JU U h U
 have t0:Tr (Jr (d+3)) GW (l7 (.o b) .uu) (Jm e g) false:=((Tr.of (f92 hv)).or (Tr.of (f93 hv))).and (w:=false) λh=>nomatch h
 have s2:Es (d+3) (.JD 87 I0 (.u1 .Me I0)) (l7 (.o b) .uu) (Jm e g) (l7 (.o b) .uu) (Jm (e.M (e.m.Ky (.ref (g.length+6)))) (g++[.Md aQ])):=rfl
 have hE:(e.M (e.m.Ky (.ref (g.length+6)))).k.event=L0:=hv
 unfold Em.doc
 have eo:(e.M (e.m.Ky (.ref (g.length+6)))).o=e.o:=rfl
 have RA:JI (e.M (e.m.Ky (.ref (g.length+6)))).c.indent:=hi
 have Qc:0<=(e.M (e.m.Ky (.ref (g.length+6)))).w.col:=hc
 have NB:(e.M (e.m.Ky (.ref (g.length+6)))).ok 5:=ho
 generalize e.M (e.m.Ky (.ref (g.length+6)))=E0 at s2 hE eo RA Qc NB ⊢
 generalize g++[Ob.Md aQ]=G at s2 ⊢
 rw[<- eo]
 have f94:Ep (d+3) xd (l7 (.o b) .uu) (Jm E0 G) .tt:=JU U hE U
 have s3:Es (d+3) I74 (l7 (.o b) .uu) (Jm E0 G) (l7 (.o b) .ff) (Jm E0 G):=by
  refine bK (v:=.ff) ?_
  cases b with
  | false=>rfl
  | true=>exact Jl (a:=(.tt,Jm E0 G)) U (Jl (a:=true) U (Jl (Jl f94 U:Ep (d+3) (.u1 .not xd) (l7 .tt .uu) (Jm E0 G) .ff) (Jl (a:=false) U U)))
 have g1:=bZ E0.w (ar E0.c.indent) E0.o.lb
 have o1:E0.JH.ok 3:=okD NB
 have g2:=aY E0.JH.w [45,45,45] true false false
 have o2:(E0.JH.sgn [45,45,45] true false false).ok 2:=g2.ok (e:=E0.JH) o1
 have tc:Tr (Jr (d+3)) Nh (l7 (.o b) .ff) (Jm (E0.JH.sgn [45,45,45] true false false) G) E0.o.Jo.truth:=Mp (e:=E0.JH.sgn [45,45,45] true false false) (g:=G) (l:=l7 (.o b) .ff) (c:=Jr (d+3)) U
 have s5:Es (d+3) (.Ju Nh tz .nil) (l7 (.o b) .ff) (Jm (E0.JH.sgn [45,45,45] true false false) G) (l7 (.o b) .ff) (Jm (bif E0.o.Jo.truth then(E0.JH.sgn [45,45,45] true false false).JH else E0.JH.sgn [45,45,45] true false false) G):=by
  cases OE:E0.o.Jo.truth with
  | true=>rw[OE]at tc;exact Tr.yes tc (go (k9 (e:=E0.JH.sgn [45,45,45] true false false) U RA (g2.1 (g1.1 Qc)) o2) U)
  | false=>rw[OE]at tc;exact Tr.no tc U
 show _=some (V.b .nul,Jm ((bif E0.o.Jo.truth then(E0.JH.sgn [45,45,45] true false false).JH else E0.JH.sgn [45,45,45] true false false).KI 9) G)
 generalize (bif E0.o.Jo.truth then(E0.JH.sgn [45,45,45] true false false).JH else E0.JH.sgn [45,45,45] true false false)=E5 at s5 ⊢
 exact aa (f:=f_7) (l:=l7 (.o b) .ff) U (go (ao q6 U (go (t0.no U) (go ((Tr.of (f92 hv)).no U) (go s2 (go ((Tr.of (f93 hE)).no U) (go s3 (go (ao (v:=.tt) U U (go (k9 U RA Qc (ke (mc (by decide) _) NB)) (go (gf (e:=E0.JH) (s:=[45,45,45]) (a:=true) U (by decide) (ke (mc (by decide) _) o1)) (go s5 U)))) (go (bO U U) U)))))))) U)
end
noncomputable def Em.ev0(e:Em):Em:=e.K ⟨e.k.state,.b .nul,e.k.Jt,e.k.events,e.k.Jw⟩
noncomputable def Em.take(e:Em)(v:V)(r:List V):Em:=e.K ⟨e.k.state,v,e.k.Jt,r,e.k.Jw⟩
noncomputable def Em.more(e:Em)(v:V):Em:=e.K ⟨e.k.state,e.k.event,e.k.Jt,e.k.events++[v],e.k.Jw⟩
noncomputable def emT:E:=.u1 .not (.call 1 I0 .nil)
noncomputable def emB:S:=whB (ah 1 b_0)
section
variable{E:Em}
theorem emq(e:Em)(g:List Ob):Pp (Jm e g) 2 4 e.k.events:=⟨⟨MF e,rfl,rfl,rfl⟩,rfl⟩
theorem pi(d:Nat)(h0:l[0]?=some (.ref 2))(hv:∀v∈e.k.events,Kq v)(hl:e.k.events.length<=300)(post:∀x,Ev (d+2) emT l (Jm e g) (.o (!bV (bF e.k.events))) (Jm e (g++x))->P):P:=by
 refine rY d (emq e g) hv hl λJy h1 h2=>?_
 have fin:∀x,Jy=Jm e (g++x)->P:=λx hx=>post x (by
  rw[hx]at h1
  exact Jl (az f_1 (vs:=[]) (kw:=[]) (ws:=[.ref 2]) h0 U U U U U h1) U)
 rcases h2 with h2 | h2
 ·exact fin [] (by rw[mh];exact h2)
 ·exact fin [.lst e.k.events.tail] (by rw[h2];rfl)
theorem zK(d:Nat){r:List V}{f:Fn}(h0:l[0]?=some (.ref 2))(he:e.k.events=v::r)(hu:ae v=false)(hs:e.k.state=.JA j 2)(hf:gx[j]?=some f)(hw:aM f [.ref 2] []=some vs)(hr:(Jr d).Jv j vs (Jm (e.take v r) g)=some (.b .nul,Jm E G)) :
  Es d emB l (Jm e g) l (Jm E.ev0 G):=by
 have q:Ev d (.u1 (.pop true) MI) l (Jm e g) v (Jm (e.K ⟨e.k.state,e.k.event,e.k.Jt,r,e.k.Jw⟩) g):=by
  refine Jl (a:=(.ref 4,Jm e g)) (Jl (aB h0) U) (Jl (a:=(4,e.k.events)) U ?_)
  show Option.map (λx=>(x,bx (Jm e g) 4 (.lst e.k.events.tail))) e.k.events.head?=_
  rw[he];rfl
 have s1:Es d (.JD 69 I0 (.u1 (.pop true) MI)) l (Jm e g) l (Jm (e.take v r) g):=by
  refine Jl q (Jl (aB h0) ?_)
  show Option.map _ (af (decide ((MF e).length < 100)&&decide (69 < 128)&&!ae v) _)=_
  rw[hu];rfl
 have s2:Es d (.expr (.Lh 67 I0)) l (Jm (e.take v r) g) l (Jm E G):=by
  have:Ev d (.Lh 67 I0) l (Jm (e.take v r) g) (.b .nul) (Jm E G):=
   Jl (aB h0) (Jl (a:=(2,0,MF (e.take v r))) U (Jl (a:=.JA j 2) (show some (e.take v r).k.state=_ from kg some (show(e.take v r).k.state=.JA j 2 from hs)) (Jl (a:=(j,2)) U (Jl (by rw[bg];exact hf) (Jl hw hr)))))
  exact aG this
 exact go s1 (go s2 (go (Jl (a:=(.b .nul,Jm E G)) U (Jl (aB h0) U)) U))
def Rc(d n:Nat)(l:List V)(e:Em)(g:List Ob)(Q:Em->List Ob->Prop):Prop:=∃E G,cQ (Jq (Jr d) emT) (JJ (Jr d) emB) n l (Jm e g)=some (.next,l,Jm E G)/\Q E G
theorem fT(h0:l[0]?=some (.ref 2))(hv:∀v∈e.k.events,Kq v)(hl:e.k.events.length<=300)(hn:bV (bF e.k.events)=true)(hQ:∀x,Q e (g++x)):Rc (d+2) (n+1) l e g Q:=
 pi (e:=e) (g:=g) d h0 hv hl λx h=>by rw[hn]at h;exact⟨e,g++x,Jl h (Jl (a:=false) U U),hQ x⟩
theorem iT{r:List V}{f:Fn}(h0:l[0]?=some (.ref 2))(hv:∀v∈e.k.events,Kq v)(hl:e.k.events.length<=300)(hn:bV (bF e.k.events)=false)(he:e.k.events=v::r)(hs:e.k.state=.JA j 2)(hf:gx[j]?=some f)(hw:aM f [.ref 2] []=some vs)
  (hr:∀x,∃E G,(Jr (d+2)).Jv j vs (Jm (e.take v r) (g++x))=some (.b .nul,Jm E G)/\Rc (d+2) n l E.ev0 G Q):Rc (d+2) (n+1) l e g Q:=
 pi (e:=e) (g:=g) d h0 hv hl λx h=>by
  rw[hn]at h
  obtain⟨E,G,h1,E',G',h2,h3⟩:=hr x
  have hu:ae v=false:=by obtain⟨k,f,rfl,_⟩:=hv v (he▸.head _);rfl
  exact⟨E',G',Jl h (Jl (a:=true) U (Jl (zK (d+2) h0 he hu hs hf hw h1) h2)),h3⟩
theorem fR(hu:ae v=false)(hl:e.k.events.length < JL)(h:Rc d 60000 [.ref 2,v] (e.more v) g Q):∃E G,(Jr (d+1)).Jv 0 [.ref 2,v] (Jm e g)=some (.b .nul,Jm E G)/\Q E G:=by
 obtain⟨E,G,h1,h2⟩:=h
 have s1:Es d (.app MI I2) [.ref 2,v] (Jm e g) [.ref 2,v] (Jm (e.more v) g):=
  eH (k:=4) (xs:=e.k.events) (ys:=e.k.events) (v:=v) (s1:=Jm e g) U U (aC U hu) U hl hu
 have s2:Es d (.while emT emB) [.ref 2,v] (Jm (e.more v) g) [.ref 2,v] (Jm E G):=by
  show cQ _ _ (Jr d).wf _ _=_
  rw[dk];exact h1
 exact⟨E,G,aa (f:=RD) (l:=[.ref 2,v]) U (go s1 (go s2 U)),h2⟩
end
noncomputable def Fo:St:=⟨[.ins 1 [(107,.ref 1)],.lst [],.ins 0 []],[]⟩
noncomputable def jc(Jo wide:B):List (Nat×V):=[(64,.ref 0),(65,.b .nul),(66,.ref 3),(67,.JA 4 2),(68,.ref 4),(69,.b .nul),(70,.ref 5),(71,.b .nul),(72,.i 0),(73,.ff),(74,.ff),(75,.ff),(76,.ff),(77,.i 0),(78,.i 0),(79,.tt),(80,.tt),(81,.ff),(82,.b Jo),(83,.b wide)]
noncomputable def dh(fs:List (Nat×V))(more:List Ob):St:=⟨[.ins 1 [(107,.ref 1)],.lst [],.ins 0 fs,.lst [],.lst [],.lst []]++more,[]⟩
noncomputable def dT(Jo wide:B)(x y l:B):List V:=[.ref 2,.ref 0,.b Jo,.b x,.b y,.b wide,.b l]
noncomputable def lsS:Nat->S->List S
 | n+1,.cons a r=>a::lsS n r
 | _,_=>[]
theorem Io{t:S}(ls:List S):∀{l l':List V}{st Jy:St}{R:Kf},JJ c (ls.foldr .cons .nil) l st=some (.next,l',Jy)->JJ c t l' Jy=R->JJ c (ls.foldr .cons t) l st=R:=by
 induction ls with
 | nil=>intro l l' st Jy R h k;exact(kg (λq:List V×St=>JJ c t q.1 q.2) (Ti (kc h)).2).trans k
 | cons a r ih=>
  intro l l' st Jy R h k
  obtain⟨q,ha,h⟩:=Option.bind_eq_some_iff.mp h
  obtain⟨ct,l1,s1⟩:=q
  cases ct with
  | ret v=>exact J4 (kg (λo:Kf=>o.elim false λq=>match q.1 with | .next=>true | .ret _=>false) h)
  | next=>exact Jl ha (ih h k)
theorem blk(n:Nat){s:S}{st:St}(h:JJ c (tk n s) l st=some (.next,l',Jy))(k:JJ c (ah n s) l' Jy=R)(e:(lsS n s).foldr .cons .nil=tk n s)(e2:(lsS n s).foldr .cons (ah n s)=s):JJ c s l st=R:=
 e2▸Io (lsS n s) (e▸h) k
theorem EH(d:Nat)(Jo wide:B)(x y l:B):Es d (tk 21 wT) (dT Jo wide x y l) Fo (dT Jo wide x y l) (dh (jc Jo wide++[(84,.i 2)]) []):=by kernel_rfl
noncomputable def aN:B->Int | .int i=>bif (i != 0)&&(decide (1 < i)&&decide (i < 10)) then i else 2 | _=>2
noncomputable def d6(s:Int):B->Int | .int j=>bif (j != 0)&&decide (s*2 < j) then j else 80 | _=>80
noncomputable def yW:B->Bool | .nul=>true | .int _=>true | _=>false
theorem qV{st:St}{i:Int}{b:E}(h:l[n]?=some (.i i))(hb:Jq c b l st=some (.o u,st))(post:∀v,Jq c (.and (.n0 (.loc n)) b) l st=some (v,st)->truth st v=some ((i != 0)&&u)->P):P:=by
 have e0:Jq c (.n0 (.loc n)) l st=some (.i i,st):=by show(l[n]?).bind _=_;rw[h];rfl
 have e1:Jq c (.and (.n0 (.loc n)) b) l st=bif (i != 0) then Jq c b l st else some (.i i,st):=Jl e0 (Jl (a:=(i != 0)) U U)
 rw[hb]at e1
 cases hi:i != 0 with
 | true=>rw[hi]at e1 post;exact post _ e1 U
 | false=>rw[hi]at e1 post;exact post _ e1 (kg some hi)
theorem EG(d:Nat)(Jo wide:B)(x y l:B)(hx:yW x=true):Es d (tk 1 (ah 21 wT)) (dT Jo wide x y l) (dh (jc Jo wide++[(84,.i 2)]) []) (dT Jo wide x y l) (dh (jc Jo wide++[(84,.i (aN x))]) []):=by
 cases x with
 | nul=>kernel_rfl
 | int i=>
  have t:Ep d (.Ku .lt .lt I4 Kr Ap) (dT Jo wide (.int i) y l) (dh (jc Jo wide++[(84,.i 2)]) []) (.o (decide (1 < i)&&decide (i < 10))):=by
   refine Jl (a:=(.i 1,dh (jc Jo wide++[(84,.i 2)]) [])) U (Jl (a:=(.i i,dh (jc Jo wide++[(84,.i 2)]) [])) U (Jl (a:=decide (1 < i)) U ?_))
   cases decide (1 < i) <;> rfl
  refine qV (c:=Jr d) (n:=3) U t λv e ht=>?_
  refine go (l':=dT Jo wide (.int i) y l) (Jy:=dh (jc Jo wide++[(84,.i (aN (.int i)))]) []) (Jl e (Jl ht ?_)) U
  show(bif (i != 0)&&(decide (1 < i)&&decide (i < 10)) then _ else _)=some (LD.next,_,dh (jc Jo wide++[(84,.i (bif (i != 0)&&(decide (1 < i)&&decide (i < 10)) then i else 2))]) [])
  cases (i != 0)&&(decide (1 < i)&&decide (i < 10)) <;> kernel_rfl
 | _=>exact nomatch hx
noncomputable def iH(Jo wide:B)(s w:Int):List (Nat×V):=jc Jo wide++[(84,.i s),(85,.i w)]
theorem EF(d:Nat)(Jo wide:B)(x y l:B)(s:Int)(hy:yW y=true):Es d (tk 2 (ah 22 wT)) (dT Jo wide x y l) (dh (jc Jo wide++[(84,.i s)]) []) (dT Jo wide x y l) (dh (iH Jo wide s (d6 s y)) []):=by
 refine go (l':=dT Jo wide x y l) (Jy:=dh (iH Jo wide s 80) []) (by kernel_rfl) ?_
 cases y with
 | nul=>kernel_rfl
 | int j=>
  have ta:Ep d pe (dT Jo wide x (.int j) l) (dh (iH Jo wide s 80) []) (.i s):=by kernel_rfl
  have tm:Ep d (.b2 (.bin .mul) pe LV) (dT Jo wide x (.int j) l) (dh (iH Jo wide s 80) []) (.i (s*2)):=by
   refine Jl ta (Jl (a:=(.i 2,dh (iH Jo wide s 80) [])) U ?_)
   show(((af (s==2||(s==6||true)) (V.b (.int (s*2)))).or _).map _).or _=_
   rw[S5,S5];rfl
  have t:Ep d (.b2 (.cmp .gt) I8 (.b2 (.bin .mul) pe LV)) (dT Jo wide x (.int j) l) (dh (iH Jo wide s 80) []) (.o (decide (s*2 < j))):=
   Jl (a:=(.i j,dh (iH Jo wide s 80) [])) U (Jl tm U)
  refine qV (c:=Jr d) (n:=4) U t λv e ht=>?_
  refine go (l':=dT Jo wide x (.int j) l) (Jy:=dh (iH Jo wide s (d6 s (.int j))) []) (Jl e (Jl ht ?_)) U
  show(bif (j != 0)&&decide (s*2 < j) then _ else _)=some (LD.next,_,dh (iH Jo wide s (bif (j != 0)&&decide (s*2 < j) then j else 80)) [])
  cases (j != 0)&&decide (s*2 < j) <;> kernel_rfl
 | _=>exact nomatch hy
noncomputable def JP:B->Tx | .str [13]=>[13] | .str [13,10]=>[13,10] | _=>[10]
noncomputable def Fm(Jo wide:B)(s w:Int)(lb:Tx):List (Nat×V):=iH Jo wide s w++[(86,.s lb),(87,.b .nul),(88,.b .nul),(89,.b .nul),(90,.b .nul),(91,.b .nul)]
noncomputable def yE:Ob:=.lst [.s [13],.s [10],.s [13,10]]
def Lw(l:B):Prop:=l=.nul∨l=.str [13]∨l=.str [13,10]∨l=.str [10]∨l=.str [120]
theorem EE(d:Nat)(Jo wide:B)(x y l:B)(s w:Int)(hl:Lw l):Es d (ah 24 wT) (dT Jo wide x y l) (dh (iH Jo wide s w) []) (dT Jo wide x y l) (dh (Fm Jo wide s w (JP l)) [yE]):=by
 rcases hl with rfl | rfl | rfl | rfl | rfl <;> kernel_rfl
theorem sx(d:Nat)(Jo wide:B)(x y l:B)(hx:yW x=true)(hy:yW y=true)(hl:Lw l):(Jr (d+1)).Jv 60 (dT Jo wide x y l) Fo=some (.b .nul,dh (Fm Jo wide (aN x) (d6 (aN x) y) (JP l)) [yE]):=by
 have h:=blk 21 (EH d Jo wide x y l) (blk 1 (EG d Jo wide x y l hx) (blk 2 (EF d Jo wide x y l (aN x) hy) (EE d Jo wide x y l (aN x) (d6 (aN x) y) hl) (by kernel_rfl) (by kernel_rfl)) (by kernel_rfl) (by kernel_rfl)) (by kernel_rfl) (by kernel_rfl)
 exact Jl (a:=zf) (by cases d <;> rfl) (Jl h U)
theorem Kb:false=true->P:=λh=>(nomatch h)
noncomputable def bG(c:Nat):Bool:=c==10
noncomputable def LG(k:Int):Bool->Tx->Tx
 | _,[]=>[]
 | f,c::r=>(bif f&&!bG c then ap k else [])++c::LG k (bG c) r
noncomputable def Qd(f:Bool):Tx->Bool
 | []=>f
 | c::r=>Qd (bG c) r
theorem y6(f:Bool)(a b:Tx):Qd f (a++b)=Qd (Qd f a) b:=by
 induction a generalizing f with
 | nil=>rfl
 | cons c a ih=>exact ih (bG c)
theorem pY(k:Int)(f:Bool)(a b:Tx):LG k f (a++b)=LG k f a++LG k (Qd f a) b:=by
 induction a generalizing f with
 | nil=>rfl
 | cons c a ih=>
  show(bif f&&!bG c then ap k else [])++c::LG k (bG c) (a++b)=((bif f&&!bG c then ap k else [])++c::LG k (bG c) a)++LG k (Qd (bG c) a) b
  rw[ih,lq];rfl
def Lx(t:Tx):Prop:=∀c∈t,bG c=false
theorem Lx.app{a b:Tx}(h:Lx a)(k:Lx b):Lx (a++b):=λc hc=>(mx hc).elim (h c) (k c)
theorem oF{t:Tx}(h:Lx t)(hn:t≠[])(f:Bool):Qd f t=false:=by
 induction t generalizing f with
 | nil=>exact absurd U hn
 | cons c t ih=>
  cases t with
  | nil=>exact h c (.head _)
  | cons d t=>exact ih (λx hx=>h x (.tail _ hx)) (λh=>nomatch h) (bG c)
theorem Fu{t:Tx}(h:Lx t):Qd false t=false:=by
 cases t with
 | nil=>rfl
 | cons c t=>exact oF h (λh=>nomatch h) false
theorem ol{t:Tx}(k:Int)(h:Lx t):LG k false t=t:=by
 induction t with
 | nil=>rfl
 | cons c t ih=>
  show []++c::LG k (bG c) t=_
  rw[h c (.head _),ih λx hx=>h x (.tail _ hx)];rfl
theorem kD{t:Tx}(k:Int)(h:Lx t)(hn:t≠[]):LG k true t=ap k++t:=by
 cases t with
 | nil=>exact absurd U hn
 | cons c t=>
  show(bif true&&!bG c then ap k else [])++c::LG k (bG c) t=_
  rw[h c (.head _),ol k λx hx=>h x (.tail _ hx)];rfl
theorem tZ(n:Nat):ap n=List.replicate n 32:=by
 show(List.replicate (n:Int).toNat [32]).flatten=_
 rw[Int.toNat_natCast]
 induction n with
 | zero=>rfl
 | succ n ih=>exact kg (32::·) ih
theorem cO(i:Int):ap i=List.replicate i.toNat 32:=tZ i.toNat
theorem lS{i:Int}{c:Nat}(h:c∈ap i):c=32:=(List.mem_replicate.mp (cO i▸h)).2
theorem bL(i:Int):(ap i).length=i.toNat:=by rw[cO,S1]
theorem fy(i:Int):Lx (ap i):=λc hc=>by rw[lS hc];rfl
theorem jQ{T i:Nat}(h1:j<=i)(h2:i<=T):n+2*(T - j)=(n+2*(T - i))+2*(i - j):=by rw[<- Nat.sub_add_sub_cancel h2 h1,Nat.mul_add,SO]
theorem lT{i k:Int}(hi:0<=i)(hk:0<=k):ap (i+k)=ap k++ap i:=by
 rw[cO,cO,cO,List.replicate_append_replicate]
 exact kg (List.replicate · 32) ((Int.toNat_add hi hk).trans (Td _ _))
theorem pC{i:Int}(h:0 < i):ap i≠[]:=λe=>by
 have:=bL i
 rw[e]at this
 have h2:(0:Nat) < i.toNat:=by lia
 exact absurd this (SH h2)
noncomputable def cv(lb:Tx):Tx->Tx
 | []=>[]
 | c::r=>(bif bG c then lb else [c])++cv lb r
theorem aJ(lb a b:Tx):cv lb (a++b)=cv lb a++cv lb b:=by
 induction a with
 | nil=>rfl
 | cons c a ih=>show(bif bG c then lb else [c])++cv lb (a++b)=((bif bG c then lb else [c])++cv lb a)++cv lb b;rw[ih,lq]
theorem dz{t:Tx}(lb:Tx)(h:Lx t):cv lb t=t:=by
 induction t with
 | nil=>rfl
 | cons c t ih=>show(bif bG c then lb else [c])++cv lb t=_;rw[h c (.head _),ih λx hx=>h x (.tail _ hx)];rfl
theorem Np(l:List Tx)(s:Tx):(l++[s]).flatten=l.flatten++s:=by rw[Sg];exact kg _ (mh s)
theorem cg(n a:Nat):J2 n (a:Int)=min a n:=if_neg (Int.not_lt.mpr (Sr a))
section
variable{t:Tx}{a i c:Nat}
theorem ik(t:Tx)(h:i<=t.length):Ka t a i=(t.take i).drop a:=by
 unfold Ka ag
 rw[show Na t.length (some (a:Int))=min a t.length from cg _ _,show NW t.length (some (i:Int))=min i t.length from cg _ _,Sm h]
 rcases Nat.le_total a t.length with h1 | h1
 ·rw[Sm h1,List.drop_take]
 ·rw[Nat.min_eq_right h1,List.drop_eq_nil_of_le (mf _),List.drop_eq_nil_of_le (ke (ke (lw Sn) (Tf _ _)) (ke h h1)),List.take_nil]
theorem bM(ha:a<=i)(h:i<=t.length):t.take i=t.take a++Ka t a i:=by
 rw[ik t h]
 have:=List.take_append_drop a (t.take i)
 rw[List.take_take,Sm ha]at this
 exact this.symm
theorem jX(ha:a<=i)(h:i<=t.length):(Ka t a i).length=i - a:=by rw[ik t h,Sy,Sn,Sm h]
theorem lV(ha:a < i)(h:i<=t.length)(hc:t[a]?=some c):Ka t a i=c::Ka t (a+1) i:=by
 rw[ik t h,ik t h]
 have hl:a < (t.take i).length:=by rw[Sn,Sm h];exact ha
 rw[List.drop_eq_getElem_cons hl]
 have:(t.take i)[a]?=some c:=by rw[List.getElem?_take_of_lt ha];exact hc
 rw[kq hl]at this
 rw[kc this]
theorem x9:Ka t i i=[]:=by
 unfold Ka ag
 rw[show Na t.length (some (i:Int))=min i t.length from cg _ _,show NW t.length (some (i:Int))=min i t.length from cg _ _,Sl,List.take_zero]
theorem cY(h:t[a]?=some c):Ka t a (a+1)=[c]:=by
 have hl:=(kh h).1
 rw[lV (So a) hl h,x9]
theorem fB(h:i<=t.length)(hc:c∈Ka t a i):∃j,a<=j/\j < i/\t[j]?=some c:=by
 rw[ik t h]at hc
 obtain⟨m,hm,e⟩:=List.mem_iff_getElem.mp hc
 rw[Sy,Sn,Sm h]at hm
 refine⟨a+m,lu _ _,by lia,?_⟩
 rw[<- e,List.getElem_drop,List.getElem_take]
 exact kq (by lia)
end
noncomputable def bj(r:Tx):Tx:=r.dropWhile (·==32)
noncomputable def ja:Tx->Tx | []=>[] | c::r=>bif c==92 then r else c::r
noncomputable def cf(X:Tx):Bool:=X.getLast?==some 92
noncomputable def d5(X:Tx):Bool:=X.getLast?==some 91||X.getLast?==some 123
noncomputable def cI(X r:Tx):Tx:=bif cf X then X.dropLast++ja (bj r) else X++((bif d5 X then [] else [32])++bj r)
inductive Jn(bw:Int):List Tx->Tx->Tx->Prop
 | one {r:_}:Jn bw [] r r
 | NO {rs r r' X:_}:Jn bw rs r X->bw < (r.length:Int) - (bif cf X then 1 else 0)->Jn bw (rs++[r]) r' (cI X r')
def KS(s:Tx):Prop:=∃c r,s=c::r/\(c==32)=false/\(c==92)=false
theorem pz{s:Tx}(h:bj r≠[]∨KS s):bj (r++s)=bj r++s:=by
 unfold bj at h ⊢
 induction r with
 | nil=>
  rcases h with h | ⟨c,r,rfl,h,_⟩
  ·exact absurd U h
  ·show(c::r).dropWhile (·==32)=c::r;rw[S7,h];rfl
 | cons c r ih=>
  rw[Sw,S7,S7]
  rw[S7]at h
  cases hc:c==32 with
  | true=>rw[hc]at h;exact ih h
  | false=>rfl
theorem tG{s:Tx}(h:r≠[]∨KS s):ja (r++s)=ja r++s:=by
 cases r with
 | nil=>
  rcases h with h | ⟨c,r,rfl,_,h⟩
  ·exact absurd U h
  ·show(bif c==92 then r else c::r)=c::r;rw[h];rfl
 | cons c r=>show(bif c==92 then r++s else c::(r++s))=(bif c==92 then r else c::r)++s;cases c==92 <;> rfl
theorem Jn.app{bw:Int}{rs:List Tx}{X s:Tx}(h:Jn bw rs r X)(hs:bj r≠[]∨KS s):Jn bw rs (r++s) (X++s):=by
 cases h with
 | one=>exact .one
 | @NO rs r0 _ X0 h hl=>
  have e:cI X0 r++s=cI X0 (r++s):=by
   unfold cI
   rw[pz hs]
   cases cf X0 with
   | true=>show X0.dropLast++ja (bj r)++s=X0.dropLast++ja (bj r++s);rw[tG hs,lq]
   | false=>show X0++(_++bj r)++s=X0++(_++(bj r++s));rw[lq,lq]
  rw[e];exact h.NO hl
theorem jS(i:Int):bj (ap i)=[]:=by
 unfold bj
 rw[cO]
 induction i.toNat with
 | zero=>rfl
 | succ n ih=>exact ih
theorem xO{s:Tx}(h:bj r≠[]∨KS s)(hs:s≠[]∨bj r≠[]):bj (r++s)≠[]:=by
 rw[pz h]
 intro e
 have:=List.append_eq_nil_iff.mp e
 exact hs.elim (λh=>h this.2) λh=>h this.1
structure Pm where
 o:Op
 KQ:Bool
def Mj(lb:Tx):Prop:=lb=[10]∨lb=[13]∨lb=[13,10]
structure bI(p:Pm):Prop where
 Jo:∃c,p.o.Jo=.bool c
 lb:Mj p.o.lb
 b2:2<=p.o.bi
 b9:p.o.bi<=9
 wd:p.o.wide=.nul
 w:p.KQ=false->p.o.bw=1000
 n:p.KQ=true->p.o.Jo=.bool false/\5<=p.o.bw
noncomputable def iG(c:Nat):Bool:=c==10||c==13
def Jz(t:Tx):Prop:=∀c∈t,iG c=false
theorem Jz.app{a b:Tx}(h:Jz a)(k:Jz b):Jz (a++b):=λc hc=>(mx hc).elim (h c) (k c)
theorem Jz.M8{t:Tx}(h:Jz t):Lx t:=λc hc=>(Bool.or_eq_false_iff.mp (h c hc)).1
theorem Jz.cons{c:Nat}{t:Tx}(h:iG c=false)(k:Jz t):Jz (c::t):=λd hd=>(kl hd).elim (λe=>e▸h) (k d)
theorem Jz.nil:Jz []:=λc hc=>absurd hc mo
theorem fz(i:Int):Jz (ap i):=λc hc=>by rw[lS hc];rfl
theorem Mj.len{lb:Tx}(h:Mj lb):lb.length<=2:=by rcases h with rfl | rfl | rfl <;> decide
noncomputable def Kg(lb:Tx)(rs:List Tx):Tx:=(rs.map (·++lb)).flatten
theorem fC(lb:Tx)(rs:List Tx)(r:Tx):Kg lb (rs++[r])=Kg lb rs++(r++lb):=by unfold Kg;rw[R5];exact Np _ _
structure Nw(p:Pm)(w:Wr)(X:Tx)(nb:Bool):Prop where
 mk::
 h:∃rs r,w.rows.flatten=Kg p.o.lb rs++r/\Jn p.o.bw rs r X/\w.col=r.length/\(∀x∈rs,Jz x)/\Jz r/\(nb=true->bj r≠[])/\(rs=[]∨(5<=X.length/\(Kg p.o.lb rs++r).take 4=X.take 4))
theorem Jn.nil{bw:Int}{X:Tx}(h:Jn bw [] r X):X=r:=by
 generalize hr:([]:List Tx)=rs at h
 cases h with
 | one=>rfl
 | NO=>exact absurd hr.symm (by simp)
theorem fu{a b s t:Tx}(h:5<=b.length)(e:a.take 4=b.take 4):(a++s).take 4=(b++t).take 4:=by
 have hl:4<=a.length:=by
  have:=kg List.length e
  rw[Sn,Sn]at this
  lia
 rw[List.take_append_of_le_length hl,List.take_append_of_le_length (mq h),e]
structure Ri(p:Pm)(n:Nat)(w:Wr)(X:Tx)(nb:Bool):Prop where
 ln:w.rows.flatten.length+100*n<=100000
 c0:0<=w.col
 n9:n<=940
 kn:p.KQ=true->Nw p w X nb
 kw:p.KQ=false->w.rows.flatten=cv p.o.lb X/\w.col+n<=1000
def Lst(p:Pm)(X:Tx)(u:Bool):Prop:=p.KQ=true->d5 X=u/\cf X=false
structure RN(p:Pm)(n:Nat)(w:Wr)(X:Tx)(u:Bool):Prop where
 r:Ri p n w X true
 ws:w.ws=u
 ind:w.ind=false
 l:Lst p X u
structure RP(p:Pm)(n:Nat)(w:Wr)(X:Tx)(u:Bool):Prop where
 r:Ri p n w (X++(bif w.ws&&!u then [32] else [])) (!w.ws)
 ws:w.ws=false->u=false
 wd:p.KQ=false->w.ws=u
noncomputable def sp(u:Bool):Tx:=bif u then [] else [32]
end
variable{w:Wr}{N c c' cl d e0 h i i0 j k0 q v0:Nat}{D T Y a en lb r s val:Tx}{JE Js ln tag x:Internal.B}{v y:Internal.V}{e:Em}{Jo KY cn em f i1 ky ky' nb rt rt' sc sk sm split u z:Bool}{I cp l nx rr todo vs ws ys:List Internal.V}{R R':List Ob}{Q:Em->Prop}{bw dp ix lv wd:Int}{fs gs ks:List (Nat×Internal.V)}{P:Prop}{s1 s2 st:St}{cs js ns:List Nat}{as:E}{rows rs ts:List Tx}{l' tp xs:List Int}{p:Pm}
section
variable{n k:Nat}{w':Wr}{X:Tx}{Kt:Bool}{i:Int}
theorem Ri.dn(h:Ri p (n+k) w X nb):Ri p n w X nb:=⟨by have:=h.ln;lia,h.c0,by have:=h.n9;lia,h.kn,λe=>⟨(h.kw e).1,by have:=(h.kw e).2;lia⟩⟩
theorem Ri.le{m:Nat}(h:Ri p m w X nb)(hm:n<=m):Ri p n w X nb:=by obtain⟨k,rfl⟩:=Nat.exists_eq_add_of_le hm;exact h.dn
theorem Ri.any(h:Ri p n w X true):Ri p n w X nb:=⟨h.ln,h.c0,h.n9,λe=>by obtain⟨rs,r,h1,h2,h3,h4,h5,h6,h7⟩:=(h.kn e).h;exact⟨rs,r,h1,h2,h3,h4,h5,λJ=>h6 U,h7⟩,h.kw⟩
theorem Ri.to(h:Ri p n w X nb)(hr:w'.rows=w.rows)(hc:w'.col=w.col):Ri p n w' X nb:=⟨hr▸h.ln,hc▸h.c0,h.n9,λe=>⟨by rw[hr,hc];exact(h.kn e).h⟩,λe=>by rw[hr,hc];exact h.kw e⟩
theorem Ri.put(h:Ri p (n+k) w X nb)(hr:w'.rows=w.rows++[s])(hc:w'.col=w.col+(s.length:Int))(hk:s.length<=k)(hn:s≠[])(hl:Jz s)(hd:nb=true∨KS s):Ri p n w' (X++s) true:=by
 have c0:=h.c0
 have ln:=h.ln
 have n9:=h.n9
 refine⟨?_,by rw[hc];lia,by lia,λe=>?_,λe=>?_⟩
 ·rw[hr,Np,ku];lia
 ·obtain⟨rs,r,h1,h2,h3,h4,h5,h6,h7⟩:=(h.kn e).h
  have Pb:bj r≠[]∨KS s:=hd.imp h6 id
  exact⟨rs,r++s,by rw[hr,Np,h1,lq],h2.app Pb,by rw[hc,h3,ku];lia,h4,h5.app hl,λJ=>xO Pb (.inl hn),h7.imp id λh=>⟨by rw[ku];lia,by rw[<- lq];exact fu h.1 h.2⟩⟩
 ·obtain⟨h1,h2⟩:=h.kw e
  exact⟨by rw[hr,Np,h1,aJ,dz _ hl.M8],by rw[hc];lia⟩
theorem Ri.raw(h:Ri p (n+k) w X nb)(hk:s.length<=k)(hn:s≠[])(hl:Jz s)(hd:nb=true∨KS s):Ri p n (w.raw s) (X++s) true:=h.put U U hk hn hl hd
theorem AJ{i:Int}(h:w.col < i):w.pad i=⟨i,w.line,true,w.ind,w.KJ,w.rows++[ap (i - w.col)]⟩:=by unfold Wr.pad;rw[decide_eq_true h];rfl
theorem EI{i:Int}(h:¬ w.col < i):w.pad i=w:=by unfold Wr.pad;rw[decide_eq_false h];rfl
theorem fW(lb:Tx)(hb:w.Nz i=true)(hi:0<=i):(w.JH i lb).rows.flatten=w.rows.flatten++(lb++ap i)/\(w.JH i lb).col=i/\(w.JH i lb).ws=true/\(w.JH i lb).ind=true:=by
 unfold Wr.JH
 rw[hb]
 show((w.brk lb).pad i).rows.flatten=_/\((w.brk lb).pad i).col=i/\((w.brk lb).pad i).ws=true/\((w.brk lb).pad i).ind=true
 by_cases h:0 < i
 ·rw[AJ (w:=w.brk lb) h]
  refine⟨?_,rfl,rfl,rfl⟩
  show((w.rows++[lb])++[ap (i - 0)]).flatten=_
  rw[Np,Np,Int.sub_zero,lq]
 ·obtain rfl:i=0:=Int.le_antisymm (Int.not_lt.mp h) hi
  rw[EI (w:=w.brk lb) h]
  refine⟨?_,rfl,rfl,rfl⟩
  show(w.rows++[lb]).flatten=w.rows.flatten++(lb++[])
  rw[Np,mh]
theorem eM(h:w.ind=false∨i < w.col):w.Nz i=true:=by
 unfold Wr.Nz
 rcases h with h | h
 ·rw[h];rfl
 ·rw[decide_eq_true h,Bool.true_or,S5]
theorem wp(ok:bI p)(hb:w.Nz i=true)(hi:0<=i)(h6:i<=60)(h:w.rows.flatten.length+100*(n+1)<=100000):(w.JH i p.o.lb).rows.flatten.length+100*n<=100000:=by
 rw[(fW p.o.lb hb hi).1,ku,ku,bL]
 have:=ok.lb.len
 lia
theorem Ri.cut(ok:bI p)(e:p.KQ=true)(h:Ri p (n+1) w X nb)(hX:cf X=false)(hw:p.o.bw < w.col)(hb:w.Nz i=true)(hi:0<=i)(h6:i<=60):Ri p n (w.JH i p.o.lb) (cI X (ap i)) false:=by
 obtain⟨d1,d2,d3,d4⟩:=fW p.o.lb hb hi
 refine⟨wp ok hb hi h6 h.ln,by rw[d2];exact hi,mq h.n9,λJ=>?_,λe'=>Kb (e'.symm.trans e)⟩
 obtain⟨rs,r,h1,h2,h3,h4,h5,h6,h7⟩:=(h.kn e).h
 have e1:w.rows.flatten++(p.o.lb++ap i)=Kg p.o.lb (rs++[r])++ap i:=by rw[h1,fC,lq,lq,lq]
 have h5':=(ok.n e).2
 refine⟨rs++[r],ap i,by rw[d1,e1],h2.NO (by rw[hX];show p.o.bw < (r.length:Int) - 0;lia),by rw[d2,bL];lia,λx hx=>(mx hx).elim (h4 x) λhx=>by rw[km hx];exact h5,fz i,Kb ∘ Sx ∘ Sx,.inr ?_⟩
 rw[<- e1,h1]
 have eg:cI X (ap i)=X++(bif d5 X then [] else [32]):=by unfold cI;rw[hX,jS];show X++(_++[])=_;rw[mh]
 rw[eg,ku]
 have hx:5<=X.length/\(Kg p.o.lb rs++r).take 4=X.take 4:=by
  rcases h7 with rfl | h7
  ·have:=h2.nil;subst this;exact⟨by lia,rfl⟩
  ·exact h7
 exact⟨by lia,fu hx.1 hx.2⟩
theorem Ri.row(ok:bI p)(e:p.KQ=false)(h:Ri p (n+1) w X nb)(hb:w.Nz i=true)(hi:0<=i)(h6:i<=60):Ri p n (w.JH i p.o.lb) (X++10::ap i) false:=by
 obtain⟨d1,d2,d3,d4⟩:=fW p.o.lb hb hi
 have n9:=h.n9
 refine⟨wp ok hb hi h6 h.ln,by rw[d2];exact hi,mq n9,λe'=>Kb (e.symm.trans e'),λJ=>⟨?_,by rw[d2];lia⟩⟩
 rw[d1,(h.kw e).1,aJ]
 show _=_++((bif bG 10 then p.o.lb else [10])++cv p.o.lb (ap i))
 rw[dz _ (fy i)];rfl
theorem gJ(s:Tx)(h:a≠[]):d5 (s++a)=d5 a/\cf (s++a)=cf a:=by
 unfold d5 cf
 rw[List.getLast?_append]
 cases hx:a.getLast? with
 | none=>exact absurd (List.getLast?_eq_none_iff.mp hx) h
 | some c=>exact⟨rfl,rfl⟩
theorem KS.ne(h:KS s):s≠[]:=by obtain⟨c,r,rfl,_⟩:=h;exact λh=>nomatch h
def LK(s:Tx)(u:Bool):Prop:=d5 s=u/\cf s=false
theorem Ri.M0(h:Ri p (n+k) w X nb)(hk:s.length<=k)(hl:Jz s)(hd:KS s)(he:LK s Kt):RN p n (w.sgn s false Kt false) (X++s) Kt:=by
 have e:w.sgn s false Kt false=⟨w.col+(s.length:Int),w.line,Kt,w.ind&&false,false,w.rows++[s]⟩:=by unfold Wr.sgn;rw[Bool.not_false,S5];rfl
 rw[e]
 exact⟨h.put U U hk hd.ne hl (.inr hd),rfl,Sp _,λJ=>by rw[(gJ X hd.ne).1,(gJ X hd.ne).2];exact he⟩
theorem RP.sgn(h:RP p (n+k) w X u)(hk:s.length+1<=k)(hl:Jz s)(hd:KS s)(he:LK s Kt):RN p n (w.sgn s true Kt false) (X++(sp u++s)) Kt:=by
 have fin:∀t Y,w.sgn s true Kt false=⟨w.col+(t.length:Int),w.line,Kt,w.ind&&false,false,w.rows++[t]⟩->Ri p n ⟨w.col+(t.length:Int),w.line,Kt,w.ind&&false,false,w.rows++[t]⟩ Y true->Y=X++(sp u++s)->RN p n (w.sgn s true Kt false) (X++(sp u++s)) Kt:=λt Y e h e2=>by
  rw[e,<- e2]
  refine⟨h,rfl,Sp _,λJ=>?_⟩
  rw[e2,<- lq,(gJ (X++sp u) hd.ne).1,(gJ (X++sp u) hd.ne).2];exact he
 have hr:=h.r
 cases hw:w.ws with
 | true=>
  rw[hw]at hr
  refine fin s _ (by unfold Wr.sgn;rw[hw];rfl) (hr.put U U (mq hk) hd.ne hl (.inr hd)) ?_
  rw[lq]
  cases u <;> rfl
 | false=>
  obtain rfl:=h.ws hw
  rw[hw]at hr
  refine fin (32::s) _ (by unfold Wr.sgn;rw[hw];rfl) (hr.put (s:=32::s) U U hk (λh=>nomatch h) (hl.cons U) (.inl U)) ?_
  show(X++[])++32::s=_
  rw[mh];rfl
theorem RN.rp(h:RN p n w X u):RP p n w X u:=by
 have e:(bif w.ws&&!u then [32] else([]:Tx))=[]:=by rw[h.ws];cases u <;> rfl
 exact⟨by rw[e,mh];exact h.r.any,λe=>h.ws▸e,λJ=>h.ws⟩
theorem RP.le{m:Nat}(h:RP p m w X u)(hm:n<=m):RP p n w X u:=⟨h.r.le hm,h.ws,h.wd⟩
theorem RN.le{m:Nat}(h:RN p m w X u)(hm:n<=m):RN p n w X u:=⟨h.r.le hm,h.ws,h.ind,h.l⟩
noncomputable def Wr.JX(w:Wr)(o:Op)(i:Int):Wr:=bif o.Jo.truth||decide (o.bw < w.col) then w.JH i o.lb else w
noncomputable def Q0(c:Bool)(X:Tx)(i:Int):Tx:=bif c then X++10::ap i else X
theorem RN.JX(ok:bI p)(h:RN p (n+1) w X u)(hi:0<=i)(h6:i<=60):RP p n (w.JX p.o i) (Q0 p.o.Jo.truth X i) (p.o.Jo.truth||u):=by
 obtain⟨c,hc⟩:=ok.Jo
 unfold Wr.JX Q0
 rw[hc]
 have hb:=eM (i:=i) (.inl h.ind)
 obtain⟨_,_,d3,_⟩:=fW p.o.lb hb hi
 cases c with
 | true=>
  have e:p.KQ=false:=by cases hn:p.KQ with
   | false=>rfl
   | true=>have:=(ok.n hn).1;rw[hc]at this;exact nomatch this
  show RP p n (w.JH i p.o.lb) (X++10::ap i) true
  refine⟨?_,λh=>?_,λJ=>d3⟩
  ·rw[d3];show Ri p n _ ((X++10::ap i)++[]) false;rw[mh];exact h.r.row ok e hb hi h6
  ·rw[d3]at h;exact nomatch h
 | false=>
  show RP p n (bif decide (p.o.bw < w.col) then w.JH i p.o.lb else w) X u
  cases hx:decide (p.o.bw < w.col) with
  | false=>exact h.rp.le (mw n)
  | true=>
   have hx:=kj hx
   cases hn:p.KQ with
   | false=>have:=(h.r.kw hn).2;rw[ok.w hn]at hx;lia
   | true=>
    obtain⟨l1,l2⟩:=h.l hn
    have:=h.r.cut (i:=i) ok hn l2 hx hb hi h6
    refine⟨?_,λh=>?_,λe=>Kb (e.symm.trans hn)⟩
    ·show Ri p n (w.JH i p.o.lb) _ _
     rw[show(bif true then w.JH i p.o.lb else w)=w.JH i p.o.lb from rfl,d3]
     have e:cI X (ap i)=X++(bif true&&!u then [32] else []):=by
      unfold cI;rw[l2,l1,jS]
      cases u <;> rfl
     rw[<- e];exact this
    ·rw[show(bif true then w.JH i p.o.lb else w)=w.JH i p.o.lb from rfl,d3]at h;exact nomatch h
end
noncomputable def Om(c:Nat):Bool:=!decide (c∈[10,13,133,8232,8233,91,123,92])
noncomputable def M6(t:Tx):Bool:=t.all Om&&(List.range t.length).all λi=>!((t[i]?).any λc=>c==32)||(i != 0&&(t[i+1]?).any λc=>!(c==32))
theorem kL(c:Nat):bE c=(c==32):=by
 unfold bE
 rw[SR,beq_iff_eq,beq_iff_eq]
 exact⟨λh=>by injection h,λh=>h▸rfl⟩
theorem kK{α:Type}{t:Tx}{R:Nat->α->Prop}{f:Nat->α->α}{a:α}(step:∀i c s,t[i]?=some c->R i s->R (i+1) (f i s))(h0:R 0 a):∀i,i<=t.length->R i (Oa f a i)
 | 0,_=>h0
 | i+1,h=>step i (t[i]'h) _ (kq h) (kK step h0 i (R8 h))
section
variable{n:Nat}{X t:Tx}{ind:Int}
theorem vM(h:Om c=true):iG c=false/\((c==92)=false/\(c==91||c==123)=false)/\bN c=false:=by
 have h1:c ∉ [10,13,133,8232,8233,91,123,92]:=of_decide_eq_false (lm h)
 have f:∀d∈[10,13,133,8232,8233,91,123,92],(c==d)=false:=λd hd=>beq_eq_false_iff_ne.mpr λe=>h1 (e▸hd)
 have n:∀d,(c==d)=false->c=d->False:=λd h e=>beq_eq_false_iff_ne.mp h e
 refine⟨?_,⟨f 92 (by simp),?_⟩,decide_eq_false λhb=>?_⟩
 ·unfold iG;rw[f 10 (by simp),f 13 (by simp)];rfl
 ·rw[f 91 (by simp),f 123 (by simp)];rfl
 ·refine h1 ?_
  simp only[List.mem_cons,mo,or_false]at hb ⊢
  rcases hb with h | h | h | h <;> simp[h]
theorem gdA(h:M6 t=true):∀c∈t,Om c=true:=ma (ly h).1
theorem gdI(h:M6 t=true)(hc:t[i]?=some c):Om c=true:=gdA h c (lx hc)
theorem gj(h:M6 t=true)(hc:t[i]?=some 32):i≠0/\∃d,t[i+1]?=some d/\(d==32)=false:=by
 have h1:=ma (ly h).2 i (List.mem_range.mpr (kh hc).1)
 rw[hc]at h1
 have h2:=ly (show(i != 0&&(t[i+1]?).any λc=>!(c==32))=true from h1)
 refine⟨bne_iff_ne.mp h2.1,?_⟩
 cases hd:t[i+1]? with
 | none=>rw[hd]at h2;exact nomatch h2.2
 | some d=>rw[hd]at h2;exact⟨d,rfl,lm h2.2⟩
theorem kH(hn:s≠[])(h:∀c∈s,Om c=true):LK s false:=by
 unfold LK d5 cf
 cases hl:s.getLast? with
 | none=>exact absurd (List.getLast?_eq_none_iff.mp hl) hn
 | some c=>
  obtain⟨h1,⟨h2,h3⟩,_⟩:=vM (h c (List.mem_of_getLast? hl))
  have e:∀d,(some c==some d)=(c==d):=λd=>rfl
  rw[e,e,e]
  exact⟨h3,h2⟩
theorem uT(h:∀c∈s,Om c=true):Jz s:=λc hc=>(vM (h c hc)).1
theorem B4(h:M6 t=true)(hi:i<=t.length):∀c∈Ka t j i,Om c=true:=λc hc=>by obtain⟨m,_,_,h3⟩:=fB hi hc;exact gdI h h3
theorem pp(h:M6 t=true):∀c∈t.take i,Om c=true:=λc hc=>gdA h c (List.mem_of_mem_take hc)
theorem nY(h:M6 t=true)(hj:j < i)(hi:i<=t.length)(hc:t[j]?=some c)(L5:(c==32)=false):KS (Ka t j i):=⟨c,_,lV hj hi hc,L5,(vM (gdI h hc)).2.1.1⟩
theorem Ri.sg(h:Ri p (n+2*(t.length - j)) w Y nb)(ok:M6 t=true)(hj:j < i)(hi:i<=t.length)(hd:nb=true∨KS (Ka t j i)):Ri p (n+2*(t.length - i)) (w.raw (Ka t j i)) (Y++Ka t j i) true:=by
 have e:n+2*(t.length - j)=(n+2*(t.length - i))+2*(i - j):=jQ (R8 hj) hi
 have hl:=jX (t:=t) (R8 hj) hi
 exact Ri.raw (k:=2*(i - j)) (e▸h) (by rw[hl];lia) (λh=>by rw[h]at hl;have:0=i - j:=hl;lia) (uT (B4 ok hi)) hd
theorem Ri.mi(pk:bI p)(h:Ri p (n+2*(t.length - j)) w Y true)(hc:t[j]?=some 32)(hY:LK Y false)(hb:w.Nz ind=true)(hi:0<=ind)(h6:ind<=60):(p.o.bw < w.col->Ri p (n+2*(t.length - (j+1))) (w.JH ind p.o.lb) (Y++[32]) false)/\Ri p (n+2*(t.length - (j+1))) (w.raw (Ka t j (j+1))) (Y++[32]) true:=by
 have hj:=(kh hc).1
 rw[cY hc]
 refine⟨λhw=>?_,(h.le (n:=(n+2*(t.length - (j+1)))+2) (by lia)).raw (s:=[32]) (by decide) (λh=>nomatch h) (Jz.cons U .nil) (.inl U)⟩
 have hn:p.KQ=true:=by
  cases hn:p.KQ with
  | true=>rfl
  | false=>have:=(h.kw hn).2;rw[pk.w hn]at hw;lia
 have:=(h.le (n:=(n+2*(t.length - (j+1)))+1) (by lia)).cut (i:=ind) pk hn hY.2 hw hb hi h6
 have e:cI Y (ap ind)=Y++[32]:=by
  unfold cI
  rw[hY.1,hY.2,jS];rfl
 rw[<- e];exact this
theorem pj(hj:j<=t.length)(h0:j≠0):t.take j≠[]:=λe=>by
 have:=kg List.length e
 rw[Sn,Sm hj]at this
 exact h0 this
theorem LK.app(h:LK a u)(ha:a≠[])(s:Tx):LK (s++a) u:=⟨(gJ s ha).1.trans h.1,(gJ s ha).2.trans h.2⟩
structure PI(p:Pm)(n:Nat)(X t:Tx)(i:Nat)(s:OI):Prop where
 st:s.st < i∨(i=0/\s.st=0)
 r:Ri p (n+2*(t.length - s.st)) s.w (X++t.take s.st) s.sp
 s1:s.sp=true->s.st+1=i/\t[s.st]?=some 32
 s0:s.sp=false->∀c,t[s.st]?=some c->(c==32)=false
 ws:s.w.ws=false
 ind:s.w.ind=false
theorem Cr(w:Wr)(t:Tx)(ind:Int)(lb:Tx)(bw:Int)(split:Bool)(j:Nat):w.PZ t ind lb bw split j (j+1)=bif decide (bw < w.col)&&split then(w.JH ind lb).off else w.raw (Ka t j (j+1)):=by
 unfold Wr.PZ
 rw[show((j:Int)+1==((j+1:Nat):Int))=true from beq_iff_eq.mpr U];rfl
theorem Ca(pk:bI p)(ok:M6 t=true)(hi:0<=ind)(h6:ind<=60)(i c:Nat)(s:OI)(hc:t[i]?=some c)(h:PI p n X t i s):PI p n X t (i+1) (fE t ind p.o.lb p.o.bw split i s):=by
 obtain⟨w,e,j⟩:=s
 obtain⟨st,r,s1,s0,ws,iw⟩:=h
 have st:j < i∨(i=0/\j=0):=st
 have r:Ri p (n+2*(t.length - j)) w (X++t.take j) e:=r
 have s0:e=false->∀c,t[j]?=some c->(c==32)=false:=s0
 have hl:=(kh hc).1
 rw[n6 hc]
 unfold uD
 rw[kL]
 cases e with
 | true=>
  obtain⟨rfl,L5⟩:=s1 U
  obtain⟨_,d,hd,NF⟩:=gj ok L5
  obtain rfl:=kc (hd.symm.trans hc)
  rw[NF]
  have hj:=(kh L5).1
  have tn:=pj (R8 hj) (gj ok L5).1
  have m:=r.mi (ind:=ind) pk L5 ((kH tn (pp ok)).app tn X) (eM (.inl iw)) hi h6
  rw[lq,<- cY L5,<- bM (mw j) hj]at m
  have e1:=Cr w t ind p.o.lb p.o.bw split j
  show PI p n X t (j+1+1) ⟨w.PZ t ind p.o.lb p.o.bw split j (j+1),false,j+1⟩
  rw[e1]
  cases hx:decide (p.o.bw < w.col)&&split with
  | true=>
   have:=(m.1 (kj (ly hx).1)).to (w':=(w.JH ind p.o.lb).off) U U
   exact⟨.inl (So _),this,Kb ∘ Sx ∘ Sx,λJ c h=>by obtain rfl:=kc (h.symm.trans hc);exact NF,rfl,rfl⟩
  | false=>exact⟨.inl (So _),m.2.any,Kb ∘ Sx ∘ Sx,λJ c h=>by obtain rfl:=kc (h.symm.trans hc);exact NF,ws,iw⟩
 | false=>
  cases L5:c==32 with
  | false=>exact⟨.inl (st.elim Nat.lt_succ_of_lt λh=>by rw[h.2];exact Nat.succ_pos i),r,Kb ∘ Sx ∘ Sx,s0,ws,iw⟩
  | true=>
   obtain rfl:=ld L5
   have hj:j < i:=by
    rcases st with h | ⟨rfl,rfl⟩
    ·exact h
    ·have:=s0 U 32 hc;exact Kb this.symm
   obtain⟨d,hd⟩:∃d,t[j]?=some d:=⟨_,kq (SG hj hl)⟩
   have:=r.sg ok hj (R8 hl) (.inr (nY ok hj (R8 hl) hd (s0 U d hd)))
   rw[lq,<- bM (R8 hj) (R8 hl)]at this
   exact⟨.inl (So i),this,λJ=>⟨rfl,hc⟩,λh=>Kb h.symm,ws,iw⟩
theorem RP.gap(h:RP p (n+1) w X u):Ri p n (w.M5 false).gap.off (X++sp u) false:=by
 have hr:=h.r
 unfold Wr.gap
 show Ri p n (bif w.ws then w.M5 false else(w.M5 false).raw [32]).off _ _
 cases hw:w.ws with
 | true=>
  rw[hw]at hr
  have e:X++(bif true&&!u then [32] else([]:Tx))=X++sp u:=by cases u <;> rfl
  rw[e]at hr
  exact(hr.to (w':=(w.M5 false).off) U U).dn
 | false=>
  obtain rfl:=h.ws hw
  rw[hw]at hr
  have hr:Ri p (n+1) w (X++[]) true:=hr
  rw[mh]at hr
  exact(hr.put (s:=[32]) (w':=((w.M5 false).raw [32]).off) U U (mf 1) (λh=>nomatch h) (Jz.cons U .nil) (.inl U)).any
theorem RP.OA(pk:bI p)(h:RP p (n+2*t.length+1) w X u)(ok:M6 t=true)(ht:t≠[])(hi:0<=ind)(h6:ind<=60):RN p n (w.OA t ind p.o.bw p.o.lb split false) (X++(sp u++t)) false:=by
 have hp:0 < t.length:=List.length_pos_iff.mpr ht
 have hN:=kK (R:=PI p n (X++sp u) t) (a:=⟨(w.M5 false).gap.off,false,0⟩) (Ca (split:=split) pk ok hi h6)
  ⟨.inr ⟨rfl,rfl⟩,by show Ri p (n+2*t.length) _ ((X++sp u)++t.take 0) false;rw[List.take_zero,mh];exact h.gap,Kb ∘ Sx ∘ Sx,λJ c hc=>by
   cases hx:c==32 with
   | false=>rfl
   | true=>obtain rfl:=ld hx;exact absurd U (gj ok hc).1,rfl,rfl⟩ t.length (mf _)
 have he:t.isEmpty=false:=by cases t with | nil=>exact absurd U ht | cons=>rfl
 unfold Wr.OA l6
 rw[he]
 show RN p n (fE t ind p.o.lb p.o.bw split t.length (Oa (fE t ind p.o.lb p.o.bw split) _ t.length)).w _ _
 rw[n7 (Si (mf _))]
 generalize Oa (fE t ind p.o.lb p.o.bw split) _ t.length=s at hN ⊢
 obtain⟨w',e,j⟩:=s
 obtain⟨st,r,s1,s0,ws,iw⟩:=hN
 have r:Ri p (n+2*(t.length - j)) w' ((X++sp u)++t.take j) e:=r
 have sj:j < t.length:=by
  rcases (st:j < t.length∨(t.length=0/\j=0)) with h | h
  ·exact h
  ·lia
 cases e with
 | true=>
  obtain⟨h1,L5⟩:=s1 U
  obtain⟨_,d,hd,_⟩:=gj ok L5
  rw[show j+1=t.length from h1,Si (mf _)]at hd
  exact nomatch hd
 | false=>
  obtain⟨d,hd⟩:∃d,t[j]?=some d:=⟨_,kq sj⟩
  have:=r.sg ok sj (mf _) (.inr (nY ok sj (mf _) hd (s0 U d hd)))
  rw[lq,<- bM (R8 sj) (mf _),List.take_length,Sl,lq]at this
  refine⟨this,ws,iw,λJ=>?_⟩
  rw[<- lq,(gJ (X++sp u) ht).1,(gJ (X++sp u) ht).2]
  exact kH ht (gdA ok)
end
noncomputable def gW(ind:Int)(c:Nat):Tx:=bif c==39 then [39,39] else bif c==10 then 10::10::ap ind else [c]
noncomputable def bH(ind:Int):Tx->Tx
 | []=>[]
 | c::r=>gW ind c++bH ind r
theorem fQ(ind:Int)(a b:Tx):bH ind (a++b)=bH ind a++bH ind b:=by
 induction a with
 | nil=>rfl
 | cons c a ih=>show gW ind c++bH ind (a++b)=(gW ind c++bH ind a)++bH ind b;rw[ih,lq]
theorem ib{ind:Int}(h:Om c=true):(c==39)=false->gW ind c=[c]:=λh1=>by
 have QW:(c==10)=false:=(Bool.or_eq_false_iff.mp (vM h).1).1
 unfold gW;rw[h1,QW];rfl
theorem zE{ind:Int}(h:∀c∈s,Om c=true/\(c==39)=false):bH ind s=s:=by
 induction s with
 | nil=>rfl
 | cons c s ih=>show gW ind c++bH ind s=_;rw[ib (h c (.head _)).1 (h c (.head _)).2,ih λx hx=>h x (.tail _ hx)];rfl
theorem qD{ind:Int}(h:∀c∈s,Om c=true):∀c∈bH ind s,Om c=true:=by
 induction s with
 | nil=>exact λc hc=>absurd hc mo
 | cons d s ih=>
  intro c hc
  rcases mx hc with hc | hc
  ·cases hd:d==39 with
   | false=>
    rw[ib (h d (.head _)) hd]at hc
    rw[km hc];exact h d (.head _)
   | true=>
    unfold gW at hc
    rw[hd]at hc
    have:c=39:=by rcases kl hc with h | h;exact h;exact km h
    rw[this];decide
  ·exact ih (λx hx=>h x (.tail _ hx)) c hc
theorem zG{ind:Int}(h:s≠[]):bH ind s≠[]:=by
 cases s with
 | nil=>exact absurd U h
 | cons c s=>
  show gW ind c++bH ind s≠[]
  unfold gW
  cases c==39 <;> cases c==10 <;> exact λh=>nomatch h
section
variable{n:Nat}{X t:Tx}{ind:Int}
theorem Cq(w:Wr)(ind:Int)(lb:Tx)(bw:Int)(split:Bool)(h0:j≠0)(hl:j+1 < t.length):w.N9 t ind lb bw split j (j+1)=bif decide (bw < w.col)&&split then w.JH ind lb else w.raw (Ka t j (j+1)):=by
 unfold Wr.N9
 rw[show((j:Int)+1==((j+1:Nat):Int))=true from beq_iff_eq.mpr U,show((j:Int) != 0)=true from bne_iff_ne.mpr (by lia),show(((j+1:Nat):Int) != (t.length:Int))=true from bne_iff_ne.mpr (by omega),Tg,Bool.and_true,Bool.and_true]
structure QI(p:Pm)(n:Nat)(X t:Tx)(ind:Int)(i:Nat)(s:SS):Prop where
 bk:s.brk=false
 st:s.st<=i
 r:∃nb,Ri p (n+2*(t.length - s.st)) s.w (X++bH ind (t.take s.st)) nb/\(s.sp=true->nb=true)/\(nb=true∨∀c,t[s.st]?=some c->(c==32)=false)/\(s.w.ind=false∨(ind<=s.w.col/\(nb=true->ind < s.w.col)))
 s1:s.sp=true->s.st+1=i/\t[s.st]?=some 32
 s0:s.sp=false->∀k c,s.st<=k->k < i->t[k]?=some c->(c==39)=false/\(c==32)=false
theorem j8(w:Wr)(hs:s≠[])(h:w.ind=false∨(ind<=w.col/\(nb=true->ind < w.col))):(w.raw s).ind=false∨(ind<=(w.raw s).col/\(true=true->ind < (w.raw s).col)):=h.imp id λh=>by
 have:0 < s.length:=List.length_pos_iff.mpr hs
 have e:(w.raw s).col=w.col+(s.length:Int):=rfl
 rw[e]
 exact⟨by lia,λJ=>by lia⟩
theorem Bf{p:Nat}(h:p<=i):Le p i=i:=kS h
theorem Be{t:Tx}:w.Ls t i i=w:=by unfold Wr.Ls;rw[decide_eq_false (Int.lt_irrefl _)];rfl
theorem Bc{t:Tx}(h:j < i):w.Ls t j i=w.raw (Ka t j i):=by unfold Wr.Ls;rw[decide_eq_true (Int.ofNat_lt.mpr h)];rfl
theorem Ri.fl{a:Prop}(ok:M6 t=true)(hj:j<=i)(hi:i<=t.length)(h:Ri p (n+2*(t.length - j)) w (X++bH ind (t.take j)) nb)(hd:nb=true∨∀c,t[j]?=some c->(c==32)=false)(iw:w.ind=false∨(ind<=w.col/\(nb=true->ind < w.col)))(hp:∀k c,j<=k->k < i->t[k]?=some c->(c==39)=false/\(c==32)=false) :
  ∃QK,Ri p (n+2*(t.length - i)) (w.Ls t j i) (X++bH ind (t.take i)) QK/\((j < i∨nb=true)->QK=true)/\((w.Ls t j i).ind=false∨(ind<=(w.Ls t j i).col/\(QK=true->ind < (w.Ls t j i).col))):=by
 rcases Te hj with KH | rfl
 ·rw[Bc KH,bM hj hi,fQ,zE (s:=Ka t j i) λc hc=>by obtain⟨m,h1,h2,h3⟩:=fB hi hc;exact⟨gdI ok h3,(hp m c h1 h2 h3).1⟩,<- lq]
  have LP:Ka t j i≠[]:=λe=>by have:=jX (t:=t) hj hi;rw[e]at this;have:0=i - j:=this;lia
  refine⟨true,h.sg ok KH hi (hd.imp id λL5=>?_),λJ=>rfl,j8 w LP iw⟩
  obtain⟨d,hd⟩:∃d,t[j]?=some d:=⟨_,kq (lh KH hi)⟩
  exact nY ok KH hi hd (L5 d hd)
 ·rw[Be];exact⟨nb,h,λh=>h.elim (λh=>absurd h (Sj _)) id,iw⟩
theorem CG(c:Nat):isQ c=(c==39):=by
 unfold isQ
 rw[SR,beq_iff_eq,beq_iff_eq]
 exact⟨λh=>by injection h,λh=>h▸rfl⟩
theorem Eh(pk:bI p)(ok:M6 t=true)(hi:0<=ind)(h6:ind<=60)(i c:Nat)(s:SS)(hc:t[i]?=some c)(h:QI p n X t ind i s):QI p n X t ind (i+1) (Nj t ind p.o.lb p.o.bw split i s):=by
 obtain⟨w,e,b,j⟩:=s
 obtain⟨bk,st,⟨nb,r,n1,hd,iw⟩,s1,s0⟩:=h
 obtain rfl:b=false:=bk
 have st:j<=i:=st
 have r:Ri p (n+2*(t.length - j)) w (X++bH ind (t.take j)) nb:=r
 have hl:=(kh hc).1
 have hg:=gdI ok hc
 have hk:=(vM hg).2.2
 rw[tW hc]
 unfold Nu sqQ
 rw[kL,mQ hk,kL,CG,hk]
 cases e with
 | true=>
  obtain⟨rfl,L5⟩:=s1 U
  obtain⟨j0,d,Pb,NF⟩:=gj ok L5
  obtain rfl:=kc (hc.symm.trans Pb)
  obtain rfl:=n1 U
  have hj:=(kh L5).1
  have tn:=zG (ind:=ind) (pj (R8 hj) j0)
  have m:=r.mi (ind:=ind) pk L5 ((kH tn (qD (pp ok))).app tn X) (eM (iw.imp id λh=>h.2 U)) hi h6
  have e32:bH ind (Ka t j (j+1))=[32]:=by rw[cY L5];rfl
  rw[lq,<- e32,<- fQ,<- bM (mw j) hj]at m
  rw[NF]
  have q:∃nb,Ri p (n+2*(t.length - (j+1))) (w.N9 t ind p.o.lb p.o.bw split j (j+1)) (X++bH ind (t.take (j+1))) nb/\((w.N9 t ind p.o.lb p.o.bw split j (j+1)).ind=false∨(ind<=(w.N9 t ind p.o.lb p.o.bw split j (j+1)).col/\(nb=true->ind < (w.N9 t ind p.o.lb p.o.bw split j (j+1)).col))):=by
   rw[Cq w ind p.o.lb p.o.bw split j0 hl]
   cases hx:decide (p.o.bw < w.col)&&split with
   | true=>
    obtain⟨_,d2,_⟩:=fW p.o.lb (eM (iw.imp id λh=>h.2 U)) hi
    exact⟨false,m.1 (kj (ly hx).1),.inr ⟨by show ind<=(w.JH ind p.o.lb).col;rw[d2];exact Sq _,Kb ∘ Sx ∘ Sx⟩⟩
   | false=>exact⟨true,m.2,j8 w (by rw[cY L5];exact λh=>nomatch h) iw⟩
  obtain⟨nb,q,qi⟩:=q
  generalize w.N9 t ind p.o.lb p.o.bw split j (j+1)=w' at q qi
  cases h39:c==39 with
  | false=>exact⟨rfl,mw _,⟨nb,q,Kb ∘ Sx ∘ Sx,.inr λc h=>by obtain rfl:=kc (h.symm.trans hc);exact NF,qi⟩,Kb ∘ Sx ∘ Sx,λJ k c' h1 h2 h3=>by
    obtain rfl:k=j+1:=Nat.le_antisymm (Nat.le_of_lt_succ h2) h1
    obtain rfl:=kc (h3.symm.trans hc)
    exact⟨h39,NF⟩⟩
  | true=>
   obtain rfl:=ld h39
   refine⟨rfl,mf _,⟨true,?_,λJ=>rfl,.inl U,j8 w' (λh=>nomatch h) qi⟩,Kb ∘ Sx ∘ Sx,λJ k c' h1 h2 J=>absurd (lh h2 h1) (Sj _)⟩
   have Nb:j+1 < t.length:=hl
   have:=Ri.raw (s:=[39,39]) (k:=2) (n:=n+2*(t.length - (j+1+1))) (q.le (by lia)) (mf 2) (λh=>nomatch h) (Jz.cons U (Jz.cons U .nil)) (.inr ⟨39,[39],rfl,rfl,rfl⟩)
   rw[lq]at this
   show Ri p _ _ (X++bH ind (t.take (j+1+1))) true
   rw[bM (mw (j+1)) hl,fQ,cY hc];exact this
 | false=>
  have s0:=s0 U
  cases h39:c==39 with
  | true=>
   obtain rfl:=ld h39
   obtain⟨QK,f1,f2,f3⟩:=r.fl (a:=True) ok st (R8 hl) hd iw s0
   refine⟨rfl,mf _,⟨true,?_,λJ=>rfl,.inl U,j8 (w.Ls t j i) (λh=>nomatch h) f3⟩,Kb ∘ Sx ∘ Sx,λJ k c' h1 h2 J=>absurd (lh h2 h1) (Sj _)⟩
   have:=Ri.raw (s:=[39,39]) (k:=2) (n:=n+2*(t.length - (i+1))) (f1.le (by lia)) (mf 2) (λh=>nomatch h) (Jz.cons U (Jz.cons U .nil)) (.inr ⟨39,[39],rfl,rfl,rfl⟩)
   rw[lq]at this
   show Ri p _ _ (X++bH ind (t.take (i+1))) true
   rw[bM (mw i) hl,fQ,cY hc];exact this
  | false=>
   cases L5:c==32 with
   | false=>exact⟨rfl,Sv st,⟨nb,r,Kb ∘ Sx ∘ Sx,hd,iw⟩,Kb ∘ Sx ∘ Sx,λJ k c' h1 h2 h3=>by
     rcases Te (Nat.le_of_lt_succ h2) with h4 | rfl
     ·exact s0 k c' h1 h4 h3
     ·obtain rfl:=kc (h3.symm.trans hc);exact⟨h39,L5⟩⟩
   | true=>
    obtain rfl:=ld L5
    obtain⟨QK,f1,f2,f3⟩:=r.fl (a:=True) ok st (R8 hl) hd iw s0
    have hn:QK=true:=f2 (by
     rcases Te st with h | rfl
     ·exact .inl h
     ·exact hd.elim .inr λh=>Kb (h 32 hc).symm)
    show QI p n X t ind (i+1) ⟨w.Ls t j i,true,false,Le j i⟩
    rw[Bf st]
    exact⟨rfl,mw _,⟨QK,f1,λJ=>hn,.inl hn,f3⟩,λJ=>⟨rfl,hc⟩,λh=>Kb h.symm⟩
theorem RP.sq(pk:bI p)(h:RP p (n+2*t.length+3) w X u)(ok:M6 t=true)(hi:0<=ind)(h6:ind<=60):RN p n (w.sq t ind p.o.bw p.o.lb split) (X++(sp u++39::(bH ind t++[39]))) false:=by
 have q39:KS [39]:=⟨39,[],rfl,rfl,rfl⟩
 have l39:Jz [39]:=Jz.cons U .nil
 have RG:LK [39] false:=⟨rfl,rfl⟩
 have h0:=RP.sgn (n:=n+1+2*t.length) (k:=2) (s:=[39]) (Kt:=false) (h.le (by lia)) (mf 2) l39 q39 RG
 have hN:=kK (R:=QI p (n+1) (X++(sp u++[39])) t ind) (a:=⟨w.sgn [39] true false false,false,false,0⟩) (Eh (split:=split) pk ok hi h6)
  ⟨rfl,mf 0,⟨true,by show Ri p (n+1+2*t.length) _ (_++bH ind (t.take 0)) true;rw[List.take_zero];show Ri p _ _ (_++[]) true;rw[mh];exact h0.r,λJ=>rfl,.inl U,.inl h0.ind⟩,Kb ∘ Sx ∘ Sx,λJ k c h1 h2 J=>absurd (lh h2 h1) (Sj _)⟩ t.length (mf _)
 unfold Wr.sq Oy
 show RN p n ((Nj t ind p.o.lb p.o.bw split t.length (Oa (Nj t ind p.o.lb p.o.bw split) _ t.length)).w.sgn [39] false false false) _ _
 have hn:t[t.length]?=none:=Si (mf _)
 rw[tX hn]
 generalize Oa (Nj t ind p.o.lb p.o.bw split) _ t.length=s at hN ⊢
 obtain⟨w',e,b,j⟩:=s
 obtain⟨bk,st,⟨nb,r,n1,hd,iw⟩,s1,s0⟩:=hN
 obtain rfl:b=false:=bk
 cases e with
 | true=>
  obtain⟨h1,L5⟩:=s1 U
  obtain⟨_,d,hd,_⟩:=gj ok L5
  rw[show j+1=t.length from h1,hn]at hd
  exact nomatch hd
 | false=>
  obtain⟨QK,f1,_,_⟩:=Ri.fl (w:=w') (j:=j) (n:=n+1) (a:=True) ok st (mf _) r hd iw (s0 U)
  rw[Sl,List.take_length]at f1
  have:=Ri.M0 (k:=1) (s:=[39]) (Kt:=false) f1 (mf 1) l39 q39 RG
  rw[lq,lq,lq]at this
  exact this
theorem RP.sq2(pk:bI p)(e:p.KQ=false)(h:RP p (n+30) w X u)(hi:0 < ind)(h6:ind<=60):RN p n (w.sq [109,10,110] ind p.o.bw p.o.lb split) (X++(sp u++39::(bH ind [109,10,110]++[39]))) false:=by
 have q39:KS [39]:=⟨39,[],rfl,rfl,rfl⟩
 have l39:Jz [39]:=Jz.cons U .nil
 have RG:LK [39] false:=⟨rfl,rfl⟩
 have h0:=h.sgn (n:=n+28) (k:=2) (s:=[39]) (Kt:=false) (mf 2) l39 q39 RG
 have h1:=Ri.raw (n:=n+27) (k:=1) (s:=[109]) h0.r (mf 1) (λh=>nomatch h) (Jz.cons U .nil) (.inl U)
 have e1:w.sq [109,10,110] ind p.o.bw p.o.lb split=(((((((w.sgn [39] true false false).raw [109]).brk p.o.lb).brk p.o.lb).JH ind p.o.lb).raw [110]).sgn [39] false false false):=rfl
 rw[e1]
 generalize w.sgn [39] true false false=w1 at h1
 have d:(((w1.raw [109]).brk p.o.lb).brk p.o.lb).JH ind p.o.lb=⟨ind,w1.line+1+1,true,true,w1.KJ,((w1.rows++[[109]])++[p.o.lb]++[p.o.lb])++[ap ind]⟩:=by
  unfold Wr.JH
  have hb:(((w1.raw [109]).brk p.o.lb).brk p.o.lb).Nz ind=false:=by
   unfold Wr.Nz
   show(!true||(decide (ind < 0)||((0:Int)==ind&&!true)))=false
   rw[decide_eq_false (by lia)]
   show(false||((0:Int)==ind&&false))=false
   rw[Sp];rfl
  rw[hb]
  show Wr.pad _ ind=_
  rw[AJ (show(0:Int) < ind from hi)]
  show Wr.mk _ _ _ _ _ (_++[ap (ind - 0)])=_
  rw[Int.sub_zero];rfl
 rw[d]
 have k:=h1.kw e
 have ln:=h1.ln
 have hlb:=pk.lb.len
 have k1:w1.rows.flatten++[109]=cv p.o.lb ((X++(sp u++[39]))++[109]):=(Np _ _).symm.trans k.1
 have l1:(w1.rows.flatten++[109]).length+100*(n+27)<=100000:=by rw[<- Np];exact ln
 have fe:(((w1.rows++[[109]])++[p.o.lb]++[p.o.lb])++[ap ind]).flatten=(w1.rows.flatten++[109])++(p.o.lb++(p.o.lb++ap ind)):=by rw[Np,Np,Np,Np,lq,lq]
 have h2:Ri p (n+2) ⟨ind,w1.line+1+1,true,true,w1.KJ,((w1.rows++[[109]])++[p.o.lb]++[p.o.lb])++[ap ind]⟩ (((X++(sp u++[39]))++[109])++10::10::ap ind) false:=by
  have n9:=h1.n9
  refine⟨?_,SN hi,by lia,λe'=>Kb (e.symm.trans e'),λJ=>⟨?_,by show ind+((n+2:Nat):Int)<=1000;lia⟩⟩
  ·show(List.flatten _).length+100*(n+2)<=100000
   rw[fe,ku,ku (as:=p.o.lb),ku (as:=p.o.lb),bL]
   lia
  ·show List.flatten _=_
   rw[fe,k1,aJ p.o.lb _ (10::10::ap ind)]
   show _=_++((bif bG 10 then p.o.lb else [10])++((bif bG 10 then p.o.lb else [10])++cv p.o.lb (ap ind)))
   rw[dz _ (fy ind)];rfl
 have h3:=Ri.raw (n:=n+1) (k:=1) (s:=[110]) h2 (mf 1) (λh=>nomatch h) (Jz.cons U .nil) (.inr ⟨110,[],rfl,rfl,rfl⟩)
 have h4:=Ri.M0 (n:=n) (k:=1) (s:=[39]) (Kt:=false) h3 (mf 1) l39 q39 RG
 have e2:bH ind [109,10,110]=[109]++((10::10::ap ind)++[110]):=rfl
 rw[e2]
 have e3:((((X++(sp u++[39]))++[109])++10::10::ap ind)++[110])++[39]=X++(sp u++39::(([109]++((10::10::ap ind)++[110]))++[39])):=by simp only[lq,Sw,SU]
 rw[<- e3];exact h4
end
noncomputable def jg(c:Nat):Tx:=bif aK .nul c then eK c else [c]
noncomputable def dK:Tx->Tx
 | []=>[]
 | c::r=>jg c++dK r
theorem iQ(a b:Tx):dK (a++b)=dK a++dK b:=by
 induction a with
 | nil=>rfl
 | cons c a ih=>show jg c++dK (a++b)=(jg c++dK a)++dK b;rw[ih,lq]
def uS(s:Tx):Prop:=∀c∈s,aK .nul c=false
theorem k8(h:uS s):dK s=s:=by
 induction s with
 | nil=>rfl
 | cons c s ih=>show jg c++dK s=_;unfold jg;rw[h c (.head _),ih λx hx=>h x (.tail _ hx)];rfl
theorem wj(h:aK .nul c=false):iG c=false:=by
 cases hc:iG c with
 | false=>rfl
 | true=>
  have:c=10∨c=13:=(my hc).imp ld ld
  rcases this with rfl | rfl
  ·exact Kb ((by decide:aK .nul 10=true).symm.trans h).symm
  ·exact Kb ((by decide:aK .nul 13=true).symm.trans h).symm
theorem qB(h:(KO c).isSome=true):Jz (eK c)/\(eK c).length=2:=by
 unfold eK
 unfold KO dX at h ⊢
 cases hl:gz.lookup c with
 | none=>rw[hl]at h;exact nomatch h
 | some d=>
  have hm:∀(l:List (Nat×Nat)),l.lookup c=some d->(c,d)∈l:=λl=>by
   induction l with
   | nil=>exact λh=>nomatch h
   | cons x l ih=>
    intro hx
    rw[R6]at hx
    cases he:c==x.1 with
    | true=>rw[he]at hx;obtain rfl:=kc hx;rw[ld he];exact .head _
    | false=>rw[he]at hx;exact .tail _ (ih hx)
  have:=(by decide:∀x∈gz,iG x.2=false) (c,d) (hm _ hl)
  exact⟨Jz.cons U (Jz.cons this .nil),rfl⟩
section
variable{n:Nat}{X t:Tx}{ind:Int}
theorem pA(i:Int):bj (ap i++[92])=[92]:=by
 unfold bj
 rw[cO]
 induction i.toNat with
 | zero=>rfl
 | succ n ih=>exact ih
theorem wv(Y:Tx):cf (Y++[92])=true:=by unfold cf;rw[List.getLast?_concat];rfl
theorem Ri.bs{m k:Nat}(pk:bI p)(e:p.KQ=true)(h:Ri p (m+2*k) w Y true)(hk:s.length=k)(h1:1<=k)(hs:Jz s)(hi:w.ind=false)(hw:p.o.bw < w.col+(s.length:Int))(h0:0<=ind)(h6:ind<=60):Ri p m ((((w.raw (s++[92])).JH ind p.o.lb).off).raw [92]) (Y++s) true:=by
 have hb:(w.raw (s++[92])).Nz ind=true:=eM (.inl hi)
 obtain⟨d1,d2,d3,d4⟩:=fW p.o.lb hb h0
 have f1:((((w.raw (s++[92])).JH ind p.o.lb).off).raw [92]).rows.flatten=(w.rows.flatten++(s++[92]))++((p.o.lb++ap ind)++[92]):=by
  show(((w.raw (s++[92])).JH ind p.o.lb).rows++[[92]]).flatten=_
  rw[Np,d1,show(w.raw (s++[92])).rows.flatten=w.rows.flatten++(s++[92]) from Np _ _,lq]
 have ln:=h.ln
 have n9:=h.n9
 have hl:=pk.lb.len
 refine⟨?_,?_,by lia,λJ=>?_,λe'=>Kb (e'.symm.trans e)⟩
 ·rw[f1,ku,ku (bs:=s++[92]),ku (as:=s),ku (bs:=[92]),ku (bs:=ap ind),bL]
  show w.rows.flatten.length+(s.length+1)+(p.o.lb.length+ind.toNat+1)+100*m<=100000
  lia
 ·show 0<=((w.raw (s++[92])).JH ind p.o.lb).col+1
  rw[d2];lia
 ·obtain⟨rs,r,g1,g2,g3,g4,g5,g6,g7⟩:=(h.kn e).h
  have h5':=(pk.n e).2
  have n92:Jz [92]:=Jz.cons U .nil
  have RY:=(g2.app (s:=s++[92]) (.inl (g6 U))).NO (r':=ap ind++[92]) (by
   rw[<- lq (as:=Y),wv]
   show p.o.bw < (((r++(s++[92])).length:Nat):Int) - 1
   rw[ku,ku]
   show p.o.bw < ((r.length+(s.length+1):Nat):Int) - 1
   lia)
  have eg:cI (Y++(s++[92])) (ap ind++[92])=Y++s:=by
   rw[<- lq]
   unfold cI
   rw[wv,pA,SP]
   exact mh _
  rw[eg]at RY
  refine⟨rs++[r++(s++[92])],ap ind++[92],?_,RY,?_,λx hx=>(mx hx).elim (g4 x) λhx=>by rw[km hx];exact g5.app (hs.app n92),(fz ind).app n92,(λJ=>by rw[pA];exact λh=>nomatch h),.inr ⟨?_,?_⟩⟩
  ·rw[f1,g1,fC];simp only[lq]
  ·show((w.raw (s++[92])).JH ind p.o.lb).col+1=_
   rw[d2,ku,bL]
   show ind+1=((ind.toNat+1:Nat):Int)
   lia
  ·rcases g7 with rfl | g7
   ·have:=g2.nil;subst this;rw[ku];lia
   ·rw[ku];lia
  ·have hx:5<=(Y++s).length/\((Kg p.o.lb rs++r)++s).take 4=(Y++s).take 4:=by
    rcases g7 with rfl | g7
    ·have:=g2.nil;subst this;exact⟨by rw[ku];lia,rfl⟩
    ·exact⟨by rw[ku];lia,fu g7.1 g7.2⟩
   have:=fu (s:=[92]++(p.o.lb++(ap ind++[92]))) (t:=[]) hx.1 hx.2
   rw[mh]at this
   rw[fC,<- this]
   simp only[lq]
structure DI(p:Pm)(n:Nat)(X t:Tx)(i:Nat)(s:DS):Prop where
 st:s.st<=i
 r:Ri p (n+2*(t.length - s.st)) s.w (X++dK (t.take s.st)) true
 s0:∀k c,s.st<=k->k < i->t[k]?=some c->aK .nul c=false
 iw:s.w.ind=false
 nr:p.KQ=true->0 < i->s.st < i
theorem Ri.fd(hj:j<=i)(hi:i<=t.length)(h:Ri p (n+2*(t.length - j)) w (X++dK (t.take j)) true)(hp:∀k c,j<=k->k < i->t[k]?=some c->aK .nul c=false):Ri p (n+2*(t.length - i)) (w.Ls t j i) (X++dK (t.take i)) true/\(w.Ls t j i).ind=w.ind:=by
 rcases Te hj with KH | rfl
 ·have ne:uS (Ka t j i):=λc hc=>by obtain⟨m,h1,h2,h3⟩:=fB hi hc;exact hp m c h1 h2 h3
  have hl:=jX (t:=t) hj hi
  rw[Bc KH,bM hj hi,iQ,k8 ne,<- lq]
  have e:n+2*(t.length - j)=(n+2*(t.length - i))+2*(i - j):=jQ hj hi
  exact⟨Ri.raw (k:=2*(i - j)) (e▸h) (by rw[hl];lia) (λh=>by rw[h]at hl;have:0=i - j:=hl;lia) (λc hc=>wj (ne c hc)) (.inl U),rfl⟩
 ·rw[Be];exact⟨h,rfl⟩
def okQ(p:Pm)(t:Tx):Prop:=dW .nul t/\(p.KQ=true->uS t)
theorem Ga(pk:bI p)(ok:okQ p t)(hi:0<=ind)(h6:ind<=60)(i c:Nat)(s:DS)(hc:t[i]?=some c)(h:DI p n X t i s):DI p n X t (i+1) (Oo t ind p.o.lb p.o.bw split .nul i s):=by
 obtain⟨w,j⟩:=s
 obtain⟨st,r,s0,iw,nr⟩:=h
 have st:j<=i:=st
 have s0:∀k c,j<=k->k < i->t[k]?=some c->aK .nul c=false:=s0
 have hl:=(kh hc).1
 have E:DI p n X t (i+1) (Oq t .nul i ⟨w,j⟩ t[i]?)/\(p.KQ=true->Oq t .nul i ⟨w,j⟩ t[i]?=⟨w,j⟩):=by
  rw[hc]
  show DI p n X t (i+1) (bif aK .nul c then(⟨(w.Ls t j i).raw (eK c),i+1⟩:DS) else⟨w,j⟩)/\(p.KQ=true->(bif aK .nul c then(⟨(w.Ls t j i).raw (eK c),i+1⟩:DS) else⟨w,j⟩)=⟨w,j⟩)
  cases hm:aK .nul c with
  | false=>exact⟨⟨Sv st,r,λk c' h1 h2 h3=>by
    rcases Te (Nat.le_of_lt_succ h2) with h4 | rfl
    ·exact s0 k c' h1 h4 h3
    ·obtain rfl:=kc (h3.symm.trans hc);exact hm,iw,λJ J=>S4 st⟩,λJ=>rfl⟩
  | true=>
   have hn:p.KQ=true->False:=λe=>Kb ((ok.2 e c (lx hc)).symm.trans hm)
   obtain⟨f1,f2⟩:=r.fd st (R8 hl) s0
   obtain⟨q1,q2⟩:=qB (ok.1 c (lx hc) hm)
   have:=Ri.raw (s:=eK c) (k:=2) (n:=n+2*(t.length - (i+1))) (f1.le (by lia)) (lw q2) (λh=>by rw[h]at q2;exact nomatch q2) q1 (.inl U)
   rw[lq,show eK c=dK (Ka t i (i+1)) by rw[cY hc];show _=jg c++[];unfold jg;rw[hm,mh];rfl,<- iQ,<- bM (mw i) hl]at this
   exact⟨⟨mf _,by rw[cY hc,show dK [c]=eK c by (show jg c++[]=_;unfold jg;rw[hm,mh];rfl)]at this;exact this,λk c' h1 h2 J=>absurd (lh h2 h1) (Sj _),f2.trans iw,λe=>(hn e).elim⟩,λe=>(hn e).elim⟩
 obtain⟨E,En⟩:=E
 unfold Oo PF
 cases hC:dqC t p.o.bw split i (Oq t .nul i ⟨w,j⟩ t[i]?) t[i]? with
 | false=>exact E
 | true=>
  obtain⟨h1,h2⟩:=ly hC
  obtain⟨h3,h4⟩:=ly h1
  obtain⟨h5,h6'⟩:=ly h2
  obtain⟨h7,_⟩:=ly h6'
  have h3:=kj h3
  have h7:=kj h7
  cases hn:p.KQ with
  | false=>
   have k:=(E.r.kw hn).2
   have es:=E.st
   rw[pk.w hn]at h7
   omega
  | true=>
   have ej:=En hn
   rw[ej]at h5 h7 ⊢
   have hj:j < i:=nr hn (by omega)
   have h7:p.o.bw < w.col+((i:Int) - j):=h7
   have hsp:bE c=true:=by
    rw[hc]at h5
    rcases my h5 with h | h
    ·exact h
    ·have h:(i:Int)<=j:=kj h;lia
   have ne:Jz (Ka t j i):=λc hc=>by obtain⟨m,_,_,h3⟩:=fB (R8 hl) hc;exact wj (ok.2 hn c (lx h3))
   have ne':uS (Ka t j i):=λc hc=>by obtain⟨m,_,_,h3⟩:=fB (R8 hl) hc;exact ok.2 hn c (lx h3)
   have hln:=jX (t:=t) (R8 hj) (R8 hl)
   have r:Ri p (n+2*(t.length - j)) w (X++dK (t.take j)) true:=r
   have e:n+2*(t.length - j)=(n+2*(t.length - i))+2*(i - j):=jQ (R8 hj) (R8 hl)
   have b:=Ri.bs (k:=i - j) (ind:=ind) pk hn (e▸r) hln (by lia) ne iw (by rw[hln,show((i - j:Nat):Int)=(i:Int) - j by lia];exact h7) hi h6
   rw[lq,<- k8 ne',<- iQ,k8 ne',<- bM (R8 hj) (R8 hl)]at b
   show DI p n X t (i+1) (dqF t ind p.o.lb i ⟨w,j⟩)
   have eF:dqF t ind p.o.lb i ⟨w,j⟩=⟨(((w.raw (Ka t j i++[92])).JH ind p.o.lb).off).raw [92],i⟩:=by
    unfold dqF
    show DS.mk (bif (t[Le j i]?).any bE then(Nq t ind p.o.lb i ⟨w,j⟩).raw [92] else Nq t ind p.o.lb i ⟨w,j⟩) (Le j i)=_
    rw[Bf st,hc,show(some c).any bE=bE c from rfl,hsp];rfl
   rw[eF]
   exact⟨mw i,b,λk c' h1 h2 h3=>ok.2 hn c' (lx h3),rfl,λJ J=>So i⟩
theorem RP.dq(pk:bI p)(h:RP p (n+2*t.length+3) w X u)(ok:okQ p t)(hi:0<=ind)(h6:ind<=60):RN p n (w.dq t ind p.o.bw p.o.lb split .nul) (X++(sp u++34::(dK t++[34]))) false:=by
 have q34:KS [34]:=⟨34,[],rfl,rfl,rfl⟩
 have l34:Jz [34]:=Jz.cons U .nil
 have e34:LK [34] false:=⟨rfl,rfl⟩
 have h0:=RP.sgn (n:=n+1+2*t.length) (k:=2) (s:=[34]) (Kt:=false) (h.le (by lia)) (mf 2) l34 q34 e34
 have hN:=kK (R:=DI p (n+1) (X++(sp u++[34])) t) (a:=⟨w.sgn [34] true false false,0⟩) (Ga (split:=split) pk ok hi h6)
  ⟨mf 0,by show Ri p (n+1+2*t.length) _ (_++dK (t.take 0)) true;rw[List.take_zero];show Ri p _ _ (_++[]) true;rw[mh];exact h0.r,λk c h1 h2 J=>absurd (lh h2 h1) (Sj _),h0.ind,λJ h=>absurd h (Sj 0)⟩ t.length (mf _)
 unfold Wr.dq PE
 show RN p n ((Oo t ind p.o.lb p.o.bw split .nul t.length (Oa (Oo t ind p.o.lb p.o.bw split .nul) _ t.length)).w.sgn [34] false false false) _ _
 have hn:t[t.length]?=none:=Si (mf _)
 generalize Oa (Oo t ind p.o.lb p.o.bw split .nul) _ t.length=s at hN ⊢
 obtain⟨w',j⟩:=s
 obtain⟨st,r,s0,iw,nr⟩:=hN
 have eS:Oo t ind p.o.lb p.o.bw split .nul t.length ⟨w',j⟩=⟨w'.Ls t j t.length,Le j t.length⟩:=by
  unfold Oo
  rw[hn]
  show PF t ind p.o.lb p.o.bw split t.length ⟨w'.Ls t j t.length,Le j t.length⟩ none=_
  unfold PF dqC
  rw[decide_eq_false (show ¬ ((t.length:Nat):Int) < (t.length:Int) - 1 by lia),Sp];rfl
 rw[eS]
 obtain⟨f1,_⟩:=Ri.fd (w:=w') (j:=j) (n:=n+1) st (mf _) r s0
 rw[Sl,List.take_length]at f1
 have:=Ri.M0 (k:=1) (s:=[34]) (Kt:=false) f1 (mf 1) l34 q34 e34
 rw[lq,lq,lq]at this
 exact this
end
def M7(t:Tx):Prop:=∀c∈t,(c==13)=false
structure TO(z:Bool)(g:Int->Tx):Prop where
 mv:∀i q,0<=i->0<=q->LG q false (g i)=g (i+q)
 fr:∀i,0<=i->Qd false (g i)=false
 Qi:∀i,M7 (g i)
 c10:z=true->∀i,Lx (g i)
section
variable{g h:Int->Tx}{b:Int}
theorem Jz.Qi{t:Tx}(h:Jz t):M7 t:=λc hc=>(Bool.or_eq_false_iff.mp (h c hc)).2
theorem M7.app{b:Tx}(h:M7 a)(k:M7 b):M7 (a++b):=λc hc=>(mx hc).elim (h c) (k c)
theorem TO.cst(h:Jz s):TO z λJ=>s:=⟨λJ q J J=>ol q h.M8,λJ J=>Fu h.M8,λJ=>h.Qi,λJ J=>h.M8⟩
theorem TO.app(a:TO z g)(b:TO z h):TO z λi=>g i++h i:=
 ⟨λi q hi hq=>by rw[pY,a.fr i hi,a.mv i q hi hq,b.mv i q hi hq],λi hi=>by rw[y6,a.fr i hi];exact b.fr i hi,λi=>(a.Qi i).app (b.Qi i),λe i=>(a.c10 e i).app (b.c10 e i)⟩
theorem TO.sh(a:TO z g)(hb:0<=b):TO z λi=>g (i+b):=
 ⟨λi q hi hq=>by rw[a.mv (i+b) q (by lia) hq,Int.add_right_comm],λi hi=>a.fr (i+b) (by lia),λi=>a.Qi _,λe i=>a.c10 e _⟩
theorem TO.row(hs:Jz s)(hn:s≠[])(hb:0<=b):TO false λi=>10::(ap (i+b)++s):=by
 have n1:∀i:Int,Lx (ap (i+b)++s):=λi=>(fy _).app hs.M8
 have n2:∀i:Int,ap (i+b)++s≠[]:=λi e=>hn (List.append_eq_nil_iff.mp e).2
 refine⟨λi q hi hq=>?_,λi hi=>oF (n1 i) (n2 i) true,λi c hc=>?_,λe=>Kb e⟩
 ·show((bif false&&!bG 10 then ap q else [])++10::LG q true (ap (i+b)++s))=_
  rw[kD q (n1 i) (n2 i),<- lq,<- lT (i:=i+b) (by lia) hq,Int.add_right_comm];rfl
 ·rcases kl hc with rfl | hc
  ·rfl
  ·exact((fz _).app hs).Qi c hc
theorem TO.row0(hb:0 < b):TO false λi=>10::ap (i+b):=by
 have n1:∀i:Int,Lx (ap (i+b)):=λi=>fy _
 refine⟨λi q hi hq=>?_,λi hi=>oF (n1 i) (pC (by lia)) true,λi c hc=>?_,λe=>Kb e⟩
 ·show((bif false&&!bG 10 then ap q else [])++10::LG q true (ap (i+b)))=_
  rw[kD q (n1 i) (pC (by lia)),<- lT (i:=i+b) (by lia) hq,Int.add_right_comm];rfl
 ·rcases kl hc with rfl | hc
  ·rfl
  ·exact(fz _).Qi c hc
end
noncomputable def vals:List (Tx×B):=[([97],.nul),([98,32,99],.nul),([],.nul),([120,58,32,121],.nul),([100,32,101,32,102],.str [34]),([105,116,39,115],.str [39]),([103,32,104,32,105,32,106],.nul),([107],.str [124]),
 ([109,10,110],.str [39]),([116,9,98],.nul),([111,10,112],.str [34]),([35],.nul),([107],.nul),([118],.nul)]
noncomputable def dF(Jo sk i0:Bool)(v:Tx)(JE:B):B:=jR JE i0 Jo true sk (MV v) (MU v .nul) (Pj v .nul) (Pk v .nul) (Ph v .nul) (Pn v .nul)
noncomputable def FY(v:Tx):Bool:=v.all λc=>!aK .nul c||(KO c).isSome
noncomputable def EW(v:Tx):Bool:=v.all λc=>!aK .nul c
noncomputable def N6:Tx:=[109,10,110]
noncomputable def jh(s:B)(v:Tx)(sm:Bool):Bool:=
 bif isStr s [34] then FY v&&(!sm||EW v) else bif isStr s [39] then M6 v||(!sm&&v==N6) else isStr s []&&(M6 v&&(!v.isEmpty&&v.all λc=>!bN c))
noncomputable def jI:List Bool:=[true,false]
theorem f7(b:Bool):b∈jI:=by cases b;exact .tail _ (.head _);exact .head _
theorem xz:(vals.all λx=>decide (x.1.length<=8)&&(jI.all λJo=>jI.all λsk=>jI.all λi0=>jh (dF Jo sk i0 x.1 x.2) x.1 false))=true:=by decide +kernel
theorem xy:((vals.take 8).all λx=>jI.all λsk=>jI.all λi0=>jh (dF false sk i0 x.1 x.2) x.1 true)=true:=by decide +kernel
structure Qm(sm:Bool)(v:Tx)(JE:B):Prop where
 l:v.length<=8
 c:∀Jo sk i0,jh (dF Jo sk i0 v JE) v false=true
 n:sm=true->∀sk i0,jh (dF false sk i0 v JE) v true=true
 s:d8 JE
noncomputable def QC(Jo sk i0:Bool)(v:Tx)(JE:B)(ind:Int):Tx:=
 bif isStr (dF Jo sk i0 v JE) [34] then 34::(dK v++[34]) else bif isStr (dF Jo sk i0 v JE) [39] then 39::(bH ind v++[39]) else v
theorem dv(h:isStr x s=true):x=.str s:=by
 cases x with
 | str=>exact kg B.str (ld h)
 | _=>exact Kb h
theorem kX{v:Tx}(h:FY v=true):dW .nul v:=λc hc hm=>by
 have:=ma h c hc
 rw[hm]at this;exact this
theorem yu{v:Tx}(h:EW v=true):uS v:=λc hc=>lm (ma h c hc)
theorem zI{v:Tx}(h:dW .nul v):Jz (dK v):=by
 induction v with
 | nil=>exact .nil
 | cons c v ih=>
  refine Jz.app ?_ (ih λd hd=>h d (.tail _ hd))
  unfold jg
  cases hm:aK .nul c with
  | true=>exact(qB (h c (.head _) hm)).1
  | false=>exact Jz.cons (wj hm) .nil
theorem zF{v:Tx}{ind:Int}(h:M6 v=true):Jz (bH ind v):=uT (qD (gdA h))
theorem zH{v:Tx}{a b:Int}(h:∀c∈v,Om c=true):bH a v=bH b v:=by
 induction v with
 | nil=>rfl
 | cons c v ih=>
  show gW a c++bH a v=gW b c++bH b v
  rw[ih λd hd=>h d (.tail _ hd)]
  cases hc:c==39 with
  | false=>rw[ib (h c (.head _)) hc,ib (h c (.head _)) hc]
  | true=>unfold gW;rw[hc];rfl
section
variable{n:Nat}{X v:Tx}{i0:Bool}{ind bi:Int}
theorem Et(h:Qm sm v JE)(hb:0 < bi):TO (sm&&!Jo) λi=>QC Jo sk i0 v JE (i+bi):=by
 have hc:=h.c Jo sk i0
 have hn:(sm&&!Jo)=true->jh (dF Jo sk i0 v JE) v true=true:=λe=>by
  obtain⟨e1,e2⟩:=ly e
  obtain rfl:Jo=false:=lm e2
  exact h.n e1 sk i0
 unfold QC
 unfold jh at hc hn
 cases h1:isStr (dF Jo sk i0 v JE) [34] with
 | true=>
  rw[h1]at hc
  have he:=kX (ly hc).1
  exact TO.cst (Jz.cons U ((zI he).app (Jz.cons U .nil)))
 | false=>
  rw[h1]at hc hn
  cases h2:isStr (dF Jo sk i0 v JE) [39] with
  | true=>
   rw[h2]at hc hn
   have RG:∀s:Tx,Jz s->Jz (39::(s++[39])):=λs hs=>Jz.cons U (hs.app (Jz.cons U .nil))
   cases ho:M6 v with
   | true=>
    have e:(λi=>39::(bH (i+bi) v++[39]))=λJ=>39::(bH 0 v++[39]):=funext λi=>by rw[zH (b:=0) (gdA ho)]
    show TO _ λi=>39::(bH (i+bi) v++[39])
    rw[e];exact TO.cst (RG _ (zF ho))
   | false=>
    rw[ho]at hc hn
    obtain rfl:v=N6:=ld hc
    have hz:(sm&&!Jo)=false:=by
     cases hx:(sm&&!Jo) with
     | false=>rfl
     | true=>exact Kb (hn hx)
    rw[hz]
    show TO false λi=>39::(bH (i+bi) N6++[39])
    have e:(λi:Int=>39::(bH (i+bi) N6++[39]))=λi=>[39,109]++([10]++(10::(ap (i+bi)++[110,39]))):=funext λi=>by
     show 39::109::10::10::((ap (i+bi)++[110])++[39])=39::109::10::10::(ap (i+bi)++[110,39])
     rw[lq];rfl
    rw[e]
    have r:=TO.row (s:=[110,39]) (b:=bi) (Jz.cons U (Jz.cons U .nil)) (λh=>nomatch h) (SN hb)
    refine(TO.cst (Jz.cons U (Jz.cons U .nil))).app ⟨λi q hi hq=>?_,λi hi=>?_,λi=>?_,λe=>Kb e⟩
    ·have:=r.mv i q hi hq
     show((bif false&&!bG 10 then ap q else [])++10::((bif true&&!bG 10 then ap q else [])++10::LG q true (ap (i+bi)++[110,39])))=_
     exact kg (10::·) this
    ·exact r.fr i hi
    ·exact λc hc=>(kl hc).elim (λe=>e▸rfl) (r.Qi i c)
  | false=>
   rw[h2]at hc
   exact TO.cst (uT (gdA (ly (ly hc).2).1))
theorem RP.Lb(pk:bI p)(hcan:p.o.Jo=.bool Jo)(h:RP p (n+30) w X u)(hv:Qm sm v JE)(hm:p.KQ=true->sm=true)(hi:0 < ind)(h6:ind<=60){bi:Int}:RN p n (w.Lb v (strOf (dF Jo sk i0 v JE)) ind bi p.o.bw p.o.lb sk false .nul) (X++(sp u++QC Jo sk i0 v JE ind)) false:=by
 have hl:=hv.l
 have hk:jh (dF Jo sk i0 v JE) v p.KQ=true:=by
  cases hn:p.KQ with
  | false=>exact hv.c Jo sk i0
  | true=>
   have:=(pk.n hn).1
   rw[hcan]at this
   obtain rfl:Jo=false:=by injection this
   exact hv.n (hm hn) sk i0
 unfold QC Wr.Lb
 unfold jh at hk
 cases h1:isStr (dF Jo sk i0 v JE) [34] with
 | true=>
  rw[h1]at hk
  rw[dv h1]
  obtain⟨a,b⟩:=ly hk
  exact(h.le (n:=n+2*v.length+3) (by lia)).dq pk ⟨kX a,λe=>by rw[e]at b;exact yu b⟩ (SN hi) h6
 | false=>
  rw[h1]at hk
  cases h2:isStr (dF Jo sk i0 v JE) [39] with
  | true=>
   rw[h2]at hk
   rw[dv h2]
   cases ho:M6 v with
   | true=>exact(h.le (n:=n+2*v.length+3) (by lia)).sq pk ho (SN hi) h6
   | false=>
    rw[ho]at hk
    obtain⟨a,b⟩:=ly (show(!p.KQ&&v==N6)=true from hk)
    obtain rfl:v=N6:=ld b
    exact RP.sq2 pk (lm a) (h.le (by lia)) hi h6
  | false=>
   rw[h2]at hk
   obtain⟨a,b⟩:=ly hk
   obtain⟨c,d⟩:=ly b
   rw[dv a]
   refine RP.OA pk (h.le (n:=n+2*v.length+1) (by lia)) c (λe=>?_) (SN hi) h6
   rw[e]at d;exact Kb d
end
theorem vok{x:Tx×B}(h:vals[i]?=some x):Qm (decide (i < 8)) x.1 x.2:=by
 have h1:=ma xz x (lx h)
 obtain⟨a,b⟩:=ly h1
 refine⟨kj a,λJo sk i0=>ma (ma (ma b Jo (f7 Jo)) sk (f7 sk)) i0 (f7 i0),λe sk i0=>?_,?_⟩
 ·have:x∈vals.take 8:=lx ((List.getElem?_take_of_lt (kj e)).trans h)
  exact ma (ma (ma xy x this) sk (f7 sk)) i0 (f7 i0)
 ·have:∀x∈vals,x.2=.nul∨∃c,x.2=.str [c]:=λx hx=>by
   simp only[vals,List.mem_cons,mo,or_false]at hx
   rcases hx with rfl | rfl | rfl | rfl | rfl | rfl | rfl | rfl | rfl | rfl | rfl | rfl | rfl | rfl <;> first | exact .inl rfl | exact .inr ⟨_,rfl⟩
  exact(this x (lx h)).imp id .inr
def Lk(v:V)(rr nx:List V):Prop:=(JZ [10] (KG v)=true->aF 11 rr=aF 11 nx)/\(JZ [12] (KG v)=true->aF 13 rr=aF 13 nx)
def NR(v:V)(nx:List V)(r s m k:Bool)(e E:Em):Prop:=E.m.Lo=e.m.Lo/\∀d g rr,Mx rr->Lk v rr nx->bn e g->bm (d+7) 10 (cC r s m k) (e.take v rr) g (E.take v rr)
def Q7(e:Em)(g:List Ob):Prop:=(e.k.state=.JA 4 2∨e.k.state=.JA 6 2)∨bn e g
def Lq(e:Em)(v:V)(nx:List V)(E:Em):Prop:=∀d g rr,Mx rr->Lk v rr nx->Q7 e g->∃j f vs x,e.k.state=.JA j 2/\gx[j]?=some f/\aM f [.ref 2] []=some vs/\(Jr (d+11)).Jv j vs (Jm (e.take v rr) g)=some (.b .nul,Jm (E.take v rr) (g++x))/\Q7 E (g++x)
def OM:List V->List V->Em->Em->Prop
 | [],_,e,E=>E=e
 | v::vs,rr,e,E=>∃e1,Lq e v (vs++rr) e1/\OM vs rr e1 E
theorem OM.app{ws rr:List V}{E:Em}:∀{vs:List V}{e e1:Em},OM vs (ws++rr) e e1->OM ws rr e1 E->OM (vs++ws) rr e E
 | [],e,e1,h,h'=>by obtain rfl:e1=e:=h;exact h'
 | v::vs,e,e1,h,h'=>by
  obtain⟨e2,h1,h2⟩:=h
  exact⟨e2,by show Lq e v ((vs++ws)++rr) e2;rw[lq];exact h1,OM.app h2 h'⟩
structure Vd(e:Em):Prop where
 f:N5 e 1000
 s:e.k.Jt.length < JL
 Jo:∃c,e.o.Jo=.bool c
 wd:e.o.wide=.nul
def MC(e:Em):Prop:=e.m.Js=.nul/\e.m.tag=.nul/\e.m.J0=.b .nul/\e.m.JE=.nul
def MP(e:Em)(Js tag:B)(sc:Bool)(val:Tx):Prop:=(e.m.Js=.nul∨e.m.Js=Js)/\(e.m.tag=.nul∨e.m.tag=tag)/\(e.m.J0=.b .nul∨(sc=true/\e.m.J0=J0 val e.o.wide))/\e.m.JE=.nul
theorem MC.mp(h:MC e):MP e Js tag sc val:=⟨.inl h.1,.inl h.2.1,.inl h.2.2.1,h.2.2.2⟩
theorem MP.o{E:Em}(h:MP e Js tag sc val)(hm:E.m=e.m)(ho:E.o=e.o):MP E Js tag sc val:=by unfold MP;rw[hm,ho];exact h
structure xx(Js tag:B)(imp:Bool):Prop where
 a:eR Js
 t:KD tag
 q:tag=.nul->imp=true
section
variable{E:Em}{n:Nat}{S:List V}{t:V}{r s m k:Bool}{fl:B}{i0 imp:Bool}
theorem Vd.ok(h:Vd e)(hq:q<=1000):e.ok q:=ke (mc hq _) h.f.ok
theorem Vd.Rr(h:Vd e):JI e.c.indent:=h.f.MD
theorem Vd.fit(h:Vd e)(hq:q<=1000):N5 e q:=⟨h.ok hq,h.f.col,h.f.ind,h.f.b0,h.f.b9,h.f.Ld⟩
theorem tS{s:Tx}:B.str s≠.nul:=λh=>Kb (kg isNul h:false=true)
theorem N5.take{r:List V}(h:N5 e q):N5 (e.take v r) q:=⟨h.ok,h.col,h.ind,h.b0,h.b9,h.Ld⟩
noncomputable def nsc(e:Em)(r s m k:Bool)(Js tag:B)(i0 i1:Bool)(val:Tx)(JE:B)(S:List V)(t:V):Em:=((((e.ctx r s m k).Kn Js).PW tag i0 i1 val JE).Lb val (strOf (bD (e.ctx r s m k) val JE i0))).pop S t
theorem Ex(h:val.length<=8):eV val+2<=1000:=by
 unfold eV
 have:=Nat.mul_le_mul (Se h 4) (Se h 2)
 lia
theorem AQ(hv:Vd e)(hl:val.length<=8)(ha:eR Js)(hT:KD tag)(hs:d8 JE)(hq:Nv e.o.Jo tag (bD (e.ctx r s m k) val JE i0) i0 i1=false->Pr tag i0≠.nul)(hE:isStr (bD (e.ctx r s m k) val JE i0) [34]=true->dW .nul val)(hB:(strOf (bD (e.ctx r s m k) val JE i0)==[34]||strOf (bD (e.ctx r s m k) val JE i0)==[39])=false->strOf (bD (e.ctx r s m k) val JE i0)=[]/\iA val)(hm:MP e Js tag true val)(hS:e.k.Jt=S++[t])(ht:ae t=false):NR (OS Js tag i0 i1 val JE) nx r s m k e (nsc e r s m k Js tag i0 i1 val JE S t):=by
 refine⟨rfl,λd g rr hr Nb hp=>?_⟩
 refine yq (e:=e.take (OS Js tag i0 i1 val JE) rr) (g:=g) d r s m k U ha hm.1 hT hm.2.1 hm.2.2.2 (hm.2.2.1.imp id λh=>h.2) hs (li hl (by decide)) hq hp (hv.fit (Ex hl)).take (λh=>?_) hB hS ht λx h=>⟨x,h⟩
 rw[show(e.take (OS Js tag i0 i1 val JE) rr).o.wide=.nul from hv.wd]
 exact hE h
theorem EU(hv:Vd e)(ha:i5 a)(hl:a.length < 128)(hm:e.m.Js=.nul∨e.m.Js=.str a)(hS:e.k.Jt=S++[t])(ht:ae t=false):NR (alV (.str a)) nx r s m k e ((((e.ctx r s m k).W (e.w.MB [42] (.str a))).M (e.m.JQ .nul)).pop S t):=
 ⟨rfl,λd g rr J J J=>⟨[],by rw[mh];exact yt (e:=e.take (alV (.str a)) rr) (g:=g) (d+2) r s m k U ha hl hm (hv.ok (by decide)) hS ht⟩⟩
noncomputable def gV(e:Em)(fl:B)(x:Bool):Bool:=(e.c.lvl != 0)||(e.o.Jo.truth||(fl.truth||x))
theorem AE(h:xx Js tag imp){Jo:B}:NN Jo tag imp=false->tag≠.nul:=by
 intro hq ht
 have:=h.q ht
 subst ht this
 unfold NN at hq
 cases hc:Jo.truth <;> rw[hc]at hq <;> exact Kb hq.symm
noncomputable def nsq(e:Em)(r s m k:Bool)(Js tag:B)(imp:Bool)(q:Bool):Em:=bif q then(((e.ctx r s m k).Kn Js).J3 tag imp).Nx 91 14 else(((e.ctx r s m k).Kn Js).J3 tag imp).Ny (m&&!(((e.ctx r s m k).Kn Js).J3 tag imp).w.ind) 22
noncomputable def nmp(e:Em)(r s m k:Bool)(Js tag:B)(imp:Bool)(q:Bool):Em:=bif q then(((e.ctx r s m k).Kn Js).J3 tag imp).Nx 123 17 else(((e.ctx r s m k).Kn Js).J3 tag imp).Ny false 25
theorem AP(hv:N5 e 3)(ok:xx Js tag imp)(hm:MP e Js tag false val):NR (NZ 10 Js tag imp fl) nx r s m k e (nsq e r s m k Js tag imp (gV e fl (aF 11 nx))):=by
 refine⟨by unfold nsq;cases gV e fl (aF 11 nx) <;> rfl,λd g rr hr hl hp=>?_⟩
 have hh:aF 11 rr=aF 11 nx:=hl.1 (by show JZ [10] 10=true;decide +kernel)
 refine yp (e:=e.take (NZ 10 Js tag imp fl) rr) (g:=g) (d+3) r s m k U ok.a hm.1 ok.t hm.2.1 (AE ok) hp hr hv.take λx h=>⟨x,h.trans ?_⟩
 have hf:(e.take (NZ 10 Js tag imp fl) rr).QZ fl 11=gV e fl (aF 11 nx):=by rw[<- hh];rfl
 rw[hf]
 unfold nsq
 cases gV e fl (aF 11 nx) <;> rfl
theorem AR(hv:N5 e 3)(ok:xx Js tag imp)(hm:MP e Js tag false val):NR (NZ 12 Js tag imp fl) nx r s m k e (nmp e r s m k Js tag imp (gV e fl (aF 13 nx))):=by
 refine⟨by unfold nmp;cases gV e fl (aF 13 nx) <;> rfl,λd g rr hr hl hp=>?_⟩
 have hh:aF 13 rr=aF 13 nx:=hl.2 (by show JZ [12] 12=true;decide +kernel)
 refine yr (e:=e.take (NZ 12 Js tag imp fl) rr) (g:=g) (d+3) r s m k U ok.a hm.1 ok.t hm.2.1 (AE ok) hp hr hv.take λx h=>⟨x,h.trans ?_⟩
 have hf:(e.take (NZ 12 Js tag imp fl) rr).QZ fl 13=gV e fl (aF 13 nx):=by rw[<- hh];rfl
 rw[hf]
 unfold nmp
 cases gV e fl (aF 13 nx) <;> rfl
end
noncomputable def B1:V->Nat | .JA j _=>j | _=>0
structure Hd(n:Nd):Prop where
 ok:n.Ok
 k:n.k=8∨n.k=9∨n.k=10∨n.k=12
theorem Hd.no{n:Nd}(h:Hd n):JZ [11] n.k=false/\JZ [13] n.k=false:=by
 rcases h.k with h | h | h | h <;> rw[h] <;> exact⟨by decide +kernel,by decide +kernel⟩
section
variable{E:Em}{n:Nd}{m:Nat}{f:Fn}{b:Bool}
theorem Lq.of(hs:e.k.state=.JA j 2)(hj:j≠4/\j≠6)(hf:gx[j]?=some f)(hw:aM f [.ref 2] []=some vs)(hp:E.m.Lo=e.m.Lo)(h:∀d g rr,Mx rr->Lk v rr nx->bn e g->bm (d+11) j vs (e.take v rr) g (E.take v rr)):Lq e v nx E:=λd g rr hr hl hP=>by
 have hP:bn e g:=by
  rcases hP with(h | h) | h
  ·rw[hs]at h;exact absurd (kg B1 h) hj.1
  ·rw[hs]at h;exact absurd (kg B1 h) hj.2
  ·exact h
 obtain⟨x,hx⟩:=h d g rr hr hl hP
 refine⟨j,f,vs,x,hs,hf,hw,hx,.inr ?_⟩
 exact uE (by obtain⟨i,h1,h2⟩:=hP;exact⟨i,hp.trans h1,h2⟩)
theorem D9(hs:e.k.state=.JA 22 2)(hn:Hd n)(hv:Vd e)(h:NR n.V nx false true false false ((e.JH.sgn [45] true false true).push 23) E):Lq e n.V nx E:=
 .of hs ⟨by decide,by decide⟩ U U h.1 λd g rr hr hl hp=>Hx (e:=e.take n.V rr) (d:=d+10) (Hw (e:=e.take n.V rr) (d:=d+6) true U U hv.Rr hv.f.col (hv.ok (by decide)) hv.s (h.2 (d+2) g rr hr hl hp))
theorem BV(hs:e.k.state=.JA 23 2){S:List V}{t:V}(hI:e.k.Jw=I++[.b x])(hS:e.k.Jt=S++[t])(ht:ae t=false):Lq e (Ko 11) nx (e.clo x I S t):=
 .of hs ⟨by decide,by decide⟩ U U U λd g rr hr hl hp=>F1 (e:=e.take (Ko 11) rr) (d:=d+10) U (by decide +kernel) hI hS ht
theorem BU(hs:e.k.state=.JA 26 2){S:List V}{t:V}(hI:e.k.Jw=I++[.b x])(hS:e.k.Jt=S++[t])(ht:ae t=false):Lq e (Ko 13) nx (e.clo x I S t):=
 .of hs ⟨by decide,by decide⟩ U U U λd g rr hr hl hp=>F0 (e:=e.take (Ko 13) rr) (d:=d+10) U (by decide +kernel) hI hS ht
theorem ow{w:B}(h:Lk n.V rr nx):n.key w rr=n.key w nx:=by
 have h1:(JZ [10] n.k&&aF 11 rr)=(JZ [10] n.k&&aF 11 nx):=by cases hk:JZ [10] n.k with | true=>exact h.1 hk | false=>rfl
 have h2:(JZ [12] n.k&&aF 13 rr)=(JZ [12] n.k&&aF 13 nx):=by cases hk:JZ [12] n.k with | true=>exact h.2 hk | false=>rfl
 unfold Nd.key
 rw[h1,h2]
noncomputable def k26(e:Em)(n:Nd)(b:Bool):Em:=bif b then(e.JH.M (n.ms e.o.wide e.m)).push 27 else((e.JH.M (n.ms e.o.wide e.m)).sgn [63] true false true).push 28
theorem yN(first:Bool){g:List Ob}(hn:Hd n)(hv:Vd e)(hm:MC e)(hb:n.key e.o.wide nx=b)(h:NR n.V nx false false true b (k26 e n b) E)(hr:Mx rr)(hl:Lk n.V rr nx)(hp:bn e g):bm (d+10) 26 [.ref 2,.o first] (e.take n.V rr) g (E.take n.V rr):=by
 refine Hu (e:=e.take n.V rr) (d:=d+6) first (n:=n) U (by rw[hn.no.2];exact Sp _) hv.Rr hv.f.col (hv.ok (by decide)) hv.s hn.ok hr hp (.inl hm.1) (.inl hm.2.1) (.inl hm.2.2.1) ?_ ?_
 ·intro hk x
  have hk:n.key e.o.wide rr=true:=hk
  rw[ow hl,hb]at hk
  subst hk
  exact h.2 (d+2) (g++x) rr hr hl (uE hp)
 ·intro hk x
  have hk:n.key e.o.wide rr=false:=hk
  rw[ow hl,hb]at hk
  subst hk
  exact h.2 (d+2) (g++x) rr hr hl (uE hp)
theorem yO:(k26 e n b).m.Lo=e.m.Lo:=by cases b <;> rfl
theorem D8(hs:e.k.state=.JA 25 2)(hn:Hd n)(hv:Vd e)(hm:MC e)(hb:n.key e.o.wide nx=b)(h:NR n.V nx false false true b (k26 e n b) E):Lq e n.V nx E:=
 .of hs ⟨by decide,by decide⟩ U U (h.1.trans yO) λd g rr hr hl hp=>Hv (e:=e.take n.V rr) (d:=d+10) (yN true hn hv hm hb h hr hl hp)
theorem D7(hs:e.k.state=.JA 27 2)(hv:Vd e)(h:NR v nx false false true false ((e.sgn [58] false false false).push 26) E):Lq e v nx E:=
 .of hs ⟨by decide,by decide⟩ U U h.1 λd g rr hr hl hp=>Ht (e:=e.take v rr) (d:=d+8) (hv.ok (by decide)) hv.s (h.2 (d+3) g rr hr hl hp)
theorem fM:(e.take v rr).JX=e.JX.take v rr:=by unfold Em.JX;show(bif e.o.Jo.truth||decide (e.o.bw < e.w.col) then(e.take v rr).JH else e.take v rr)=_;cases e.o.Jo.truth||decide (e.o.bw < e.w.col) <;> rfl
theorem fN:e.JX.m=e.m:=(cU e).2.2.1
theorem Ef(hs:e.k.state=.JA 14 2)(hn:Hd n)(hv:Vd e)(h:NR n.V nx false true false false (e.JX.push 15) E):Lq e n.V nx E:=
 .of hs ⟨by decide,by decide⟩ U U (h.1.trans (kg Ms.Lo fN)) λd g rr hr hl hp=>HE (e:=e.take n.V rr) (d:=d+7) U hn.no.1 hv.Rr hv.f.col (hv.ok (by decide)) hv.s (by rw[fM];exact h.2 (d+3) g rr hr hl (fO hp))
theorem Ee(hs:e.k.state=.JA 15 2)(hn:Hd n)(hv:Vd e)(h:NR n.V nx false true false false ((e.sgn [44] false false false).JX.push 15) E):Lq e n.V nx E:=
 .of hs ⟨by decide,by decide⟩ U U (h.1.trans (kg Ms.Lo (fN (e:=e.sgn [44] false false false)))) λd g rr hr hl hp=>HD (e:=e.take n.V rr) (d:=d+7) U hn.no.1 hv.Rr hv.f.col (hv.ok (by decide)) hv.s (by rw[show(e.take n.V rr).sgn [44] false false false=(e.sgn [44] false false false).take n.V rr from rfl,fM];exact h.2 (d+3) g rr hr hl (fO (e:=e.sgn [44] false false false) hp))
theorem Eb(hs:e.k.state=.JA 19 2)(hv:Vd e)(h:NR v nx false false true false ((e.sgn [58] false false false).push 18) E):Lq e v nx E:=
 .of hs ⟨by decide,by decide⟩ U U h.1 λd g rr hr hl hp=>HA (e:=e.take v rr) (d:=d+8) (hv.ok (by decide)) hv.s (h.2 (d+3) g rr hr hl hp)
theorem Ea(hs:e.k.state=.JA 20 2)(hv:Vd e)(h:NR v nx false false true false ((e.JX.sgn [58] true false false).push 18) E):Lq e v nx E:=
 .of hs ⟨by decide,by decide⟩ U U (h.1.trans (kg Ms.Lo fN)) λd g rr hr hl hp=>Hz (e:=e.take v rr) (d:=d+7) hv.Rr hv.f.col (hv.ok (by decide)) hv.s (by rw[fM];exact h.2 (d+3) g rr hr hl (fO hp))
theorem BZ(hs:e.k.state=.JA 14 2)(hv:Vd e){S:List V}{t:V}(hI:e.k.Jw=I++[.b x])(hS:e.k.Jt=S++[t])(ht:ae t=false):Lq e (Ko 11) nx (((e.J8 x I).sgn [93] false false false).pop S t):=
 .of hs ⟨by decide,by decide⟩ U U U λd g rr hr hl hp=>F6 (e:=e.take (Ko 11) rr) (d:=d+8) U (by decide +kernel) (hv.ok (by decide)) hI hS ht
theorem BX(hs:e.k.state=.JA 17 2)(hv:Vd e){S:List V}{t:V}(hI:e.k.Jw=I++[.b x])(hS:e.k.Jt=S++[t])(ht:ae t=false):Lq e (Ko 13) nx (((e.J8 x I).sgn [125] false false false).pop S t):=
 .of hs ⟨by decide,by decide⟩ U U U λd g rr hr hl hp=>F4 (e:=e.take (Ko 13) rr) (d:=d+8) U (by decide +kernel) (hv.ok (by decide)) hI hS ht
theorem BY(hs:e.k.state=.JA 15 2)(hv:Vd e){S:List V}{t:V}(hx:JI x)(hI:e.k.Jw=I++[.b x])(hS:e.k.Jt=S++[t])(ht:ae t=false):Lq e (Ko 11) nx ((((e.J8 x I).cm).sgn [93] false false false).pop S t):=
 .of hs ⟨by decide,by decide⟩ U U (kg Ms.Lo (fY (e.J8 x I)).2.2.1) λd g rr hr hl hp=>by
  have h:=F5 (e:=e.take (Ko 11) rr) (g:=g) (d:=d+7) U (by decide +kernel) hx hv.f.col (hv.ok (by decide)) hI hS ht
  rw[show((e.take (Ko 11) rr).J8 x I).cm=((e.J8 x I).cm).take (Ko 11) rr by unfold Em.cm;show(bif e.o.Jo.truth then _ else _)=Em.take (bif e.o.Jo.truth then _ else _) _ _;cases e.o.Jo.truth <;> rfl]at h
  exact h
theorem BW(hs:e.k.state=.JA 18 2)(hv:Vd e){S:List V}{t:V}(hx:JI x)(hI:e.k.Jw=I++[.b x])(hS:e.k.Jt=S++[t])(ht:ae t=false):Lq e (Ko 13) nx ((((e.J8 x I).cm).sgn [125] false false false).pop S t):=
 .of hs ⟨by decide,by decide⟩ U U (kg Ms.Lo (fY (e.J8 x I)).2.2.1) λd g rr hr hl hp=>by
  have h:=F3 (e:=e.take (Ko 13) rr) (g:=g) (d:=d+7) U (by decide +kernel) hx hv.f.col (hv.ok (by decide)) hI hS ht
  rw[show((e.take (Ko 13) rr).J8 x I).cm=((e.J8 x I).cm).take (Ko 13) rr by unfold Em.cm;show(bif e.o.Jo.truth then _ else _)=Em.take (bif e.o.Jo.truth then _ else _) _ _;cases e.o.Jo.truth <;> rfl]at h
  exact h
noncomputable def QM(e:Em)(n:Nd)(b:Bool):Em:=bif b then(e.JX.Mm n).push 19 else((e.JX.Mm n).sgn [63] true false false).push 20
theorem yL(e:Em)(n:Nd):(e.Mm n).m.Lo=e.m.Lo:=by unfold Em.Mm;cases e.o.Jo.truth <;> rfl
theorem kI:(QM e n b).m.Lo=e.m.Lo:=by
 have h:(e.JX.Mm n).m.Lo=e.m.Lo:=(yL e.JX n).trans (kg Ms.Lo fN)
 cases b <;> exact h
theorem qd{g:List Ob}(hv:Vd e)(hb:(!e.o.Jo.truth&&n.key e.o.wide nx)=b)(h:NR n.V nx false false true b (QM e n b) E)(hr:Mx rr)(hl:Lk n.V rr nx)(hp:bn e g) :
  ((e.take n.V rr).kb n=true->∀x,bm (d+7) 10 (cC false false true true) (((e.take n.V rr).JX.Mm n).push 19) (g++x) (E.take n.V rr))/\((e.take n.V rr).kb n=false->∀x,bm (d+7) 10 (cC false false true false) ((((e.take n.V rr).JX.Mm n).sgn [63] true false false).push 20) (g++x) (E.take n.V rr)):=by
 have hq:∀x,bn (QM e n b) (g++x):=λx=>by
  obtain⟨i,h1,h2⟩:=uE (x:=x) hp
  exact⟨i,kI.trans h1,h2⟩
 have ek:(e.take n.V rr).kb n=b:=by
  rw[<- hb]
  show(!e.o.Jo.truth&&n.key e.o.wide rr)=_
  rw[ow hl]
 rw[ek,fM,show(e.JX.take n.V rr).Mm n=(e.JX.Mm n).take n.V rr by unfold Em.Mm;show(bif e.JX.o.Jo.truth then _ else _)=_;cases e.JX.o.Jo.truth <;> rfl]
 refine⟨λhk x=>?_,λhk x=>?_⟩
 ·subst hk;exact h.2 d (g++x) rr hr hl (hq x)
 ·subst hk;exact h.2 d (g++x) rr hr hl (hq x)
theorem Ed(hs:e.k.state=.JA 17 2)(hn:Hd n)(hv:Vd e)(hm:MC e)(hb:(!e.o.Jo.truth&&n.key e.o.wide nx)=b)(h:NR n.V nx false false true b (QM e n b) E):Lq e n.V nx E:=
 .of hs ⟨by decide,by decide⟩ U U (h.1.trans kI) λd g rr hr hl hp=>
  have hk:=qd (d:=d+3) hv hb h hr hl hp
  HC (e:=e.take n.V rr) (d:=d+7) (n:=n) U hn.no.2 hv.Rr hv.f.col (hv.ok (by decide)) hv.s hn.ok hr hp (.inl hm.1) (.inl hm.2.1) (.inl hm.2.2.1) hk.1 hk.2
theorem Ec(hs:e.k.state=.JA 18 2)(hn:Hd n)(hv:Vd e)(Of:Vd (e.sgn [44] false false false))(hm:MC e)(hb:(!e.o.Jo.truth&&n.key e.o.wide nx)=b)(h:NR n.V nx false false true b (QM (e.sgn [44] false false false) n b) E):Lq e n.V nx E:=
 .of hs ⟨by decide,by decide⟩ U U (h.1.trans (kI (e:=e.sgn [44] false false false))) λd g rr hr hl hp=>
  have hk:=qd (e:=e.sgn [44] false false false) (d:=d+3) Of hb h hr hl hp
  HB (e:=e.take n.V rr) (d:=d+7) (n:=n) U hn.no.2 hv.Rr hv.f.col (hv.ok (by decide)) hv.s hn.ok hr hp (.inl hm.1) (.inl hm.2.1) (.inl hm.2.2.1) hk.1 hk.2
end
def Q8(x:B):Prop:=x=.nul∨∃i:Int,x=.int i/\0<=i/\i<=60
theorem Q8.le(h:Q8 x):0<=ar x/\ar x<=60:=by
 rcases h with rfl | ⟨i,rfl,h1,h2⟩
 ·exact⟨by decide,by decide⟩
 ·exact⟨h1,h2⟩
theorem Q8.ind(h:Q8 x):JI x:=h.imp id λ⟨i,h,_,h2⟩=>⟨i,h,Ta h2 (by decide)⟩
structure P1(p:Pm)(n:Nat)(x:B)(I S:List V)(lv:Int)(e:Em):Prop where
 o:e.o=p.o
 ix:e.c.indent=x
 xi:Q8 x
 lv:e.c.lvl=lv
 i:e.k.Jw=I
 s:e.k.Jt=S
 c0:0<=e.w.col
 r:e.w.rows.length+1000*n<=JL
 b:S.length+n<=4000/\I.length+n<=4000
structure A1(p:Pm)(n:Nat)(x:B)(t:V)(I S:List V)(lv:Int)(e:Em):Prop where
 p:P1 p n x I S lv e
 m:MC e
 t:e.k.state=t
def On(vs:List V)(e:Em)(Q:Em->Prop):Prop:=∀x,∃E,OM vs x e E/\Q E
theorem On.app{R:Em->Prop}(h:On vs e R)(k:∀E,R E->On ws E Q):On (vs++ws) e Q:=λx=>by
 obtain⟨E,h0,h2⟩:=h (ws++x)
 obtain⟨F,k0,k2⟩:=k E h2 x
 exact⟨F,h0.app k0,k2⟩
theorem On.one(h:∀nx,∃E,Lq e v nx E/\Q E):On [v] e Q:=λx=>by
 obtain⟨E,h1,h2⟩:=h x
 exact⟨E,⟨E,h1,rfl⟩,h2⟩
section
variable{n:Nat}{S:List V}{E:Em}{t:V}
theorem P1.vd(h:P1 p (n+1) x I S lv e)(pk:bI p):Vd e:=by
 have r:=h.r
 have b:=h.b
 refine⟨⟨by show e.w.rows.length+1000<=JL;lia,h.c0,?_,by rw[h.o];exact Ta (by decide) pk.b2,by rw[h.o];exact pk.b9,by rw[h.i];exact li (show I.length<=4000 by lia) (by decide)⟩,by rw[h.s];exact li (show S.length<=4000 by lia) (by decide),h.o▸pk.Jo,h.o▸pk.wd⟩
 rw[h.ix]
 exact h.xi.imp id λ⟨i,h1,_,h2⟩=>⟨i,h1,Ta h2 (by decide)⟩
theorem P1.dn(h:P1 p (n+q) x I S lv e):P1 p n x I S lv e:=⟨h.o,h.ix,h.xi,h.lv,h.i,h.s,h.c0,by have:=h.r;lia,by have:=h.b;lia⟩
theorem A1.dn(h:A1 p (n+q) x t I S lv e):A1 p n x t I S lv e:=⟨h.p.dn,h.m,h.t⟩
theorem A1.le(h:A1 p N x t I S lv e)(hn:n<=N):A1 p n x t I S lv e:=by obtain⟨k,rfl⟩:=Nat.exists_eq_add_of_le hn;exact h.dn
theorem P1.Pw(h:P1 p (n+1) x I S lv e){u:Wr}(m:Ms)(g:Gr e.w u 1000)(j:Nat):P1 p n x I (S++[.JA j 2]) lv (((e.W u).M m).push j):=
 ⟨h.o,h.ix,h.xi,h.lv,h.i,kg (·++_) h.s,g.1 h.c0,by have:=g.2;have:=h.r;show u.rows.length+_<=_;lia,by have:=h.b;rw[ku];show S.length+1+n<=4000/\_;lia⟩
theorem vT(e:Em):e.JX=e.W (e.w.JX e.o (ar e.c.indent)):=by
 unfold Em.JX Wr.JX
 cases e.o.Jo.truth||decide (e.o.bw < e.w.col) <;> rfl
theorem oD(w:Wr)(o:Op)(i:Int):Gr w (w.JX o i) 2:=by
 unfold Wr.JX
 cases o.Jo.truth||decide (o.bw < w.col) with
 | true=>exact bZ w i _
 | false=>exact .refl
end
noncomputable abbrev Tq:=Bool->Int->Bool->Int->Tx
noncomputable def bc(a:Bool):B:=bif a then .str [97] else .nul
noncomputable def aT(g:Bool):B:=bif g then .str [33,116] else .nul
noncomputable def j9(a g:Bool):Tx:=(bif a then [38,97,32] else [])++(bif g then [33,116,32] else [])
def NT(sm rt:Bool)(h c:Nat)(vs:List V)(tx:Tq)(ky:Bool):Prop:=∃n tl,vs=n.V::tl/\Hd n/\(∀x,n.key .nul (tl++x)=ky)/\18*vs.length<=c/\(∀Jo bi sk,2<=bi->TO (sm&&!Jo) (tx Jo bi sk))/\
 ∀p N m x I S lv st r s mp k e X u,bI p->(p.KQ=true->sm=true)->P1 p (N+2*tl.length+1) x I (S++[.JA st 2]) lv e->ar x+9*h<=60->(rt=true∨((lv != 0)=true/\r=false))->0<=lv->MP e n.Js n.tag n.sc n.val->RP p (m+c) e.w X u->
  ∀y,∃M,NR n.V (tl++y) r s mp k e M/\∃E,OM tl y M E/\A1 p N x (.JA st 2) I S lv E/\RN p m E.w (X++(sp u++tx p.o.Jo.truth p.o.bi k (ar x))) false
section
variable{n m:Nat}{S:List V}{E:Em}{X:Tx}{a g:Bool}
theorem oU(a:Bool):eR (bc a):=by
 cases a
 ·exact .inl U
 ·exact .inr ⟨[97],rfl,⟨(λh=>nomatch h),by decide⟩,by show 1 < 128;decide⟩
theorem nM(g:Bool):KD (aT g):=by
 cases g
 ·exact .inl U
 ·exact .inr ⟨[33,116],rfl,.inr ⟨116,rfl,by decide⟩⟩
theorem RP.pre(h:RP p (m+6) w X u)(a g:Bool):∃X' u',RP p m ((w.MB [38] (bc a)).tg (!g) (aT g)) X' u'/\∀s:Tx,X'++(sp u'++s)=X++(sp u++(j9 a g++s)):=by
 have A:∃X1 u1,RP p (m+3) (w.MB [38] (bc a)) X1 u1/\∀s:Tx,X1++(sp u1++s)=X++(sp u++((bif a then [38,97,32] else [])++s)):=by
  cases a with
  | false=>exact⟨X,u,h.le (by lia),λs=>rfl⟩
  | true=>
   refine⟨_,_,(RP.sgn (n:=m+3) (k:=3) (s:=[38,97]) (Kt:=false) h (mf 3) (Jz.cons U (Jz.cons U .nil)) ⟨38,[97],rfl,rfl,rfl⟩ ⟨rfl,rfl⟩).rp,λs=>?_⟩
   rw[lq,lq];rfl
 obtain⟨X1,u1,h1,e1⟩:=A
 cases g with
 | false=>exact⟨X1,u1,h1.le (by lia),λs=>by rw[e1];unfold j9;rw[lq];rfl⟩
 | true=>
  refine⟨_,_,(RP.sgn (n:=m) (k:=3) (s:=[33,116]) (Kt:=false) h1 (mf 3) (Jz.cons U (Jz.cons U .nil)) ⟨33,[116],rfl,rfl,rfl⟩ ⟨rfl,rfl⟩).rp,λs=>?_⟩
  rw[lq,lq,e1]
  unfold j9
  rw[lq];rfl
theorem uA(a g:Bool):TO z λJ=>j9 a g:=TO.cst (by cases a <;> cases g <;> (show ∀c∈_,iG c=false) <;> decide)
noncomputable def QH(Js tag:B)(i0 i1:Bool)(val:Tx)(JE:B):Nd:=⟨9,[(96,Js),(97,tag),(98,.bb i0 i1),(99,.str val),(108,.nul),(109,.nul),(91,JE)],Js,tag,true,val⟩
noncomputable def ndA(a:Tx):Nd:=⟨8,[(96,.str a),(108,.nul),(109,.nul)],.str a,.nul,false,[]⟩
noncomputable def Px(c:Nat)(Js tag:B)(imp:Bool)(fl:B):Nd:=⟨c,[(96,Js),(97,tag),(98,.bool imp),(108,.nul),(109,.nul),(95,fl)],Js,tag,false,[]⟩
theorem Fs{i0:Bool}(ha:eR Js)(ht:KD tag)(hl:val.length<=8):Hd (QH Js tag i0 i1 val JE):=
 ⟨⟨by show JZ [1] 9=true;decide +kernel,rfl,ha,λJ=>rfl,λh=>Kb (((by decide +kernel:JZ [9,2] 9=true).symm.trans h).symm),ht,by show JZ [9] 9=true;decide +kernel,λJ=>rfl,li hl (by decide)⟩,.inr (.inl U)⟩
theorem HZ{a:Tx}(ha:i5 a)(hl:a.length < 128):Hd (ndA a):=
 ⟨⟨by show JZ [1] 8=true;decide +kernel,rfl,.inr ⟨a,rfl,ha,hl⟩,λh=>Kb ((by decide +kernel:JZ [9,2] 8=false).symm.trans h),λJ=>rfl,.inl U,by show JZ [9] 8=false;decide +kernel,Kb,by show 0 < 390;decide⟩,.inl U⟩
theorem HY{fl:B}{imp:Bool}(hc:c=10∨c=12)(ok:xx Js tag imp):Hd (Px c Js tag imp fl):=by
 have k1:JZ [1] c=true:=by rcases hc with rfl | rfl <;> decide +kernel
 have k2:JZ [9,2] c=true:=by rcases hc with rfl | rfl <;> decide +kernel
 have k3:JZ [9] c=false:=by rcases hc with rfl | rfl <;> decide +kernel
 exact⟨⟨k1,rfl,ok.a,λJ=>rfl,λh=>Kb ((k2.symm.trans h).symm),ok.t,k3,Kb,by show 0 < 390;decide⟩,.inr (.inr (hc.imp id id))⟩
theorem ou{n:Nd}(h1:JZ [10] n.k=false)(h2:JZ [12] n.k=false)(w:B)(x y:List V):n.key w x=n.key w y:=by unfold Nd.key;rw[h1,h2];rfl
theorem ET:NT sm false h 18 [alV (.str [121])] (λJ J J J=>[42,121]) true:=by
 have ha:i5 [121]:=⟨(λh=>nomatch h),by decide⟩
 refine⟨ndA [121],[],rfl,HZ ha (by decide),λx=>(ou (by show JZ [10] 8=false;decide +kernel) (by show JZ [12] 8=false;decide +kernel) _ _ []).trans (by decide +kernel),mf 18,λJ J J J=>TO.cst (Jz.cons U (Jz.cons U .nil)),λp N m x I S lv st r s mp k e X u pk J h hh hr hl hm hw y=>?_⟩
 refine⟨_,EU (h.vd pk) ha (by decide) hm.1 h.s U,_,rfl,⟨⟨h.o,h.ix,h.xi,h.lv,h.i,rfl,(e9 e.w [42] (.str [121])).1 h.c0,?_,?_⟩,⟨rfl,hm.2.1.elim id id,hm.2.2.1.elim id λh=>Kb h.1,hm.2.2.2⟩,rfl⟩,?_⟩
 ·have:=h.r;have:=(e9 e.w [42] (.str [121])).2
  show(e.w.MB [42] (.str [121])).rows.length+_<=_;lia
 ·have:=h.b;rw[ku]at this;lia
 ·exact RP.sgn (n:=m) (k:=18) (s:=[42,121]) (Kt:=false) hw (by decide) (Jz.cons U (Jz.cons U .nil)) ⟨42,[121],rfl,rfl,rfl⟩ ⟨rfl,rfl⟩
theorem qj{t:Tx}{ind bi:Int}{r:Bool}{wide:B}(hl:t.length<=8):Gr w (w.Lb t s ind bi bw lb sk r wide) 900:=by
 have h9:t.length+1<=9:=mn hl
 unfold Wr.Lb
 cases s==[34] with
 | true=>exact(((aY w [34] true false false).trans (oJ t ind lb bw (!sk) wide (w.sgn [34] true false false) (t.length+1)).2).trans (aY _ [34] false false false)).le (by lia)
 | false=>
  cases s==[39] with
  | true=>
   have g:=nP t ind lb bw (!sk) (w.sgn [39] true false false) t.length (mf _)
   exact(((aY w [39] true false false).trans (g.2.trans (nO t ind lb bw (!sk) t.length _ g.1).1)).trans (aY (Oy t ind lb bw (!sk) (w.sgn [39] true false false) (t.length+1)).w [39] false false false)).le (by have:=Nat.mul_le_mul (show t.length+4<=12 by lia) hl;lia)
  | false=>
   show Gr w (w.OA t ind bw lb (!sk) r) 900
   unfold Wr.OA
   cases t.isEmpty with
   | true=>exact⟨id,lu _ _⟩
   | false=>
    have hg:Gr w (w.M5 r).gap.off 1:=by
     unfold Wr.gap
     show Gr w (bif w.ws then w.M5 r else(w.M5 r).raw [32]).off 1
     cases w.ws with
     | true=>exact⟨id,mw _⟩
     | false=>exact⟨(bY w [32]).1,(bY w [32]).2⟩
    exact(hg.trans (oB (p:=OI.w) (λi s=>pM t ind lb bw (!sk) i s) ⟨(w.M5 r).gap.off,false,0⟩ (t.length+1))).le (by lia)
end
theorem Fp{bi:Int}(h:Q8 x):ar (fK x bi true false)=ar x+bi:=by
 rcases h with rfl | ⟨i,rfl,_⟩
 ·exact(S2 bi).symm
 ·rfl
section
variable{n m:Nat}{S:List V}{E:Em}{X:Tx}{a g:Bool}{v:Tx}
theorem D4{r s mp k i0:Bool}(pk:bI p)(hc:p.o.Jo=.bool Jo)(h:P1 p n x I S lv e)(hl:(lv != 0)=true):bD (e.ctx r s mp k) v JE i0=dF Jo k i0 v JE:=by
 unfold bD
 show jR JE i0 e.o.Jo.truth (e.c.lvl != 0) k (MV v) (MU v e.o.wide) (Pj v e.o.wide) (Pk v e.o.wide) (Ph v e.o.wide) (Pn v e.o.wide)=_
 rw[h.o,h.lv,hl,hc,pk.wd];rfl
theorem yg(cb:B)(z:Tx)(g:Bool):Nv cb (aT g) (.str z) (!g) (!g)=!g:=by
 unfold Nv
 cases g with
 | true=>show(_&&((isStr (.str z) []&&false)||(!isStr (.str z) []&&false)))=false;rw[Sp,Sp];exact Sp _
 | false=>
  show((!cb.truth||true)&&((isStr (.str z) []&&true)||(!isStr (.str z) []&&true)))=true
  rw[S5]
  cases isStr (.str z) [] <;> rfl
theorem Hn(w:Wr)(g:Bool):w.tg (!g) (Pr (aT g) (!g))=w.tg (!g) (aT g):=by cases g <;> rfl
theorem sM{s:B}(hz:∃q,s=.str q)(h:jh s v z=true):(isStr s [34]=true->dW .nul v)/\((strOf s==[34]||strOf s==[39])=false->strOf s=[]/\iA v):=by
 obtain⟨q,rfl⟩:=hz
 unfold jh at h
 refine⟨λe=>?_,λe=>?_⟩
 ·rw[e]at h;exact kX (ly h).1
 ·obtain⟨e1,e2⟩:=Bool.or_eq_false_iff.mp e
  have e1:isStr (.str q) [34]=false:=e1
  have e2:isStr (.str q) [39]=false:=e2
  rw[e1,e2]at h
  obtain⟨a,b⟩:=ly h
  have d:=(ly (ly b).2).2
  exact⟨kg strOf (dv a),λc hc=>lm (ma d c hc)⟩
theorem AO(hv:Qm sm v JE)(a g:Bool):NT sm false (h+1) 36 [OS (bc a) (aT g) (!g) (!g) v JE] (λJo bi k i=>j9 a g++QC Jo k (!g) v JE (i+bi)) (!MV v&&!MU v .nul):=by
 refine⟨QH (bc a) (aT g) (!g) (!g) v JE,[],rfl,Fs (oU a) (nM g) hv.l,λx=>(ou (by show JZ [10] 9=false;decide +kernel) (by show JZ [12] 9=false;decide +kernel) _ _ []).trans ?_,(by show 18*1<=36;decide),λJo bi k hb=>(uA a g).app (Et hv (by lia)),λp N m x I S lv st r s mp k e X u pk hs h hh hr hl hm hw y=>?_⟩
 ·unfold Nd.key
  show(decide ((QH (bc a) (aT g) (!g) (!g) v JE).len < 128)&&(JZ [8] 9||((true&&(!MV v&&!MU v .nul))||((JZ [10] 9&&_)||(JZ [12] 9&&_)))))=_
  have hl:(QH (bc a) (aT g) (!g) (!g) v JE).len < 128:=by
   have:=hv.l
   show LX (aT g) (LX (bc a) 0)+(v.length:Int) < 128
   have:LX (aT g) (LX (bc a) 0)<=3:=by cases a <;> cases g <;> decide
   lia
  rw[decide_eq_true hl,show JZ [8] 9=false by decide +kernel,show JZ [10] 9=false by decide +kernel,show JZ [12] 9=false by decide +kernel]
  show(true&&(false||((true&&(!MV v&&!MU v .nul))||false)))=_
  rw[Tg,Bool.false_or,Tg,Bool.or_false]
 ·obtain⟨Jo,hc⟩:=pk.Jo
  obtain⟨ND,rfl⟩:(lv != 0)=true/\r=false:=hr.resolve_left λh=>nomatch h
  have eS:bD (e.ctx false s mp k) v JE (!g)=dF Jo k (!g) v JE:=D4 pk hc h ND
  have hz:=(nN JE (!g) Jo true k (MV v) (MU v .nul) (Pj v .nul) (Pk v .nul) (Ph v .nul) (Pn v .nul) hv.s).2
  have hz:∃q,dF Jo k (!g) v JE=.str q:=hz
  have ck:=sM hz (hv.c Jo k (!g))
  have n0:=AQ (nx:=y) (r:=false) (s:=s) (m:=mp) (k:=k) (e:=e) (i0:=!g) (i1:=!g) (S:=S) (t:=.JA st 2) (h.vd pk) hv.l (oU a) (nM g) hv.s (by
   rw[eS]
   obtain⟨q,hq⟩:=hz
   rw[hq,yg]
   cases g with
   | true=>exact λJ=>tS
   | false=>exact λh=>Kb h.symm) (by rw[eS];exact ck.1) (by rw[eS];exact ck.2) hm h.s U
  refine⟨_,n0,_,rfl,?_⟩
  have ew:(nsc e false s mp k (bc a) (aT g) (!g) (!g) v JE S (.JA st 2)).w=((e.w.MB [38] (bc a)).tg (!g) (aT g)).Lb v (strOf (dF Jo k (!g) v JE)) (ar x+p.o.bi) p.o.bi p.o.bw p.o.lb k false .nul:=by
   show((e.w.MB [38] (bc a)).tg (Nv e.o.Jo (aT g) (bD (e.ctx false s mp k) v JE (!g)) (!g) (!g)) (Pr (aT g) (!g))).Lb v (strOf (bD (e.ctx false s mp k) v JE (!g))) (ar (fK e.c.indent e.o.bi true false)) e.o.bi e.o.bw e.o.lb k false e.o.wide=_
   rw[eS]
   obtain⟨q,hq⟩:=hz
   rw[hq,yg,Hn,h.ix,h.o,Fp h.xi,pk.wd]
  have gr:Gr e.w (nsc e false s mp k (bc a) (aT g) (!g) (!g) v JE S (.JA st 2)).w 1000:=by
   rw[ew];exact(((e9 e.w [38] (bc a)).trans (mV _ _ _)).trans (qj hv.l)).le (by decide)
  refine⟨⟨⟨h.o,h.ix,h.xi,h.lv,h.i,rfl,gr.1 h.c0,?_,?_⟩,⟨rfl,rfl,rfl,rfl⟩,rfl⟩,?_⟩
  ·have h1:=h.r;have h2:=gr.2;lia
  ·have:=h.b;rw[ku]at this;lia
  ·rw[ew]
   obtain⟨X',u',h1,h2⟩:=RP.pre (m:=m+30) (hw.le (by lia)) a g
   have b2:=pk.b2
   have xl:=h.xi.le
   have b9:=pk.b9
   have:=h1.Lb (sk:=k) (i0:=!g) (bi:=p.o.bi) pk hc hv hs (ind:=ar x+p.o.bi) (by lia) (by lia)
   rw[h2]at this
   have et:p.o.Jo.truth=Jo:=by rw[hc];rfl
   rw[et];exact this
noncomputable def Nl(Jo first:Bool)(i:Int)(b:Tx):Tx:=(bif first then [] else [44])++((bif Jo then 10::ap i else [])++(sp (Jo||first)++b))
noncomputable def PX(first:Bool)(a b:Nat):V:=bif first then .JA a 2 else .JA b 2
noncomputable def gA(first:Bool)(w:Wr):Wr:=bif first then w else w.sgn [44] false false false
theorem vF(first:Bool)(w:Wr):Gr w (gA first w) 1:=by
 cases first with
 | true=>exact .refl
 | false=>exact aY w [44] false false false
theorem RN.com(h:RN p (m+1) w X u)(hu:u=first):RN p m (gA first w) (X++(bif first then [] else [44])) first:=by
 subst hu
 cases u with
 | true=>exact(mh X).symm▸h.le (mw m)
 | false=>exact Ri.M0 (k:=1) (s:=[44]) (Kt:=false) h.r (mf 1) (Jz.cons U .nil) ⟨44,[],rfl,rfl,rfl⟩ ⟨rfl,rfl⟩
def IT(mp sm:Bool)(h c:Nat)(vs:List V)(bd:Bool->Int->Int->Tx):Prop:=(∃n tl,vs=Nd.V n::tl/\Hd n)/\18*vs.length<=c/\(∀Jo bi,2<=bi->TO (sm&&!Jo) λi=>bd Jo bi (i+bi))/\
 ∀p N m i I S lv first e X,bI p->(p.KQ=true->sm=true)->A1 p (N+2*vs.length) (.int i) (PX first (bif mp then 17 else 14) (bif mp then 18 else 15)) I S lv e->0 < i->i+9*h<=60->(lv != 0)=true->0<=lv->RN p (m+c) e.w X first->
  On vs e λE=>A1 p N (.int i) (.JA (bif mp then 18 else 15) 2) I S lv E/\RN p m E.w (X++Nl p.o.Jo.truth first i (bd p.o.Jo.truth p.o.bi i)) false
variable{i:Int}{first:Bool}{tx ty:Tq}
theorem F7(pk:bI p)(hi:0 < i)(h6:i<=60)(h:RN p (m+2) w X first):RP p m ((gA first w).JX p.o i) (Q0 p.o.Jo.truth (X++(bif first then [] else [44])) i) (p.o.Jo.truth||first):=(RN.com (m:=m+1) h U).JX pk (SN hi) h6
theorem C2{b:Tx}:Q0 Jo (X++(bif first then [] else [44])) i++(sp (Jo||first)++b)=X++Nl Jo first i b:=by
 unfold Q0 Nl
 cases Jo <;> (show _++_=_;simp only[cond_true,cond_false,lq,SU])
theorem Ba(first:Bool)(w:Wr)(o:Op)(i:Int):Gr w ((gA first w).JX o i) 1000:=((vF first w).trans (oD _ o i)).le (by decide)
theorem oz(nt:NT sm rt h c vs tx ky):IT false sm h (c+8) vs λJo bi i=>tx Jo bi false i:=by
 obtain⟨n,tl,rfl,hd,hk,hl,to,f⟩:=nt
 refine⟨⟨n,tl,rfl,hd⟩,by lia,λJo bi hb=>(to Jo bi false hb).sh (by lia),λp N m i I S lv first e X pk hs ha hi h6 ND Oh hw x=>?_⟩
 have ha:A1 p (N+2*tl.length+1+1) (.int i) (PX first 14 15) I S lv e:=ha
 have hW:=F7 (m:=m+c) pk hi (by lia) (hw.le (by lia))
 have hp:=ha.p.Pw e.m (Ba first e.w p.o i) 15
 obtain⟨M,n0,E,c0,hA,hE⟩:=f p N m (.int i) I S lv 15 false true false false _ _ _ pk hs hp h6 (.inr ⟨ND,rfl⟩) Oh (MP.o ha.m.mp U U) hW x
 rw[C2]at hE
 have ht:=ha.t
 have vd:=ha.p.vd pk
 have e1:(e.W (gA first e.w)).JX=e.W ((gA first e.w).JX p.o i):=by rw[vT];show(e.W _).W ((gA first e.w).JX e.o (ar e.c.indent))=_;rw[ha.p.o,ha.p.ix];rfl
 refine⟨E,⟨M,?_,c0⟩,hA,hE⟩
 cases first with
 | true=>exact Ef ht hd vd (by show NR _ _ _ _ _ _ ((e.W (gA true e.w)).JX.push 15) _;rw[e1];exact n0)
 | false=>exact Ee ht hd vd (by show NR _ _ _ _ _ _ ((e.W (gA false e.w)).JX.push 15) _;rw[e1];exact n0)
theorem vk(h:x=.nul∨∃t,x=.str t):bA x .nul=x:=by rcases h with rfl | ⟨t,rfl⟩ <;> rfl
theorem MC.ms(h:MC e){n:Nd}(hd:Hd n){E:Em}(hm:E.m=n.ms e.o.wide e.m)(ho:E.o=e.o):MP E n.Js n.tag n.sc n.val:=by
 unfold MP
 rw[hm,ho]
 refine⟨.inr ?_,.inr ?_,?_,h.2.2.2⟩
 ·show bA n.Js e.m.Js=n.Js
  rw[h.1];exact vk (hd.ok.ha.imp id λ⟨a,h,_⟩=>⟨a,h⟩)
 ·show bA n.tag e.m.tag=n.tag
  rw[h.2.1];exact vk (hd.ok.ht.imp id λ⟨a,h,_⟩=>⟨a,h⟩)
 ·show(bif n.sc then J0 n.val e.o.wide else e.m.J0)=_∨_/\(bif n.sc then J0 n.val e.o.wide else e.m.J0)=_
  cases n.sc with
  | true=>exact .inr ⟨rfl,rfl⟩
  | false=>exact .inl h.2.2.1
noncomputable def Py(ky:Bool)(tx ty:Tq)(Jo:Bool)(bi i:Int):Tx:=
 bif !Jo&&ky then tx Jo bi true i++([58,32]++ty Jo bi false i)
 else [63,32]++(tx Jo bi false i++((bif Jo then 10::ap i else [32])++([58,32]++ty Jo bi false i)))
theorem c1(h:iG c=false):Jz [c]:=Jz.cons h .nil
theorem Fh(nt:NT sm rt h c vs tx ky)(pk:bI p)(hs:p.KQ=true->sm=true)(ha:A1 p (N+2*vs.length) (.int i) (.JA 19 2) I S lv e)(h6:i+9*h<=60)(ND:(lv != 0)=true)(Oh:0<=lv)(hw:RN p (m+c+1) e.w X false):On vs e λE=>A1 p N (.int i) (.JA 18 2) I S lv E/\RN p m E.w (X++([58,32]++tx p.o.Jo.truth p.o.bi false i)) false:=by
 obtain⟨n,tl,rfl,hd,_,_,_,f⟩:=nt
 intro x
 have ha:A1 p (N+2*tl.length+1+1) (.int i) (.JA 19 2) I S lv e:=ha
 have hW:=Ri.M0 (n:=m+c) (k:=1) (s:=[58]) (Kt:=false) hw.r (mf 1) (c1 U) ⟨58,[],rfl,rfl,rfl⟩ ⟨rfl,rfl⟩
 have hp:=ha.p.Pw e.m ((aY e.w [58] false false false).le (by decide)) 18
 obtain⟨M,n0,E,c0,hA,hE⟩:=f p N m (.int i) I S lv 18 false false true false _ _ _ pk hs hp h6 (.inr ⟨ND,rfl⟩) Oh (MP.o ha.m.mp U U) hW.rp x
 rw[lq]at hE
 exact⟨E,⟨M,Eb ha.t (ha.p.vd pk) n0,c0⟩,hA,hE⟩
theorem Fg(nt:NT sm rt h c vs tx ky)(pk:bI p)(hs:p.KQ=true->sm=true)(ha:A1 p (N+2*vs.length) (.int i) (.JA 20 2) I S lv e)(hi:0 < i)(h6:i+9*h<=60)(ND:(lv != 0)=true)(Oh:0<=lv)(hw:RN p (m+c+3) e.w X false):On vs e λE=>A1 p N (.int i) (.JA 18 2) I S lv E/\RN p m E.w (X++((bif p.o.Jo.truth then 10::ap i else [32])++([58,32]++tx p.o.Jo.truth p.o.bi false i))) false:=by
 obtain⟨n,tl,rfl,hd,_,_,_,f⟩:=nt
 intro x
 have ha:A1 p (N+2*tl.length+1+1) (.int i) (.JA 20 2) I S lv e:=ha
 have h1:=RN.JX (n:=m+c+2) (i:=i) pk hw (SN hi) (by lia)
 have hW:=RP.sgn (n:=m+c) (k:=2) (s:=[58]) (Kt:=false) h1 (mf 2) (c1 U) ⟨58,[],rfl,rfl,rfl⟩ ⟨rfl,rfl⟩
 have hp:=ha.p.Pw e.m (((oD e.w p.o i).trans (aY _ [58] true false false)).le (by decide)) 18
 obtain⟨M,n0,E,c0,hA,hE⟩:=f p N m (.int i) I S lv 18 false false true false _ _ _ pk hs hp h6 (.inr ⟨ND,rfl⟩) Oh (MP.o ha.m.mp U U) hW.rp x
 have e1:e.JX=e.W (e.w.JX p.o i):=by rw[vT,ha.p.o,ha.p.ix];rfl
 have e2:∀b:Tx,(Q0 p.o.Jo.truth X i++(sp (p.o.Jo.truth||false)++[58]))++(sp false++b)=X++((bif p.o.Jo.truth then 10::ap i else [32])++([58,32]++b)):=λb=>by
  unfold Q0
  cases p.o.Jo.truth <;> (show _++_=_;simp only[cond_true,cond_false,lq];rfl)
 rw[e2]at hE
 exact⟨E,⟨M,Ea ha.t (ha.p.vd pk) (by rw[e1];exact n0),c0⟩,hA,hE⟩
theorem kJ(nt:NT sm rt h c vs tx ky)(nt':NT sm rt' h c' ws ty ky'):IT true sm h (c+c'+8) (vs++ws) (Py ky tx ty):=by
 have nt0:=nt
 obtain⟨n,tl,rfl,hd,hk,hl,to,f⟩:=nt
 have nt1:=nt'
 obtain⟨n',PU,rfl,Pb,NV,Nb,to',_⟩:=nt'
 refine⟨⟨n,tl++n'.V::PU,rfl,hd⟩,by rw[ku];lia,λJo bi hb=>?_,λp N m i I S lv first e X pk hs ha hi h6 ND Oh hw=>?_⟩
 ·have b0:0<=bi:=by lia
  have t58:TO (sm&&!Jo) λi=>[58,32]++ty Jo bi false (i+bi):=(TO.cst (Jz.cons U (c1 U))).app ((to' Jo bi false hb).sh b0)
  have tk:∀k,TO (sm&&!Jo) λi=>tx Jo bi k (i+bi):=λk=>(to Jo bi k hb).sh b0
  show TO _ λi=>Py ky tx ty Jo bi (i+bi)
  unfold Py
  cases Jo with
  | false=>
   cases ky with
   | true=>exact(tk true).app t58
   | false=>exact(TO.cst (Jz.cons U (c1 U))).app ((tk false).app ((TO.cst (c1 U)).app t58))
  | true=>
   have hz:(sm&&!true)=false:=Sp sm
   rw[hz]at t58 tk ⊢
   exact(TO.cst (Jz.cons U (c1 U))).app ((tk false).app ((TO.row0 (by lia)).app t58))
 ·have ha:A1 p (N+2*(n'.V::PU).length+2*tl.length+1+1) (.int i) (PX first 17 18) I S lv e:=by
   have e2:N+2*(n.V::tl++n'.V::PU).length=N+2*(n'.V::PU).length+2*tl.length+1+1:=by rw[ku,R0 (as:=tl)];lia
   exact e2▸ha
  have ht:=ha.t
  have vd:=ha.p.vd pk
  have e1:(e.W (gA first e.w)).JX=e.W ((gA first e.w).JX p.o i):=by rw[vT];show(e.W _).W ((gA first e.w).JX e.o (ar e.c.indent))=_;rw[ha.p.o,ha.p.ix];rfl
  have ek:∀x,(!e.o.Jo.truth&&n.key e.o.wide (tl++x))=(!p.o.Jo.truth&&ky):=λx=>by rw[ha.p.o,pk.wd,hk]
  have fin:∀{M:Em}{kb:Bool}(x:List V),(!p.o.Jo.truth&&ky)=kb->NR n.V (tl++x) false false true kb (QM (e.W (gA first e.w)) n kb) M->Lq e n.V (tl++x) M:=λx QR q0=>by
   cases first with
   | true=>exact Ed ht hd vd ha.m ((ek x).trans QR) q0
   | false=>
    have g:=aY e.w [44] false false false
    have hv2:Vd (e.sgn [44] false false false):=P1.vd (n:=N) ⟨ha.p.o,ha.p.ix,ha.p.xi,ha.p.lv,ha.p.i,ha.p.s,g.1 ha.p.c0,by have:=g.2;have:=ha.p.r;show(e.w.sgn [44] false false false).rows.length+_<=_;lia,by have:=ha.p.b;lia⟩ pk
    exact Ec ht hd vd hv2 ha.m ((ek x).trans QR) q0
  have hW:=F7 (m:=m+c+c'+6) pk hi (by lia) (hw.le (by lia))
  have wid:e.o.wide=p.o.wide:=kg Op.wide ha.p.o
  obtain⟨mm,hmm,QP⟩:∃mm,(∀w,((e.W w).Mm n)=(e.W w).M mm)/\∀w j,MP (((e.W w).M mm).push j) n.Js n.tag n.sc n.val:=by
   cases hc:e.o.Jo.truth with
   | true=>exact⟨e.m,λw=>by unfold Em.Mm;show(bif e.o.Jo.truth then _ else _)=_;rw[hc];rfl,λw j=>MP.o ha.m.mp U U⟩
   | false=>exact⟨n.ms e.o.wide e.m,λw=>by unfold Em.Mm;show(bif e.o.Jo.truth then _ else _)=_;rw[hc];rfl,λw j=>ha.m.ms hd U U⟩
  have hsp:∀x,(tl++n'.V::PU)++x=tl++((n'.V::PU)++x):=λx=>lq _ _ _
  show On (n.V::tl++n'.V::PU) e _
  cases QR:(!p.o.Jo.truth&&ky) with
  | true=>
   have hcf:p.o.Jo.truth=false:=lm (ly QR).1
   refine On.app (R:=λE=>A1 p (N+2*(n'.V::PU).length) (.int i) (.JA 19 2) I S lv E/\RN p (m+c'+1) E.w (X++Nl p.o.Jo.truth first i (tx p.o.Jo.truth p.o.bi true i)) false) (λx=>?_) λE h=>?_
   ·have hp:=ha.p.Pw mm (Ba first e.w p.o i) 19
    obtain⟨M,n0,E,c0,hA,hE⟩:=f p _ (m+c'+1) (.int i) I S lv 19 false false true true _ _ _ pk hs hp h6 (.inr ⟨ND,rfl⟩) Oh (QP _ 19) (hW.le (by lia)) x
    rw[C2]at hE
    exact⟨E,⟨M,fin x QR (by unfold QM;rw[e1,hmm];exact n0),c0⟩,hA,hE⟩
   ·refine λx=>?_
    obtain⟨F,c0,hA,hE⟩:=Fh nt1 pk hs h.1 h6 ND Oh h.2 x
    refine⟨F,c0,hA,?_⟩
    have e2:Py ky tx ty p.o.Jo.truth p.o.bi i=tx p.o.Jo.truth p.o.bi true i++([58,32]++ty p.o.Jo.truth p.o.bi false i):=by unfold Py;rw[QR];rfl
    rw[e2]
    rw[lq]at hE
    have e3:Nl p.o.Jo.truth first i (tx p.o.Jo.truth p.o.bi true i)++([58,32]++ty p.o.Jo.truth p.o.bi false i)=Nl p.o.Jo.truth first i (tx p.o.Jo.truth p.o.bi true i++([58,32]++ty p.o.Jo.truth p.o.bi false i)):=by unfold Nl;simp only[lq]
    rw[<- e3];exact hE
  | false=>
   refine On.app (R:=λE=>A1 p (N+2*(n'.V::PU).length) (.int i) (.JA 20 2) I S lv E/\RN p (m+c'+3) E.w (X++Nl p.o.Jo.truth first i ([63,32]++tx p.o.Jo.truth p.o.bi false i)) false) (λx=>?_) λE h=>?_
   ·have hQ:=RP.sgn (n:=m+c'+3+c) (k:=2) (s:=[63]) (Kt:=false) (hW.le (by lia)) (mf 2) (c1 U) ⟨63,[],rfl,rfl,rfl⟩ ⟨rfl,rfl⟩
    have hp:=ha.p.Pw mm (((vF first e.w).trans ((oD _ p.o i).trans (aY _ [63] true false false))).le (by decide)) 20
    obtain⟨M,n0,E,c0,hA,hE⟩:=f p _ (m+c'+3) (.int i) I S lv 20 false false true false _ _ _ pk hs hp h6 (.inr ⟨ND,rfl⟩) Oh (QP _ 20) hQ.rp x
    have e2:∀b:Tx,(Q0 p.o.Jo.truth (X++(bif first then [] else [44])) i++(sp (p.o.Jo.truth||first)++[63]))++(sp false++b)=X++Nl p.o.Jo.truth first i ([63,32]++b):=λb=>by
     rw[<- C2,lq,lq];rfl
    rw[e2]at hE
    exact⟨E,⟨M,fin x QR (by unfold QM;rw[e1,hmm];exact n0),c0⟩,hA,hE⟩
   ·refine λx=>?_
    obtain⟨F,c0,hA,hE⟩:=Fg nt1 pk hs h.1 hi h6 ND Oh h.2 x
    refine⟨F,c0,hA,?_⟩
    have e2:Py ky tx ty p.o.Jo.truth p.o.bi i=[63,32]++(tx p.o.Jo.truth p.o.bi false i++((bif p.o.Jo.truth then 10::ap i else [32])++([58,32]++ty p.o.Jo.truth p.o.bi false i))):=by unfold Py;rw[QR];rfl
    rw[e2]
    rw[lq]at hE
    have e3:∀a b:Tx,Nl p.o.Jo.truth first i ([63,32]++a)++b=Nl p.o.Jo.truth first i ([63,32]++(a++b)):=λa b=>by unfold Nl;simp only[lq]
    rw[<- e3];exact hE
end
noncomputable abbrev Itm:=List V×Nat×(Bool->Int->Int->Tx)
noncomputable def aP(l:List Itm):List V:=(l.map (·.1)).flatten
noncomputable def bB:List Itm->Nat | []=>0 | x::r=>x.2.1+bB r
noncomputable def eZ(Jo:Bool)(bi i:Int):Bool->List Itm->Tx
 | _,[]=>[]
 | f,x::r=>Nl Jo f i (x.2.2 Jo bi i)++eZ Jo bi i false r
noncomputable def JS(mp:Bool):Nat:=bif mp then 123 else 91
noncomputable def aO(mp:Bool):Nat:=bif mp then 125 else 93
noncomputable def lB(Jo emp:Bool)(i:Int)(c:Nat):Tx:=bif Jo&&!emp then 44::(10::(ap i++[c])) else [c]
noncomputable def LJ(mp a g:Bool)(l:List Itm):Tq:=λJo bi J i=>j9 a g++([JS mp]++(eZ Jo bi (i+bi) true l++lB Jo l.isEmpty i (aO mp)))
noncomputable def Ou(mp a g f:Bool)(vs:List V):List V:=NZ (bif mp then 12 else 10) (bc a) (aT g) (!g) (.bool f)::(vs++[Ko (bif mp then 13 else 11)])
section
variable{n m:Nat}{S:List V}{i:Int}{E:Em}{X:Tx}{a g mp first emp:Bool}{l:List Itm}{st:Nat}
theorem ia:18*(aP l).length<=bB l∨¬ ∀y∈l,18*y.1.length<=y.2.1:=by
 induction l with
 | nil=>exact .inl (mf 0)
 | cons y l ih=>
  by_cases hy:18*y.1.length<=y.2.1
  ·refine ih.imp (λih=>?_) λih h=>ih λz hz=>h z (.tail _ hz)
   show 18*(y.1++aP l).length<=y.2.1+bB l
   rw[ku];lia
  ·exact .inr λh=>hy (h y (.head _))
theorem yS(pk:bI p)(hs:p.KQ=true->sm=true)(hi:0 < i)(h6:i+9*h<=60)(ND:(lv != 0)=true)(Oh:0<=lv):∀(l:List Itm),(∀y∈l,IT mp sm h y.2.1 y.1 y.2.2)->∀{N m:Nat}{first:Bool}{e:Em}{X:Tx},A1 p (N+2*(aP l).length) (.int i) (PX first (bif mp then 17 else 14) (bif mp then 18 else 15)) I S lv e->RN p (m+bB l) e.w X first->
  On (aP l) e λE=>A1 p N (.int i) (PX (first&&l.isEmpty) (bif mp then 17 else 14) (bif mp then 18 else 15)) I S lv E/\RN p m E.w (X++eZ p.o.Jo.truth p.o.bi i first l) (first&&l.isEmpty):=by
 intro l
 induction l with
 | nil=>
  intro _ N m first e X ha hw x
  refine⟨e,rfl,?_⟩
  show A1 p N _ (PX (first&&true) _ _) _ _ _ e/\RN p m e.w (X++[]) (first&&true)
  rw[Bool.and_true,mh];exact⟨ha,hw⟩
 | cons y l ih=>
  intro hl N m first e X ha hw
  obtain⟨_,_,_,f⟩:=hl y (.head _)
  have e1:N+2*(aP (y::l)).length=(N+2*(aP l).length)+2*y.1.length:=by show N+2*(y.1++aP l).length=_;rw[ku];lia
  have e2:m+bB (y::l)=(m+bB l)+y.2.1:=by show m+(y.2.1+bB l)=_;lia
  rw[e1]at ha
  rw[e2]at hw
  show On (y.1++aP l) e _
  refine On.app (f p _ _ i I S lv first e X pk hs ha hi h6 ND Oh hw) λE hE x=>?_
  obtain⟨F,c0,h1,h2⟩:=ih (λz hz=>hl z (.tail _ hz)) (N:=N) (m:=m) (first:=false) hE.1 hE.2 x
  rw[lq]at h2
  refine⟨F,c0,?_⟩
  show A1 p N _ (PX (first&&false) _ _) _ _ _ F/\RN p m F.w (X++(Nl _ first i _++eZ _ _ i false l)) (first&&false)
  rw[Sp];exact⟨h1,h2⟩
theorem wE(mp:Bool):Jz [aO mp]/\KS [aO mp]/\LK [aO mp] false:=by cases mp <;> exact⟨c1 U,⟨_,_,rfl,rfl,rfl⟩,rfl,rfl⟩
theorem zT(pk:bI p)(hx:Q8 x)(ha:A1 p (N+1) (.int i) (PX emp (bif mp then 17 else 14) (bif mp then 18 else 15)) (I++[.b x]) (S++[.JA st 2]) (lv+1) e)(hw:RN p (m+3) e.w X emp):On [Ko (bif mp then 13 else 11)] e λE=>A1 p N x (.JA st 2) I S lv E/\RN p m E.w (X++lB p.o.Jo.truth emp (ar x) (aO mp)) false:=by
 obtain⟨q1,q2,q3⟩:=wE mp
 have vd:=ha.p.vd pk
 have ht:=ha.t
 have hb:=ha.p.b
 rw[ku,ku]at hb
 have ND:=ha.p.lv
 have fin:∀{u:Em},u.o=e.o->u.m=e.m->u.c=(e.J8 x I).c->u.k.Jw=I->Gr e.w u.w 3->(∃Y,Ri p (m+1) u.w Y (bif emp then true else !p.o.Jo.truth)/\Y++[aO mp]=X++lB p.o.Jo.truth emp (ar x) (aO mp))->A1 p N x (.JA st 2) I S lv ((u.sgn [aO mp] false false false).pop S (.JA st 2))/\RN p m ((u.sgn [aO mp] false false false).pop S (.JA st 2)).w (X++lB p.o.Jo.truth emp (ar x) (aO mp)) false:=λ{u} h1 h2 h3 h4 h5 ⟨Y,h6,h7⟩=>by
  have g:=h5.trans (aY u.w [aO mp] false false false)
  refine⟨⟨⟨h1.trans ha.p.o,by show u.c.indent=x;rw[h3];rfl,hx,by show u.c.lvl=lv;rw[h3];show e.c.lvl - 1=lv;lia,h4,rfl,g.1 ha.p.c0,?_,by lia⟩,?_,rfl⟩,?_⟩
  ·have:=g.2;have:=ha.p.r;show(u.w.sgn _ _ _ _).rows.length+_<=_;lia
  ·have:MC u:=by unfold MC;rw[h2];exact ha.m
   exact this
  ·rw[<- h7];exact Ri.M0 (k:=1) h6 (mf 1) q1 q2 q3
 refine On.one λnx=>?_
 cases emp with
 | true=>
  have r:=fin (u:=e.J8 x I) U U U U .refl ⟨X,hw.r.le (by lia),by unfold lB;rw[Bool.not_true,Sp];rfl⟩
  cases mp with
  | true=>exact⟨_,BX ht vd ha.p.i ha.p.s U,r⟩
  | false=>exact⟨_,BZ ht vd ha.p.i ha.p.s U,r⟩
 | false=>
  have sm:=fY (e.J8 x I)
  have r:=fin (u:=(e.J8 x I).cm) sm.1 sm.2.2.1 sm.2.1 (by rw[sm.2.2.2];rfl) (vG (e.J8 x I)) (by
   obtain⟨Jo,hc⟩:=pk.Jo
   have eo:e.o=p.o:=ha.p.o
   unfold Em.cm
   show ∃Y,Ri p (m+1) (bif e.o.Jo.truth then((e.J8 x I).sgn [44] false false false).JH else e.J8 x I).w Y (!p.o.Jo.truth)/\_
   rw[eo]
   unfold lB
   cases hcc:p.o.Jo.truth with
   | false=>exact⟨X,hw.r.le (by lia),rfl⟩
   | true=>
    have hn:p.KQ=false:=by
     cases hn:p.KQ with
     | false=>rfl
     | true=>rw[(pk.n hn).1]at hcc;exact Kb hcc
    have xl:=hx.le
    have h1:=Ri.M0 (n:=m+2) (k:=1) (s:=[44]) (Kt:=false) hw.r (mf 1) (c1 U) ⟨44,[],rfl,rfl,rfl⟩ ⟨rfl,rfl⟩
    have h2:=h1.r.row (i:=ar x) pk hn (eM (.inl h1.ind)) xl.1 xl.2
    refine⟨(X++[44])++10::ap (ar x),?_,by rw[lq,lq];rfl⟩
    show Ri p (m+1) ((e.w.sgn [44] false false false).JH (ar x) e.o.lb) _ false
    rw[eo];exact h2)
  cases mp with
  | true=>exact⟨_,BW ht vd hx.ind ha.p.i ha.p.s U,r⟩
  | false=>exact⟨_,BY ht vd hx.ind ha.p.i ha.p.s U,r⟩
theorem CE{b:Int}{f:Int->Tx}(hz:Jo=true->z=false)(hb:0 < b)(h:TO z λi=>f (i+b)):TO z λi=>Nl Jo first (i+b) (f (i+b)):=by
 unfold Nl
 refine TO.app (g:=λJ=>bif first then [] else [44]) (TO.cst (by cases first;exact c1 U;exact .nil)) (TO.app (g:=λi=>bif Jo then 10::ap (i+b) else []) ?_ (TO.app (g:=λJ=>sp (Jo||first)) (TO.cst (by cases (Jo||first);exact c1 U;exact .nil)) h))
 cases Jo with
 | true=>obtain rfl:=hz U;exact TO.row0 hb
 | false=>exact TO.cst .nil
theorem vp{z:Bool}{b:Int}(hz:Jo=true->z=false)(hb:0 < b):∀(l:List Itm)(first:Bool),(∀y∈l,TO z λi=>y.2.2 Jo b (i+b))->TO z λi=>eZ Jo b (i+b) first l
 | [],_,_=>TO.cst .nil
 | y::l,first,h=>(CE (f:=λi=>y.2.2 Jo b i) hz hb (h y (.head _))).app (vp hz hb l false λz hz=>h z (.tail _ hz))
theorem Gi(hb:(2:Int)<=b)(h:∀y∈l,TO (sm&&!Jo) λi=>y.2.2 Jo b (i+b)):TO (sm&&!Jo) (LJ mp a g l Jo b k):=by
 have hz:Jo=true->(sm&&!Jo)=false:=λe=>by rw[e];exact Sp sm
 have q:TO (sm&&!Jo) λi=>lB Jo l.isEmpty i (aO mp):=by
  unfold lB
  cases hx:Jo&&!l.isEmpty with
  | false=>exact TO.cst (wE mp).1
  | true=>
   rw[hz (ly hx).1]
   have:=(TO.cst (z:=false) (c1 (c:=44) U)).app (TO.row (s:=[aO mp]) (b:=0) (wE mp).1 (λh=>nomatch h) (Sq 0))
   have e:(λi:Int=>[44]++10::(ap (i+0)++[aO mp]))=λi=>44::(10::(ap i++[aO mp])):=funext λi=>by rw[Int.add_zero];rfl
   rw[e]at this;exact this
 exact(uA a g).app ((TO.cst (by cases mp <;> exact c1 U)).app ((vp hz (by lia) l true h).app q))
theorem A5{fl:B}{imp:Bool}{x:List V}{q:Bool}(h8:JZ [8] c=false)(hx:((JZ [10] c&&aF 11 x)||(JZ [12] c&&aF 13 x))=q)(w:B):(Px c Js tag imp fl).key w x=(decide ((Px c Js tag imp fl).len < 128)&&q):=by
 unfold Nd.key
 show(decide ((Px c Js tag imp fl).len < 128)&&(JZ [8] c||((false&&(!MV []&&!MU [] w))||((JZ [10] c&&aF 11 x)||(JZ [12] c&&aF 13 x)))))=_
 rw[h8,hx];rfl
theorem qh(hc:JZ [c] c=true){ls:List (List V)}(hh:∀l∈ls,∃n tl,l=Nd.V n::tl/\JZ [c] n.k=false)(x:List V):aF c ((ls.flatten++[Ko c])++x)=ls.isEmpty:=by
 cases ls with
 | nil=>exact hc
 | cons l ls=>
  obtain⟨n,tl,rfl,h⟩:=hh l (.head _)
  exact h
theorem HM(cb:B)(g:Bool):NN cb (aT g) (!g)=!g:=by
 unfold NN
 cases g with
 | true=>exact Sp _
 | false=>show((!cb.truth||true)&&true)=true;rw[S5];rfl
theorem m7(a g:Bool):xx (bc a) (aT g) (!g):=⟨oU a,nM g,λh=>by cases g;rfl;exact absurd h tS⟩
theorem gH(hl:∀y∈l,IT mp sm h y.2.1 y.1 y.2.2)(a g f:Bool):NT sm f (h+1) (36+bB l) (Ou mp a g f (aP l)) (LJ mp a g l) l.isEmpty:=by
 have hls:∀d∈[11,13],∀y∈l.map (·.1),∃n tl,y=Nd.V n::tl/\JZ [d] n.k=false:=λd hd y hy=>by
  obtain⟨z,hz,rfl⟩:=List.mem_map.mp hy
  obtain⟨⟨n,tl,e,hh⟩,_⟩:=hl z hz
  refine⟨n,tl,e,?_⟩
  rcases kl hd with rfl | hd
  ·exact hh.no.1
  ·obtain rfl:=km hd;exact hh.no.2
 have hem:(l.map (·.1)).isEmpty=l.isEmpty:=by cases l <;> rfl
 have hln:(Px (bif mp then 12 else 10) (bc a) (aT g) (!g) (.bool f)).len < 128:=by
  show LX (aT g) (LX (bc a) 0) < 128
  cases a <;> cases g <;> decide
 have hk:∀x,(Px (bif mp then 12 else 10) (bc a) (aT g) (!g) (.bool f)).key .nul ((aP l++[Ko (bif mp then 13 else 11)])++x)=l.isEmpty/\aF (bif mp then 13 else 11) ((aP l++[Ko (bif mp then 13 else 11)])++x)=l.isEmpty:=λx=>by
  cases mp with
  | true=>
   have hh:aF 13 ((aP l++[Ko 13])++x)=l.isEmpty:=hem▸qh (by decide +kernel) (hls 13 (by simp)) x
   exact⟨(A5 (c:=12) (q:=l.isEmpty) (by decide +kernel) (by rw[show JZ [10] 12=false by decide +kernel,show JZ [12] 12=true by decide +kernel];exact hh) .nul).trans (by rw[decide_eq_true (show(Px 12 (bc a) (aT g) (!g) (.bool f)).len < 128 from hln)];rfl),hh⟩
  | false=>
   have hh:aF 11 ((aP l++[Ko 11])++x)=l.isEmpty:=hem▸qh (by decide +kernel) (hls 11 (by simp)) x
   exact⟨(A5 (c:=10) (q:=l.isEmpty) (by decide +kernel) (by rw[show JZ [10] 10=true by decide +kernel,show JZ [12] 10=false by decide +kernel,Tg,Bool.false_and,Bool.or_false];exact hh) .nul).trans (by rw[decide_eq_true (show(Px 10 (bc a) (aT g) (!g) (.bool f)).len < 128 from hln)];rfl),hh⟩
 have len:18*(aP l).length<=bB l:=ia.resolve_right λh=>h λy hy=>(hl y hy).2.1
 refine⟨Px (bif mp then 12 else 10) (bc a) (aT g) (!g) (.bool f),aP l++[Ko (bif mp then 13 else 11)],rfl,HY (by cases mp;exact .inl U;exact .inr U) (m7 a g),λx=>(hk x).1,?_,λJo bi k hb=>Gi hb λy hy=>(hl y hy).2.2.1 Jo bi hb,λp N m x I S lv st r s mpc k e X u pk hs hp h6 hr Oh hm hw y=>?_⟩
 ·show 18*((aP l++[Ko _]).length+1)<=_
  rw[ku];show 18*((aP l).length+1+1)<=_;lia
 have vd:=hp.vd pk
 have xl:=hp.xi.le
 have b2:=pk.b2
 have b9:=pk.b9
 have hflo:∀z,gV e (.bool f) z=true:=λz=>by
  unfold gV
  rcases hr with rfl | ⟨h1,_⟩
  ·show(_||(_||(true||z)))=true;rw[Bool.true_or,S5,S5]
  ·rw[hp.lv,h1];rfl
 have e2:N+2*(aP l++[Ko (bif mp then 13 else 11)]).length+1=(N+1+1+1)+2*(aP l).length:=by rw[ku];show N+2*(_+1)+1=_;lia
 rw[e2]at hp
 let M:Em:=(((e.ctx r s mpc k).Kn (bc a)).J3 (aT g) (!g)).Nx (JS mp) (bif mp then 17 else 14)
 have ew:M.w=((e.w.MB [38] (bc a)).tg (!g) (aT g)).sgn [JS mp] true true false:=by
  show((e.w.MB [38] (bc a)).tg (NN e.o.Jo (aT g) (!g)) (aT g)).sgn [JS mp] true true false=_
  rw[HM]
 have gM:Gr e.w M.w 3:=by rw[ew];exact((e9 e.w [38] (bc a)).trans (mV _ _ _)).trans (aY _ [JS mp] true true false)
 have q0:=AP (fl:=.bool f) (nx:=(aP l++[Ko 11])++y) (r:=r) (s:=s) (m:=mpc) (k:=k) (val:=[]) (vd.fit (q:=3) (by decide)) (m7 a g) hm
 have q1:=AR (fl:=.bool f) (nx:=(aP l++[Ko 13])++y) (r:=r) (s:=s) (m:=mpc) (k:=k) (val:=[]) (vd.fit (q:=3) (by decide)) (m7 a g) hm
 rw[hflo]at q0 q1
 have n0:NR (Px (bif mp then 12 else 10) (bc a) (aT g) (!g) (.bool f)).V ((aP l++[Ko (bif mp then 13 else 11)])++y) r s mpc k e M:=by cases mp;exact q0;exact q1
 refine⟨M,n0,?_⟩
 have iX:Q8 (.int (ar x+p.o.bi)):=.inr ⟨_,rfl,by lia,by lia⟩
 have hA:A1 p (N+1+2*(aP l).length) (.int (ar x+p.o.bi)) (PX true (bif mp then 17 else 14) (bif mp then 18 else 15)) (I++[.b x]) (S++[.JA st 2]) (lv+1) M:=by
  have hb:=hp.b
  refine⟨⟨hp.o,?_,iX,kg (·+1) hp.lv,?_,hp.s,gM.1 hp.c0,by have:=gM.2;have:=hp.r;lia,by simp only[ku,R0,Sb]at hb ⊢;lia⟩,⟨rfl,rfl,hm.2.2.1.elim id λh=>Kb h.1,hm.2.2.2⟩,rfl⟩
  ·show fK e.c.indent e.o.bi true false=_
   rw[hp.ix,hp.o]
   rcases hp.xi with rfl | ⟨i,rfl,_⟩
   ·exact kg B.int (S2 _).symm
   ·rfl
  ·show e.k.Jw++[.b e.c.indent]=_;rw[hp.i,hp.ix]
 obtain⟨X',u',h1,h2⟩:=RP.pre (m:=m+5+bB l+2) (hw.le (by lia)) a g
 have hW:RN p (m+3+bB l) M.w (X++(sp u++(j9 a g++[JS mp]))) true:=by
  rw[ew,<- h2]
  have:KS [JS mp]/\Jz [JS mp]/\LK [JS mp] true:=by cases mp <;> exact⟨⟨_,_,rfl,rfl,rfl⟩,c1 U,rfl,rfl⟩
  exact(RP.sgn (n:=m+5+bB l) (k:=2) (s:=[JS mp]) h1 (mf 2) this.2.1 this.1 this.2.2).le (by lia)
 obtain⟨E,c0,h3,h4⟩:=On.app (yS (h:=h) (N:=N+1) (m:=m+3) (first:=true) pk hs (by lia) (by lia) (show(lv+1 != 0)=true from bne_iff_ne.mpr (by lia)) (by lia) l hl hA hW) (λE hE=>zT (N:=N) (m:=m) (mp:=mp) pk hp.xi hE.1 hE.2) y
 refine⟨E,c0,h3,?_⟩
 have e5:(X++(sp u++(j9 a g++[JS mp]))++eZ p.o.Jo.truth p.o.bi (ar x+p.o.bi) true l)++lB p.o.Jo.truth (true&&l.isEmpty) (ar x) (aO mp)=X++(sp u++LJ mp a g l p.o.Jo.truth p.o.bi k (ar x)):=by
  unfold LJ
  rw[Tg]
  simp only[lq]
 rw[<- e5];exact h4
end
noncomputable def Lr:V:=.b .nul
theorem Q7.more{g:List Ob}(h:Q7 e g)(x:List Ob):Q7 e (g++x):=h.imp id λh=>uE h
theorem Mx.of(h:∀v∈l,Kq v):Mx l:=λv hv=>by obtain⟨k,f,e,_⟩:=h v hv;exact⟨k,f,e⟩
theorem pV{n k:Nat}(hn:2<=n):bW n [k]=true:=by
 show(!false&&decide (1 < n+1))=true
 rw[decide_eq_true (by lia)];rfl
theorem E7{r t:List V}(hn:bV (bF (v::r))=false):Lk v r (r++t):=by
 cases r with
 | cons x r=>exact⟨λJ=>by cases x <;> rfl,λJ=>by cases x <;> rfl⟩
 | nil=>
  have k10:KG v≠10:=λh=>by
   have e:bV (bF [v])=true:=by show bV [KG v]=true;rw[h];exact pV (n:=2) (k:=10) (by decide)
   rw[e]at hn;exact Kb hn.symm
  have k12:KG v≠12:=λh=>by
   have e:bV (bF [v])=true:=by show bV [KG v]=true;rw[h];exact pV (n:=3) (k:=12) (by decide)
   rw[e]at hn;exact Kb hn.symm
  have kk:∀{k c:Nat},k≠c->(c=10∨c=12)->JZ [c] k=true->False:=λ{k c} hk hc hx=>by
   unfold JZ at hx
   by_cases h14:k < 15
   ·exact hk ((by decide +kernel:∀c∈[10,12],∀k < 15,([c].any λj=>(ii[k]?).any λl=>l.contains j)=true->k=c) c (by rcases hc with rfl | rfl <;> simp) k h14 hx)
   ·rw[show ii[k]?=none from Si (by have:ii.length=15:=rfl;lia)]at hx
    exact Kb hx
  exact⟨λh=>(kk k10 (.inl U) h).elim,λh=>(kk k12 (.inr U) h).elim⟩
def LastOk(l:List V):Prop:=l=[]∨∃a,l=a++[M1]
theorem LastOk.tail(h:LastOk (v::l)):LastOk l:=by
 rcases h with h | ⟨a,h⟩
 ·exact nomatch h
 ·cases a with
  | nil=>injection h with _ h;exact .inl h
  | cons x a=>injection h with _ h;exact .inr ⟨a,h⟩
theorem Gk:∀(ks:List Nat)(lv:Int),5∈ks->di lv ks=true
 | k::ks,lv,h=>by
  show(decide (OC lv k < 0)||di (OC lv k) ks)=true
  rcases kl h with h | h
  ·subst h;rfl
  ·rw[Gk ks _ h,S5]
theorem Ck(h:LastOk l)(hn:bV (bF l)=true):l=[]:=by
 rcases h with h | ⟨a,rfl⟩
 ·exact h
 ·cases a with
  | nil=>exact Kb hn
  | cons v a=>
   have h5:5∈bF (a++[M1]):=List.mem_map.mpr ⟨M1,lg (.inr (.head _)),rfl⟩
   have e:∀n,bW n (bF (v::(a++[M1])))=false:=λn=>by
    show(!di 0 (bF (a++[M1]))&&_)=false
    rw[Gk _ 0 h5];rfl
   have hk:bV (bF (v::(a++[M1])))=bif KG v==6 then bW 1 (bF (v::(a++[M1]))) else bif KG v==10 then bW 2 (bF (v::(a++[M1]))) else bif KG v==12 then bW 3 (bF (v::(a++[M1]))) else false:=rfl
   rw[show v::a++[M1]=v::(a++[M1]) from rfl,hk,e,e,e]at hn
   revert hn
   cases KG v==6 <;> cases KG v==10 <;> cases KG v==12 <;> exact λh=>Kb h
def Hi(todo:List V)(m:Nat)(E:Em)(e':Em)(g':List Ob):Prop:=∃e q,e'=e.take Lr q/\bV (bF q)=true/\OM (q++todo) [] e E/\Q7 e g'/\LastOk (q++todo)/\(∀v∈q,Kq v)/\q.length<=m
theorem Bj{E:Em}{m:Nat}(h0:l[0]?=some (.ref 2))(hm:m<=300):∀(q:List V)(n:Nat)(e:Em)(g:List Ob),q.length < n->OM (q++todo) [] e E->Q7 e g->(∀v∈q,Kq v)->q.length<=m->LastOk (q++todo)->Rc 89 n l (e.take Lr q) g (Hi todo m E):=by
 intro q
 induction q with
 | nil=>
  intro n e g hn hc hp hv hl hL
  obtain⟨n,rfl⟩:∃m,n=m+1:=⟨n - 1,(R9 hn).symm⟩
  exact fT (d:=87) (e:=e.take Lr []) h0 hv (ke hl hm) U λx=>⟨e,[],rfl,rfl,hc,hp.more x,hL,hv,hl⟩
 | cons v r ih=>
  intro n e g hn hc hp hv hl hL
  obtain⟨n,rfl⟩:∃m,n=m+1:=⟨n - 1,(R9 (li (mj _) hn)).symm⟩
  cases hN:bV (bF (v::r)) with
  | true=>exact fT (d:=87) (e:=e.take Lr (v::r)) h0 hv (ke hl hm) hN λx=>⟨e,v::r,rfl,hN,hc,hp.more x,hL,hv,hl⟩
  | false=>
   obtain⟨e1,hs,hc1⟩:=hc
   have hr:Mx r:=Mx.of λx hx=>hv x (.tail _ hx)
   have hk:Lk v r ((r++todo)++[]):=by rw[lq];exact E7 hN
   obtain⟨j,f,vs,x0,a1,a2,a3,_⟩:=hs 78 g r hr hk hp
   refine iT (d:=87) (e:=e.take Lr (v::r)) (v:=v) (r:=r) (j:=j) (f:=f) (vs:=vs) h0 hv (ke hl hm) hN U a1 a2 a3 λx=>?_
   obtain⟨j',f',vs',x1,b1,b2,b3,b4,b5⟩:=hs 78 (g++x) r hr hk (hp.more x)
   have ej:j'=j:=kg B1 (b1.symm.trans a1)
   subst ej
   have ef:f'=f:=kc (b2.symm.trans a2)
   subst ef
   have ev:vs'=vs:=kc (b3.symm.trans a3)
   subst ev
   exact⟨e1.take v r,_,b4,ih n e1 _ (R7 hn) hc1 b5 (λx hx=>hv x (.tail _ hx)) (mq hl) hL.tail⟩
def PO:List V->List Ob->List Ob->Prop
 | [],R,R'=>R'=R
 | v::l,R,R'=>(∃fs,R[2]?=some (.ins 0 fs)/\(fs.lookup 0).isNone=true)/\∃R1,(Jr 90).Jv 0 [.ref 2,v] ⟨R,[]⟩=some (.b .nul,⟨R1,[]⟩)/\PO l R1 R'
theorem Id{E:Em}:∀(todo q:List V)(e:Em)(g:List Ob),OM (q++todo) [] e E->Q7 e g->(∀v∈q++todo,Kq v)->(q++todo).length<=300->LastOk (q++todo)->bV (bF q)=true->∃g',PO todo (Jm (e.take Lr q) g).cur (Jm (E.take Lr []) g').cur:=by
 intro todo
 induction todo with
 | nil=>
  intro q e g hc hp hv hl hL hn
  rw[mh]at hc hL
  obtain rfl:=Ck hL hn
  obtain rfl:E=e:=hc
  exact⟨g,rfl⟩
 | cons v todo ih=>
  intro q e g hc hp hv hl hL hn
  have ea:q++v::todo=(q++[v])++todo:=by rw[lq];rfl
  rw[ea]at hc hL hl hv
  have hle:(q++[v]).length<=300:=ke (by rw[ku (bs:=todo)];exact lu _ _) hl
  have hu:ae v=false:=by obtain⟨k,f,rfl,_⟩:=hv v (lg (.inl (lg (.inr (.head _)))));rfl
  have hd:=Bj (l:=[.ref 2,v]) (m:=(q++[v]).length) U hle (q++[v]) 60000 e g (li hle (by decide)) hc hp (λx hx=>hv x (lg (.inl hx))) (mf _) hL
  obtain⟨E',G',h1,e',q',rfl,h3,h4,h5,h6,h7,h8⟩:=fR (e:=e.take Lr q) (g:=g) (d:=89) hu (li (ke (by rw[ku];exact lu _ _) hle) (by decide)) hd
  have hl2:(q'++todo).length<=300:=by
   rw[ku]at hl ⊢
   exact ke (Se h8 _) hl
  obtain⟨g',hF⟩:=ih q' e' G' h4 h5 (λx hx=>(mx hx).elim (h7 x) λh=>hv x (lg (.inr h))) hl2 h6 h3
  exact⟨g',⟨MF (e.take Lr q),rfl,rfl⟩,_,h1,hF⟩
section
variable{E:Em}{g:List Ob}
theorem Qz(hv:e.k.event=L0)(hi:JI e.c.indent)(hc:0<=e.w.col)(ho:e.ok 5):(Jr (d+5)).Jv 6 [.ref 2] (Jm e g)=some (.b .nul,Jm (e.doc (g.length+6)) (g++[.Md aQ])):=
 ay (f:=f_6) (l:=[.ref 2]) U (aR (az f_7 (vs:=[]) (kw:=[(1,.tt)]) (ws:=[.ref 2,.tt]) U U U U U U (Hr (d:=d) hv hi hc ho)) .nil) U
theorem zR(e:Em)(j:Nat):(e.doc j).m.Lo=.ref j:=by
 unfold Em.doc
 show(bif e.o.Jo.truth then _ else _:Em).m.Lo=_
 cases e.o.Jo.truth <;> rfl
theorem wo(e:Em)(j:Nat)(u:V)(r:List V):((e.take u r).doc j).ev0=(e.doc j).take Lr r:=by
 unfold Em.doc
 show(Em.KI (bif e.o.Jo.truth then _ else _) 9).ev0=_
 cases e.o.Jo.truth <;> rfl
theorem PO.one{R1:List Ob}(h2:R[2]?=some (.ins 0 fs))(h0:(fs.lookup 0).isNone=true)(h:(Jr 90).Jv 0 [.ref 2,v] ⟨R,[]⟩=some (.b .nul,⟨R1,[]⟩))(k:PO todo R1 R'):PO (v::todo) R R':=⟨⟨fs,h2,h0⟩,R1,h,k⟩
theorem BR{P:Em->Prop}(hs:e.k.state=.JA 4 2)(hi:e.c.indent=.nul)(hc:0<=e.w.col)(ho:e.ok 5)(hk:KG v=10∨KG v=12)(hv:∀x∈v::todo,Kq x)(hl:(v::todo).length<=300)(hL:LastOk (v::todo))(h:∀j,∃E,OM (v::todo) [] ((e.KI 6).doc j) E/\P E) :
  ∃E g',PO (NM::L0::v::todo) (Jm (e.take Lr []) g).cur (Jm (E.take Lr []) g').cur/\P E:=by
 have iE:∀k f,Qe k=true->Kq (.rc k f):=λk f hk=>⟨k,f,rfl,hk⟩
 have vS:∀x∈[NM],Kq x:=λx hx=>by obtain rfl:=km hx;exact iE _ _ (by decide)
 have vD:∀x∈[L0],Kq x:=λx hx=>by obtain rfl:=km hx;exact iE _ _ (by decide)
 have D1:Rc 89 60000 [.ref 2,NM] (e.take Lr [NM]) g (λe' g'=>e'=(e.KI 6).take Lr []):=by
  refine iT (d:=87) (e:=e.take Lr [NM]) (v:=NM) (r:=[]) (j:=4) (f:=f_4) (vs:=[.ref 2]) U vS (by show 1<=300;decide) U U hs U U λx=>?_
  obtain⟨y,hy⟩:=QB (e:=e.take NM []) (g:=g++x) (d:=87) U
  exact⟨_,_,hy,fT (d:=87) (e:=(e.KI 6).take Lr []) U (λx hx=>absurd hx mo) (by show 0<=300;decide) U λz=>rfl⟩
 obtain⟨E1,G1,h1,q1⟩:=fR (e:=e.take Lr []) (g:=g) (d:=89) (v:=NM) U (by show 0 < JL;decide) D1
 subst q1
 have D2:Rc 89 60000 [.ref 2,L0] ((e.KI 6).take Lr [L0]) G1 (λe' g'=>e'=(e.KI 6).take Lr [L0]):=
  fT (d:=87) (e:=(e.KI 6).take Lr [L0]) U vD (by show 1<=300;decide) U λz=>rfl
 obtain⟨E2,G2,h2,q2⟩:=fR (e:=(e.KI 6).take Lr []) (g:=G1) (d:=89) (v:=L0) U (by show 0 < JL;decide) D2
 subst q2
 have v2:∀x∈[L0,v],Kq x:=λx hx=>by
  rcases kl hx with rfl | hx
  ·exact vD _ (.head _)
  ·obtain rfl:=km hx;exact hv _ (.head _)
 have n2:bV (bF [L0,v])=false:=by
  show bV [6,KG v]=false
  rcases hk with h | h <;> rw[h] <;> decide +kernel
 have D3:Rc 89 60000 [.ref 2,v] ((e.KI 6).take Lr [L0,v]) G2 (λe' g'=>∃E,P E/\Hi todo 1 E e' g'):=by
  refine iT (d:=87) (e:=(e.KI 6).take Lr [L0,v]) (v:=L0) (r:=[v]) (j:=6) (f:=f_6) (vs:=[.ref 2]) U v2 (by show 2<=300;decide) n2 U U U U λx=>?_
  obtain⟨E,hE,hP⟩:=h ((G2++x).length+6)
  have hd:=Bj (l:=[.ref 2,v]) (m:=1) (E:=E) (todo:=todo) U (by decide) [v] 59999 ((e.KI 6).doc ((G2++x).length+6)) ((G2++x)++[.Md aQ]) (by show 1 < 59999;decide) hE (.inr ⟨(G2++x).length,zR _ _,by rw[R4 (mf _),Sl];rfl⟩) (λy hy=>v2 y (.tail _ hy)) (mf _) hL
  obtain⟨E',G',a1,a2⟩:=hd
  refine⟨_,_,Qz (e:=(e.KI 6).take L0 [v]) (g:=G2++x) (d:=84) U (.inl hi) hc ho,E',G',?_,E,hP,a2⟩
  rw[wo];exact a1
 obtain⟨E3,G3,h3,E,hP,e',q',rfl,b3,b4,b5,b6,b7,b8⟩:=fR (e:=(e.KI 6).take Lr [L0]) (g:=G2) (d:=89) (v:=v) (by obtain⟨k,f,rfl,_⟩:=hv v (.head _);rfl) (by show 1 < JL;decide) D3
 have hl3:(q'++todo).length<=300:=by
  rw[ku];exact ke (Se b8 _) (by rw[Td];exact hl)
 obtain⟨g',hF⟩:=Id todo q' e' G3 b4 b5 (λx hx=>(mx hx).elim (b7 x) λh=>hv x (.tail _ h)) hl3 b6 b3
 exact⟨E,g',.one (fs:=MF (e.take Lr [])) U U h1 (.one (fs:=MF ((e.KI 6).take Lr [])) U U h2 (.one (fs:=MF ((e.KI 6).take Lr [L0])) U U h3 hF)),hP⟩
end
noncomputable def OD(o:Op):Em:=⟨⟨0,0,true,true,false,[]⟩,o,⟨.nul,0,false,false,false,false⟩,⟨.b .nul,.nul,.nul,.b .nul,.nul⟩,⟨.JA 4 2,Lr,[],[],[]⟩⟩
noncomputable def T3:Tx:=[45,45,45]
noncomputable def QT(Jo:Bool):Tx:=bif Jo then T3++[10] else T3
section
variable{n m:Nat}{S:List V}{E:Em}{X:Tx}{tx:Tq}
theorem Fl(pk:bI p)(hm:m<=940)(j:Nat):A1 p 3000 .nul (.JA 9 2) [] [] 0 (((OD p.o).KI 6).doc j)/\RP p m (((OD p.o).KI 6).doc j).w (QT p.o.Jo.truth) p.o.Jo.truth/\(p.o.Jo.truth=false->(((OD p.o).KI 6).doc j).w.ind=false):=by
 have e0:(((OD p.o).KI 6).doc j)=(bif p.o.Jo.truth then((((OD p.o).KI 6).M (((OD p.o).KI 6).m.Ky (.ref j))).W ⟨0,1,true,true,false,[T3,p.o.lb]⟩).KI 9 else((((OD p.o).KI 6).M (((OD p.o).KI 6).m.Ky (.ref j))).W ⟨3,0,false,false,false,[T3]⟩).KI 9):=by
  unfold Em.doc
  show(bif p.o.Jo.truth then _ else _:Em).KI 9=_
  cases p.o.Jo.truth <;> rfl
 have n3:Jz T3:=Jz.cons U (Jz.cons U (c1 U))
 have a:∀w:Wr,0<=w.col->w.rows.length<=2->A1 p 3000 .nul (.JA 9 2) [] [] 0 (((((OD p.o).KI 6).M (((OD p.o).KI 6).m.Ky (.ref j))).W w).KI 9):=λw h0 h2=>
  ⟨⟨rfl,rfl,.inl U,rfl,rfl,rfl,h0,ke (Se h2 _) (by decide),by decide⟩,⟨rfl,rfl,rfl,rfl⟩,rfl⟩
 rw[e0]
 unfold QT
 cases hc:p.o.Jo.truth with
 | true=>
  refine⟨a _ (Sq 0) (mf 2),⟨?_,λh=>Kb h.symm,λJ=>rfl⟩,λh=>Kb h.symm⟩
  have hn:p.KQ=false:=by
   cases hn:p.KQ with
   | false=>rfl
   | true=>rw[(pk.n hn).1]at hc;exact Kb hc
  have hl:=pk.lb.len
  refine⟨?_,Sq 0,hm,λe=>Kb (hn.symm.trans e),λJ=>⟨?_,by show(0:Int)+_<=1000;lia⟩⟩
  ·show(T3++(p.o.lb++[])).length+100*m<=100000
   rw[ku,mh];show 3+p.o.lb.length+_<=_;lia
  ·show T3++(p.o.lb++[])=cv p.o.lb ((T3++[10])++[])
   rw[mh,mh,aJ,dz _ n3.M8]
   show _=T3++(p.o.lb++[]);rw[mh]
 | false=>
  refine⟨a _ (by decide) (by show 1<=2;decide),⟨?_,λJ=>rfl,λJ=>rfl⟩,λJ=>rfl⟩
  refine⟨?_,(by show(0:Int)<=3;decide),hm,λJ=>⟨[],T3,rfl,.one,rfl,λx hx=>absurd hx mo,n3,(λJ=>by decide),.inl U⟩,λJ=>⟨?_,by show(3:Int)+_<=1000;lia⟩⟩
  ·show 3+100*m<=100000;lia
  ·show T3=cv p.o.lb (T3++[]);rw[mh,dz _ n3.M8]
theorem D5(hs:e.k.state=.JA 9 2)(hS:e.k.Jt.length < JL)(h:NR v nx true false false false (e.push 8) E):Lq e v nx E:=
 .of hs ⟨by decide,by decide⟩ U U h.1 λd g rr hr hl hp=>st9 (e:=e.take v rr) (d:=d+10) hS (h.2 (d+3) g rr hr hl hp)
theorem lZ(pk:bI p)(nt:NT sm true h c vs tx ky)(hs:p.KQ=true->sm=true)(h6:9*h<=60)(hN:N+2*vs.length<=2000)(ha:A1 p 3000 .nul (.JA 9 2) [] [] 0 e)(hw:RP p (m+c) e.w X u):On vs e λE=>A1 p N .nul (.JA 8 2) [] [] 0 E/\RN p m E.w (X++(sp u++tx p.o.Jo.truth p.o.bi false 0)) false:=by
 obtain⟨n,tl,rfl,hd,_,_,_,f⟩:=nt
 intro y
 have hN:N+2*(tl.length+1)<=2000:=hN
 have ha':A1 p (N+2*tl.length+1+1) .nul (.JA 9 2) [] [] 0 e:=ha.le (by lia)
 have hp:=ha'.p.Pw e.m (u:=e.w) (Gr.refl) 8
 obtain⟨M,n0,E,c0,hA,hE⟩:=f p N m .nul [] [] 0 8 true false false false _ X u pk hs hp (by show(0:Int)+_<=60;lia) (.inl U) (Sq 0) (MP.o ha.m.mp U U) hw y
 exact⟨E,⟨M,D5 ha.t (by rw[ha.p.s];decide) n0,c0⟩,hA,hE⟩
theorem Hq(hs:e.k.state=.JA 8 2)(hi:JI e.c.indent)(hc:0<=e.w.col)(ho:e.ok 5):Lq e deV nx (((e.JH.sgn [46,46,46] true false false).JH).KI 7):=
 .of hs ⟨by decide,by decide⟩ U U U λd g rr hr hl hp=>st8 (e:=e.take deV rr) (d:=d+7) U hi hc ho
theorem D6(hs:e.k.state=.JA 7 2)(ho:e.w.KJ=false):Lq e M1 nx (e.KI 5):=
 .of hs ⟨by decide,by decide⟩ U U U λd g rr hr hl hp=>Hs (e:=e.take M1 rr) (d:=d+8) U ho
theorem zS(w:Wr)(i:Int)(lb:Tx):(w.JH i lb).KJ=w.KJ:=by
 have hp:∀w:Wr,(w.pad i).KJ=w.KJ:=λw=>by unfold Wr.pad;cases decide (w.col < i) <;> rfl
 unfold Wr.JH
 cases w.Nz i with
 | true=>exact hp _
 | false=>exact hp w
noncomputable def fg(lb:Tx):Tx:=lb++([46,46,46]++lb)
theorem y7(ha:A1 p (n+1) .nul (.JA 8 2) I S lv e)(hi:e.w.ind=false):On [deV,M1] e λE=>E.w.rows.flatten=e.w.rows.flatten++fg p.o.lb:=λx=>by
 have hr:=ha.p.r
 have s1:=Hq (nx:=M1::x) ha.t (.inl ha.p.ix) ha.p.c0 (by show e.w.rows.length+5<=JL;lia)
 obtain⟨d1,d2,d3,d4⟩:=fW (w:=e.w) (i:=0) p.o.lb (eM (.inl hi)) (Sq 0)
 have e1:e.JH=e.W (e.w.JH 0 p.o.lb):=by unfold Em.JH;rw[ha.p.ix,ha.p.o];rfl
 have e2:((e.JH.sgn [46,46,46] true false false).JH).KI 7=(e.W (((e.w.JH 0 p.o.lb).sgn [46,46,46] true false false).JH 0 p.o.lb)).KI 7:=by
  rw[e1]
  show((e.W ((e.w.JH 0 p.o.lb).sgn [46,46,46] true false false)).JH).KI 7=_
  unfold Em.JH
  show(e.W (Wr.JH _ (ar e.c.indent) e.o.lb)).KI 7=_
  rw[ha.p.ix,ha.p.o];rfl
 rw[e2]at s1
 have e3:(e.w.JH 0 p.o.lb).sgn [46,46,46] true false false=⟨3,(e.w.JH 0 p.o.lb).line,false,false,false,(e.w.JH 0 p.o.lb).rows++[[46,46,46]]⟩:=by
  unfold Wr.sgn
  rw[d3,d4,d2];rfl
 obtain⟨f1,_⟩:=fW (w:=(e.w.JH 0 p.o.lb).sgn [46,46,46] true false false) (i:=0) p.o.lb (eM (.inl (by rw[e3]))) (Sq 0)
 refine⟨_,⟨_,s1,_,D6 U ?_,rfl⟩,?_⟩
 ·show(Wr.JH _ 0 p.o.lb).KJ=false
  rw[zS];rfl
 ·show(Wr.JH _ 0 p.o.lb).rows.flatten=_
  rw[f1,e3]
  show((e.w.JH 0 p.o.lb).rows++[[46,46,46]]).flatten++_=_
  rw[Np,d1]
  unfold fg
  rw[show ap 0=[] from rfl,mh]
  simp only[lq]
end
theorem Ab{w:V}{j:Nat×Nat×List (Nat×V)}(h:cT st v=some j)(hw:j.2.2.lookup n=some w):iN n v st=some w:=by
 cases v with
 | ref i=>
  show Option.or none (((cT st (.ref i)).bind λp=>p.2.2.lookup n).or _)=_
  rw[h]
  show Option.or none ((j.2.2.lookup n).or _)=_
  rw[hw];rfl
 | _=>exact nomatch h
theorem Li{c:Cx}{e:E}{Jy:St}(h:Jq c e l st=some (v,Jy)):JJ c (.asg ns e) l st=some (.next,io l v ns,Jy):=kg (Option.map _) h
theorem jH{c:Cx}{k:Nat}{a:E}{f:Fn}(ha:Jq c a l st=some (.em q i,s1))(hR1:s1.JR[q]?=some R)(hi:R[i]?=some (.ins cl fs))(hf:c.fns[k]?=some f)(hown:f.own=cl)(NU:(fs.lookup k).isNone=true)
  (has:Kv c as l s1=some ((vs,[]),s2)) (hl:aM f (.ref i::vs) []=some ws) (PA:vs.all OB=true) (hR:s2.JR[q]?=some R) (hc:c.Jv k ws ⟨R,[]⟩=some (v,⟨R',[]⟩)) (hy:OB v=true) :
  Jq c (.K4 k a as) l st=some (v,{ s2 with JR:=s2.JR.set q R'}):=by
 have hE:LY s1 (.em q i)=some ((q,i),cl,fs):=Jl (a:=(q,i)) U (Jl hR1 (Jl hi U))
 have hm:vJ c k (.em q i) s1=some (f,q,i):=Jl hE (Jl hf (bU (by show(f.own==cl&&(fs.lookup k).isNone)=true;rw[hown,NU,beq_self_eq_true];rfl)))
 refine Jl ha (Jl hm (Jl has (Jl hl (Jl (a:=()) (bU ?_) (Jl hR (Jl hc (bU ?_)))))))
 ·show(vs.all OB&&true)=true
  rw[PA];rfl
 ·show(OB v&&true)=true
  rw[hy];rfl
noncomputable def Gp:S:=.cons (.expr (.K4 0 Kr (.pos I8 .nil))) .nil
theorem db(h:st.cur[j]?=some (.lst vs)):itemAt (.ref j) st i=some (vs[i]?):=by
 show(Option.or none (Option.map _ (aI st (.ref j))))=_
 rw[ab h];rfl
theorem im{α:Type}{l:List α}{a:α}(h:l[q]?=some a):l.set q a=l:=by
 obtain⟨hi,rfl⟩:=kh h
 exact List.set_getElem_self hi
theorem y8(rest:List V):∀{R R':List Ob}{pre:List V}{st:St}{n:Nat}{l:List V},PO rest R R'->(∀v∈rest,Kq v)->st.cur[j]?=some (.lst (pre++rest))->st.JR[q]?=some R->rest.length < n->l[3]?=some (.em q 2)->4 < l.length->
  ∀{P:Prop},(∀x',cy 4 (itemAt (.ref j)) (JJ (Jr 90) Gp) n pre.length l st=some (.next,l.set 4 x',{ st with JR:=st.JR.set q R'})->P)->P:=by
 induction rest with
 | nil=>
  intro R R' pre st n l hF _ hj hR hn h3 h4 P post
  obtain rfl:R'=R:=hF
  obtain⟨n,rfl⟩:=cN hn
  exact post (l[4]'h4) (Jl (db hj) (by rw[Si (by rw[mh];exact mf _),im hR,List.set_getElem_self]))
 | cons v rest ih=>
  intro R R' pre st n l hF hv hj hR hn h3 h4 P post
  cases n with
  | zero=>exact absurd hn (Nat.not_lt_zero _)
  | succ n=>
   obtain⟨⟨fs,h2,h0⟩,R1,hc,hF⟩:=hF
   obtain⟨k,f,rfl,_⟩:=hv v (.head _)
   have l4:(l.set 4 (.rc k f))[4]?=some (.rc k f):=SK h4
   have l3:(l.set 4 (.rc k f))[3]?=some (.em q 2):=by rw[Sd (by decide)];exact h3
   refine ih (pre:=pre++[.rc k f]) (st:={ st with JR:=st.JR.set q R1}) (n:=n) (l:=l.set 4 (.rc k f)) hF (λv h=>hv v (.tail _ h)) (by show st.cur[j]?=_;rw[hj,lq];rfl) (SK (kh hR).1) (R7 hn) l3 (by rw[List.length_set];exact h4) λx' e1=>post x' (Jl (db hj) ?_)
   rw[R4 (mf _),Sl]
   have cl:=jH (c:=Jr 90) (k:=0) (a:=.n0 (.loc 3)) (as:=.pos I8 .nil) (l:=l.set 4 (.rc k f)) (st:=st) (f:=RD) (q:=q) (i:=2) (s1:=st) (s2:=st) (vs:=[.rc k f]) (aC l3 U) hR h2 (by rw[bg];rfl) U h0 (Jl (aC l4 U) U) U U hR hc U
   refine Jl (go (kg (Option.map _) cl) U) (ku (as:=pre) (bs:=[V.rc k f])▸e1.trans ?_)
   rw[List.set_set]
   exact kg (λu=>some (LD.next,l.set 4 x',(⟨st.cur,u⟩:St))) (List.set_set ..)
structure Rd(R:List Ob)(t:Tx)(fs gs:List (Nat×V))(k:Nat)(ts:List Tx):Prop where
 em:R[2]?=some (.ins 0 fs)
 str:fs.lookup 64=some (.ref 0)
 rw:R[0]?=some (.ins 1 gs)
 no:(gs.lookup 58).isNone=true
 rows:gs.lookup 107=some (.ref k)
 lst:R[k]?=some (.lst (aq ts))
 tx:ts.flatten=t
 ln:t.length<=JL
theorem EB{g:List Ob}{t:Tx}(h:e.w.rows.flatten=t)(hl:t.length<=JL):Rd (Jm e g).cur t (MF e) [(107,.ref 1)] 1 e.w.rows:=⟨rfl,rfl,rfl,rfl,rfl,rfl,h,hl⟩
theorem rS{t:Tx}{k:Nat}(h:Rd R t fs gs k ts):(Jr 90).Jv 58 [.ref 0] ⟨R,[]⟩=some (.s t,⟨R,[]⟩):=by
 have e1:Ep 89 (.u1 (.JY 107) I0) [.ref 0] ⟨R,[]⟩ (.ref k):=by
  refine Jl (a:=(.ref 0,⟨R,[]⟩)) U ?_
  show(iN 107 (.ref 0) ⟨R,[]⟩).map _=_
  rw[Ab (j:=(0,1,gs)) (eD h.rw) h.rows];rfl
 have hm:∀ts:List Tx,(aq ts).mapM aU=some ts:=λts=>by
  induction ts with
  | nil=>rfl
  | cons t ts ih=>
   unfold aq at ih ⊢
   rw[Sh,SY]
   show((List.mapM aU (ts.map λt=>V.b (.str t))).bind λk=>some (t::k))=_
   rw[ih];rfl
 have e2:Ep 89 (.u1 .join (.u1 (.JY 107) I0)) [.ref 0] ⟨R,[]⟩ (.s t):=by
  refine Jl e1 (Jl (ab h.lst) (Jl (hm ts) ?_))
  have hl:=h.ln
  rw[<- h.tx]at hl ⊢
  exact bU (decide_eq_true hl)
 exact ay (d:=89) (f:=zg) U (aR e2 _) U
noncomputable def kwT:E:=match ah 1 z6 with | .cons (.asg _ (.LL _ _ as)) _=>as | _=>.nil
noncomputable def stm:List V:=[NM,L0]
noncomputable def LZ:List V:=[deV,M1]
theorem gO{xs:List V}(h:st.cur[i]?=some (.lst xs))(k:st.cur[j]?=some (.lst ys))(hl:xs.length+ys.length<=JL):f2 (.bin .add) (.ref i) (.ref j) st=some (alloc st (.lst (xs++ys))):=by
 show(Option.or none ((aI st (.ref i)).bind λp=>(aI st (.ref j)).bind λq=>_))=_
 rw[ab h,ab k]
 show Option.or none (af (decide (xs.length+ys.length<=JL)) _)=_
 rw[decide_eq_true hl];rfl
theorem ak(st:St)(o:Ob):(alloc st o).2.cur[st.cur.length]?=some o:=by
 show(st.cur++[o])[st.cur.length]?=_
 rw[R4 (mf _),Sl];rfl
theorem cA{o:Ob}{k:Nat}(h:k < st.cur.length):(alloc st o).2.cur[k]?=st.cur[k]?:=Sa h
theorem cZ{t:Nat}{o:Ob}(h:st.cur[t]?=some o):t < st.cur.length:=(kh h).1
theorem aA{o p:Ob}{k:Nat}(h:st.cur[k]?=some p):(alloc st o).2.cur[k]?=some p:=(cA (cZ h)).trans h
theorem aV(st:St)(o:Ob):(alloc st o).2.cur.length=st.cur.length+1:=by show(st.cur++[o]).length=_;rw[ku];rfl
noncomputable def N7(cn:Bool)(ix wd:Int)(ln:B):Op:=⟨.b .nul,.bool cn,.nul,aN (.int ix),d6 (aN (.int ix)) (.int wd),JP ln⟩
noncomputable def sy(cn:Bool)(ix wd:Int)(ln:B):List Ob:=(Jm ((OD (N7 cn ix wd ln)).take Lr []) [yE]).cur
noncomputable def bo(cn:Bool)(ix wd:Int)(ln:B)(en:Tx):V:=gQ [.o cn,.i ix,.i wd,.b ln,.s en]
structure Old(st Jy:St):Prop where
 ln:st.cur.length<=Jy.cur.length
 at':∀k,k < st.cur.length->Jy.cur[k]?=st.cur[k]?
theorem Ek{b:Tx}:ag (a++b) none (some (a.length:Int))=a:=by
 unfold ag
 rw[show NW (a++b).length (some (a.length:Int))=a.length by show J2 _ _=_;rw[cg,ku];lia]
 show((a++b).drop 0).take (a.length - 0)=a
 rw[List.drop_zero,Nat.sub_zero,List.take_left]
theorem HI{b:Tx}:ag (a++b) (some (a.length:Int)) none=b:=by
 unfold ag
 rw[show Na (a++b).length (some (a.length:Int))=a.length by show J2 _ _=_;rw[cg,ku];lia]
 show((a++b).drop a.length).take ((a++b).length - a.length)=b
 rw[SD,ku,Nat.add_sub_cancel_left,List.take_length]
theorem HH{b c:Tx}:ag ((a++b)++c) (some (a.length:Int)) (some ((a++b).length:Int))=b:=by
 unfold ag
 rw[show Na ((a++b)++c).length (some (a.length:Int))=a.length by show J2 _ _=_;rw[cg];simp only[ku];lia,
  show NW ((a++b)++c).length (some ((a++b).length:Int))=(a++b).length by show J2 _ _=_;rw[cg];simp only[ku];lia]
 rw[lq,SD,ku,Nat.add_sub_cancel_left,List.take_left]
theorem rh{fr:Tx}{row:List V}{t:Tx}{k:Nat}(hj:st.cur[j]?=some (.lst row))(hv:∀v∈row,Kq v)(hn:row.length<=290)(hl:Lw ln)(l1:fr.length<=2000)(l2:en.length<=2000)
  (hF:PO (NM::L0::(row++LZ)) (sy cn ix wd ln) R') (hR:Rd R' t fs gs k ts) (ht:t=((T3++fr)++Y)++fg en)  (post:∀s',(Jr 91).Jv 65 [.ref j,bo cn ix wd ln en,.s fr] st=some (.s Y,s')->Old st s'->P):P:=by
 let L (a b c d e:V):List V:=[.ref j,bo cn ix wd ln en,.s fr,a,b,c,d,e,.o cn,.i ix,.i wd,.b ln,.s en]
 let s1:St:={ st with JR:=st.JR++[sy cn ix wd ln]}
 let q:=st.JR.length
 have e0:Es 90 (LQ z6) [.ref j,bo cn ix wd ln en,.s fr,.uu,.uu,.uu,.uu,.uu,.uu,.uu,.uu,.uu,.uu] st (L .uu .uu .uu .uu .uu) st:=by
  refine Jl (a:=(bo cn ix wd ln en,st)) U (Jl (a:=[.o cn,.i ix,.i wd,.b ln,.s en]) U U)
 have e1:Ev 90 (.LL 59 60 kwT) (L .uu .uu .uu .uu .uu) st (.em q 2) s1:=by
  refine Jl (a:=CU) U (Jl (a:=[.ref 0]) U (Jl (a:=(.b .nul,⟨[.ins 1 [(107,.ref 1)],.lst []],[]⟩)) (by kernel_rfl) (Jl (a:=()) U (Jl (a:=(([],[(2,.o cn),(3,.i ix),(4,.i wd),(6,.b ln)]),st)) (by kernel_rfl) ?_))))
  refine Jl (a:=zf) U (Jl (a:=dT (.bool cn) .nul (.int ix) (.int wd) ln) (by kernel_rfl) (Jl (a:=()) (by kernel_rfl) ?_))
  refine Jl (sx 89 (.bool cn) .nul (.int ix) (.int wd) ln U U hl) ?_
  exact bU U
 let s2:=(alloc s1 (.lst stm)).2
 let s3:=(alloc s2 (.lst (stm++row))).2
 let s4:=(alloc s3 (.lst LZ)).2
 let s5:=(alloc s4 (.lst ((stm++row)++LZ))).2
 have lim:∀n,n<=300->n<=JL:=λn h=>ke h (by decide)
 have ln2:s2.cur.length=st.cur.length+1:=aV s1 _
 have ln3:s3.cur.length=st.cur.length+1+1:=(aV s2 _).trans (kg (·+1) ln2)
 have ln4:s4.cur.length=st.cur.length+1+1+1:=(aV s3 _).trans (kg (·+1) ln3)
 have ln5:s5.cur.length=st.cur.length+1+1+1+1:=(aV s4 _).trans (kg (·+1) ln4)
 have lst2:∀{vs:List V}{as:E}{l:List V}{s:St},Kv (Jr 90) as l s=some ((vs,[]),s)->vs.length<=10->Ev 90 (.lst as) l s (.ref s.cur.length) (alloc s (.lst vs)).2:=λ{vs as l s} h hl=>Jl h (bU (by show(true&&decide (vs.length<=JL))=true;rw[decide_eq_true (ke hl (by decide))];rfl))
 have a2:Ev 90 DT (L (.em q 2) .uu .uu .uu .uu) s1 (.ref st.cur.length) s2:=lst2 (vs:=stm) (by kernel_rfl) (by decide)
 have a3:Ev 90 (.b2 (.bin .add) DT I0) (L (.em q 2) .uu .uu .uu .uu) s1 (.ref s2.cur.length) s3:=
  Jl a2 (Jl (a:=(.ref j,s2)) U (gO (ak s1 _) (aA (st:=s1) hj) (lim _ (by show 2+row.length<=300;lia))))
 have a4:Ev 90 DQ (L (.em q 2) .uu .uu .uu .uu) s3 (.ref s3.cur.length) s4:=lst2 (vs:=LZ) (by kernel_rfl) (by decide)
 have a5:=Jl (f:=λr=>(Jq (Jr 90) DQ (L (.em q 2) .uu .uu .uu .uu) r.2).bind λp=>f2 (.bin .add) r.1 p.1 p.2) a3 (Jl a4 (gO (aA (ak s2 _)) (ak s3 _) (lim _ (by rw[ku];show 2+row.length+2<=300;lia))))
 have hR1:s5.JR[q]?=some (sy cn ix wd ln):=by
  show(st.JR++[sy cn ix wd ln])[st.JR.length]?=_
  rw[R4 (mf _),Sl];rfl
 have Of:∀v∈NM::L0::(row++LZ),Kq v:=λv h=>by
  rcases kl h with rfl | h
  ·exact⟨_,_,rfl,by decide⟩
  ·rcases kl h with rfl | h
   ·exact⟨_,_,rfl,by decide⟩
   ·rcases mx h with h | h
    ·exact hv v h
    ·rcases kl h with rfl | h
     ·exact⟨_,_,rfl,by decide⟩
     ·obtain rfl:=km h;exact⟨_,_,rfl,by decide⟩
 refine y8 (j:=s4.cur.length) (q:=q) (pre:=[]) (st:=s5) (l:=L (.em q 2) .uu .uu .uu .uu) (n:=60000) _ hF Of (ak s4 _) hR1 (by rw[R0,R0,ku];show row.length+2+1+1 < 60000;lia) U (by show 4 < 13;decide) λx' e2=>?_
 let s6:St:={ s5 with JR:=s5.JR.set q R'}
 have e3:Es 90 (LQ (ah 2 z6)) (L (.em q 2) .uu .uu .uu .uu) s1 (L (.em q 2) x' .uu .uu .uu) s6:=Jl a5 (by rw[dk];exact e2)
 have hR2:s6.JR[q]?=some R':=SK (kh hR1).1
 have e4:Ep 90 (.u1 (.JY 64) Kr) (L (.em q 2) x' .uu .uu .uu) s6 (.em q 0):=by
  refine Jl (a:=(.em q 2,s6)) U ?_
  show(iN 64 (.em q 2) s6).map _=_
  have hE:LY s6 (.em q 2)=some ((q,2),0,fs):=Jl (a:=(q,2)) U (Jl hR2 (Jl hR.em U))
  rw[show iN 64 (.em q 2) s6=some (.em q 0) from by
   show Option.or none (Option.or none ((LY s6 (.em q 2)).bind _))=_
   rw[hE]
   show Option.or none (Option.or none ((fs.lookup 64).bind _))=_
   rw[hR.str];rfl];rfl
 have e5:=jH (c:=Jr 90) (k:=58) (as:=.nil) (f:=zg) (q:=q) (i:=0) (s2:=s6) (vs:=[]) e4 hR2 hR.rw (by rw[bg];rfl) U hR.no U U U hR2 (rS hR) U
 have s6e:({ s6 with JR:=s6.JR.set q R'}:St)=s6:=by
  show(⟨s5.cur,(s5.JR.set q R').set q R'⟩:St)=_
  rw[List.set_set]
 rw[s6e]at e5
 have hT:=hR.ln
 have e6:Ep 90 (.b2 (.bin .add) Aw I7) (L (.em q 2) x' (.s t) .uu .uu) s6 (.s (T3++fr)):=Jl (a:=(.s T3,s6)) U (Jl (a:=(.s fr,s6)) U (bS (ke (show 3+fr.length<=2003 by lia) (by decide))))
 have e7:Ep 90 GF (L (.em q 2) x' (.s t) (.s (T3++fr)) .uu) s6 (.s (fg en)):=by
  have:(en++[46,46,46])++en=fg en:=lq _ _ _
  rw[<- this]
  exact Jl (Jl (a:=(.s en,s6)) U (Jl (a:=(.s [46,46,46],s6)) U (bS (ke (show en.length+3<=2003 by lia) (by decide))))) (Jl (a:=(.s en,s6)) U (bS (by rw[ku];exact ke (show en.length+3+en.length<=4003 by lia) (by decide))))
 let L6:List V:=L (.em q 2) x' (.s t) (.s (T3++fr)) (.s (fg en))
 have lt:(t.length:Int) - ((fg en).length:Int)=(((T3++fr)++Y).length:Int):=by rw[ht,ku (bs:=fg en)];lia
 have m1:Ep 90 o0 L6 s6 (.i ((T3++fr).length:Int)):=rfl
 have m2:Ep 90 I81 L6 s6 (.i (((T3++fr)++Y).length:Int)):=by rw[<- lt];rfl
 have ne:∀{s:Tx}{st:St},f2 (.cmp .ne) (.s s) (.s s) st=some (.ff,st):=λ{s st}=>by
  show(some (s != s)).map (λb=>(V.b (.bool b),st))=_
  rw[bne_self_eq_false];rfl
 have b1:Ep 90 (.b2 (.cmp .ne) (.slice I9 I6 o0) Kp) L6 s6 .ff:=by
  refine Jl (a:=(.s (T3++fr),s6)) (Jl (a:=(.s t,s6)) U (Jl (a:=(.b .nul,s6)) U (Jl m1 ?_))) (Jl (a:=(.s (T3++fr),s6)) U ne)
  show some (V.b (.str (ag t none (some ((T3++fr).length:Int)))),s6)=_
  rw[ht,lq,Ek]
 have b2:Ep 90 (.b2 (.cmp .ne) (.slice I9 I81 I6) L7) L6 s6 .ff:=by
  refine Jl (a:=(.s (fg en),s6)) (Jl (a:=(.s t,s6)) U (Jl m2 (Jl (a:=(.b .nul,s6)) U ?_))) (Jl (a:=(.s (fg en),s6)) U ne)
  show some (V.b (.str (ag t (some (((T3++fr)++Y).length:Int)) none)),s6)=_
  rw[ht,HI]
 have b3:Ep 90 (.slice I9 o0 I81) L6 s6 (.s Y):=by
  refine Jl (a:=(.s t,s6)) U (Jl m1 (Jl m2 ?_))
  show some (V.b (.str (ag t (some ((T3++fr).length:Int)) (some (((T3++fr)++Y).length:Int)))),s6)=_
  rw[ht,HH]
 refine post _ (ay (d:=90) (f:=kT) (l:=L6) U (go e0 (go (Li e1) (go e3 (go (Li e5) (go (Li e6) (go (Li e7) (go (aj (cB b1 b2) U U) (aR b3 _)))))))) U) ⟨?_,?_⟩
 ·show st.cur.length<=s5.cur.length
  rw[ln5];lia
 ·intro k hk
  show s5.cur[k]?=st.cur[k]?
  have b1:k < s2.cur.length:=by rw[ln2];lia
  have b2:k < s3.cur.length:=by rw[ln3];lia
  have b3:k < s4.cur.length:=by rw[ln4];lia
  exact(cA b3).trans ((cA b2).trans ((cA b1).trans (cA (st:=s1) hk)))
section
variable{n m:Nat}{S:List V}{E:Em}{X:Tx}{tx:Tq}
theorem De{i w:Int}(h:aN (.int i)*2 < w)(h0:0 < w):d6 (aN (.int i)) (.int w)=w:=by
 unfold d6
 show(bif (w != 0)&&decide (aN (.int i)*2 < w) then w else 80)=w
 rw[decide_eq_true h,show(w != 0)=true from bne_iff_ne.mpr (by lia)];rfl
theorem f8(i:Int):2<=aN (.int i)/\aN (.int i)<=9:=by
 unfold aN
 show 2<=(bif (i != 0)&&(decide (1 < i)&&decide (i < 10)) then i else 2)/\(bif (i != 0)&&(decide (1 < i)&&decide (i < 10)) then i else 2)<=9
 cases hx:(i != 0)&&(decide (1 < i)&&decide (i < 10)) with
 | false=>exact⟨(by show(2:Int)<=2;decide),(by show(2:Int)<=9;decide)⟩
 | true=>
  obtain⟨_,h2⟩:=ly hx
  obtain⟨h3,h4⟩:=ly h2
  have h3:=kj h3
  have h4:=kj h4
  exact⟨by show 2<=i;omega,by show i<=9;omega⟩
theorem gI(hl:Lw ln):Mj (JP ln):=by rcases hl with rfl | rfl | rfl | rfl | rfl <;> first | exact .inl rfl | exact .inr (.inl rfl) | exact .inr (.inr rfl)
theorem yk(hl:Lw ln):bI ⟨N7 cn ix 1000 ln,false⟩:=
 ⟨⟨cn,rfl⟩,gI hl,(f8 ix).1,(f8 ix).2,rfl,λJ=>De (by have:=(f8 ix).2;lia) (by decide),λh=>Kb h⟩
theorem ED(hl:Lw ln)(hw:aN (.int ix)*2 < wd):bI ⟨N7 false ix wd ln,true⟩:=by
 have b:=(f8 ix).1
 have e:d6 (aN (.int ix)) (.int wd)=wd:=De hw (by lia)
 exact⟨⟨false,rfl⟩,gI hl,(f8 ix).1,(f8 ix).2,rfl,λh=>Kb h.symm,λJ=>⟨rfl,by show 5<=d6 (aN (.int ix)) (.int wd);rw[e];lia⟩⟩
theorem fU(pk:bI p)(hp:p.o=N7 cn ix wd ln)(hv:∀x∈v::vs,Kq x)(hk:KG v=10∨KG v=12)(hn:(v::vs).length<=290){Q:Tx->Prop}
  (h:∀e,A1 p 3000 .nul (.JA 9 2) [] [] 0 e->RP p 900 e.w (QT cn) cn->(cn=false->e.w.ind=false)->On (v::vs) e λE=>A1 p 1 .nul (.JA 8 2) [] [] 0 E/\E.w.ind=false/\E.w.rows.flatten.length<=100000/\Q E.w.rows.flatten) :
  ∃R' fs gs k ts T,Q T/\PO (NM::L0::((v::vs)++LZ)) (sy cn ix wd ln) R'/\Rd R' (T++fg p.o.lb) fs gs k ts:=by
 have Of:∀x∈v::(vs++LZ),Kq x:=λx hx=>by
  rcases mx (show x∈(v::vs)++LZ from hx) with hx | hx
  ·exact hv x hx
  ·rcases kl hx with rfl | hx
   ·exact⟨_,_,rfl,by decide⟩
   ·obtain rfl:=km hx;exact⟨_,_,rfl,by decide⟩
 have ct:p.o.Jo.truth=cn:=by rw[hp];rfl
 obtain⟨E,g',hF,T,hQ,hl,hT⟩:=BR (P:=λE=>∃T,Q T/\T.length<=100000/\E.w.rows.flatten=T++fg p.o.lb) (e:=OD p.o) (g:=[yE]) (v:=v) (todo:=vs++LZ) U U (Sq 0) (by show 0+5<=JL;decide) hk Of (by
  show(vs++LZ).length+1<=300
  rw[ku];show vs.length+2+1<=300;have:vs.length+1<=290:=hn;lia) (.inr ⟨v::vs++[deV],by rw[lq];rfl⟩) (λj=>by
  obtain⟨a,b,c⟩:=Fl (m:=900) pk (by decide) j
  rw[ct]at b c
  obtain⟨E,c0,T,h1,h2,h3⟩:=On.app (ws:=LZ) (Q:=λE=>∃T,Q T/\T.length<=100000/\E.w.rows.flatten=T++fg p.o.lb) (h _ a b c) (λE hE x=>by
   obtain⟨F,c0,hF⟩:=y7 hE.1 hE.2.1 x
   exact⟨F,c0,_,hE.2.2.2,hE.2.2.1,hF⟩) []
  exact⟨E,c0,T,h1,h2,h3⟩)
 refine⟨_,_,_,_,_,T,hQ,?_,EB (e:=E.take Lr []) (g:=g') hT ?_⟩
 ·rw[hp]at hF;exact hF
 ·have:=pk.lb.len
  rw[ku]
  unfold fg
  rw[ku,ku]
  exact ke (show T.length+(p.o.lb.length+(3+p.o.lb.length))<=100007 by lia) (by decide)
def sn(vs:List V):Prop:=∃v tl,vs=v::tl/\(KG v=10∨KG v=12)
def gP(cn:Bool)(ix wd:Int)(ln:B)(row:List V)(T:Tx):Prop:=∃R' fs gs k ts,PO (NM::L0::(row++LZ)) (sy cn ix wd ln) R'/\Rd R' (T++fg (JP ln)) fs gs k ts
theorem tK(hl:Lw ln)(nt:NT sm true h c vs tx ky)(hv:∀x∈vs,Kq x)(hc:sn vs)(h6:9*h<=60)(h9:c<=800):gP cn ix 1000 ln vs (cv (JP ln) (QT cn++(sp cn++tx cn (aN (.int ix)) false 0)))/\(cv (JP ln) (QT cn++(sp cn++tx cn (aN (.int ix)) false 0))).length<=12000+100*c:=by
 have hlen:18*vs.length<=c:=by obtain⟨_,_,_,_,_,h,_⟩:=nt;exact h
 obtain⟨v,tl,rfl,hk⟩:=hc
 obtain⟨R',fs,gs,k,ts,T,⟨rfl,hT⟩,hF,hR⟩:=fU (p:=⟨N7 cn ix 1000 ln,false⟩) (Q:=λT=>T=cv (JP ln) (QT cn++(sp cn++tx cn (aN (.int ix)) false 0))/\T.length<=12000+100*c) (yk hl) U hv hk (by lia) λe ha hw hi x=>by
  obtain⟨E,c0,h1,h2⟩:=lZ (N:=1) (m:=880 - c) (yk hl) nt (λh=>Kb h) (by omega) (by lia) ha (hw.le (by lia)) x
  have hr:=h2.r.ln
  exact⟨E,c0,h1,h2.ind,by lia,(h2.r.kw U).1,by lia⟩
 exact⟨⟨R',fs,gs,k,ts,hF,hR⟩,hT⟩
theorem DX(hl:Lw ln)(nt:NT true true h c vs tx ky)(hv:∀x∈vs,Kq x)(hc:sn vs)(h6:9*h<=60)(h9:c<=800)(hwd:aN (.int ix)*2 < wd):∃T rs r,gP false ix wd ln vs T/\T.length<=12000+100*c/\T=Kg (JP ln) rs++r/\Jn wd rs r (T3++([32]++tx false (aN (.int ix)) false 0))/\(∀x∈rs,Jz x)/\Jz r/\T.take 4=T3++[32]:=by
 have hlen:18*vs.length<=c:=by obtain⟨_,_,_,_,_,h,_⟩:=nt;exact h
 have e:d6 (aN (.int ix)) (.int wd)=wd:=De hwd (by have:=(f8 ix).1;lia)
 obtain⟨v,tl,rfl,hk⟩:=hc
 obtain⟨R',fs,gs,k,ts,T,⟨rs,r,h1,h2,h3,h4,h5,h6⟩,hF,hR⟩:=fU (p:=⟨N7 false ix wd ln,true⟩) (Q:=λT=>∃rs r,T=Kg (JP ln) rs++r/\Jn wd rs r (T3++([32]++tx false (aN (.int ix)) false 0))/\(∀x∈rs,Jz x)/\Jz r/\T.take 4=T3++[32]/\T.length<=12000+100*c) (ED hl hwd) U hv hk (by lia) λe' ha hw hi x=>by
  obtain⟨E,c0,h1,h2⟩:=lZ (N:=1) (m:=880 - c) (ED hl hwd) nt (λJ=>rfl) (by omega) (by lia) ha (hw.le (by lia)) x
  have hr:=h2.r.ln
  obtain⟨rs,r,g1,g2,g3,g4,g5,g6,g7⟩:=(h2.r.kn U).h
  have g2:Jn (d6 (aN (.int ix)) (.int wd)) rs r (T3++([32]++tx false (aN (.int ix)) false 0)):=g2
  rw[e]at g2
  refine⟨E,c0,h1,h2.ind,by lia,rs,r,g1,g2,g4,g5,?_,by lia⟩
  have t4:(T3++([32]++tx false (aN (.int ix)) false 0)).take 4=T3++[32]:=rfl
  rcases g7 with rfl | g7
  ·have:=g2.nil
   rw[g1,<- t4,this];rfl
  ·rw[g1];exact g7.2.trans t4
 exact⟨T,rs,r,⟨R',fs,gs,k,ts,hF,hR⟩,h6,h1,h2,h3,h4,h5⟩
theorem BJ(w:Wr)(q:Bool):w.tg q .nul=w:=by cases q <;> rfl
noncomputable def Q4(cm:Bool):V:=NZ (bif cm then 12 else 10) .nul .nul true (.bool false)
theorem vV(pk:bI p)(hc:p.o.Jo.truth=false)(cm:Bool)(hx:aF (bif cm then 13 else 11) nx=false)(ha:A1 p 3000 .nul (.JA 9 2) [] [] 0 e):∃E,Lq e (Q4 cm) nx E/\A1 p 2998 (.int 0) (.JA (bif cm then 25 else 22) 2) [.b .nul] [.JA 8 2] 0 E/\E.w=e.w:=by
 have hp:=ha.p.Pw (n:=2999) e.m (u:=e.w) (Gr.refl) 8
 have vd:=hp.vd (n:=2998) pk
 have hm:MP (((e.W e.w).M e.m).push 8) .nul .nul false []:=MP.o ha.m.mp U U
 have q0:=AP (fl:=.bool false) (nx:=nx) (r:=true) (s:=false) (m:=false) (k:=false) (vd.fit (q:=3) (by decide)) (m7 false false) hm
 have q1:=AR (fl:=.bool false) (nx:=nx) (r:=true) (s:=false) (m:=false) (k:=false) (vd.fit (q:=3) (by decide)) (m7 false false) hm
 have hf:gV (((e.W e.w).M e.m).push 8) (.bool false) false=false:=by
  unfold gV
  rw[hp.lv,hp.o,hc];rfl
 let M:Em:=(((((((e.W e.w).M e.m).push 8).ctx true false false false).Kn .nul).J3 .nul true)).Ny false (bif cm then 25 else 22)
 have n0:NR (Q4 cm) nx true false false false (((e.W e.w).M e.m).push 8) M:=by
  cases cm with
  | true=>
   have hx:aF 13 nx=false:=hx
   rw[hx,hf]at q1;exact q1
  | false=>
   have hx:aF 11 nx=false:=hx
   rw[hx,hf]at q0;exact q0
 have ew:M.w=e.w:=by
  show(e.w.MB [38] .nul).tg _ .nul=_
  exact BJ e.w _
 refine⟨M,D5 ha.t (by rw[ha.p.s];decide) n0,⟨⟨hp.o,?_,.inr ⟨0,rfl,by decide,by decide⟩,hp.lv,?_,hp.s,by rw[ew];exact ha.p.c0,by rw[ew];have:=ha.p.r;lia,by decide⟩,⟨rfl,rfl,ha.m.2.2.1,ha.m.2.2.2⟩,rfl⟩,ew⟩
 ·show fK e.c.indent e.o.bi false false=_;rw[ha.p.ix];rfl
 ·show e.k.Jw++[.b e.c.indent]=_;rw[ha.p.i,ha.p.ix];rfl
theorem Bp(pk:bI p)(hn:p.KQ=false)(hw:RP p (m+1) w T3 false)(hi:w.ind=false):Ri p m (w.JH 0 p.o.lb) (T3++[10]) true/\(w.JH 0 p.o.lb).ws=true/\(w.JH 0 p.o.lb).ind=true:=by
 have hr:=hw.r
 rw[hw.wd hn]at hr
 have hr:Ri p (m+1) w (T3++[]) true:=hr
 rw[mh]at hr
 have:=hr.row (i:=0) pk hn (eM (.inl hi)) (Sq 0) (by decide)
 obtain⟨_,_,d3,d4⟩:=fW (w:=w) (i:=0) p.o.lb (eM (.inl hi)) (Sq 0)
 exact⟨⟨this.ln,this.c0,this.n9,λe=>Kb (hn.symm.trans e),this.kw⟩,d3,d4⟩
theorem Bl(ha:P1 p n (.int 0) I S lv e):e.JH=e.W (e.w.JH 0 p.o.lb):=by unfold Em.JH;rw[ha.ix,ha.o];rfl
theorem Bm(ha:A1 p n (.int 0) t [.b .nul] [.JA 8 2] 0 e):A1 p n .nul (.JA 8 2) [] [] 0 (e.clo .nul [] [] (.JA 8 2)):=
 ⟨⟨ha.p.o,rfl,.inl U,ha.p.lv,rfl,rfl,ha.p.c0,ha.p.r,by have:=ha.p.b;simp only[R0,Sb]at this ⊢;lia⟩,ha.m,rfl⟩
theorem DZ(hl:Lw ln)(nt:NT sm true h c vs tx ky)(hv:∀x∈vs,Kq x)(hc:sn vs)(h6:9*h<=60)(h9:c<=800):gP false ix 1000 ln (Q4 false::(vs++[Ko 11])) (cv (JP ln) (T3++([10,45,32]++tx false (aN (.int ix)) false 0))):=by
 have hlen:18*vs.length<=c:=by obtain⟨_,_,_,_,_,h,_⟩:=nt;exact h
 have iE:∀x∈Q4 false::(vs++[Ko 11]),Kq x:=λx hx=>by
  rcases kl hx with rfl | hx
  ·exact⟨_,_,rfl,by decide⟩
  ·rcases mx hx with hx | hx
   ·exact hv x hx
   ·obtain rfl:=km hx;exact⟨_,_,rfl,by decide⟩
 have pk:bI ⟨N7 false ix 1000 ln,false⟩:=yk hl
 obtain⟨R',fs,gs,k,ts,T,rfl,hF,hR⟩:=fU (p:=⟨N7 false ix 1000 ln,false⟩) (Q:=λT=>T=cv (JP ln) (T3++([10,45,32]++tx false (aN (.int ix)) false 0))) pk U iE (.inl U) (by rw[R0,ku];show vs.length+1+1<=290;lia) λe ha hw hi=>by
  have nt0:=nt
  obtain⟨n,tl,rfl,hd,_,_,_,f⟩:=nt
  intro x
  have hx:aF 11 ((n.V::tl++[Ko 11])++x)=false:=hd.no.1
  obtain⟨e1,s1,a1,w1⟩:=vV pk U false hx ha
  have hw:RP ⟨N7 false ix 1000 ln,false⟩ (0+c+2+1) e.w T3 false:=hw.le (by lia)
  obtain⟨b1,b2,b3⟩:=Bp pk U hw (hi U)
  let u:Wr:=(e1.w.JH 0 (JP ln)).sgn [45] true false true
  have eu:u=⟨(e1.w.JH 0 (JP ln)).col+1,(e1.w.JH 0 (JP ln)).line,false,true,false,(e1.w.JH 0 (JP ln)).rows++[[45]]⟩:=by
   show Wr.sgn _ _ _ _ _=_
   rw[w1]
   unfold Wr.sgn
   rw[show(e.w.JH 0 (JP ln)).ws=true from b2,show(e.w.JH 0 (JP ln)).ind=true from b3];rfl
  have hu:RP ⟨N7 false ix 1000 ln,false⟩ (0+c) u (T3++[10,45]) false:=by
   rw[eu,w1]
   refine⟨?_,λJ=>rfl,λJ=>rfl⟩
   show Ri _ _ _ ((T3++[10,45])++[]) true
   rw[mh]
   exact Ri.put (k:=2) (s:=[45]) b1 U U (by decide) (λh=>nomatch h) (c1 U) (.inl U)
  have a1':=a1.le (n:=2*tl.length+1+1) (by rw[R0]at hlen;lia)
  have hp:=(a1.le (n:=1+2*tl.length+1+1) (by rw[R0]at hlen;lia)).p.Pw e1.m (u:=u) (((bZ _ _ _).trans (aY _ _ _ _ _)).le (by decide)) 23
  obtain⟨M,n0,E,c0,hA,hE⟩:=f _ 1 0 (.int 0) _ _ 0 23 false true false false _ _ _ pk (λh=>Kb h) hp (by show(0:Int)+_<=60;lia) (.inl U) (Sq 0) (MP.o a1.m.mp U U) hu ([Ko 11]++x)
  have hA:=hA
  have s2:Lq e1 n.V (tl++([Ko 11]++x)) M:=D9 a1.t hd ((a1.le (n:=2) (by decide)).p.vd pk) (by rw[Bl a1.p];exact n0)
  have s3:=BV (nx:=x) hA.t (x:=.nul) (I:=[]) (S:=[]) (t:=.JA 8 2) hA.p.i hA.p.s U
  have hr:=hE.r.ln
  refine⟨_,⟨e1,s1,M,(by show Lq e1 n.V ((tl++[Ko 11])++x) M;rw[lq];exact s2),(c0.app (ws:=[Ko 11]) ⟨_,s3,rfl⟩)⟩,Bm hA,hE.ind,by show E.w.rows.flatten.length<=_;omega,?_⟩
  show E.w.rows.flatten=_
  rw[(hE.r.kw U).1]
  show cv (JP ln) ((T3++[10,45])++([32]++tx false _ false 0))=_
  rw[lq];rfl
 exact⟨R',fs,gs,k,ts,hF,hR⟩
end
noncomputable def MS:V:=OS .nul .nul true true [107] .nul
section
variable{n m:Nat}{S:List V}{E:Em}{X:Tx}{tx:Tq}
theorem Fd{r s mp k:Bool}(pk:bI p)(hc:p.o.Jo.truth=false)(ho:e.o=p.o)(hl:e.c.lvl=0):bD (e.ctx r s mp k) [107] .nul true=.str []:=by
 unfold bD
 show jR .nul true e.o.Jo.truth (e.c.lvl != 0) k (MV [107]) (MU [107] e.o.wide) (Pj [107] e.o.wide) (Pk [107] e.o.wide) (Ph [107] e.o.wide) (Pn [107] e.o.wide)=_
 rw[ho,hc,hl,pk.wd]
 cases k with
 | true=>exact dv (by decide +kernel)
 | false=>exact dv (by decide +kernel)
theorem Fe(pk:bI p)(hn:p.KQ=false)(hc:p.o.Jo.truth=false)(ha:A1 p (n+2) (.int 0) (.JA 25 2) [.b .nul] [.JA 8 2] 0 e)(hw:Ri p (m+3) (e.w.JH 0 p.o.lb) (T3++[10]) true)(hs:(e.w.JH 0 p.o.lb).ws=true):∃E,Lq e MS nx E/\A1 p n (.int 0) (.JA 27 2) [.b .nul] [.JA 8 2] 0 E/\RN p m E.w (T3++[10,107]) false:=by
 have hd:Hd (QH .nul .nul true true [107] .nul):=Fs (.inl U) (.inl U) (by decide)
 have hp:=ha.p.Pw (n:=n+1) ((QH .nul .nul true true [107] .nul).ms e.o.wide e.m) (u:=e.w.JH 0 p.o.lb) ((bZ _ _ _).le (by decide)) 27
 have vd:=hp.vd pk
 let e':Em:=(((e.W (e.w.JH 0 p.o.lb)).M ((QH .nul .nul true true [107] .nul).ms e.o.wide e.m)).push 27)
 have st:bD (e'.ctx false false true true) [107] .nul true=.str []:=Fd pk hc hp.o hp.lv
 have n0:=AQ (nx:=nx) (r:=false) (s:=false) (m:=true) (k:=true) (e:=e') (Js:=.nul) (tag:=.nul) (JE:=.nul) (val:=[107]) (i0:=true) (i1:=true) (S:=[.JA 8 2]) (t:=.JA 27 2) vd (by decide) (.inl U) (.inl U) (.inl U) (by
  rw[st]
  show Nv e'.o.Jo .nul (.str []) true true=false->_
  rw[show Nv e'.o.Jo .nul (.str []) true true=true from yg e'.o.Jo [] false]
  exact λh=>Kb h.symm) (by rw[st];exact λh=>Kb h) (by rw[st];exact λJ=>⟨rfl,λc hc=>by obtain rfl:=km hc;decide⟩) (ha.m.ms hd U U) hp.s U
 have s1:Lq e MS nx _:=D8 (n:=QH .nul .nul true true [107] .nul) ha.t hd ((ha.le (n:=1) (by lia)).p.vd pk) ha.m (b:=true) (by
  rw[ha.p.o,pk.wd,ou (by show JZ [10] 9=false;decide +kernel) (by show JZ [12] 9=false;decide +kernel) _ nx []];decide +kernel) (by
  show NR _ nx false false true true ((e.JH.M _).push 27) _
  rw[Bl ha.p];exact n0)
 have ew:(nsc e' false false true true .nul .nul true true [107] .nul [.JA 8 2] (.JA 27 2)).w=(e.w.JH 0 p.o.lb).OA [107] (0+p.o.bi) p.o.bw p.o.lb false false:=by
  show((e'.w.MB [38] .nul).tg (Nv e'.o.Jo .nul (bD (e'.ctx false false true true) [107] .nul true) true true) (Pr .nul true)).Lb [107] (strOf (bD (e'.ctx false false true true) [107] .nul true)) (ar (fK e'.c.indent e'.o.bi true false)) e'.o.bi e'.o.bw e'.o.lb true false e'.o.wide=_
  rw[st,show Nv e'.o.Jo .nul (.str []) true true=true from yg e'.o.Jo [] false,show e'.c.indent=.int 0 from hp.ix,show e'.o=p.o from hp.o];rfl
 have b2:=pk.b2
 have b9:=pk.b9
 have hR:RP p (m+2*([107]:Tx).length+1) (e.w.JH 0 p.o.lb) (T3++[10]) true:=⟨by rw[hs];show Ri p (m+3) _ ((T3++[10])++[]) false;rw[mh];exact hw.any,λh=>Kb (h.symm.trans hs),λJ=>hs⟩
 have hN:=hR.OA (split:=false) (ind:=0+p.o.bi) pk (by decide) (λh=>nomatch h) (by lia) (by lia)
 refine⟨_,s1,⟨⟨hp.o,hp.ix,hp.xi,hp.lv,hp.i,rfl,?_,?_,?_⟩,⟨rfl,rfl,rfl,rfl⟩,rfl⟩,?_⟩
 ·rw[ew];exact hN.r.c0
 ·rw[ew]
  have g:Gr (e.w.JH 0 p.o.lb) ((e.w.JH 0 p.o.lb).OA [107] (0+p.o.bi) p.o.bw p.o.lb false false) 900:=qj (t:=[107]) (s:=[]) (bi:=p.o.bi) (sk:=true) (r:=false) (wide:=.nul) (by decide)
  have g2:=((bZ e.w 0 p.o.lb).trans g).2
  have:=ha.p.r
  lia
 ·have:=ha.p.b;simp only[R0,Sb]at this ⊢;lia
 ·rw[ew];exact hN
theorem DY(hl:Lw ln)(nt:NT sm true h c vs tx ky)(hv:∀x∈vs,Kq x)(hc:sn vs)(h6:9*h<=60)(h9:c<=800):gP false ix 1000 ln (Q4 true::(MS::(vs++[Ko 13]))) (cv (JP ln) (T3++([10,107,58,32]++tx false (aN (.int ix)) false 0))):=by
 have hlen:18*vs.length<=c:=by obtain⟨_,_,_,_,_,h,_⟩:=nt;exact h
 have iE:∀x∈Q4 true::(MS::(vs++[Ko 13])),Kq x:=λx hx=>by
  rcases kl hx with rfl | hx
  ·exact⟨_,_,rfl,by decide⟩
  rcases kl hx with rfl | hx
  ·exact⟨_,_,rfl,by decide⟩
  ·rcases mx hx with hx | hx
   ·exact hv x hx
   ·obtain rfl:=km hx;exact⟨_,_,rfl,by decide⟩
 have pk:bI ⟨N7 false ix 1000 ln,false⟩:=yk hl
 obtain⟨R',fs,gs,k,ts,T,rfl,hF,hR⟩:=fU (p:=⟨N7 false ix 1000 ln,false⟩) (Q:=λT=>T=cv (JP ln) (T3++([10,107,58,32]++tx false (aN (.int ix)) false 0))) pk U iE (.inr U) (by rw[R0,R0,ku];show vs.length+1+1+1<=290;lia) λe ha hw hi=>by
  have nt0:=nt
  obtain⟨n,tl,rfl,hd,_,_,_,f⟩:=nt
  intro x
  have hx:aF 13 ((MS::(n.V::tl++[Ko 13]))++x)=false:=by show JZ [13] 9=false;decide +kernel
  obtain⟨e1,s1,a1,w1⟩:=vV pk U true hx ha
  have hw:RP ⟨N7 false ix 1000 ln,false⟩ (0+c+1+3+1) e.w T3 false:=hw.le (by lia)
  obtain⟨b1,b2,b3⟩:=Bp pk U hw (hi U)
  rw[R0]at hlen
  obtain⟨e2,s2,a2,r2⟩:=Fe (nx:=(n.V::tl++[Ko 13])++x) (n:=2900) (m:=0+c+1) pk U U (a1.le (by decide)) (by rw[w1];exact b1) (by rw[w1];exact b2)
  have hu:=Ri.M0 (k:=1) (s:=[58]) (Kt:=false) r2.r (mf 1) (c1 U) ⟨58,[],rfl,rfl,rfl⟩ ⟨rfl,rfl⟩
  have hp:=(a2.le (n:=1+2*tl.length+1+1) (by lia)).p.Pw e2.m (u:=e2.w.sgn [58] false false false) ((aY _ _ _ _ _).le (by decide)) 26
  obtain⟨M,n0,E,c0,hA,hE⟩:=f _ 1 0 (.int 0) _ _ 0 26 false false true false _ _ _ pk (λh=>Kb h) hp (by show(0:Int)+_<=60;lia) (.inl U) (Sq 0) (MP.o a2.m.mp U U) hu.rp ([Ko 13]++x)
  have s3:Lq e2 n.V (tl++([Ko 13]++x)) M:=D7 a2.t ((a2.le (n:=2) (by decide)).p.vd pk) n0
  have s4:=BU (nx:=x) hA.t (x:=.nul) (I:=[]) (S:=[]) (t:=.JA 8 2) hA.p.i hA.p.s U
  have hr:=hE.r.ln
  refine⟨_,⟨e1,s1,e2,s2,M,(by show Lq e2 n.V ((tl++[Ko 13])++x) M;rw[lq];exact s3),(c0.app (ws:=[Ko 13]) ⟨_,s4,rfl⟩)⟩,Bm hA,hE.ind,by show E.w.rows.flatten.length<=_;omega,?_⟩
  show E.w.rows.flatten=_
  rw[(hE.r.kw U).1]
  show cv (JP ln) (((T3++[10,107])++[58])++([32]++tx false _ false 0))=_
  rw[lq,lq];rfl
 exact⟨R',fs,gs,k,ts,hF,hR⟩
end
theorem eW{t:Nat}{o:Ob}(h:t < st.cur.length):(bx st t o).cur[t]?=some o:=SK h
theorem dQ{t k:Nat}{o:Ob}(h:t≠k):(bx st t o).cur[k]?=st.cur[k]?:=Sd h
structure Kx(X:List Nat)(st Jy:St):Prop where
 JR:Jy.JR=st.JR
 ln:st.cur.length<=Jy.cur.length
 at':∀k,k < st.cur.length->k ∉ X->Jy.cur[k]?=st.cur[k]?
theorem Kx.rfl{X:List Nat}:Kx X st st:=⟨S9 _,mf _,λJ J J=>S9 _⟩
theorem Kx.trans{X:List Nat}(a:Kx X st s1)(b:Kx X s1 s2):Kx X st s2:=⟨b.JR.trans a.JR,ke a.ln b.ln,λk h h'=>(b.at' k (lh h a.ln) h').trans (a.at' k h h')⟩
theorem Kx.alloc(X:List Nat)(st:St)(o:Ob):Kx X st (alloc st o).2:=⟨S9 _,by rw[aV];exact mw _,λk h J=>cA h⟩
theorem Kx.put{X:List Nat}{t:Nat}(h:t∈X)(st:St)(o:Ob):Kx X st (bx st t o):=⟨S9 _,lw List.length_set.symm,λk hk hx=>dQ λe=>hx (e▸h)⟩
theorem Kx.sub{X Y:List Nat}(a:Kx X st s1)(h:X ⊆ Y):Kx Y st s1:=⟨a.JR,a.ln,λk hk hx=>a.at' k hk λh'=>hx (h h')⟩
theorem Kx.keep{X:List Nat}(a:Kx X st s1){k:Nat}{o:Ob}(h:st.cur[k]?=some o)(hx:k ∉ X):s1.cur[k]?=some o:=(a.at' k (cZ h) hx).trans h
theorem Kx.drop{X:List Nat}(a:Kx X st s1)(b:Kx (c::X) s1 s2)(h:st.cur.length<=c):Kx X st s2:=⟨b.JR.trans a.JR,ke a.ln b.ln,λk hk hx=>(b.at' k (lh hk a.ln) λh'=>(kl h').elim (λe=>absurd hk (Nat.not_lt_of_le (e▸h))) hx).trans (a.at' k hk hx)⟩
theorem cH{k:Int}(h:st.cur[j]?=some (.lst vs))(h0:0<=k)(hv:vs[k.toNat]?=some v):f2 .idx (.ref j) (.i k) st=some (v,st):=kO (ab h) h0 hv
noncomputable def KL(l:List Int):List V:=l.map λn=>.i n
theorem jr(d:Nat){t:Nat}{l:List Int}(h:st.cur[t]?=some (.lst (KL l)))(post:∀s1,(Jr (d+1)).Jv 62 [.ref t] st=some (.i (l.headD 0),s1)->s1.cur[t]?=some (.lst (KL l.tail))->Kx [t] st s1->P):P:=by
 have ht:truth st (.ref t)=some (!(KL l).isEmpty):=bX (ab h)
 have e:=bz (c:=Jr d) (t:=.n0 (.loc 0)) (a:=.u1 (.pop true) I0) (b:=.n0 (.cst (.int 0))) (l:=[.ref t]) (st:=st) (s1:=st) (v:=.ref t) U ht
 cases l with
 | nil=>exact post st (ay U (aR (e.trans U) _) U) h .rfl
 | cons x l=>
  refine post (bx st t (.lst (KL l))) (ay U (aR (e.trans ?_) _) U) (eW (cZ h)) (.put (.head _) st _)
  show(Option.bind (aI st (.ref t)) _)=_
  rw[ab h];rfl
theorem iK(k:Int){m:Int}(h:0 < m):0<=k.fmod m/\k.fmod m < m:=⟨Int.fmod_nonneg_of_pos k h,Int.fmod_lt_of_pos k h⟩
theorem ac{c:Cx}{e r:E}(h:Jq c e l st=some (v,s1))(h':Kv c r l s1=some ((vs,ks),s2)):Kv c (.pos e r) l st=some ((v::vs,ks),s2):=Jl h (by rw[h'];rfl)
theorem vj{c:Cx}{k:Nat}{e r:E}(h:Jq c e l st=some (v,s1))(h':Kv c r l s1=some (([],ks),s2)):Kv c (.kw k e r) l st=some (([],(k,v)::ks),s2):=Jl h (Jl h' U)
theorem aX{c:Cx}(h:Kv c as l st=some ((vs,[]),s1))(hl:vs.length<=12):Jq c (.lst as) l st=some (.ref s1.cur.length,(alloc s1 (.lst vs)).2):=Jl h (bU (by show(true&&decide (vs.length<=JL))=true;rw[decide_eq_true (ke hl (by decide))];rfl))
theorem CJ{i:Bool}{f:B}(h:Qe c=true):Kq (NZ c Js tag i f):=⟨_,_,rfl,h⟩
theorem CH(h:Qe c=true):Kq (Ko c):=⟨_,_,rfl,h⟩
theorem cV{mp a g:Bool}(h:∀v∈vs,Kq v):∀v∈Ou mp a g f vs,Kq v:=λv hv=>by
 rcases kl hv with rfl | hv
 ·cases mp <;> exact CJ (by decide)
 ·rcases mx hv with hv | hv
  ·exact h v hv
  ·obtain rfl:=km hv;cases mp <;> exact CH (by decide)
theorem d0{mp a g:Bool}:sn (Ou mp a g f vs):=⟨_,_,rfl,by cases mp;exact .inl U;exact .inr U⟩
theorem cu(d:Nat){r:Nat}{mp a g:Bool}(h:st.cur[r]?=some (.lst vs))(hl:vs.length<=1000)(post:∀r' s',(Jr (d+1)).Jv 64 [.ref r,.o mp,.o f,.b (bc a),.b (aT g)] st=some (.ref r',s')->s'.cur[r']?=some (.lst (Ou mp a g f vs))->st.cur.length<=r'->Kx [] st s'->P):P:=by
 let c:=Jr d
 let T:List V:=[.ref r,.o mp,.o f,.b (bc a),.b (aT g)]
 let co:V:=NZ (bif mp then 12 else 10) (bc a) (aT g) (!g) (.bool f)
 let s3:=(alloc st (.lst [co])).2
 let s4:=(alloc s3 (.lst ([co]++vs))).2
 let s5:=(alloc s4 (.lst [Ko (bif mp then 13 else 11)])).2
 let s6:=(alloc s5 (.lst (([co]++vs)++[Ko (bif mp then 13 else 11)]))).2
 have isn:Jq c (.u1 (.isNone true) I8) T st=some (.o (!g),st):=by cases g <;> rfl
 have nE:∀(k:Nat)(hk:k=10∨k=12),Jq c (.new k I50) T st=some (NZ k (bc a) (aT g) (!g) (.bool f),st):=λk hk=>by
  have e:Kv c I50 T st=some (([V.b (bc a),V.b (aT g),V.b (.bool (!g))],[(6,V.b (.bool f))]),st):=ac (s1:=st) U (ac (s1:=st) U (ac isn (vj (s1:=st) U U)))
  rcases hk with rfl | rfl
  ·exact Jl e (Jl (by rw[dc];rfl) U)
  ·exact Jl e (Jl (by rw[dc];rfl) U)
 have fin:∀(k k':Nat),(k=10∨k=12)->NZ k (bc a) (aT g) (!g) (.bool f)=co->Ko k'=Ko (bif mp then 13 else 11)->(∀s,Jq c (.new k' .nil) T s=some (Ko k',s))->Jq c (.b2 (.bin .add) (.b2 (.bin .add) (.lst (.pos (.new k I50) .nil)) I0) (.lst (.pos (.new k' .nil) .nil))) T st=some (.ref s5.cur.length,s6):=λk k' hk hc he hn=>by
  have x1:=aX (ac ((nE k hk).trans (by rw[hc])) (rfl:Kv c .nil T st=_)) (by show 1<=12;decide)
  have x2:=Jl (f:=λq=>(Jq c I0 T q.2).bind λp=>f2 (.bin .add) q.1 p.1 p.2) x1 (Jl (a:=(.ref r,s3)) U (gO (ak st _) (aA h) (ke (show 1+vs.length<=1001 by lia) (by decide))))
  have x3:=aX (ac (hn s4) (rfl:Kv c .nil T s4=_)) (by show 1<=12;decide)
  rw[he]at x3
  exact Jl x2 (Jl x3 (gO (aA (ak s3 _)) (ak s4 _) (ke (show([co]++vs).length+1<=1002 by rw[ku];show 1+vs.length+1<=1002;lia) (by decide))))
 have q:Jq c I2 T st=some (.o mp,st):=rfl
 refine post s5.cur.length s6 (ay (d:=d) (f:=iM) (l:=T) U ?_ U) (ak s5 _) ?_ ((((Kx.alloc _ st _).trans (.alloc _ s3 _)).trans (.alloc _ s4 _)).trans (.alloc _ s5 _))
 ·cases mp with
  | true=>exact KA (ao q U (aR (fin 12 13 (.inr U) U U λs=>Jl (a:=(([],[]),s)) U (Jl (by rw[dc];rfl) U)) _))
  | false=>exact go (aj q U U) (aR (fin 10 11 (.inl U) U U λs=>Jl (a:=(([],[]),s)) U (Jl (by rw[dc];rfl) U)) _)
 ·rw[aV,aV,aV];lia
noncomputable def xA(x:Tx×B):V:=.Kh (.s x.1) (.Kh (.b x.2) .Ma)
theorem rd(d:Nat)(st:St):(Jr (d+1)).Jv 61 [] st=some (.ref st.cur.length,(alloc st (.lst ((vals.take 12).map xA))).2):=ay (d:=d) (f:=zd) (l:=[]) U (aR (aX (vs:=(vals.take 12).map xA) (by kernel_rfl) (by show 12<=12;decide)) _) U
theorem Qm.wk{v:Tx}(h:Qm z v JE):Qm false v JE:=⟨h.l,h.c,λh=>Kb h,h.s⟩
def jO(sm:Bool)(d h:Nat)(dp:Int):Prop:=∀{st:St}{t:Nat}{l:List Int},st.cur[t]?=some (.lst (KL l))->l.length<=8->∀{P:Prop},(∀r vs tx ky c rt s1 l',(Jr d).Jv 63 [.ref t,.i dp,.o sm] st=some (.ref r,s1)->s1.cur[r]?=some (.lst vs)->st.cur.length<=r->NT sm rt (h+1) c vs tx ky->(∀v∈vs,Kq v)->s1.cur[t]?=some (.lst (KL l'))->
 ((l=[]->c<=40/\l'=[])/\(l≠[]->c+50+100*l'.length<=100*l.length))->Kx [t] st s1->P)->P
theorem ifA{c:Cx}{n:Int}{k j:Int}(hn:l[3]?=some (.i n))(hk:0 < k):Jq c (.Ju (.b2 (.cmp .eq) (.b2 (.bin .mod) Kr (.n0 (.cst (.int k)))) (.n0 (.cst (.int j)))) (.n0 (.cst (.str s))) I6) l st=some (.b (bif n.fmod k==j then .str s else .nul),st):=by
 have m:Jq c (.b2 (.bin .mod) Kr (.n0 (.cst (.int k)))) l st=some (.i (n.fmod k),st):=by
  refine Jl (aC hn U) (Jl (a:=(.i k,st)) U ?_)
  show Option.or (Option.map (λv=>(v,st)) (Option.or (af (decide (0 < k)) (V.b (.int (n.fmod k)))) _)) _=_
  rw[decide_eq_true hk];rfl
 have q:Jq c (.b2 (.cmp .eq) (.b2 (.bin .mod) Kr (.n0 (.cst (.int k)))) (.n0 (.cst (.int j)))) l st=some (.o (n.fmod k==j),st):=Jl m (Jl (a:=(.i j,st)) U U)
 refine(bz (u:=n.fmod k==j) q U).trans ?_
 cases n.fmod k==j <;> rfl
section
variable{t r0:Nat}{n:Int}{mp:Bool}{x z u w:V}
theorem iO{rr:V}{L:List V}(hf:jO sm d h (dp+1)){l:List Int}{row:List V}{o:E}(ho:∀s,Ep d o L s (.ref r0))(has:∀s,Kv (Jr d) as L s=some (([.ref t,.i (dp+1),.o sm],[]),s))(hr:r0≠t)(ht:st.cur[t]?=some (.lst (KL l)))(h0:st.cur[r0]?=some (.lst row))(hl:row.length<=1000)(hc:l.length<=8)
  (post:∀vs tx ky c rt s1 l',Es d (.ext o (.JG 63 as)) L st L s1->NT sm rt (h+1) c vs tx ky->(∀v∈vs,Kq v)->s1.cur[t]?=some (.lst (KL l'))->((l=[]->c<=40/\l'=[])/\(l≠[]->c+50+100*l'.length<=100*l.length))->s1.cur[r0]?=some (.lst (row++vs))->Kx [r0,t] st s1->P):P:=by
 refine hf ht hc λr vs tx ky c rt s1 l' a1 a2 a3 a4 a5 a6 a7 a8=>?_
 have e1:Ev d (.JG 63 as) L st (.ref r) s1:=aE (c:=Jr d) (f:=vX) (has st) (by rw[bg];rfl) U U a1
 have b0:s1.cur[r0]?=some (.lst row):=a8.keep h0 (λhx=>hr (km hx))
 have LP:r0≠r:=λe=>Sj _ (lh (cZ h0) (e▸a3))
 have hv:vs.length<=2040:=by
  obtain⟨_,_,_,_,_,hl,_⟩:=a4
  by_cases hn:l=[]
  ·have:=(a7.1 hn).1;lia
  ·have:=a7.2 hn;lia
 refine post vs tx ky c rt (bx s1 r0 (.lst (row++vs))) l' (Jl (ho st) (Jl (ab h0) (Jl e1 (Jl (ab b0) (Jl (ab a2) (bU ?_)))))) a4 a5 ((dQ hr).trans a6) a7 (eW (cZ b0)) ((a8.sub λy hy=>.tail _ hy).trans (.put (.head _) _ _))
 show(decide (row.length+vs.length<=JL)&&!(r0==r))=true
 rw[decide_eq_true (ke (show row.length+vs.length<=3040 by lia) (by decide)),beq_eq_false_iff_ne.mpr LP];rfl
noncomputable def ndB:S:=match ah 4 wS with | .cons (.Ju _ (.cons _ (.cons (.forR _ _ _ b) _)) _) _=>b | _=>.nil
noncomputable def ndX:E:=.pos I0 DH
noncomputable def N8(sm:Bool)(dp:Int)(t:Nat)(n:Int)(r0:Nat)(x y z:V):List V:=[.ref t,.i dp,.o sm,.i n,x,y,.ref r0,z,.uu,.uu]
theorem yy(hf:jO sm d h (dp+1))(hr:r0≠t){l:List Int}{row:List V}(ht:st.cur[t]?=some (.lst (KL l)))(h0:st.cur[r0]?=some (.lst row))(hl:row.length<=500)(hc:l.length<=8)(QP:mp=(n.fmod 5==2))
  (post:∀(iz:List Itm) s1 l',Es d ndB (N8 sm dp t n r0 x y z) st (N8 sm dp t n r0 x y z) s1->(∀q∈iz,IT mp sm (h+1) q.2.1 q.1 q.2.2)->(∀v∈aP iz,Kq v)->bB iz+100*l'.length<=100*l.length->s1.cur[t]?=some (.lst (KL l'))->s1.cur[r0]?=some (.lst (row++aP iz))->Kx [r0,t] st s1->P):P:=by
 have q:Ep d I0 (N8 sm dp t n r0 x y z) st (.ref t):=rfl
 have qt:truth st (.ref t)=some (!(KL l).isEmpty):=bX (ab ht)
 have ho:∀s,Ep d Kp (N8 sm dp t n r0 x y z) s (.ref r0):=λs=>rfl
 have ha:∀s,Kv (Jr d) ndX (N8 sm dp t n r0 x y z) s=some (([.ref t,.i (dp+1),.o sm],[]),s):=λs=>rfl
 cases l with
 | nil=>exact post [] st [] (go (aj q qt U) U) (λq hq=>absurd hq mo) (λv hv=>absurd hv mo) (mf _) ht (by show _=some (Ob.lst (row++[]));rw[mh];exact h0) .rfl
 | cons i l=>
  have one:∀(vs:List V)(c:Nat)(bd:Bool->Int->Int->Tx),aP [(vs,c,bd)]=vs/\bB [(vs,c,bd)]=c:=λvs c bd=>⟨mh vs,rfl⟩
  refine iO (rr:=.uu) hf ho ha hr ht h0 (by lia) (by omega) λvs tx ky c rt s1 l' a1 a2 a3 a4 a5 a6 a7=>?_
  have k5:=a5.2 (λh=>nomatch h)
  have hv:vs.length<=100:=by
   obtain⟨_,_,_,_,_,hl,_⟩:=a2
   lia
  have qm:Ep d (.b2 (.cmp .eq) RU LV) (N8 sm dp t n r0 x y z) s1 (.o mp):=by rw[QP];rfl
  cases mp with
  | false=>
   obtain⟨o1,o2⟩:=one vs (c+8) λJo bi i=>tx Jo bi false i
   refine post [(vs,c+8,λJo bi i=>tx Jo bi false i)] s1 l' (go (ao q qt (go a1 (go (aj qm U U) U))) U) (λq hq=>by obtain rfl:=km hq;exact oz a2) (o1.symm▸a3) (by rw[o2];lia) a4 (o1.symm▸a6) a7
  | true=>
   refine iO (rr:=.uu) hf ho ha hr a4 a6 (by rw[ku];lia) (by rw[R0]at hc k5;lia) λws ty ky' c' rt' s2 l2 b1 b2 b3 b4 b5 b6 b7=>?_
   obtain⟨o1,o2⟩:=one (vs++ws) (c+c'+8) (Py ky tx ty)
   refine post [(vs++ws,c+c'+8,Py ky tx ty)] s2 l2 (go (ao q qt (go a1 (go (ao qm U (go b1 U)) U))) U) (λq hq=>by obtain rfl:=km hq;exact kJ a2 b2) (o1.symm▸λv hv=>(mx hv).elim (a3 v) (b3 v)) ?_ b4 (o1.symm▸lq row vs ws▸b6) (a7.trans b7)
   rw[o2]
   by_cases hn:l'=[]
   ·obtain⟨h1,rfl⟩:=b5.1 hn
    subst hn
    show c+c'+8+100*0<=_
    have:([]:List Int).length=0:=rfl
    lia
   ·have:=b5.2 hn;lia
theorem qf(a b:List Itm):aP (a++b)=aP a++aP b/\bB (a++b)=bB a+bB b:=by
 refine⟨by unfold aP;rw[R5,Sg],?_⟩
 induction a with
 | nil=>exact(SE _).symm
 | cons y a ih=>show y.2.1+bB (a++b)=y.2.1+bB a+bB b;rw[ih,SO]
theorem uU(hf:jO sm d h (dp+1))(hr:r0≠t)(QP:mp=(n.fmod 5==2))(N:Int):∀(q i fuel:Nat)(z:V)(st:St)(l:List Int)(row:List V),N=((i+q:Nat):Int)->q < fuel->st.cur[t]?=some (.lst (KL l))->st.cur[r0]?=some (.lst row)->row.length+6*l.length<=100->l.length<=8->∀{P:Prop},
  (∀(iz:List Itm) s1 l' z',cy 7 (fD false N) (JJ (Jr d) ndB) fuel i (N8 sm dp t n r0 x y z) st=some (.next,N8 sm dp t n r0 x y z',s1)->(∀q∈iz,IT mp sm (h+1) q.2.1 q.1 q.2.2)->(∀v∈aP iz,Kq v)->bB iz+100*l'.length<=100*l.length->s1.cur[t]?=some (.lst (KL l'))->s1.cur[r0]?=some (.lst (row++aP iz))->Kx [r0,t] st s1->P)->P:=by
 intro q
 induction q with
 | zero=>
  intro i fuel z st l row hN Ol ht h0 hl hc P post
  obtain⟨f,rfl⟩:=cN Ol
  exact post [] st l z (Jl (a:=none) (kg some (if_neg (by rw[hN];show ¬ ((i+0:Nat):Int) < _;lia))) U) (λq hq=>absurd hq mo) (λv hv=>absurd hv mo) (by show 0+_<=_;lia) ht (by show _=some (Ob.lst (row++[]));rw[mh];exact h0) .rfl
 | succ q ih=>
  intro i fuel z st l row hN Ol ht h0 hl hc P post
  obtain⟨f,rfl⟩:∃f,fuel=f+1:=⟨fuel - 1,(R9 (li (mj _) Ol)).symm⟩
  refine yy (x:=x) (y:=y) (z:=.i ((i+0:Nat):Int)) hf hr ht h0 (by lia) hc QP λiz s1 l1 a1 a2 a3 a4 a5 a6 a7=>?_
  have k1:l1.length<=l.length:=by lia
  have hle:18*(aP iz).length<=bB iz:=ia.resolve_right λh=>h λy hy=>(a2 y hy).2.1
  refine ih (i+1) f (.i ((i+0:Nat):Int)) s1 l1 (row++aP iz) (by rw[hN];lia) (R7 Ol) a5 a6 (by rw[ku];lia) (by lia) λits2 s2 l2 z2 b1 b2 b3 b4 b5 b6 b7=>?_
  obtain⟨e1,e2⟩:=qf iz its2
  refine post (iz++its2) s2 l2 z2 (Jl (a:=some (V.b (.int ((i+0:Nat):Int)))) (kg some (if_pos (by rw[hN];show((i+0:Nat):Int) < _;lia))) (Jl (a:=(LD.next,N8 sm dp t n r0 x y (V.b (.int ((i+0:Nat):Int))),s1)) a1 b1)) (λq hq=>(mx hq).elim (a2 q) (b2 q)) (λv hv=>?_) (by rw[e2];lia) b5 (by rw[e1,<- lq];exact b6) (a7.trans b7)
  rw[e1]at hv
  exact(mx hv).elim (a3 v) (b3 v)
end
noncomputable def QJ(k:Int):E:=.b2 (.bin .mod) Kr (.n0 (.cst (.int k)))
theorem gk{hd:Nat}(hs:dp < 3->∃h,hd=h+1/\jO sm (d+1) h (dp+1)):jO sm (d+2) hd dp:=by
 intro st t l ht hl8 P post
 refine jr d ht λs1 h1 h2 h3=>?_
 let n:=l.headD 0
 let c:=Jr (d+1)
 let a:=n.fmod 7==6
 let g:=n.fmod 11==10
 have KH:l.tail.length<=l.length:=by rw[List.length_tail];exact Nat.sub_le _ _
 let L (x y z u v w:V):List V:=[.ref t,.i dp,.o sm,x,y,z,u,v,w,.uu]
 have e1:Jq c (.JG 62 (.pos I0 .nil)) (L .uu .uu .uu .uu .uu .uu) st=some (.i n,s1):=aE (c:=c) (f:=zb) (vs:=[.ref t]) (ws:=[.ref t]) U U U U h1
 have e2:Jq c (.Ju (.b2 (.cmp .eq) (QJ 7) (.n0 (.cst (.int 6)))) xk I6) (L (.i n) .uu .uu .uu .uu .uu) s1=some (.b (bc a),s1):=ifA (k:=7) (j:=6) U (by decide)
 have e3:Jq c (.Ju (.b2 (.cmp .eq) (QJ 11) Ap) (.n0 (.cst (.str [33,116]))) I6) (L (.i n) (.b (bc a)) .uu .uu .uu .uu) s1=some (.b (aT g),s1):=ifA (k:=11) (j:=10) U (by decide)
 let L3:=L (.i n) (.b (bc a)) (.b (aT g)) .uu .uu .uu
 have pre:∀{R:Kf},JJ c (ah 3 wS) L3 s1=R->JJ c wS (L .uu .uu .uu .uu .uu .uu) st=R:=λhr=>go (Li e1) (go (Li e2) (go (Li e3) hr))
 have q4:Jq c (.b2 (.cmp .eq) (QJ 5) (.n0 (.cst (.int 4)))) L3 s1=some (.o (n.fmod 5==4),s1):=rfl
 have fin:∀{vs:List V}{tx:Tq}{ky rt:Bool}{cc r:Nat}{s2:St}{l':List Int}{l9:List V},JJ c (ah 3 wS) L3 s1=some (.ret (.ref r),l9,s2)->s2.cur[r]?=some (.lst vs)->s1.cur.length<=r->NT sm rt (hd+1) cc vs tx ky->(∀v∈vs,Kq v)->s2.cur[t]?=some (.lst (KL l'))->cc<=40/\l'=l.tail∨(l≠[]/\cc+50+100*l'.length<=100*l.length)->Kx [t] s1 s2->P:=λ{vs tx ky rt cc r s2 l' l9} b1 b2 b3 b4 b5 b6 b7 b8=>by
  refine post r vs tx ky cc rt s2 l' (ay (d:=d+1) (f:=vX) U (pre b1) U) b2 (ke h3.ln b3) b4 b5 b6 ⟨λe=>?_,λe=>?_⟩ (h3.trans b8)
  ·rcases b7 with⟨b7,rfl⟩ | ⟨b7,_⟩
   ·exact⟨b7,by rw[e];rfl⟩
   ·exact absurd e b7
  ·rcases b7 with⟨b7,rfl⟩ | ⟨_,b7⟩
   ·cases l with
    | nil=>exact absurd U e
    | cons x l=>show cc+50+100*l.length<=100*(l.length+1);lia
   ·exact b7
 cases h4:n.fmod 5==4 with
 | true=>
  rw[h4]at q4
  have hnew:Jq c (.new 8 (.pos (.n0 (.cst (.str [121]))) .nil)) L3 s1=some (alV (.str [121]),s1):=Jl (a:=(([.s [121]],[]),s1)) U (Jl (by rw[dc];rfl) U)
  exact fin (KA (ao q4 U (aR (aX (ac hnew (rfl:Kv c .nil L3 s1=_)) (by show 1<=12;decide)) _))) (ak s1 _) (mf _) ET (λv hv=>by obtain rfl:=km hv;exact⟨_,_,rfl,by decide⟩) (aA h2) (.inl ⟨by decide,rfl⟩) (.alloc _ _ _)
 | false=>
  rw[h4]at q4
  let s2:=(alloc s1 (.lst [.i 1,.i 2])).2
  have eI:Jq c (.b2 .Oc (QJ 5) xq) L3 s1=some (.o (n.fmod 5==1||n.fmod 5==2),s2):=by
   have el:Jq c xq L3 s1=some (.ref s1.cur.length,s2):=aX (vs:=[.i 1,.i 2]) U (by show 2<=12;decide)
   refine Jl (a:=(.i (n.fmod 5),s1)) U (Jl el ?_)
   show(aI s2 (.ref s1.cur.length)).bind _=_
   rw[ab (ak s1 _)]
   show some (V.b (.bool ((n.fmod 5==1)||((n.fmod 5==2)||false))),s2)=_
   rw[Bool.or_false]
  have k2:s2.cur[t]?=some (.lst (KL l.tail)):=aA h2
  have qA:Tr c (.and (.b2 .Oc (QJ 5) xq) DD) L3 s1 false∨True:=.inr trivial
  have eA:Jq c (.and (.b2 .Oc (QJ 5) xq) DD) L3 s1=some (.o ((n.fmod 5==1||n.fmod 5==2)&&decide (dp < 3)),s2):=by
   refine Jl eI (Jl (a:=(n.fmod 5==1||n.fmod 5==2)) U ?_)
   cases n.fmod 5==1||n.fmod 5==2 <;> rfl
  cases hA:(n.fmod 5==1||n.fmod 5==2)&&decide (dp < 3) with
  | true=>
   rw[hA]at eA
   obtain⟨hk,hdp⟩:=ly hA
   obtain⟨h,rfl,hf⟩:=hs (kj hdp)
   have LP:l≠[]:=λe=>by
    have:n=0:=by show l.headD 0=0;rw[e];rfl
    rw[this]at hk;exact Kb hk
   let r0:=s2.cur.length
   let s3:=(alloc s2 (.lst [])).2
   have hr:r0≠t:=λe=>Sj _ (e▸cZ k2)
   have e5:Jq c fj L3 s2=some (.ref r0,s3):=aX U (mj _)
   obtain⟨g0,g1⟩:=iK (n.fdiv 5) (m:=3) (by decide)
   obtain⟨q,hq⟩:=Int.eq_ofNat_of_zero_le g0
   refine uU (x:=.b (bc a)) (y:=.b (aT g)) (mp:=n.fmod 5==2) (n:=n) hf hr U ((n.fdiv 5).fmod 3) q 0 60000 .uu s3 l.tail [] (by rw[hq,SE]) (by omega) (aA k2) (ak s2 _) (by show 0+6*_<=100;lia) (by lia) λiz s4 l' z' a1 a2 a3 a4 a5 a6 a7=>?_
   have hN:Jq c DV (N8 sm dp t n r0 (.b (bc a)) (.b (aT g)) .uu) s3=some (.i ((n.fdiv 5).fmod 3),s3):=rfl
   have e6:JJ c (.forR 7 false DV ndB) (N8 sm dp t n r0 (.b (bc a)) (.b (aT g)) .uu) s3=some (.next,N8 sm dp t n r0 (.b (bc a)) (.b (aT g)) z',s4):=by
    refine Jl hN (Jl (a:=(n.fdiv 5).fmod 3) U (Jl (a:=()) (bU ?_) (by rw[dk];exact a1)))
    rw[decide_eq_true (show(-1000000:Int)<=(n.fdiv 5).fmod 3 by omega),decide_eq_true (show(n.fdiv 5).fmod 3<=(1000000:Int) by omega)];rfl
   have hlen:18*(aP iz).length<=bB iz:=ia.resolve_right λh=>h λy hy=>(a2 y hy).2.1
   have htl:l.tail.length+1<=l.length:=by cases l with | nil=>exact absurd U LP | cons x l=>exact mf _
   refine cu d (mp:=n.fmod 5==2) (f:=n.fmod 2==0) (a:=a) (g:=g) (vs:=aP iz) a6 (by lia) λr' s5 b1 b2 b3 b4=>?_
   have c1:Jq c (.JG 64 (.pos Kp (.pos (.b2 (.cmp .eq) (QJ 5) LV) (.pos (.b2 (.cmp .eq) (QJ 2) Lm) (.pos I8 sZ))))) (N8 sm dp t n r0 (.b (bc a)) (.b (aT g)) z') s4=some (.ref r',s5):=
    aE (c:=c) (f:=iM) (vs:=[.ref r0,.o (n.fmod 5==2),.o (n.fmod 2==0),.b (bc a),.b (aT g)]) (ws:=[.ref r0,.o (n.fmod 5==2),.o (n.fmod 2==0),.b (bc a),.b (aT g)]) (ac (s1:=s4) U (ac (s1:=s4) U (ac (s1:=s4) U (ac (s1:=s4) (by show(af (!ae (V.b (bc a))) _)=_;rfl) (ac (s1:=s4) (by show(af (!ae (V.b (aT g))) _)=_;rfl) U))))) (by rw[bg];rfl) U U b1
   have k3:Kx [t] s1 s4:=((Kx.alloc [t] s1 _).trans (.alloc [t] s2 _)).drop a7 (by show s1.cur.length<=s2.cur.length;rw[aV];exact mw _)
   refine fin (l':=l') (go (aj q4 U U) (KA (ao eA U (go (Li e5) (go e6 (aR c1 _)))))) b2 (ke k3.ln b3) (gH a2 a g (n.fmod 2==0)) (cV a3) (b4.keep a5 mo) (.inr ⟨LP,by lia⟩) (k3.trans (b4.sub λx hx=>absurd hx mo))
  | false=>
   rw[hA]at eA
   let m:Int:=bif sm then 8 else 12
   have hm:0 < m:=by show 0 < (bif sm then(8:Int) else 12);cases sm <;> decide
   obtain⟨g0,g1⟩:=iK (n.fdiv 5) hm
   have hk:((n.fdiv 5).fmod m).toNat < 12:=by
    have:m<=12:=by show(bif sm then(8:Int) else 12)<=12;cases sm <;> decide
    omega
   obtain⟨x,hx⟩:∃x,(vals.take 12)[((n.fdiv 5).fmod m).toNat]?=some x:=⟨_,kq (by show _ < 12;exact hk)⟩
   have hx':vals[((n.fdiv 5).fmod m).toNat]?=some x:=(List.getElem?_take_of_lt hk).symm.trans hx
   have vo:Qm sm x.1 x.2:=by
    have:=vok hx'
    cases hsm:sm with
    | false=>exact this.wk
    | true=>
     have h8:m=8:=by show(bif sm then(8:Int) else 12)=8;rw[hsm];rfl
     rw[decide_eq_true (by rw[h8]at g1 ⊢;omega)]at this
     exact this
   let s3:=(alloc s2 (.lst ((vals.take 12).map xA))).2
   have v1:Jq c (.JG 61 .nil) L3 s2=some (.ref s2.cur.length,s3):=aE (c:=c) (f:=zd) (vs:=[]) (ws:=[]) U (by rw[bg];rfl) U U (rd d s2)
   have v2:Jq c I42 L3 s3=some (.i ((n.fdiv 5).fmod m),s3):=by
    have:Jq c (.Ju I7 pf (.n0 (.cst (.int 12)))) L3 s3=some (.i m,s3):=by
     refine(bz (u:=sm) (v:=.o sm) (s1:=s3) U U).trans ?_
     show _=some (V.b (.int (bif sm then 8 else 12)),s3)
     cases sm <;> rfl
    refine Jl (a:=(.i (n.fdiv 5),s3)) U (Jl this ?_)
    show Option.or (Option.map (λv=>(v,s3)) (Option.or (af (decide (0 < m)) (V.b (.int ((n.fdiv 5).fmod m)))) _)) _=_
    rw[decide_eq_true hm];rfl
   have v3:Jq c Ds L3 s2=some (xA x,s3):=Jl v1 (Jl v2 (cH (ak s2 _) g0 (by rw[Sf,hx];rfl)))
   let L4:List V:=[.ref t,.i dp,.o sm,.i n,.b (bc a),.b (aT g),.uu,.uu,.s x.1,.b x.2]
   have v4:JJ c (.Pq [8,9] Ds) L3 s2=some (.next,L4,s3):=Jl v3 (Jl (a:=[.s x.1,.b x.2]) U U)
   have isn:∀s,Jq c xj L4 s=some (.o (!g),s):=λs=>by
    refine Jl (a:=(.b (aT g),s)) U ?_
    show af (!false) _=_
    cases g <;> rfl
   have v5:Jq c Hh L4 s3=some (OS (bc a) (aT g) (!g) (!g) x.1 x.2,s3):=by
    have p5:Jq c (.b2 .pair xj xj) L4 s3=some (.b (.bb (!g) (!g)),s3):=Jl (isn s3) (Jl (isn s3) U)
    exact Jl (ac (s1:=s3) (v:=.b (bc a)) U (ac (s1:=s3) (v:=.b (aT g)) U (ac p5 (ac (s1:=s3) (v:=.s x.1) U (vj (s1:=s3) (v:=.b x.2) U U))))) (Jl (by rw[dc];rfl) U)
   exact fin (go (aj q4 U U) (go (aj eA U U) (go v4 (aR (aX (ac v5 (rfl:Kv c .nil L4 s3=_)) (by show 1<=12;decide)) _)))) (ak s3 _) (by rw[aV,aV];lia) (AO vo a g) (λv hv=>by obtain rfl:=km hv;exact⟨_,_,rfl,by decide⟩) (aA (aA k2)) (.inl ⟨by decide,rfl⟩) (((Kx.alloc _ s1 _).trans (.alloc _ s2 _)).trans (.alloc _ s3 _))
theorem uP(sm:Bool)(d:Nat):jO sm (d+4) 2 1:=gk (d:=d+2) λJ=>⟨1,rfl,gk (d:=d+1) (dp:=2) λJ=>⟨0,rfl,gk (d:=d) (dp:=3) λh=>absurd h (by decide)⟩⟩
noncomputable def My(T en:Tx)(k:Nat)(s p:Nat):List V:=[.s T,.s en,.ref k,.i s,.i p]
noncomputable def roT:E:=.b2 (.cmp .lt) I8 (.u1 .len I0)
noncomputable def roB:S:=match ah 3 Gu with | .cons (.while _ b) _=>b | _=>.nil
theorem AA{p m:Nat}(h:p<=T.length):ag T (some (p:Int)) (some ((p:Int)+(m:Int)))=(T.drop p).take m:=by
 unfold ag
 rw[show Na T.length (some (p:Int))=p by show J2 _ _=_;rw[cg];exact Sm h,
  show NW T.length (some ((p:Int)+(m:Int)))=min (p+m) T.length by show J2 _ _=_;rw[<- Int.natCast_add,cg]]
 rcases Nat.le_total (p+m) T.length with h1 | h1
 ·rw[Sm h1,Nat.add_sub_cancel_left]
 ·rw[Nat.min_eq_right h1,SJ (lw Sy),SJ (by rw[Sy];lia)]
section
variable{c:Cx}{rest:Tx}{k s p f:Nat}
theorem B7(h:decide (p < T.length)=b):Jq c roT (My T en k s p) st=some (.o b,st):=by
 subst h
 exact kg (λb=>some (V.b (.bool b),st)) (decide_eq_decide.mpr Int.ofNat_lt:decide ((p:Int) < (T.length:Int))=_)
noncomputable def roQ:E:=.b2 (.cmp .eq) DC I2
theorem Ez(h:p<=T.length):Jq c roQ (My T en k s p) st=some (.o ((T.drop p).take en.length==en),st):=by
 have:Jq c DC (My T en k s p) st=some (.s (ag T (some (p:Int)) (some ((p:Int)+(en.length:Int)))),st):=Jl (a:=(.s T,st)) U (Jl (a:=(.i p,st)) U (Jl (a:=(.i ((p:Int)+(en.length:Int)),st)) U U))
 rw[AA h]at this
 exact Jl this (Jl (a:=(.s en,st)) U U)
theorem kG(h:Mj en):∃e r,en=e::r/\iG e=true:=by rcases h with rfl | rfl | rfl <;> exact⟨_,_,rfl,rfl⟩
theorem j6(hl:Mj en):∀(r1:Tx)(p:Nat),T.drop p=r1++rest->Jz r1->cQ (Jq c roT) (JJ c roB) (r1.length+f) (My T en k s p) st=cQ (Jq c roT) (JJ c roB) f (My T en k s (p+r1.length)) st
 | [],p,_,_=>by rw[Sb,SE,Nat.add_zero]
 | x::r1,p,hd,hn=>by
  have hp:p < T.length:=by
   have:=kg List.length hd
   rw[Sy,ku,R0]at this
   omega
  have ih:=j6 hl r1 (p+1) (by rw[<- SA,hd];rfl) λy hy=>hn y (.tail _ hy)
  obtain⟨e,r,rfl,he⟩:=kG hl
  have q:=Ez (c:=c) (en:=e::r) (k:=k) (s:=s) (st:=st) (R8 hp)
  rw[hd]at q
  have hq:((x::r1++rest).take (e::r).length==e::r)=false:=by
   refine beq_eq_false_iff_ne.mpr λh=>?_
   rw[R0]at h
   have h:x::(r1++rest).take r.length=e::r:=h
   injection h with h1
   have:=hn x (.head _)
   rw[h1,he]at this;exact Kb this.symm
  rw[hq]at q
  have b:JJ c roB (My T (e::r) k s p) st=some (.next,My T (e::r) k s (p+1),st):=go (aj q U (go U U)) U
  rw[R0,show r1.length+1+f=(r1.length+f)+1 by lia,show p+(r1.length+1)=p+1+r1.length by lia]
  exact Jl (B7 (decide_eq_true hp)) (Jl (a:=true) U (Jl b ih))
theorem dl(lb r:Tx)(rs:List Tx):Kg lb (r::rs)=(r++lb)++Kg lb rs:=rfl
theorem jn{k:Nat}{a b:Ob}:bx (bx st k a) k b=bx st k b:=by
 show(⟨(st.cur.set k a).set k b,st.JR⟩:St)=_
 rw[List.set_set];rfl
theorem lQ(a b:List Tx):aq (a++b)=aq a++aq b:=R5
theorem pJ(hl:Mj en)(hk:k < st.cur.length)(r:Tx)(hr:Jz r):∀(rs done:List Tx)(f:Nat),T=Kg en done++(Kg en rs++r)->(∀x∈rs,Jz x)->T.length<=100000->done.length+rs.length<=100000->(Kg en rs++r).length < f->
  cQ (Jq c roT) (JJ c roB) f (My T en k (Kg en done).length (Kg en done).length) (bx st k (.lst (aq done)))=some (.next,My T en k (Kg en (done++rs)).length T.length,bx st k (.lst (aq (done++rs))))
 | [],done,f,hT,_,_,_,hf=>by
  have hT:T=Kg en done++r:=hT
  have hf:r.length < f:=hf
  obtain⟨f,rfl⟩:∃g,f=r.length+(g+1):=⟨f - r.length - 1,by omega⟩
  refine(j6 (rest:=[]) hl r _ (by rw[hT,SD,mh]) hr).trans ?_
  have e:(Kg en done).length+r.length=T.length:=by rw[hT,ku]
  rw[e,mh]
  exact Jl (B7 (decide_eq_false (Sj _))) (Jl (a:=false) U U)
 | r0::rs,done,f,hT,hn,h1,h2,hf=>by
  rw[dl,lq,lq]at hT hf
  rw[ku,ku,<- SO]at hf
  have QX:=h1
  rw[hT,ku,ku,ku]at QX
  obtain⟨e,er,hen,_⟩:=kG hl
  have O4:0 < en.length:=by rw[hen];exact Nat.succ_pos _
  obtain⟨f,rfl⟩:∃g,f=r0.length+(g+1):=⟨f - r0.length - 1,by lia⟩
  refine(j6 (rest:=en++(Kg en rs++r)) hl r0 _ (by rw[hT,SD]) (hn r0 (.head _))).trans ?_
  have hp:(Kg en done).length+r0.length < T.length:=by rw[hT,ku,ku,ku];lia
  have hd:T.drop ((Kg en done).length+r0.length)=en++(Kg en rs++r):=by rw[<- SA,hT,SD,SD]
  have q:=Ez (c:=c) (en:=en) (k:=k) (s:=(Kg en done).length) (st:=bx st k (.lst (aq done))) (R8 hp)
  rw[hd,List.take_left,beq_self_eq_true]at q
  have sl:ag T (some ((Kg en done).length:Int)) (some (((Kg en done).length+r0.length:Nat):Int))=r0:=by
   rw[Int.natCast_add,AA (by lia),hT,SD,List.take_left]
  have e1:Jq c (.slice I0 Kr I8) (My T en k (Kg en done).length ((Kg en done).length+r0.length)) (bx st k (.lst (aq done)))=some (.s r0,bx st k (.lst (aq done))):=by
   refine Jl (a:=(.s T,bx st k (.lst (aq done)))) U (Jl (a:=(.i ((Kg en done).length:Int),bx st k (.lst (aq done)))) U (Jl (a:=(.i (((Kg en done).length+r0.length:Nat):Int),bx st k (.lst (aq done)))) U ?_))
   show some (V.b (.str (ag T (some ((Kg en done).length:Int)) (some (((Kg en done).length+r0.length:Nat):Int)))),_)=_
   rw[sl]
  have NV:(bx st k (.lst (aq done))).cur[k]?=some (.lst (aq done)):=eW hk
  have a1:=eH (c:=c) (o:=.n0 (.loc 2)) (l:=My T en k (Kg en done).length ((Kg en done).length+r0.length)) (k:=k) (v:=.s r0) U NV e1 NV (by show(List.map _ done).length < JL;rw[lf];exact lh (show done.length < 100001 by lia) (by decide)) U
  rw[jn,show aq done++[V.b (.str r0)]=aq (done++[r0]) from(lQ done [r0]).symm]at a1
  have b:JJ c roB (My T en k (Kg en done).length ((Kg en done).length+r0.length)) (bx st k (.lst (aq done)))=some (.next,My T en k (Kg en (done++[r0])).length (Kg en (done++[r0])).length,bx st k (.lst (aq (done++[r0])))):=by
   have el:(Kg en (done++[r0])).length=(Kg en done).length+r0.length+en.length:=by rw[fC,ku,ku,SO]
   rw[el]
   exact go (ao q U (go a1 (go (l':=My T en k (Kg en done).length ((Kg en done).length+r0.length+en.length)) (Jy:=bx st k (.lst (aq (done++[r0])))) U (go U U)))) U
  have ih:=pJ hl hk r hr rs (done++[r0]) f (by rw[fC,hT];simp only[lq]) (λx hx=>hn x (.tail _ hx)) h1 (by rw[ku];rw[R0]at h2;show done.length+1+rs.length<=_;lia) (by rw[ku]at hf ⊢;lia)
  rw[lq]at ih
  exact Jl (B7 (decide_eq_true hp)) (Jl (a:=true) U (Jl b ih))
end
theorem AC{p:Nat}(h:p<=T.length):ag T (some (p:Int)) none=T.drop p:=by
 unfold ag
 rw[show Na T.length (some (p:Int))=p by show J2 _ _=_;rw[cg];exact Sm h]
 exact SJ (lw Sy)
theorem j5(lb:Tx)(h:Mj lb)(rs:List Tx):rs.length<=(Kg lb rs).length:=by
 induction rs with
 | nil=>exact mf 0
 | cons r rs ih=>
  rw[dl,ku,ku,R0]
  obtain⟨e,er,rfl,_⟩:=kG h
  rw[R0];lia
theorem jm(d:Nat)(hl:Mj en)(hT:T=Kg en rs++r)(hn:∀x∈rs,Jz x)(hr:Jz r)(h:T.length<=59000)(post:∀k s1,(Jr (d+1)).Jv 66 [.s T,.s en] st=some (.ref k,s1)->s1.cur[k]?=some (.lst (aq (rs++[r])))->st.cur.length<=k->Kx [] st s1->P):P:=by
 let c:=Jr d
 let k:=st.cur.length
 let s1:=(alloc st (.lst [])).2
 let s2:=bx s1 k (.lst (aq rs))
 let s3:=(alloc s2 (.lst (aq [r]))).2
 let s4:=(alloc s3 (.lst (aq (rs++[r])))).2
 have hk:k < s1.cur.length:=by rw[aV];exact So _
 have e1:Jq c fj [.s T,.s en,.uu,.uu,.uu] st=some (.ref k,s1):=aX U (mj _)
 have hle:rs.length<=T.length:=by rw[hT,ku];exact ke (j5 en hl rs) (lu _ _)
 have lp:=pJ (c:=c) (T:=T) (en:=en) (k:=k) (st:=s1) hl hk r hr rs [] 60000 hT hn (by lia) (by show 0+rs.length<=_;lia) (by rw[<- hT];lia)
 have p0:bx s1 k (.lst (aq []))=s1:=by
  show(⟨s1.cur.set k (.lst []),s1.JR⟩:St)=s1
  rw[im (ak st _)]
 rw[p0,SU]at lp
 have e4:JJ c (.while roT roB) (My T en k 0 0) s1=some (.next,My T en k (Kg en rs).length T.length,s2):=by
  show cQ _ _ c.wf _ _=_
  rw[dk];exact lp
 have dr:T.drop (Kg en rs).length=r:=by rw[hT,SD]
 have e5:Jq c (.slice I0 Kr I6) (My T en k (Kg en rs).length T.length) s2=some (.s r,s2):=by
  refine Jl (a:=(.s T,s2)) U (Jl (a:=(.i ((Kg en rs).length:Int),s2)) U (Jl (a:=(.b .nul,s2)) U ?_))
  show some (V.b (.str (ag T (some ((Kg en rs).length:Int)) none)),s2)=_
  rw[AC (by rw[hT,ku];exact lu _ _),dr]
 have e6:Jq c DA (My T en k (Kg en rs).length T.length) s2=some (.ref s2.cur.length,s3):=aX (ac e5 (rfl:Kv c .nil _ s2=_)) (by show 1<=12;decide)
 have h2:s2.cur[k]?=some (.lst (aq rs)):=eW hk
 have e7:Jq c (.b2 (.bin .add) I7 DA) (My T en k (Kg en rs).length T.length) s2=some (.ref s3.cur.length,s4):=by
  rw[show s4=(alloc s3 (.lst (aq rs++aq [r]))).2 by rw[<- lQ]]
  exact Jl (a:=(.ref k,s2)) U (Jl e6 (gO (aA h2) (ak s2 _) (by show(List.map _ rs).length+1<=JL;rw[lf];exact ke (show rs.length+1<=59001 by lia) (by decide))))
 refine post _ s4 (ay (d:=d) (f:=vW) U (go (Li e1) (go (l':=[.s T,.s en,.ref k,.i 0,.uu]) (Jy:=s1) U (go (l':=My T en k 0 0) (Jy:=s1) U (go e4 (aR e7 _))))) U) (ak s3 _) ?_ ?_
 ·rw[aV];show st.cur.length<=(s1.cur.set k _).length+1;rw[List.length_set,aV];lia
 ·exact(((Kx.alloc [] st (.lst [])).drop (Kx.put (X:=[k]) (.head _) s1 _) (mf _)).trans (.alloc _ s2 _)).trans (.alloc _ s3 _)
theorem ye(X:Tx)(h:M7 X):∃rs r,X=Kg [10] rs++r/\(∀x∈rs,Jz x)/\Jz r:=by
 induction X with
 | nil=>exact⟨[],[],rfl,λx hx=>absurd hx mo,.nil⟩
 | cons c X ih=>
  obtain⟨rs,r,rfl,h1,h2⟩:=ih λx hx=>h x (.tail _ hx)
  cases hc:bG c with
  | true=>
   obtain rfl:c=10:=ld hc
   exact⟨[]::rs,r,rfl,λx hx=>(kl hx).elim (λe=>e▸.nil) (h1 x),h2⟩
  | false=>
   have hn:iG c=false:=Bool.or_eq_false_iff.mpr ⟨hc,h c (.head _)⟩
   cases rs with
   | nil=>exact⟨[],c::r,rfl,h1,h2.cons hn⟩
   | cons r0 rs=>exact⟨(c::r0)::rs,r,rfl,λx hx=>(kl hx).elim (λe=>e▸(h1 r0 (.head _)).cons hn) λhx=>h1 x (.tail _ hx),h2⟩
theorem Gd(h:∀x∈rs,Jz x)(hr:Jz r):cv en (Kg [10] rs++r)=Kg en rs++r:=by
 induction rs with
 | nil=>exact dz _ hr.M8
 | cons r0 rs ih=>
  rw[dl,dl,lq,lq,aJ,aJ,dz _ (h r0 (.head _)).M8,ih λx hx=>h x (.tail _ hx)]
  simp only[lq]
  exact kg (r0++·) (kg (·++_) (mh en))
theorem yP(s:Tx)(rs:List Tx)(r:Tx):a9 s (rs++[r])=Kg s rs++r:=by
 induction rs with
 | nil=>rfl
 | cons r0 rs ih=>
  rw[dl,lq,lq,<- ih]
  cases h:rs++[r] with
  | nil=>exact absurd h (by simp)
  | cons a b=>show a9 s (r0::(rs++[r]))=_;rw[h];rfl
noncomputable def MA(k:Int)(r:Tx):Tx:=bif r.isEmpty then r else ap k++r
noncomputable def Ro(k:Int)(f:Bool):List Tx->List Tx
 | []=>[]
 | r::t=>(bif f then MA k r else r)::t.map (MA k)
theorem uW{k:Int}(h:Jz r):Jz (MA k r):=by
 unfold MA
 cases r.isEmpty with
 | true=>exact h
 | false=>exact(fz k).app h
theorem AY{k:Int}(h:Jz r):LG k f r=bif f then MA k r else r:=by
 cases f with
 | false=>exact ol k h.M8
 | true=>
  cases r with
  | nil=>rfl
  | cons c r=>exact kD k h.M8 λh=>nomatch h
theorem pX{en:Tx}{k:Int}:∀(l:List Tx)(f:Bool),(∀x∈l,Jz x)->cv en (LG k f (a9 [10] l))=a9 en (Ro k f l)
 | [],_,_=>rfl
 | [r],f,h=>by
  have hr:=h r (.head _)
  show cv en (LG k f r)=bif f then MA k r else r
  rw[AY hr]
  cases f with
  | false=>exact dz _ hr.M8
  | true=>exact dz _ (uW hr).M8
 | r::r'::t,f,h=>by
  have hr:=h r (.head _)
  have ih:=pX (en:=en) (k:=k) (r'::t) true λx hx=>h x (.tail _ hx)
  show cv en (LG k f (r++([10]++a9 [10] (r'::t))))=_
  rw[pY,AY hr]
  have e:∀g,LG k g ([10]++a9 [10] (r'::t))=10::LG k true (a9 [10] (r'::t)):=λg=>by
   show(bif g&&!bG 10 then ap k else [])++10::LG k (bG 10) (a9 [10] (r'::t))=_
   cases g <;> rfl
  rw[e,aJ,show(10:Nat)::LG k true (a9 [10] (r'::t))=[10]++LG k true (a9 [10] (r'::t)) from rfl,aJ,ih]
  have e2:cv en (bif f then MA k r else r)=bif f then MA k r else r:=by
   cases f with
   | false=>exact dz _ hr.M8
   | true=>exact dz _ (uW hr).M8
  rw[e2]
  show _++((en++[])++_)=_
  rw[mh];rfl
theorem mN{s:Tx}(hs:s.length<=2):∀l:List Tx,(a9 s l).length<=l.flatten.length+2*l.length
 | []=>mj _
 | [r]=>by show r.length<=(r++[]).length+2;rw[mh];lia
 | r::r'::t=>by
  have:=mN hs (r'::t)
  show(r++(s++a9 s (r'::t))).length<=(r++(r'::t).flatten).length+2*((r'::t).length+1)
  rw[ku,ku,ku];lia
theorem pW{k:Int}(h:k<=9)(r:Tx):(MA k r).length<=r.length+9:=by
 unfold MA
 cases r.isEmpty with
 | true=>exact lu _ _
 | false=>show(ap k++r).length<=_;rw[ku,bL];lia
theorem yB{k:Int}(h:k<=9):∀l:List Tx,(Ro k f l).flatten.length<=l.flatten.length+9*l.length/\(Ro k f l).length=l.length
 | []=>⟨mj _,rfl⟩
 | r::t=>by
  have hm:∀t:List Tx,(t.map (MA k)).flatten.length<=t.flatten.length+9*t.length:=λt=>by
   induction t with
   | nil=>exact mj _
   | cons x t ih=>
    have:=pW h x
    show(MA k x++(t.map (MA k)).flatten).length<=(x++t.flatten).length+9*(t.length+1)
    rw[ku,ku];lia
  have h0:(bif f then MA k r else r).length<=r.length+9:=by
   cases f with
   | false=>exact lu _ _
   | true=>exact pW h r
  have:=hm t
  refine⟨?_,kg (·+1) (lf _)⟩
  show((bif f then MA k r else r)++(t.map (MA k)).flatten).length<=(r++t.flatten).length+9*(t.length+1)
  rw[ku,ku];lia
noncomputable def mvB:E:=.Ju GH I2 DG
section
variable{c:Cx}{k:Int}
theorem yz(h0:0<=k)(h9:k<=9)(hl:r.length<=100000)(i:Nat):Jq c mvB [.i i,.s r,.i k] st=some (.s (bif i==0 then r else MA k r),st):=by
 have qi:Jq c (.b2 (.cmp .eq) I0 Lm) [.i i,.s r,.i k] st=some (.o ((i:Int)==0),st):=rfl
 have qr:Jq c (.b2 (.cmp .eq) I2 PM) [.i i,.s r,.i k] st=some (.o (r==[]),st):=rfl
 have ei:((i:Int)==0)=(i==0):=by rw[SR,beq_iff_eq,beq_iff_eq];lia
 have er:(r==[])=r.isEmpty:=by cases r <;> rfl
 rw[ei]at qi
 rw[er]at qr
 have q:=cB qi qr
 have m:Jq c DG [.i i,.s r,.i k] st=some (.s (ap k++r),st):=by
  have gm:sO .mul [32] k=some (.s (ap k)):=bU (by
   have h2:([32]:Tx).length*k.toNat<=JL:=by
    rw[show([32]:Tx).length=1 from rfl,Nat.one_mul];exact ke (show k.toNat<=9 by lia) (by decide)
   rw[decide_eq_true (show(-1000000:Int)<=k by lia),decide_eq_true h2];rfl)
  exact Jl (Jl (a:=(.s [32],st)) U (Jl (a:=(.i k,st)) U (uX gm))) (Jl (a:=(.s r,st)) U (bS (by rw[bL];exact ke (show k.toNat+r.length<=100009 by lia) (by decide))))
 refine(bz q U).trans ?_
 unfold MA
 cases i==0 with
 | true=>rfl
 | false=>cases r.isEmpty with
  | true=>rfl
  | false=>exact m
theorem yA(h0:0<=k)(h9:k<=9)(hj:st.cur[j]?=some (.lst (aq rows)))(hl:∀x∈rows,x.length<=100000)(hr:rows.length<=100000):∀(rest:List Tx)(i fuel:Nat)(acc:List V),rows.drop i=rest->rest.length < fuel->acc.length+rest.length<=100000->
  da (itemAt (.ref j)) (λi x st=>Jq c mvB [.i i,x,.i k] st) fuel i st acc=some (acc++aq (bif i==0 then Ro k false rest else rest.map (MA k)),st):=by
 intro rest
 induction rest with
 | nil=>
  intro i fuel acc hd hf ha
  obtain⟨f,rfl⟩:=cN hf
  have hi:(aq rows)[i]?=none:=by
   show(rows.map _)[i]?=none
   rw[Sf,<- Ss,hd];rfl
  refine Jl (db hj) ?_
  rw[hi]
  show af (decide (acc.length<=JL)) (acc,st)=_
  rw[decide_eq_true (ke (show acc.length<=100000 from ha) (by decide))]
  cases i==0 <;> exact kg (λa=>some (a,st)) (mh acc).symm
 | cons r rest ih=>
  intro i fuel acc hd hf ha
  obtain⟨f,rfl⟩:∃f,fuel=f+1:=⟨fuel - 1,(R9 (li (mj _) hf)).symm⟩
  have hi:(aq rows)[i]?=some (.s r):=by
   show(rows.map _)[i]?=_
   rw[Sf,<- Ss,hd];rfl
  have hm:r∈rows:=List.mem_of_mem_drop (i:=i) (by rw[hd];exact .head _)
  have:=ih (i+1) f (acc++[.s (bif i==0 then r else MA k r)]) (by rw[<- SA,hd];rfl) (R7 hf) (by rw[ku];rw[R0]at ha;show acc.length+1+_<=_;lia)
  refine Jl (db hj) ?_
  rw[hi]
  refine Jl (yz h0 h9 (hl r hm) i) (Jl (a:=()) U (this.trans ?_))
  rw[lq]
  cases i==0 <;> rfl
end
theorem uZ(ts:List Tx):(aq ts).mapM aU=some ts:=by
 induction ts with
 | nil=>rfl
 | cons t ts ih=>
  unfold aq at ih ⊢
  rw[Sh,SY]
  show((List.mapM aU (ts.map λt=>V.b (.str t))).bind λk=>some (t::k))=_
  rw[ih];rfl
theorem jv{c:Cx}{a b:E}{k:Nat}(ha:Jq c a l st=some (.s s,st))(hb:Jq c b l st=some (.ref k,s1))(hk:s1.cur[k]?=some (.lst (aq ts)))(hs:s.length<=2)(h1:ts.flatten.length<=1000000)(h2:ts.length<=1000000):Jq c (.b2 .LN a b) l st=some (.s (a9 s ts),s1):=by
 refine Jl ha (Jl hb ?_)
 show(aI s1 (.ref k)).bind _=_
 rw[ab hk]
 show((aq ts).mapM aU).bind _=_
 rw[uZ]
 have:=mN hs ts
 have h3:s.length*(ts.length+1)<=2*1000001:=Nat.mul_le_mul hs (mn h2)
 exact bU (decide_eq_true (ke (show(a9 s ts).length+s.length*(ts.length+1)<=6000000 by lia) (by decide)))
theorem lX(rs:List Tx)(r:Tx):(rs++[r]).flatten.length<=(Kg en rs++r).length:=by
 induction rs with
 | nil=>show(r++[]).length<=r.length;rw[mh];exact mf _
 | cons x rs ih=>
  rw[dl]
  show(x++(rs++[r]).flatten).length<=_
  simp only[ku]at ih ⊢
  lia
theorem om(d:Nat){X:Tx}{k:Int}(h0:0<=k)(h9:k<=9)(hl:Mj en)(hX:M7 X)(hlen:(cv en X).length<=59000)(post:∀s1,(Jr (d+2)).Jv 67 [.s (cv en X),.i k,.s en] st=some (.s (cv en (LG k false X)),s1)->Kx [] st s1->P):P:=by
 obtain⟨rs,r,rfl,h1,h2⟩:=ye X hX
 rw[Gd h1 h2]at post hlen
 refine jm d (st:=st) (en:=en) hl U h1 h2 hlen λj s1 a1 a2 a3 a4=>?_
 let c:=Jr (d+1)
 let L:List V:=[.s (Kg en rs++r),.i k,.s en]
 have tot:=lX (en:=en) rs r
 have hle:(rs++[r]).length<=59001:=by
  rw[ku]at hlen ⊢
  have:=j5 en hl rs
  show rs.length+1<=_;lia
 have P8:∀x∈rs++[r],x.length<=100000:=λx hx=>by
  have:x.length<=(rs++[r]).flatten.length:=by
   obtain⟨a,b,e⟩:=List.append_of_mem hx
   rw[e];simp only[Sg,Sz,ku];lia
  lia
 have lp:=yA (c:=c) h0 h9 a2 P8 (by lia) (rs++[r]) 0 60000 [] U (by lia) (by show 0+_<=_;lia)
 let ts:=Ro k false (rs++[r])
 let s2:=(alloc s1 (.lst (aq ts))).2
 have e1:Jq c Dy L st=some (.ref j,s1):=aE (c:=c) (f:=vW) (vs:=[.s (Kg en rs++r),.s en]) (ws:=[.s (Kg en rs++r),.s en]) U (by rw[bg];rfl) U U a1
 have e2:Jq c (.comp true [1] Dy mvB) L st=some (.ref s1.cur.length,s2):=by
  refine Jl (a:=[.i k]) U (Jl e1 (Jl (ab a2) ?_))
  show(da (itemAt (.ref j)) (λi x st=>Jq c mvB [.i i,x,.i k] st) c.wf 0 s1 []).map _=_
  rw[dk,lp];rfl
 have ml:=yB h9 (f:=false) (rs++[r])
 have e3:=jv (c:=c) (a:=.n0 (.loc 2)) (l:=L) (s:=en) (ts:=ts) U e2 (ak s1 _) hl.len (by show(Ro k false (rs++[r])).flatten.length<=_;lia) (by show(Ro k false (rs++[r])).length<=_;lia)
 have ej:a9 en ts=cv en (LG k false (Kg [10] rs++r)):=by
  rw[<- yP,pX]
  exact λx hx=>(mx hx).elim (h1 x) λhx=>by rw[km hx];exact h2
 rw[ej]at e3
 exact post s2 (ay (d:=d+1) (f:=za) U (aR e3 _) U) (a4.trans (.alloc _ _ _))
inductive JF(bw:Int):Tx->Tx->List Tx->Tx->Prop
 | nil {a p:_}:JF bw a p [] a
 | cons {a p r l Y:_}:bw < (p.length:Int) - (bif cf a then 1 else 0)->JF bw (cI a r) r l Y->JF bw a p (r::l) Y
theorem JF.snoc{p r':Tx}{l:List Tx}(h:JF bw a p l Y)(q:Tx)(hq:(p::l).getLast?=some q)(hw:bw < (q.length:Int) - (bif cf Y then 1 else 0)):JF bw a p (l++[r']) (cI Y r'):=by
 induction h with
 | nil=>obtain rfl:=kc hq;exact .cons hw .nil
 | cons h1 _ ih=>exact .cons h1 (ih (by rw[List.getLast?_cons_cons]at hq;exact hq) hw)
theorem Jn.jf{X:Tx}(h:Jn bw rs r X):∃r0 t,rs++[r]=r0::t/\JF bw r0 r0 t X:=by
 induction h with
 | one=>exact⟨_,[],rfl,.nil⟩
 | @NO rs r r' X h hw ih=>
  obtain⟨r0,t,e,hj⟩:=ih
  refine⟨r0,t++[r'],by rw[e];rfl,hj.snoc r ?_ hw⟩
  rw[<- e,List.getLast?_concat]
section
variable{c:Cx}{k:Nat}{t:Tx}
theorem pI(h:l[k]?=some (.s t)):Jq c (.slice (.n0 (.loc k)) I6 I4) l st=some (.s (t.take 1),st):=by
 refine Jl (aC h U) (Jl (a:=(.b .nul,st)) U (Jl (a:=(.i 1,st)) U ?_))
 show some (V.b (.str (ag t none (some ((1:Nat):Int)))),st)=_
 have:ag t none (some ((1:Nat):Int))=t.take 1:=by
  unfold ag
  rw[show NW t.length (some ((1:Nat):Int))=min 1 t.length from cg _ _]
  show(t.drop 0).take (min 1 t.length - 0)=_
  rw[List.drop_zero,Nat.sub_zero]
  cases t with
  | nil=>rfl
  | cons x t=>rw[Sm (show 1<=(x::t).length from mn (mj _))]
 rw[this]
theorem Az{x:Nat}(h:l[k]?=some (.s (x::t))):Jq c (.slice (.n0 (.loc k)) I4 I6) l st=some (.s t,st):=by
 refine Jl (aC h U) (Jl (a:=(.i 1,st)) U (Jl (a:=(.b .nul,st)) U ?_))
 show some (V.b (.str (ag (x::t) (some ((1:Nat):Int)) none)),st)=_
 rw[AC (T:=x::t) (p:=1) (mn (mj _))];rfl
theorem oK(n:Nat):J2 n (-1)=n - 1:=by
 unfold J2
 rw[if_pos (by decide)];lia
noncomputable def oq(t:Tx):Tx:=t.drop (t.length - 1)
theorem hZ(t:Tx)(x:Nat):(oq t==[x])=(t.getLast?==some x):=by
 rcases List.eq_nil_or_concat t with rfl | ⟨a,y,rfl⟩
 ·rfl
 ·unfold oq
  rw[List.concat_eq_append,ku,List.getLast?_concat,show a.length+[y].length - 1=a.length from Nat.add_sub_cancel _ _,SD]
  rw[SR,beq_iff_eq,beq_iff_eq]
  exact⟨λh=>by injection h with h;rw[h],λh=>by injection h with h;rw[h]⟩
theorem ur(h:l[k]?=some (.s t)):Jq c (.slice (.n0 (.loc k)) MW I6) l st=some (.s (oq t),st):=by
 refine Jl (aC h U) (Jl (a:=(.i (-1),st)) U (Jl (a:=(.b .nul,st)) U ?_))
 show some (V.b (.str (ag t (some (-1)) none)),st)=_
 have:ag t (some (-1)) none=oq t:=by
  unfold ag oq
  rw[show Na t.length (some (-1))=t.length - 1 from oK _]
  exact SJ (by rw[Sy];exact mf _)
 rw[this]
theorem Ej(h:l[k]?=some (.s t)):Jq c (.slice (.n0 (.loc k)) I6 MW) l st=some (.s t.dropLast,st):=by
 refine Jl (aC h U) (Jl (a:=(.b .nul,st)) U (Jl (a:=(.i (-1),st)) U ?_))
 show some (V.b (.str (ag t none (some (-1)))),st)=_
 have:ag t none (some (-1))=t.dropLast:=by
  unfold ag
  rw[show NW t.length (some (-1))=t.length - 1 from oK _]
  show(t.drop 0).take (t.length - 1 - 0)=_
  rw[List.drop_zero,Nat.sub_zero,List.dropLast_eq_take]
 rw[this]
theorem sJ{a b:E}(ha:Jq c a l st=some (.s t,st))(hb:Jq c b l st=some (.s s,st)):Jq c (.b2 (.cmp .eq) a b) l st=some (.o (t==s),st):=Jl ha (Jl hb U)
end
noncomputable def jL(j:Nat)(m:Int)(a:Tx)(i row cut:V):List V:=[.ref j,.i m,.s a,i,row,cut]
noncomputable def joB:S:=match ah 1 Gs with | .cons (.forR _ _ _ b) _=>b | _=>.nil
noncomputable def spT:E:=.b2 (.cmp .eq) (.slice I8 I6 I4) Ll
noncomputable def spB:S:=.cons (.asg [4] (.slice I8 I4 I6)) .nil
theorem tk1(x y:Nat)(r:Tx):((x::r).take 1==[y])=(x==y):=by
 show([x]==[y])=_
 rw[SR,beq_iff_eq,beq_iff_eq]
 exact⟨λh=>by injection h,λh=>by rw[h]⟩
section
variable{c:Cx}{m:Int}{i cut:V}
theorem pD:∀(r:Tx)(fuel:Nat),r.length < fuel->cQ (Jq c spT) (JJ c spB) fuel (jL j m a i (.s r) cut) st=some (.next,jL j m a i (.s (bj r)) cut,st)
 | [],fuel,hf=>by
  obtain⟨f,rfl⟩:=cN hf
  exact Jl (a:=(.ff,st)) (sJ (t:=[]) (s:=[32]) (pI (t:=[]) U) U) (Jl (a:=false) U U)
 | x::r,fuel,hf=>by
  obtain⟨f,rfl⟩:∃f,fuel=f+1:=⟨fuel - 1,(R9 (li (mj _) hf)).symm⟩
  have q:Jq c spT (jL j m a i (.s (x::r)) cut) st=some (.o ((x::r).take 1==[32]),st):=sJ (pI U) U
  rw[tk1]at q
  have e:bj (x::r)=bif x==32 then bj r else x::r:=by
   unfold bj
   rw[S7]
   cases x==32 <;> rfl
  rw[e]
  cases hx:x==32 with
  | true=>
   rw[hx]at q
   have b:JJ c spB (jL j m a i (.s (x::r)) cut) st=some (.next,jL j m a i (.s r) cut,st):=go (bK (Az U)) U
   have ih:=pD r f (R7 hf)
   exact Jl q (Jl (a:=true) U (show Option.bind (JJ c spB (jL j m a i (.s (x::r)) cut) st) (λq=>thn q (cQ (Jq c spT) (JJ c spB) f))=_ from Jl b ih))
  | false=>
   rw[hx]at q
   exact Jl q (Jl (a:=false) U U)
theorem lR(r:Tx):(bj r).length<=r.length:=by
 unfold bj
 exact(List.dropWhile_sublist _).length_le
theorem lL(r:Tx):(ja r).length<=r.length:=by
 cases r with
 | nil=>exact mf _
 | cons x r=>show(bif x==92 then r else x::r).length<=_;cases x==92 with | true=>exact mw _ | false=>exact mf _
theorem vI(a r:Tx):(cI a r).length<=a.length+r.length+1:=by
 have h1:=lR r
 have h2:=lL (bj r)
 unfold cI
 cases cf a with
 | true=>show(a.dropLast++ja (bj r)).length<=_;rw[ku,List.length_dropLast];omega
 | false=>
  show(a++(_++bj r)).length<=_
  rw[ku,ku]
  have:(bif d5 a then [] else [32]:Tx).length<=1:=by cases d5 a;exact mf 1;exact mj 1
  lia
end
theorem yQ(d:Nat){m:Int}{p:Tx}{row cut:V}(hj:st.cur[j]?=some (.lst (aq rows)))(hp:rows[i]?=some p)(hr:rows[i+1]?=some r)(hw:m < (p.length:Int) - (bif cf a then 1 else 0))(h1:a.length+r.length+1<=1000000)(h2:r.length < 60000)
  (post:∀s1 M3 Nc,Es d joB (jL j m a (.i ((i+1:Nat):Int)) row cut) st (jL j m (cI a r) (.i ((i+1:Nat):Int)) M3 Nc) s1->Kx [] st s1->P):P:=by
 let c:=Jr d
 let I:V:=.i ((i+1:Nat):Int)
 have sat:∀{k:Nat}{x:Tx},rows[k]?=some x->(aq rows)[k]?=some (.s x):=λ{k x} h=>by show(rows.map _)[k]?=_;rw[Sf,h];rfl
 have e1:Jq c (.b2 .idx I0 Kr) (jL j m a I row cut) st=some (.s r,st):=Jl (a:=(.ref j,st)) U (Jl (a:=(I,st)) U (cH hj (Sr _) (sat hr)))
 have e2:JJ c (.while spT spB) (jL j m a I (.s r) cut) st=some (.next,jL j m a I (.s (bj r)) cut,st):=by
  show cQ _ _ c.wf _ _=_
  rw[dk];exact pD r 60000 h2
 have e3:Jq c (.b2 (.cmp .eq) (.slice I7 MW I6) RV) (jL j m a I (.s (bj r)) cut) st=some (.o (cf a),st):=by
  have:=sJ (c:=c) (l:=jL j m a I (.s (bj r)) cut) (st:=st) (s:=[92]) (b:=.n0 (.cst (.str [92]))) (ur (k:=2) (t:=a) U) U
  rw[hZ]at this;exact this
 let L:=jL j m a I (.s (bj r)) (.o (cf a))
 have e4:Jq c (.Ju I9 I4 Lm) L st=some (.i (bif cf a then 1 else 0),st):=by
  refine(bz (u:=cf a) (v:=.o (cf a)) (s1:=st) U U).trans ?_
  cases cf a <;> rfl
 have e5:Jq c (.u1 .len (.b2 .idx I0 (.b2 (.bin .sub) Kr I4))) L st=some (.i (p.length:Int),st):=by
  have:Jq c (.b2 (.bin .sub) Kr I4) L st=some (.i (i:Int),st):=by
   refine Jl (a:=(I,st)) U (Jl (a:=(.i 1,st)) U ?_)
   show some (V.b (.int (((i+1:Nat):Int) - 1)),st)=_
   rw[show((i+1:Nat):Int) - 1=(i:Int) by lia]
  exact Jl (Jl (a:=(.ref j,st)) U (Jl this (cH hj (Sr _) (sat hp)))) U
 have q6:Jq c Ha L st=some (.o (decide ((p.length:Int) - (bif cf a then 1 else 0)<=m)),st):=
  Jl (a:=(.i ((p.length:Int) - (bif cf a then 1 else 0)),st)) (Jl e5 (Jl e4 U)) (Jl (a:=(.i m,st)) U U)
 rw[decide_eq_false (show ¬ ((p.length:Int) - (bif cf a then 1 else 0)<=m) by lia)]at q6
 have lim:∀n,n<=1000000->n<=JL:=λn h=>ke h (by decide)
 have s1:=lR r
 have pre:∀{R:Kf},JJ c (ah 4 joB) L st=R->JJ c joB (jL j m a I row cut) st=R:=λh=>go (bK e1) (go e2 (go (bK e3) (go (aj q6 U U) h)))
 have q7:Jq c I9 L st=some (.o (cf a),st):=rfl
 cases hc:cf a with
 | true=>
  rw[hc]at q7
  have u:Jq c DU L st=some (.s (ja (bj r)),st):=by
   have q:Jq c (.b2 (.cmp .eq) (.slice I8 I6 I4) RV) L st=some (.o ((bj r).take 1==[92]),st):=sJ (pI U) U
   refine(bz q U).trans ?_
   have h4:L[4]?=some (.s (bj r)):=rfl
   generalize bj r=z at h4
   cases z with
   | nil=>exact aC h4 U
   | cons x z=>
    rw[tk1]
    show(bif x==92 then _ else _)=some (V.b (.str (bif x==92 then z else x::z)),st)
    cases x==92 with
    | true=>exact Az h4
    | false=>exact aC h4 U
  have n:Jq c (.b2 (.bin .add) (.slice I7 I6 MW) DU) L st=some (.s (a.dropLast++ja (bj r)),st):=by
   have s2:=lL (bj r)
   exact Jl (Ej (k:=2) (t:=a) U) (Jl u (bS (lim _ (by rw[List.length_dropLast];lia))))
  have eg:cI a r=a.dropLast++ja (bj r):=by unfold cI;rw[hc];rfl
  rw[eg]at post
  exact post st _ _ (pre (go (ao q7 U (go (bK n) U)) U)) .rfl
 | false=>
  rw[hc]at q7
  let s2:=(alloc st (.lst [.s [91],.s [123]])).2
  have x1:Jq c I35 L st=some (.o (d5 a),s2):=by
   have el:Jq c (.lst (.pos tC (.pos RT .nil))) L st=some (.ref st.cur.length,s2):=aX (vs:=[.s [91],.s [123]]) U (by show 2<=12;decide)
   refine Jl (ur (k:=2) (t:=a) U) (Jl el ?_)
   show(aI s2 (.ref st.cur.length)).bind _=_
   rw[ab (ak st _)]
   show some (V.b (.bool ((oq a==[91])||((oq a==[123])||false))),s2)=_
   rw[Bool.or_false,hZ,hZ];rfl
  have x2:Jq c (.Ju I35 PM Ll) L st=some (.s (bif d5 a then [] else [32]),s2):=by
   refine(bz x1 U).trans ?_
   cases d5 a <;> rfl
  have n:Jq c GN L st=some (.s ((a++(bif d5 a then [] else [32]))++bj r),s2):=by
   have hb:(bif d5 a then [] else [32]:Tx).length<=1:=by cases d5 a;exact mf 1;exact mj 1
   exact Jl (Jl (a:=(.s a,st)) U (Jl x2 (bS (lim _ (by lia))))) (Jl (a:=(.s (bj r),s2)) U (bS (lim _ (by rw[ku];lia))))
  have eg:cI a r=(a++(bif d5 a then [] else [32]))++bj r:=by unfold cI;rw[hc,lq];rfl
  rw[eg]at post
  exact post s2 _ _ (pre (go (aj q7 U (go (bK n) U)) U)) (.alloc _ _ _)
theorem yR(d:Nat){m:Int}{N:Int}(hN:N=(rows.length:Int))(hl:∀x∈rows,x.length < 60000):∀(rest:List Tx)(i fuel:Nat)(a p Y:Tx)(x row cut:V)(st:St),rows[i]?=some p->rows.drop (i+1)=rest->rest.length < fuel->JF m a p rest Y->st.cur[j]?=some (.lst (aq rows))->a.length+rest.flatten.length+rest.length<=1000000->∀{P:Prop},
  (∀s1 x' M3 Nc,cy 3 (fD true N) (JJ (Jr d) joB) fuel i (jL j m a x row cut) st=some (.next,jL j m Y x' M3 Nc,s1)->Kx [] st s1->P)->P:=by
 intro rest
 induction rest with
 | nil=>
  intro i fuel a p Y x row cut st hp hd hf hj hs hle P post
  obtain⟨f,rfl⟩:=cN hf
  have hi:rows.length<=i+1:=List.drop_eq_nil_iff.mp hd
  cases hj
  exact post st x row cut (Jl (a:=none) (kg some (if_neg (by rw[hN];show ¬ ((i+1:Nat):Int) < _;lia))) U) .rfl
 | cons r rest ih=>
  intro i fuel a p Y x row cut st hp hd hf hj hs hle P post
  obtain⟨f,rfl⟩:∃f,fuel=f+1:=⟨fuel - 1,(R9 (li (mj _) hf)).symm⟩
  have hr:rows[i+1]?=some r:=by rw[<- Ss,hd];rfl
  have hi:=(kh hr).1
  have hg:=vI a r
  rw[Sz,ku,R0]at hle
  cases hj with
  | cons hw hj=>
   refine yQ d (row:=row) (cut:=cut) hs hp hr hw (by lia) (hl r (lx hr)) λs1 M3 Nc b1 b2=>?_
   refine ih (i+1) f (cI a r) r Y (.i ((i+1:Nat):Int)) M3 Nc s1 hr (by rw[<- SA,hd];rfl) (R7 hf) hj (b2.keep hs mo) (by lia) λs2 x2 row2 cut2 c1 c2=>?_
   exact post s2 x2 row2 cut2 (Jl (a:=some (V.b (.int ((i+1:Nat):Int)))) (kg some (if_pos (by rw[hN];show((i+1:Nat):Int) < _;lia))) (Jl (a:=(LD.next,jL j m (cI a r) (V.b (.int ((i+1:Nat):Int))) M3 Nc,s1)) b1 c1)) (b2.trans c2)
theorem mM(d:Nat){m:Int}{X:Tx}(hj:st.cur[j]?=some (.lst (aq (rs++[r]))))(RY:Jn m rs r X)(hl:(rs++[r]).flatten.length<=59000)(hn:rs.length<=59000)(post:∀s1,(Jr (d+1)).Jv 68 [.ref j,.i m] st=some (.s X,s1)->Kx [] st s1->P):P:=by
 let c:=Jr d
 obtain⟨r0,t,e,hJ⟩:=RY.jf
 have hlen:(rs++[r]).length=rs.length+1:=by rw[ku];rfl
 have P8:∀x∈rs++[r],x.length < 60000:=λx hx=>by
  have:x.length<=(rs++[r]).flatten.length:=by
   obtain⟨a,b,e⟩:=List.append_of_mem hx
   rw[e];simp only[Sg,Sz,ku];lia
  lia
 rw[e]at hj hl hlen P8
 rw[Sz,ku]at hl
 rw[R0]at hlen
 have e1:Jq c (.b2 .idx I0 Lm) [.ref j,.i m,.uu,.uu,.uu,.uu] st=some (.s r0,st):=Jl (a:=(.ref j,st)) U (Jl (a:=(.i 0,st)) U (cH hj (Sq 0) U))
 have e2:Jq c (.u1 .len I0) (jL j m r0 .uu .uu .uu) st=some (.i ((r0::t).length:Int),st):=by
  refine Jl (a:=(.ref j,st)) U ?_
  show(Option.or none ((aI st (.ref j)).map _))=_
  rw[ab hj]
  show some (V.b (.int ((aq (r0::t)).length:Int)),st)=_
  rw[show(aq (r0::t)).length=(r0::t).length from lf _]
 refine yR d (N:=((r0::t).length:Int)) U P8 t 0 60000 r0 r0 X .uu .uu .uu st U U (by lia) hJ hj (by lia) λs1 x' M3 Nc b1 b2=>?_
 have e3:JJ c (.forR 3 true (.u1 .len I0) joB) (jL j m r0 .uu .uu .uu) st=some (.next,jL j m X x' M3 Nc,s1):=by
  refine Jl e2 (Jl (a:=((r0::t).length:Int)) U (Jl (a:=()) (bU ?_) (by rw[dk];exact b1)))
  rw[decide_eq_true (show(-1000000:Int)<=((r0::t).length:Int) by lia),decide_eq_true (show((r0::t).length:Int)<=(1000000:Int) by rw[R0];lia)];rfl
 exact post s1 (ay (d:=d) (f:=y9) U (go (bK e1) (go e3 (aR (e:=.n0 (.loc 2)) (v:=.s X) U _))) U) b2
noncomputable def Mq(s:List Int):V:=.Kh .uu (gQ (KL s))
noncomputable def PS(n:Nat):List V:=List.replicate n .uu
theorem ph:∀l:List V,gG (gQ l)=some l
 | []=>rfl
 | a::l=>by show(gG (gQ l)).map _=_;rw[ph l];rfl
noncomputable def PT(s:List Int):List Int:=(ag s none (some 8)).map (·.fmod 1000003)
theorem rQ{α β:Type}(f:α->β)(l:List α)(a b:Option Int):ag (l.map f) a b=(ag l a b).map f:=by
 unfold ag
 rw[lf,List.map_take,List.map_drop]
theorem HU(c:Cx)(h:st.cur[j]?=some (.lst (KL xs))):∀(r:List Int)(i fuel:Nat)(acc:List V),xs.drop i=r->r.length < fuel->acc.length+r.length<=JL->da (itemAt (.ref j)) (λi x st=>Jq c I97 [x] st) fuel i st acc=some (acc++KL (r.map (·.fmod 1000003)),st):=by
 intro r
 induction r with
 | nil=>
  intro i fuel acc hd hf hl
  obtain⟨n,rfl⟩:=cN hf
  have hi:(KL xs)[i]?=none:=by
   unfold KL
   rw[Sf,<- Ss,hd];rfl
  refine Jl (db h) ?_
  rw[hi]
  show af (decide (acc.length<=JL)) _=_
  rw[decide_eq_true (show acc.length<=JL from hl)]
  exact kg (λa=>some (a,st)) (mh acc).symm
 | cons v r ih=>
  intro i fuel acc hd hf hl
  obtain⟨n,rfl⟩:∃f,fuel=f+1:=⟨fuel - 1,(R9 (li (mj _) hf)).symm⟩
  have hi:(KL xs)[i]?=some (.i v):=by
   unfold KL
   rw[Sf,<- Ss,hd];rfl
  refine Jl (db h) ?_
  rw[hi]
  refine Jl (a:=(V.b (.int (v.fmod 1000003)),st)) U (Jl (a:=()) U ((ih (i+1) n (acc++[V.b (.int (v.fmod 1000003))]) (by rw[<- SA,hd];rfl) (R7 hf) (by rw[ku];show acc.length+1+r.length<=JL;rw[R0]at hl;lia)).trans ?_))
  rw[lq];rfl
theorem E8(s:List Int):(ag s none (some 8)).length<=8:=by
 unfold ag
 rw[Sn]
 refine ke (Tf _ _) ?_
 show J2 s.length 8 - 0<=8
 unfold J2
 rw[if_neg (by decide)]
 exact ke (Nat.sub_le _ _) (Tf _ _)
theorem xJ(s:List Int):(PT s).length<=8:=by unfold PT;rw[lf];exact E8 s
theorem tP(s:List Int):∃st,Es 91 (LQ cF) (Mq s::PS 33) ⟨[],[]⟩ (Mq s::.ref 1::PS 32) st/\st.cur[1]?=some (.lst (KL (PT s))):=by
 let s1:St:=⟨[.lst (KL (ag s none (some 8)))],[]⟩
 have e1:Ev 91 (.slice I0 I6 pf) (Mq s::PS 33) ⟨[],[]⟩ (.ref 0) s1:=by
  refine Jl (a:=(Mq s,⟨[],[]⟩)) U (Jl (a:=(V.b .nul,⟨[],[]⟩)) U (Jl (a:=(V.b (.int 8),⟨[],[]⟩)) U (Jl (a:=none) U (Jl (a:=some 8) U ?_))))
  show Option.or none (Option.or none (((some (gQ (KL s))).bind gG).map λl=>alloc (⟨[],[]⟩:St) (.lst (ag l none (some 8)))))=_
  rw[show(some (gQ (KL s))).bind gG=some (KL s) from ph _]
  show some (alloc (⟨[],[]⟩:St) (.lst (ag (KL s) none (some 8))))=_
  unfold KL
  rw[rQ];rfl
 have h0:s1.cur[0]?=some (.lst (KL (ag s none (some 8)))):=rfl
 have hl:=E8 s
 have e2:=HU (Jr 91) h0 (ag s none (some 8)) 0 60000 [] U (li hl (by decide)) (by show 0+_<=JL;rw[SE];exact ke hl (by decide))
 refine⟨(alloc s1 (.lst (KL (PT s)))).2,?_,rfl⟩
 have e3:Jq (Jr 91) (.comp false [] (.slice I0 I6 pf) I97) (Mq s::PS 33) ⟨[],[]⟩=some (alloc s1 (.lst (KL (PT s)))):=by
  refine Jl (a:=[]) U (Jl e1 (Jl (ab h0) ?_))
  show(da (itemAt (.ref 0)) (λi x st=>Jq (Jr 91) I97 [x] st) (Jr 91).wf 0 s1 []).map _=_
  rw[dk,e2];rfl
 show(Jq (Jr 91) (.comp false [] _ _) _ _).map _=_
 rw[e3];rfl
theorem fG(hl:l[1]?=some (.ref 1))(h:st.cur[1]?=some (.lst (KL tp)))(post:∀s1,Ev 91 te l st (.i (tp.headD 0)) s1->s1.cur[1]?=some (.lst (KL tp.tail))->P):P:=
 jr 90 h λs1 h1 h2 h3=>post s1 (aE (c:=Jr 91) (f:=zb) (vs:=[.ref 1]) (ws:=[.ref 1]) (ac (aC hl U) U) (by rw[bg];rfl) U U h1) h2
structure Dw where
 s:List Int
 md:Int
 o:Int
 w:Int
 sm:Bool
 cn:Bool
 ix:Int
 ln:B
 en:Tx
 JN:Int
 r:Int
 mp:Bool
noncomputable def Dw.L(d:Dw)(l:List V)(n:Nat):List V:=Mq d.s::.ref 1::.i d.md::.i d.o::.i d.w::.o d.sm::.o d.cn::.i d.ix::.b d.ln::.s d.en::.i d.JN::.i d.r::.o d.mp::(l++PS n)
structure dM(d:Dw):Prop where
 ln:Lw d.ln
 en:d.en=JP d.ln
 JN:d.JN=aN (.int d.ix)
 sm:d.sm=(d.md==7)
 m0:0<=d.md
 m8:d.md < 8
 cs:d.cn=true->d.sm=false
theorem Ib(P:Int->Prop)(h0:P 0)(h1:P 1)(h2:P 2)(h3:P 3)(h4:P 4)(o:Int):P (o.fmod 5):=by
 obtain⟨g0,g1⟩:=iK o (m:=5) (by decide)
 obtain⟨k,hk⟩:=Int.eq_ofNat_of_zero_le g0
 rw[hk]at g1 ⊢
 match k,Int.ofNat_lt.mp (show((k:Nat):Int) < ((5:Nat):Int) from g1) with
 | 0,_=>exact h0
 | 1,_=>exact h1
 | 2,_=>exact h2
 | 3,_=>exact h3
 | 4,_=>exact h4
 | k+5,h=>exact absurd h (Nat.not_lt_of_le (mu 5 k))
noncomputable def lns:List V:=[.b .nul,.s [10],.s [13],.s [13,10],.s [120]]
noncomputable def ens:List V:=[.s [10],.s [10],.s [13],.s [13,10],.s [10]]
theorem wP(x:Int):aN (.int x)=bif decide (2<=x)&&decide (x<=9) then x else 2:=by
 show(bif (x != 0)&&(decide (1 < x)&&decide (x < 10)) then x else 2)=_
 rw[decide_eq_decide.mpr (show 2<=x ↔ 1 < x by lia),decide_eq_decide.mpr (show x<=9 ↔ x < 10 by lia)]
 by_cases h:1 < x
 ·rw[show(x != 0)=true from bne_iff_ne.mpr (by lia)];rfl
 ·rw[decide_eq_false h];cases x != 0 <;> rfl
theorem vA(s:List Int)(post:∀d st e0 tp,dM d->st.cur[1]?=some (.lst (KL tp))->tp.length<=4->st.cur[e0]?=some (.lst [])->1 < e0->(∀R,JJ (Jr 91) (ah 13 cF) (d.L [.ref e0] 20) st=R->JJ (Jr 91) cF (Mq s::PS 33) ⟨[],[]⟩=R)->P):P:=by
 obtain⟨st0,t0,h0⟩:=tP s
 have hl8:=xJ s
 let RZ (l:List V) (n:Nat):List V:=Mq s::.ref 1::(l++PS n)
 refine fG (l:=RZ [] 32) (st:=st0) U h0 λMZ c1 h1=>?_
 generalize (PT s).headD 0=m0 at c1
 let md:=m0.fmod 8
 have a1:Ev 91 (.b2 (.bin .mod) te pf) (RZ [] 32) st0 (.i md) MZ:=Jl c1 U
 refine fG (l:=RZ [.i md] 31) (st:=MZ) U h1 λst2 c2 h2=>?_
 generalize (PT s).tail.headD 0=o at c2
 refine fG (l:=RZ [.i md,.i o] 30) (st:=st2) U h2 λPY c3 h3=>?_
 generalize (PT s).tail.tail.headD 0=w at c3
 let sm:Bool:=md==7
 let cn:Bool:=(o.fmod 2==1)&&!sm
 let ix:Int:=o.fmod 13 - 1
 let L1 (l:List V) (n:Nat):List V:=RZ ([.i md,.i o,.i w,.o sm]++l) n
 have c5:Ep 91 GR (L1 [] 28) PY (.o cn):=bP U U
 obtain⟨ln,q1,q2,q3⟩:∃ln,lns[(o.fmod 5).toNat]?=some (.b ln)/\ens[(o.fmod 5).toNat]?=some (.s (JP ln))/\Lw ln:=
  Ib (λi=>∃ln,lns[i.toNat]?=some (.b ln)/\ens[i.toNat]?=some (.s (JP ln))/\Lw ln) ⟨_,rfl,rfl,.inl U⟩ ⟨_,rfl,rfl,.inr (.inr (.inr (.inl U)))⟩ ⟨_,rfl,rfl,.inr (.inl U)⟩ ⟨_,rfl,rfl,.inr (.inr (.inl U))⟩ ⟨_,rfl,rfl,.inr (.inr (.inr (.inr U)))⟩ o
 have g0:=(iK o (m:=5) (by decide)).1
 let QB:=(alloc PY (.lst lns)).2
 let QA:=(alloc QB (.lst ens)).2
 let L2 (l:List V) (n:Nat):List V:=L1 ([.o cn,.i ix]++l) n
 have c6:Ev 91 I94 (L2 [] 26) PY (.b ln) QB:=
  Jl (aX (vs:=lns) (s1:=PY) U (by show 5<=12;decide)) (Jl (a:=(V.b (.int (o.fmod 5)),QB)) U (cH (ak PY _) g0 q1))
 have c7:Ev 91 Hf (L2 [.b ln] 25) QB (.s (JP ln)) QA:=
  Jl (aX (vs:=ens) (s1:=QB) U (by show 5<=12;decide)) (Jl (a:=(V.b (.int (o.fmod 5)),QA)) U (cH (ak QB _) g0 q2))
 let JN:=aN (.int ix)
 let L3 (l:List V) (n:Nat):List V:=L2 ([.b ln,.s (JP ln)]++l) n
 have c8:Ep 91 (.Ju DF L7 LV) (L3 [] 24) QA (.i JN):=by
  have q:Ep 91 DF (L3 [] 24) QA (.o (decide (2<=ix)&&decide (ix<=9))):=by
   refine Jl (a:=(.i 2,QA)) U (Jl (a:=(.i ix,QA)) U (Jl (a:=decide (2<=ix)) U ?_))
   cases decide (2<=ix) <;> rfl
  refine(bz q U).trans ?_
  rw[show JN=_ from wP ix]
  cases decide (2<=ix)&&decide (ix<=9) <;> rfl
 have h5:QA.cur[1]?=_:=aA (aA h3)
 refine fG (l:=L3 [.i JN] 23) (st:=QA) U h5 λQz c9 h6=>?_
 generalize (PT s).tail.tail.tail.headD 0=r at c9
 let mp:Bool:=r.fmod 2==1
 let st7:=(alloc Qz (.lst [])).2
 have c10:Ev 91 fj (L3 [.i JN,.i r,.o mp] 21) Qz (.ref Qz.cur.length) st7:=aX U (mj _)
 obtain⟨g1,g2⟩:=iK m0 (m:=8) (by decide)
 let d:Dw:=⟨s,md,o,w,sm,cn,ix,ln,JP ln,JN,r,mp⟩
 refine post d st7 Qz.cur.length _ ⟨q3,rfl,rfl,rfl,g1,g2,λh=>?_⟩ (aA h6) (by simp only[List.length_tail];omega) (ak Qz _) (cZ h6) λR hR=>?_
 ·have:=(ly h).2
  show sm=false
  revert this
  cases sm <;> intro this
  ·rfl
  ·exact Kb this
 ·exact go t0 (go (Li a1) (go (Li c2) (go (Li c3) (go (l':=L1 [] 28) (Jy:=PY) U (go (Li c5) (go (l':=L2 [] 26) (Jy:=PY) U (go (Li c6) (go (Li c7) (go (Li c8) (go (Li c9) (go (l':=L3 [.i JN,.i r,.o mp] 21) (Jy:=Qz) U (go (Li c10) hR))))))))))))
noncomputable def enB:S:=match ah 13 cF with | .cons (.forR _ _ _ b) _=>b | _=>.nil
noncomputable def Dw.eL(d:Dw)(e0:Nat)(x y:V):List V:=d.L [.ref e0,x,.uu,y] 17
noncomputable def OT(js:List Nat):List V:=js.map .ref
def L8(st:St)(js:List Nat)(iz:List Itm):Prop:=js.map (λj=>st.cur[j]?)=iz.map λq=>some (Ob.lst q.1)
theorem L8.lt{iz:List Itm}(h:L8 st js iz):∀j∈js,j < st.cur.length:=λj hj=>by
 have:st.cur[j]?∈js.map (λj=>st.cur[j]?):=List.mem_map.mpr ⟨j,hj,rfl⟩
 rw[h]at this
 obtain⟨q,_,e⟩:=List.mem_map.mp this
 exact cZ e.symm
theorem L8.Pf{iz:List Itm}(h:L8 st js iz)(k:∀j∈js,s1.cur[j]?=st.cur[j]?):L8 s1 js iz:=(S6 k).trans h
theorem L8.kx{X:List Nat}{iz:List Itm}(h:L8 st js iz)(k:Kx X st s1)(hx:∀j∈js,j ∉ X):L8 s1 js iz:=h.Pf λj hj=>k.at' j (h.lt j hj) (hx j hj)
theorem L8.app{ks:List Nat}{a b:List Itm}(h:L8 st js a)(k:L8 st ks b):L8 st (js++ks) (a++b):=by
 unfold L8
 rw[R5,R5,h,k]
structure Rb(d:Dw)(e0:Nat)(st:St)(tp:List Int)(js:List Nat)(iz:List Itm):Prop where
 tq:st.cur[1]?=some (.lst (KL tp))
 ls:st.cur[e0]?=some (.lst (OT js))
 at':L8 st js iz
 gt:∀j∈js,e0 < j
 it:∀q∈iz,IT d.mp d.sm 3 q.2.1 q.1 q.2.2
 ev:∀q∈iz,∀v∈q.1,Kq v
 wt:bB iz+100*tp.length<=400
noncomputable def enX:E:=.pos I2 (.pos I4 sZ)
section
variable{d:Dw}{iz:List Itm}{x:V}
theorem Bs{r:Nat}{q:Itm}(h:Rb d e0 st tp js iz)(h0:1 < e0)(hl:iz.length<=10)(kx:Kx [1] st s1)(ht:s1.cur[1]?=some (.lst (KL l')))(hr:s1.cur[r]?=some (.lst q.1))(hre:st.cur.length<=r)(it:IT d.mp d.sm 3 q.2.1 q.1 q.2.2)(ev:∀v∈q.1,Kq v)(w:q.2.1+100*l'.length<=100*tp.length) :
  Es 91 (.app N0 N4) (d.eL e0 x (.ref r)) s1 (d.eL e0 x (.ref r)) (bx s1 e0 (.lst (OT (js++[r]))))/\Rb d e0 (bx s1 e0 (.lst (OT (js++[r])))) l' (js++[r]) (iz++[q]):=by
 have n1:e0 ∉ [1]:=λhx=>absurd (km hx) (SF h0)
 have he:=kx.keep h.ls n1
 have LP:e0 < r:=lh (cZ h.ls) hre
 have PC:js.length=iz.length:=by have:=kg List.length h.at';rw[lf,lf]at this;exact this
 have er:OT (js++[r])=OT js++[.ref r]:=R5
 obtain⟨c1,c2⟩:=qf iz [q]
 refine⟨?_,⟨(dQ (SF h0)).trans ht,eW (cZ he),?_,λj hj=>?_,λz hz=>?_,λz hz=>?_,?_⟩⟩
 ·rw[er]
  refine Jl (a:=(V.ref e0,s1)) U (Jl (ab he) (Jl (a:=(V.ref r,s1)) U (Jl (ab he) (bU ?_))))
  show(decide ((js.map V.ref).length < JL)&&true)=true
  rw[decide_eq_true (lh (show(js.map V.ref).length < 11 by rw[lf];lia) (by decide))];rfl
 ·refine L8.app ((h.at'.kx kx λj hj hx=>?_).Pf λj hj=>dQ (SH (h.gt j hj))) ?_
  ·have:=h.gt j hj
   have:=km hx
   lia
  ·exact kg (λz=>[z]) ((dQ (SH LP)).trans hr)
 ·rcases mx hj with hj | hj
  ·exact h.gt j hj
  ·obtain rfl:=km hj;exact LP
 ·rcases mx hz with hz | hz
  ·exact h.it z hz
  ·obtain rfl:=km hz;exact it
 ·rcases mx hz with hz | hz
  ·exact h.ev z hz
  ·obtain rfl:=km hz;exact ev
 ·rw[c2]
  have:=h.wt
  show bB iz+(q.2.1+0)+_<=_
  lia
theorem zJ(h:Rb d e0 st tp js iz)(h0:1 < e0)(hl:iz.length<=10)(post:∀y' Jy tp' js' iz',Es 91 enB (d.eL e0 x y) st (d.eL e0 x y') Jy->Rb d e0 Jy tp' js' iz'->iz'.length<=iz.length+1->P):P:=by
 have q:Ep 91 I2 (d.eL e0 x y) st (.ref 1):=rfl
 have qt:truth st (.ref 1)=some (!(KL tp).isEmpty):=bX (ab h.tq)
 cases tp with
 | nil=>exact post y st [] js iz (go (aj q qt U) U) h (mw _)
 | cons i l=>
  have wt:=h.wt
  rw[R0]at wt
  refine uP d.sm 87 h.tq (by rw[R0];lia) λr vs tx ky c rt s1 l' a1 a2 a3 a4 a5 a6 a7 a8=>?_
  have k5:=a7.2 (λh=>nomatch h)
  rw[R0]at k5
  have e1:Ev 91 (.JG 63 enX) (d.eL e0 x y) st (.ref r) s1:=aE (c:=Jr 91) (f:=vX) (vs:=[.ref 1,.i 1,.o d.sm]) (ws:=[.ref 1,.i 1,.o d.sm]) U (by rw[bg];rfl) U U a1
  have qm:Ep 91 nJ (d.eL e0 x (.ref r)) s1 (.o d.mp):=rfl
  cases hm:d.mp with
  | false=>
   rw[hm]at qm
   obtain⟨b1,b2⟩:=Bs (x:=x) (r:=r) (q:=(vs,c+8,λJo bi i=>tx Jo bi false i)) h h0 hl a8 a6 a2 a3 (by rw[hm];exact oz a4) a5 (by rw[R0];show c+8+_<=_;lia)
   exact post (.ref r) _ l' _ _ (go (ao q qt (go (bK e1) (go (aj qm U U) (go b1 U)))) U) b2 (by rw[ku];exact mf _)
  | true=>
   rw[hm]at qm
   have hr1:r≠1:=λe=>by have:=cZ h.tq;lia
   have hv:vs.length<=100:=by
    obtain⟨_,_,_,_,_,hl,_⟩:=a4
    lia
   refine iO (rr:=.uu) (d:=91) (t:=1) (r0:=r) (dp:=0) (L:=d.eL e0 x (.ref r)) (o:=.n0 (.loc 16)) (as:=enX) (uP d.sm 87) (λs=>rfl) (λs=>rfl) hr1 a6 a2 (by lia) (by lia) λws ty ky' c' rt' s2 l2 b1 b2 b3 b4 b5 b6 b7=>?_
   have kx:Kx [1] st s2:=a8.drop b7 a3
   obtain⟨b1',b2'⟩:=Bs (x:=x) (r:=r) (q:=(vs++ws,c+c'+8,Py ky tx ty)) h h0 hl kx b4 b6 a3 (by rw[hm];exact kJ a4 b2) (λv hv=>(mx hv).elim (a5 v) (b3 v)) (by
    rw[R0]
    show c+c'+8+_<=_
    by_cases hn:l'=[]
    ·obtain⟨h1,rfl⟩:=b5.1 hn
     have:([]:List Int).length=0:=rfl
     lia
    ·have:=b5.2 hn;lia)
   exact post (.ref r) _ l2 _ _ (go (ao q qt (go (bK e1) (go (ao qm U (go b1 U)) (go b1' U)))) U) b2' (by rw[ku];exact mf _)
theorem wl(h0:1 < e0)(N:Int):∀(q i fuel:Nat)(x y:V)(st:St)(tp:List Int)(js:List Nat)(iz:List Itm),N=((i+q:Nat):Int)->q < fuel->Rb d e0 st tp js iz->iz.length+q<=10->∀{P:Prop},
  (∀x' y' Jy tp' js' iz',cy 14 (fD false N) (JJ (Jr 91) enB) fuel i (d.eL e0 x y) st=some (.next,d.eL e0 x' y',Jy)->Rb d e0 Jy tp' js' iz'->iz'.length<=10->P)->P:=by
 intro q
 induction q with
 | zero=>
  intro i fuel x y st tp js iz hN Ol h hc P post
  obtain⟨f,rfl⟩:=cN Ol
  exact post x y st tp js iz (Jl (a:=none) (kg some (if_neg (by rw[hN];show ¬ ((i+0:Nat):Int) < _;lia))) U) h hc
 | succ q ih=>
  intro i fuel x y st tp js iz hN Ol h hc P post
  obtain⟨f,rfl⟩:∃f,fuel=f+1:=⟨fuel - 1,(R9 (li (mj _) Ol)).symm⟩
  refine zJ (x:=.i ((i+0:Nat):Int)) (y:=y) h h0 (by lia) λy1 s1 t1 j1 i1 a1 a2 a3=>?_
  refine ih (i+1) f (.i ((i+0:Nat):Int)) y1 s1 t1 j1 i1 (by rw[hN];lia) (R7 Ol) a2 (by lia) λx2 y2 s2 t2 j2 i2 b1 b2 b3=>?_
  exact post x2 y2 s2 t2 j2 i2 (Jl (a:=some (V.b (.int ((i+0:Nat):Int)))) (kg some (if_pos (by rw[hN];show((i+0:Nat):Int) < _;lia))) (Jl (a:=(LD.next,d.eL e0 (V.b (.int ((i+0:Nat):Int))) y1,s1)) a1 b1)) b2 b3
end
theorem H0(r:Int):0<=(r.fdiv 2).fmod 4/\(r.fdiv 2).fmod 4 < 4:=iK _ (by decide)
theorem C3{d:Dw}(h1:st.cur[1]?=some (.lst (KL tp)))(h4:tp.length<=4)(he:st.cur[e0]?=some (.lst []))(h0:1 < e0)(post:∀x y Jy tp' js iz,Es 91 (LQ (ah 13 cF)) (d.L [.ref e0] 20) st (d.eL e0 x y) Jy->Rb d e0 Jy tp' js iz->iz.length<=10->P):P:=by
 obtain⟨g0,g1⟩:=H0 d.r
 generalize hN:(d.r.fdiv 2).fmod 4=N at g0 g1
 have e1:Ep 91 GS (d.L [.ref e0] 20) st (.i N):=by rw[<- hN];rfl
 refine wl (d:=d) h0 N N.toNat 0 60000 .uu .uu st tp [] [] (by omega) (by omega) ⟨h1,he,rfl,λj hj=>absurd hj mo,λj hj=>absurd hj mo,λj hj=>absurd hj mo,by show 0+_<=_;lia⟩ (by show 0+_<=_;omega) λx y s1 t1 js iz a1 a2 a3=>?_
 refine post x y s1 t1 js iz (Jl e1 (Jl (a:=N) U (Jl (a:=()) (bU ?_) (by rw[dk];exact a1)))) a2 a3
 rw[decide_eq_true (show(-1000000:Int)<=N by omega),decide_eq_true (show N<=(1000000:Int) by omega)];rfl
theorem Kx.old{X:List Nat}(h:Kx [] st s1):Old st s1:=⟨h.ln,λk hk=>h.at' k hk mo⟩
theorem Old.keep(h:Old st s1){k:Nat}{o:Ob}(hk:st.cur[k]?=some o):s1.cur[k]?=some o:=(h.at' k (cZ hk)).trans hk
theorem Old.trans(a:Old st s1)(b:Old s1 s2):Old st s2:=⟨ke a.ln b.ln,λk hk=>(b.at' k (lh hk a.ln)).trans (a.at' k hk)⟩
theorem Old.al(st:St)(o:Ob):Old st (alloc st o).2:=⟨by rw[aV];exact mw _,λk h=>cA h⟩
theorem L8.old{iz:List Itm}(h:L8 st js iz)(k:Old st s1):L8 s1 js iz:=h.Pf λj hj=>k.at' j (h.lt j hj)
theorem fq{c:Cx}(h:Kv c as l st=some ((vs,[]),s1))(hl:vs.length<=12):Jq c (.tup as) l st=some (gQ vs,s1):=Jl h (bU (by show(true&&decide (vs.length<=JL))=true;rw[decide_eq_true (ke hl (by decide))];rfl))
theorem fk{fr:Tx}{row:List V}(hj:st.cur[j]?=some (.lst row))(hv:∀v∈row,Kq v)(hn:row.length<=290)(hl:Lw ln)(l1:fr.length<=2000)(h:gP cn ix wd ln row T)(hT:T=(T3++fr)++Y)(post:∀s',(Jr 91).Jv 65 [.ref j,bo cn ix wd ln (JP ln),.s fr] st=some (.s Y,s')->Old st s'->P):P:=by
 obtain⟨R',fs,gs,k,ts,hF,hR⟩:=h
 exact rh hj hv hn hl l1 (ke (gI hl).len (by decide)) hF hR (by rw[hT]) post
theorem oa{tx:Tq}(nt:NT sm rt h c vs tx ky):18*vs.length<=c:=by obtain⟨_,_,_,_,_,h,_⟩:=nt;exact h
noncomputable def Dw.fr(d:Dw):Tx:=bif d.cn then d.en else [32]
theorem A9{d:Dw}(ok:dM d)(X:Tx):cv (JP d.ln) (QT d.cn++(sp d.cn++X))=(T3++d.fr)++cv d.en X:=by
 rw[aJ,aJ,<- ok.en,<- lq]
 refine kg (·++_) ?_
 unfold Dw.fr
 cases d.cn with
 | true=>
  show cv d.en (T3++[10])++[]=_
  rw[mh,aJ]
  exact kg (T3++·) (mh d.en)
 | false=>rfl
theorem CR{d:Dw}(ok:dM d):d.fr.length<=2000:=by
 unfold Dw.fr
 have:=(gI ok.ln).len
 rw[<- ok.en]at this
 cases d.cn with
 | true=>exact ke this (by decide)
 | false=>exact(by decide:1<=2000)
theorem gb{d:Dw}(ok:dM d){tx:Tq}(nt:NT sm true h c vs tx ky)(hj:st.cur[j]?=some (.lst vs))(hv:∀x∈vs,Kq x)(hc:sn vs)(h6:9*h<=60)(h9:c<=800)(post:∀s',(Jr 91).Jv 65 [.ref j,bo d.cn d.ix 1000 d.ln d.en,.s d.fr] st=some (.s (cv d.en (tx d.cn d.JN false 0)),s')->Old st s'->(cv d.en (tx d.cn d.JN false 0)).length<=12000+100*c->P):P:=by
 obtain⟨h1,h2⟩:=tK (cn:=d.cn) (ix:=d.ix) ok.ln nt hv hc h6 h9
 rw[<- ok.JN,A9 ok]at h1 h2
 have hl:=oa nt
 refine fk hj hv (by lia) ok.ln (CR ok) h1 U λs1 a b=>?_
 rw[<- ok.en]at a
 rw[ku]at h2
 exact post s1 a b (by lia)
noncomputable def CM:S:=.cons (.ext o8 N4) .nil
theorem yY{d:Dw}{x:V}(he:e0 < i0):∀(ks:List Nat)(zs:List Itm)(i fuel:Nat)(y:V)(st:St)(row:List V),js.drop i=ks->L8 st ks zs->(∀j∈ks,j < i0)->st.cur[e0]?=some (.lst (OT js))->st.cur[i0]?=some (.lst row)->row.length+(aP zs).length<=1000->ks.length < fuel->
  ∃y',cy 16 (itemAt (.ref e0)) (JJ (Jr 91) CM) fuel i (d.L [.ref e0,x,.ref i0,y] 17) st=some (.next,d.L [.ref e0,x,.ref i0,y'] 17,bx st i0 (.lst (row++aP zs))):=by
 intro ks
 induction ks with
 | nil=>
  intro zs i fuel y st row hd hA hj h1 h2 hl hf
  obtain⟨f,rfl⟩:=cN hf
  cases zs with
  | cons z zs=>exact nomatch hA
  | nil=>
   refine⟨y,Jl (dI (r:=[]) (ab h1) ?_) ?_⟩
   ·show(js.map V.ref).drop i=[]
    rw[<- List.map_drop,hd];rfl
   ·show some (LD.next,_,st)=some (LD.next,_,(⟨st.cur.set i0 (.lst (row++[])),st.JR⟩:St))
    rw[mh,im h2]
 | cons k ks ih=>
  intro zs i fuel y st row hd hA hj h1 h2 hl hf
  obtain⟨f,rfl⟩:∃f,fuel=f+1:=⟨fuel - 1,(R9 (li (mj _) hf)).symm⟩
  cases zs with
  | nil=>exact nomatch hA
  | cons z zs=>
   have hz:st.cur[k]?=some (.lst z.1):=(SW hA).1
   have hA':L8 st ks zs:=(SW hA).2
   have ez:aP (z::zs)=z.1++aP zs:=rfl
   rw[ez,ku]at hl
   have hk:=hj k (.head _)
   let MZ:=bx st i0 (.lst (row++z.1))
   have b:Es 91 CM (d.L [.ref e0,x,.ref i0,.ref k] 17) st (d.L [.ref e0,x,.ref i0,.ref k] 17) MZ:=by
    refine go (l':=d.L [.ref e0,x,.ref i0,.ref k] 17) (Jy:=MZ) (Jl (a:=(V.ref i0,st)) U (Jl (ab h2) (Jl (a:=(V.ref k,st)) U (Jl (ab h2) (Jl (ab hz) (bU ?_)))))) U
    show(decide (row.length+z.1.length<=JL)&&!(i0==k))=true
    rw[decide_eq_true (ke (show row.length+z.1.length<=1000 by lia) (by decide)),beq_eq_false_iff_ne.mpr (SF hk)];rfl
   obtain⟨y',e⟩:=ih zs (i+1) f (.ref k) MZ (row++z.1) (by rw[<- SA,hd];rfl) (hA'.Pf λj hj'=>dQ (SF (hj j (.tail _ hj')))) (λj hj'=>hj j (.tail _ hj')) ((dQ (SF he)).trans h1) (eW (cZ h2)) (by rw[ku];lia) (R7 hf)
   refine⟨y',Jl (dI (r:=.ref k::OT ks) (ab h1) ?_) (Jl (a:=(LD.next,d.L [.ref e0,x,.ref i0,.ref k] 17,MZ)) b ?_)⟩
   ·show(js.map V.ref).drop i=_
    rw[<- List.map_drop,hd];rfl
   ·rw[ez,<- lq]
    have:=jn (st:=st) (k:=i0) (a:=.lst (row++z.1)) (b:=.lst ((row++z.1)++aP zs))
    rw[<- this]
    exact e
structure PH(d:Dw)(e0 i0 f0:Nat)(st:St)(js:List Nat)(iz:List Itm):Prop where
 ls:st.cur[e0]?=some (.lst (OT js))
 at':L8 st js iz
 it:∀q∈iz,IT d.mp d.sm 3 q.2.1 q.1 q.2.2
 ev:∀q∈iz,∀v∈q.1,Kq v
 wt:bB iz<=400
 sz:iz.length<=10
 LO:st.cur[i0]?=some (.lst (aP iz))
 fl:st.cur[f0]?=some (.lst (Ou d.mp false false true (aP iz)))
theorem PH.old{d:Dw}{f0:Nat}{iz:List Itm}(h:PH d e0 i0 f0 st js iz)(k:Old st s1):PH d e0 i0 f0 s1 js iz:=⟨k.keep h.ls,h.at'.old k,h.it,h.ev,h.wt,h.sz,k.keep h.LO,k.keep h.fl⟩
noncomputable def Dw.X(d:Dw)(iz:List Itm):Tx:=LJ d.mp false false iz d.cn d.JN false 0
noncomputable def Dw.tL(d:Dw)(e0:Nat)(x:V)(i0:Nat)(y:V)(f0:Nat)(l:List V)(n:Nat):List V:=d.L ([.ref e0,x,.ref i0,y,.ref f0]++l) n
noncomputable def Dw.uL(d:Dw)(e0:Nat)(x:V)(i0:Nat)(y:V)(f0:Nat)(t:Tx)(a b c u v:V)(l:List V)(n:Nat):List V:=d.tL e0 x i0 y f0 ([bo d.cn d.ix 1000 d.ln d.en,.s d.fr,.s t,a,b,c,u,v,.s [JS d.mp],.s [aO d.mp]]++l) n
theorem iF{iz:List Itm}(h:∀q∈iz,∀v∈q.1,Kq v):∀v∈aP iz,Kq v:=λv hv=>by
 obtain⟨l,hl,hv⟩:=List.mem_flatten.mp hv
 obtain⟨q,hq,rfl⟩:=List.mem_map.mp hl
 exact h q hq v hv
theorem CC{d:Dw}{iz:List Itm}(h:∀q∈iz,IT d.mp d.sm 3 q.2.1 q.1 q.2.2):18*(aP iz).length<=bB iz:=ia.resolve_right λg=>g λy hy=>(h y hy).2.1
theorem vQ{d:Dw}(ok:dM d){iz:List Itm}{x:V}(h:Rb d e0 st tp js iz)(hl:iz.length<=10)
  (post:∀y' i0 f0 s1,PH d e0 i0 f0 s1 js iz->(cv d.en (d.X iz)).length<=56000->(∀R,JJ (Jr 91) (ah 22 cF) (d.uL e0 x i0 y' f0 (cv d.en (d.X iz)) .uu .uu .uu .uu .uu [] 6) s1=R->JJ (Jr 91) (ah 14 cF) (d.eL e0 x y) st=R)->P):P:=by
 let i0:=st.cur.length
 let s1:=(alloc st (.lst [])).2
 have e1:Ev 91 fj (d.eL e0 x y) st (.ref i0) s1:=aX U (mj _)
 have hle:=CC h.it
 have wt:=h.wt
 have he:e0 < i0:=cZ h.ls
 have hA:L8 s1 js iz:=h.at'.old (.al st _)
 have PC:js.length=iz.length:=by have:=kg List.length h.at';rw[lf,lf]at this;exact this
 obtain⟨y',e2⟩:=yY (d:=d) (x:=x) he js iz 0 60000 y s1 [] U hA h.at'.lt (aA h.ls) (ak st _) (by show 0+_<=_;lia) (by lia)
 rw[SU]at e2
 let s2:=bx s1 i0 (.lst (aP iz))
 have e2':Es 91 (.for 16 N0 CM) (d.L [.ref e0,x,.ref i0,y] 17) s1 (d.L [.ref e0,x,.ref i0,y'] 17) s2:=by
  refine Jl (a:=(V.ref e0,s1)) U ?_
  show cy 16 (itemAt (.ref e0)) _ (Jr 91).wf 0 _ _=_
  rw[dk];exact e2
 have hi:s2.cur[i0]?=some (.lst (aP iz)):=eW (by show st.cur.length < (alloc st _).2.cur.length;rw[aV];exact So _)
 refine cu 90 (mp:=d.mp) (f:=true) (a:=false) (g:=false) hi (by lia) λf0 s3 a1 a2 a3 a4=>?_
 have e3:Ev 91 (.JG 64 (.pos o8 (.pos nJ .nil))) (d.L [.ref e0,x,.ref i0,y'] 17) s2 (.ref f0) s3:=aE (c:=Jr 91) (f:=iM) (vs:=[.ref i0,.o d.mp]) (ws:=[.ref i0,.o d.mp,.tt,.b .nul,.b .nul]) U (by rw[bg];rfl) U U a1
 have o3:Old s2 s3:=Kx.old (X:=[]) a4
 have kp:∀k,k < st.cur.length->s2.cur[k]?=st.cur[k]?:=λk hk=>(dQ (SF hk)).trans (cA hk)
 have T:PH d e0 i0 f0 s3 js iz:=⟨o3.keep ((kp e0 he).trans h.ls),(h.at'.Pf λj hj=>kp j (h.at'.lt j hj)).old o3,h.it,h.ev,by lia,hl,o3.keep hi,a2⟩
 have e4:Ep 91 (.tup (.pos Kp I57)) (d.tL e0 x i0 y' f0 [] 16) s3 (bo d.cn d.ix 1000 d.ln d.en):=by
  exact fq (vs:=[.o d.cn,.i d.ix,.i 1000,.b d.ln,.s d.en]) (ac (s1:=s3) U (ac (s1:=s3) U (ac (s1:=s3) U (ac (s1:=s3) (aC U U) (ac (s1:=s3) U U))))) (by show 5<=12;decide)
 have e5:Ep 91 (.Ju Kp Lv Ll) (d.tL e0 x i0 y' f0 [bo d.cn d.ix 1000 d.ln d.en] 15) s3 (.s d.fr):=by
  refine(bz (u:=d.cn) (v:=.o d.cn) (s1:=s3) U U).trans ?_
  unfold Dw.fr
  cases d.cn <;> rfl
 refine gb ok (gH (sm:=d.sm) h.it false false true) a2 (cV (iF h.ev)) d0 (by decide) (by lia) λs4 b1 b2 b3=>?_
 let X:=cv d.en (d.X iz)
 have e6:Ev 91 (.JG 65 (.pos Ow I71)) (d.tL e0 x i0 y' f0 [bo d.cn d.ix 1000 d.ln d.en,.s d.fr] 14) s3 (.s X) s4:=
  aE (c:=Jr 91) (f:=kT) (vs:=[.ref f0,bo d.cn d.ix 1000 d.ln d.en,.s d.fr]) (ws:=[.ref f0,bo d.cn d.ix 1000 d.ln d.en,.s d.fr]) U (by rw[bg];rfl) U U b1
 have e7:Ep 91 I34 (d.tL e0 x i0 y' f0 [bo d.cn d.ix 1000 d.ln d.en,.s d.fr,.s X] 13) s4 (gQ [.s [JS d.mp],.s [aO d.mp]]):=by
  refine(bz (u:=d.mp) (v:=.o d.mp) (s1:=s4) U U).trans ?_
  cases d.mp
  ·exact fq (c:=Jr 91) (l:=d.tL e0 x i0 y' f0 [bo d.cn d.ix 1000 d.ln d.en,.s d.fr,.s X] 13) (vs:=[.s [91],.s [93]]) U (by show 2<=12;decide)
  ·exact fq (c:=Jr 91) (l:=d.tL e0 x i0 y' f0 [bo d.cn d.ix 1000 d.ln d.en,.s d.fr,.s X] 13) (vs:=[.s [123],.s [125]]) U (by show 2<=12;decide)
 have e8:Es 91 (.Pq [26,27] I34) (d.tL e0 x i0 y' f0 [bo d.cn d.ix 1000 d.ln d.en,.s d.fr,.s X] 13) s4 (d.uL e0 x i0 y' f0 X .uu .uu .uu .uu .uu [] 6) s4:=Jl e7 U
 refine post y' i0 f0 s4 (T.old b2) (ke b3 (by lia)) λR hR=>?_
 exact go (Li e1) (go e2' (go (Li e3) (go (l':=d.tL e0 x i0 y' f0 [bo d.cn d.ix 1000 d.ln d.en] 15) (Jy:=s3) (Jl e4 U) (go (l':=d.tL e0 x i0 y' f0 [bo d.cn d.ix 1000 d.ln d.en,.s d.fr] 14) (Jy:=s3) (Jl e5 U) (go (Li e6) (go (aj (v:=.ff) (s1:=s4) U U U) (go e8 hR)))))))
noncomputable def Dw.bd(d:Dw)(z:Itm):Tx:=cv d.en (z.2.2 d.cn d.JN d.JN)
noncomputable def Dw.one(d:Dw)(z:Itm):Tx:=cv d.en (LJ d.mp false false [z] d.cn d.JN false 0)
theorem mA(mp:Bool):bG (JS mp)=false:=by cases mp <;> rfl
theorem nh(mp:Bool):bG (aO mp)=false:=by cases mp <;> rfl
section
variable{d:Dw}{iz:List Itm}{z:Itm}
theorem Ot{x:Nat}(h:bG x=false)(t:Tx):cv lb (x::t)=x::cv lb t:=by show(bif bG x then lb else [x])++_=_;rw[h];rfl
theorem Q2(lb t:Tx):cv lb (10::t)=lb++cv lb t:=rfl
theorem wu(lb:Tx)(i:Int):cv lb (ap i)=ap i:=dz _ (fy i)
theorem AL(hc:d.cn=false):d.one z=JS d.mp::(d.bd z++[aO d.mp]):=by
 unfold Dw.one Dw.bd LJ
 rw[hc]
 show cv d.en (JS d.mp::((z.2.2 false d.JN (0+d.JN)++[])++[aO d.mp]))=_
 rw[Ot (mA _),aJ,mh,S2,Ot (nh _)];rfl
theorem A7:∀iz:List Itm,cv d.en (eZ false d.JN d.JN false iz)=(iz.map λz=>[44,32]++cv d.en (z.2.2 false d.JN d.JN)).flatten
 | []=>rfl
 | z::r=>by
  show cv d.en (([44]++([]++([32]++z.2.2 false d.JN d.JN)))++eZ false d.JN d.JN false r)=_
  rw[aJ,A7 r]
  show 44::32::cv d.en _++_=_
  rfl
theorem vm(s:Tx):∀(a:Tx)(l:List Tx),a9 s (a::l)=a++(l.map λx=>s++x).flatten
 | a,[]=>(mh a).symm
 | a,b::l=>by
  show a++(s++a9 s (b::l))=_
  rw[vm s b l]
  show _=a++((s++b)++_)
  rw[lq]
theorem BL(hc:d.cn=false):cv d.en (d.X iz)=(JS d.mp::a9 [44,32] (iz.map d.bd))++[aO d.mp]:=by
 unfold Dw.X LJ
 rw[hc]
 show cv d.en (JS d.mp::(eZ false d.JN (0+d.JN) true iz++[aO d.mp]))=_
 rw[Ot (mA _),aJ,S2,Ot (nh _)]
 refine kg (JS d.mp::·) (kg (·++[aO d.mp]) ?_)
 cases iz with
 | nil=>rfl
 | cons z r=>
  show cv d.en (z.2.2 false d.JN d.JN++eZ false d.JN d.JN false r)=_
  rw[Sh,vm,aJ,A7]
  unfold Dw.bd
  rw[hc,SV];rfl
noncomputable def Dw.g(d:Dw)(z:Itm):Tx:=ap d.JN++(cv d.en (z.2.2 true d.JN d.JN)++(44::d.en))
theorem AK(hc:d.cn=true):d.one z=(JS d.mp::d.en)++(d.g z++[aO d.mp]):=by
 unfold Dw.one Dw.g LJ
 rw[hc]
 show cv d.en (JS d.mp::(((10::ap (0+d.JN))++z.2.2 true d.JN (0+d.JN))++[]++(44::(10::([]++[aO d.mp])))))=_
 rw[Ot (mA _),S2,mh,aJ]
 show JS d.mp::(cv d.en (10::(ap d.JN++z.2.2 true d.JN d.JN))++cv d.en (44::10::[aO d.mp]))=_
 rw[Q2,aJ,wu,Ot (by rfl:bG 44=false),Q2,Ot (nh _)]
 show _=JS d.mp::(d.en++((ap d.JN++(_++(44::d.en)))++[aO d.mp]))
 simp only[lq,Sw];rfl
theorem A6:∀iz:List Itm,cv d.en (eZ true d.JN d.JN false iz)++(44::d.en)=(44::d.en)++(iz.map d.g).flatten
 | []=>(mh _).symm
 | z::r=>by
  show cv d.en ((44::(10::(ap d.JN++z.2.2 true d.JN d.JN)))++eZ true d.JN d.JN false r)++_=_
  rw[aJ,lq,A6 r,Ot (by rfl:bG 44=false),Q2,aJ,wu]
  show _=(44::d.en)++((ap d.JN++(_++(44::d.en)))++_)
  simp only[lq,Sw]
theorem BK(hc:d.cn=true)(hn:iz≠[]):cv d.en (d.X iz)=((JS d.mp::d.en)++(iz.map d.g).flatten)++[aO d.mp]:=by
 cases iz with
 | nil=>exact absurd U hn
 | cons z r=>
  unfold Dw.X LJ
  rw[hc]
  show cv d.en (JS d.mp::((((10::ap (0+d.JN))++z.2.2 true d.JN (0+d.JN))++eZ true d.JN (0+d.JN) false r)++(44::(10::([]++[aO d.mp])))))=_
  have h:=A6 (d:=d) r
  rw[Ot (mA _),S2,aJ,aJ]
  show JS d.mp::((cv d.en (10::(ap d.JN++z.2.2 true d.JN d.JN))++cv d.en (eZ true d.JN d.JN false r))++cv d.en (44::10::[aO d.mp]))=_
  rw[Q2,aJ,wu,Ot (by rfl:bG 44=false),Q2,Ot (nh _)]
  show JS d.mp::((_++_)++((44::d.en)++[aO d.mp]))=JS d.mp::(d.en++((ap d.JN++(_++(44::d.en)))++(r.map d.g).flatten))++[aO d.mp]
  have h':∀Y,cv d.en (eZ true d.JN d.JN false r)++((44::d.en)++Y)=(44::d.en)++((r.map d.g).flatten++Y):=λY=>by rw[<- lq,h,lq]
  simp only[lq,Sw]at h' ⊢
  rw[h']
end
section
variable{c:Cx}
theorem rj{k:Nat}{f:Tx->V}{b:Nat->V->St->Option (V×St)}(hk:st.cur[k]?=some (.lst (aq ts)))(hb:∀t∈ts,∀i,b i (.s t) st=some (f t,st)/\ae (f t)=false):∀(r:List Tx)(i fuel:Nat)(acc:List V),ts.drop i=r->r.length < fuel->acc.length+r.length<=JL->da (itemAt (.ref k)) b fuel i st acc=some (acc++r.map f,st):=by
 intro r
 induction r with
 | nil=>
  intro i fuel acc hd hf hl
  obtain⟨n,rfl⟩:=cN hf
  have hi:(aq ts)[i]?=none:=by
   unfold aq
   rw[Sf,<- Ss,hd];rfl
  refine Jl (db hk) ?_
  rw[hi]
  show af (decide (acc.length<=JL)) _=_
  rw[decide_eq_true (show acc.length<=JL from hl)]
  exact kg (λa=>some (a,st)) (mh acc).symm
 | cons t r ih=>
  intro i fuel acc hd hf hl
  obtain⟨n,rfl⟩:∃f,fuel=f+1:=⟨fuel - 1,(R9 (li (mj _) hf)).symm⟩
  have hi:(aq ts)[i]?=some (.s t):=by
   unfold aq
   rw[Sf,<- Ss,hd];rfl
  have hm:t∈ts:=List.mem_of_mem_drop (i:=i) (hd▸.head _)
  obtain⟨b1,b2⟩:=hb t hm i
  refine Jl (db hk) ?_
  rw[hi]
  refine Jl b1 (Jl (a:=()) (bU (by rw[b2];rfl)) ((ih (i+1) n (acc++[f t]) (by rw[<- SA,hd];rfl) (R7 hf) (by rw[ku];show acc.length+1+r.length<=JL;rw[R0]at hl;lia)).trans ?_))
  rw[lq];rfl
theorem ed(d:Nat){k n:Nat}{f:Tx->V}{b:E}(hc:oN l cs=some cp)(hs:l[n]?=some (.ref k))(hk:st.cur[k]?=some (.lst (aq ts)))(hl:ts.length<=1000)(hb:∀t∈ts,Ep d b (.s t::cp) st (f t)/\ae (f t)=false):Ev d (.comp false cs (.n0 (.loc n)) b) l st (.ref st.cur.length) (alloc st (.lst (ts.map f))).2:=by
 refine Jl hc (Jl (aC hs U) (Jl (ab hk) ?_))
 show(da (itemAt (.ref k)) (λi x st=>Jq (Jr d) b (x::cp) st) (Jr d).wf 0 st []).map _=_
 rw[dk,rj hk (b:=λi x st=>Jq (Jr d) b (x::cp) st) (f:=f) (λt ht i=>hb t ht) ts 0 60000 [] U (li hl (by decide)) (by show 0+ts.length<=JL;rw[SE];exact ke hl (by decide))];rfl
theorem qW{e:E}{k:Nat}(h:Jq c e l st=some (.ref k,s1))(hk:s1.cur[k]?=some (.lst (ts.map λJ=>V.b (.bool true)))):Jq c (.u1 .Mw e) l st=some (.tt,s1):=by
 have m:∀ts:List Tx,(ts.map λJ=>V.b (.bool true)).mapM (λv=>(Mv v).bind B.bool?)=some (ts.map λJ=>true):=λts=>by
  induction ts with
  | nil=>rfl
  | cons t ts ih=>rw[Sh,SY,ih];rfl
 refine Jl h (Jl (ab hk) ?_)
 show Option.map _ ((ts.map λJ=>V.b (.bool true)).mapM (λv=>(Mv v).bind B.bool?))=_
 rw[m]
 have:(ts.map λJ=>true).all id=true:=List.all_eq_true.mpr λx hx=>by obtain⟨_,_,rfl⟩:=List.mem_map.mp hx;rfl
 show some (V.b (.bool ((ts.map λJ=>true).all id)),s1)=_
 rw[this]
theorem vl{e:E}{k:Nat}(h:Jq c e l st=some (.ref k,s1))(hk:s1.cur[k]?=some (.lst (aq ts)))(hl:ts.flatten.length<=1000000):Jq c (.u1 .join e) l st=some (.s ts.flatten,s1):=by
 refine Jl h (Jl (ab hk) (Jl (uZ ts) (bU ?_)))
 exact decide_eq_true (ke hl (by decide))
end
noncomputable def alB:E:=.JG 65 GL
noncomputable def Dw.aL(d:Dw):List V:=[.o d.mp,bo d.cn d.ix 1000 d.ln d.en,.s d.fr]
theorem Am{d:Dw}(ok:dM d){k:Nat}{z:Itm}(hk:st.cur[k]?=some (.lst z.1))(it:IT d.mp d.sm 3 z.2.1 z.1 z.2.2)(ev:∀v∈z.1,Kq v)(w:z.2.1<=400)(post:∀s1,Ev 91 alB (.ref k::d.aL) st (.s (d.one z)) s1->Old st s1->P):P:=by
 have hl:=it.2.1
 have ei:aP [z]=z.1:=mh _
 refine cu 90 (mp:=d.mp) (f:=true) (a:=false) (g:=false) hk (by lia) λf0 s1 a1 a2 a3 a4=>?_
 have e1:Ev 91 (.JG 64 (.pos I0 Qq)) (.ref k::d.aL) st (.ref f0) s1:=aE (c:=Jr 91) (f:=iM) (vs:=[.ref k,.o d.mp]) (ws:=[.ref k,.o d.mp,.tt,.b .nul,.b .nul]) U (by rw[bg];rfl) U U a1
 have nt:=gH (sm:=d.sm) (l:=[z]) (λq hq=>by obtain rfl:=km hq;exact it) false false true
 rw[ei]at nt
 refine gb ok nt a2 (cV ev) d0 (by decide) (by show 36+(z.2.1+0)<=800;lia) λs2 b1 b2 J=>?_
 exact post s2 (aE (c:=Jr 91) (f:=kT) (vs:=[.ref f0,bo d.cn d.ix 1000 d.ln d.en,.s d.fr]) (ws:=[.ref f0,bo d.cn d.ix 1000 d.ln d.en,.s d.fr]) (ac e1 U) (by rw[bg];rfl) U U b1) (Old.trans (Kx.old (X:=[]) a4) b2)
theorem An{d:Dw}(ok:dM d):∀(ks:List Nat)(zs:List Itm)(i fuel:Nat)(st:St)(acc:List V),js.drop i=ks->L8 st ks zs->(∀q∈zs,IT d.mp d.sm 3 q.2.1 q.1 q.2.2)->(∀q∈zs,∀v∈q.1,Kq v)->(∀q∈zs,q.2.1<=400)->st.cur[e0]?=some (.lst (OT js))->acc.length+ks.length<=1000->ks.length < fuel->∀{P:Prop},
  (∀s1,da (itemAt (.ref e0)) (λi x st=>Jq (Jr 91) alB (x::d.aL) st) fuel i st acc=some (acc++aq (zs.map d.one),s1)->Old st s1->P)->P:=by
 intro ks
 induction ks with
 | nil=>
  intro zs i fuel st acc hd hA h1 h2 h3 he hl hf P post
  obtain⟨f,rfl⟩:=cN hf
  cases zs with
  | cons z zs=>exact nomatch hA
  | nil=>
   refine post st (Jl (dI (r:=[]) (ab he) ?_) ?_) ⟨mf _,λk hk=>rfl⟩
   ·show(js.map V.ref).drop i=[]
    rw[<- List.map_drop,hd];rfl
   ·show af (decide (acc.length<=JL)) _=_
    rw[decide_eq_true (ke (show acc.length<=1000 from hl) (by decide))]
    exact kg (λa=>some (a,st)) (mh acc).symm
 | cons k ks ih=>
  intro zs i fuel st acc hd hA h1 h2 h3 he hl hf P post
  obtain⟨f,rfl⟩:∃f,fuel=f+1:=⟨fuel - 1,(R9 (li (mj _) hf)).symm⟩
  cases zs with
  | nil=>exact nomatch hA
  | cons z zs=>
   have hz:st.cur[k]?=some (.lst z.1):=(SW hA).1
   have hA':L8 st ks zs:=(SW hA).2
   refine Am ok hz (h1 z (.head _)) (h2 z (.head _)) (h3 z (.head _)) λs1 a1 a2=>?_
   refine ih zs (i+1) f s1 (acc++[.s (d.one z)]) (by rw[<- SA,hd];rfl) (hA'.old a2) (λq hq=>h1 q (.tail _ hq)) (λq hq=>h2 q (.tail _ hq)) (λq hq=>h3 q (.tail _ hq)) (a2.keep he) (by rw[ku];show acc.length+1+_<=_;rw[R0]at hl;lia) (R7 hf) λs2 b1 b2=>?_
   refine post s2 (Jl (dI (r:=.ref k::OT ks) (ab he) ?_) (Jl a1 (Jl (a:=()) U (b1.trans ?_)))) (a2.trans b2)
   ·show(js.map V.ref).drop i=_
    rw[<- List.map_drop,hd];rfl
   ·rw[lq];rfl
theorem yo{c:Cx}{n k:Nat}(hn:l[n]?=some (.ref k))(hk:st.cur[k]?=some (.lst (aq ts))):Jq c (.b2 .Oc I6 (.n0 (.loc n))) l st=some (.ff,st):=by
 have m:∀ts:List Tx,(aq ts).mapM (λv=>(Mv v).bind (eqB .nul))=some (ts.map λJ=>false):=λts=>by
  induction ts with
  | nil=>rfl
  | cons t ts ih=>show(V.b (.str t)::aq ts).mapM _=_;rw[SY,ih];rfl
 refine Jl (a:=(.b .nul,st)) U (Jl (aC hn U) (Jl (a:=B.nul) U (Jl (ab hk) ?_)))
 show Option.map _ ((aq ts).mapM (λv=>(Mv v).bind (eqB .nul)))=_
 rw[m]
 have:(ts.map λJ=>false).any id=false:=List.any_eq_false.mpr λx hx=>by obtain⟨_,_,rfl⟩:=List.mem_map.mp hx;exact λh=>nomatch h
 show some (V.b (.bool ((ts.map λJ=>false).any id)),st)=_
 rw[this]
section
variable{c:Cx}{p t:Tx}{y k n:Nat}
theorem vh(h:l[n]?=some (.s p)):Jq c (.u1 .len (.n0 (.loc n))) l st=some (.i (p.length:Int),st):=Jl (aC h U) U
theorem AB{e:E}(h:l[k]?=some (.s ((p++a)++[y])))(he:Jq c e l st=some (.i (p.length:Int),st)):Jq c (.slice (.n0 (.loc k)) e MW) l st=some (.s a,st):=by
 refine Jl (aC h U) (Jl he (Jl (a:=(.i (-1),st)) U ?_))
 show some (V.b (.str (ag ((p++a)++[y]) (some (p.length:Int)) (some (-1)))),st)=_
 have:ag ((p++a)++[y]) (some (p.length:Int)) (some (-1))=a:=by
  unfold ag
  rw[show NW ((p++a)++[y]).length (some (-1))=(p++a).length by show J2 _ _=_;rw[oK,ku];rfl,show Na ((p++a)++[y]).length (some (p.length:Int))=p.length by show J2 _ _=_;rw[cg,ku,ku];lia]
  rw[lq,SD,ku,Nat.add_sub_cancel_left,List.take_left]
 rw[this]
theorem Ei{e:E}(h:l[k]?=some (.s (p++t)))(he:Jq c e l st=some (.i (p.length:Int),st)):Jq c (.slice (.n0 (.loc k)) I6 e) l st=some (.s p,st):=by
 refine Jl (aC h U) (Jl (a:=(.b .nul,st)) U (Jl he ?_))
 show some (V.b (.str (ag (p++t) none (some (p.length:Int)))),st)=_
 rw[Ek]
theorem C0{a b:E}(ha:Jq c a l st=some (.s t,st))(hb:Jq c b l st=some (.s t,st)):Jq c (.b2 (.cmp .eq) a b) l st=some (.tt,st):=(sJ ha hb).trans (by rw[beq_self_eq_true])
theorem vb(h:l[k]?=some (.s (a++[y])))(hn:l[n]?=some (.s [y])):Jq c (.b2 (.cmp .eq) (.slice (.n0 (.loc k)) MW I6) (.n0 (.loc n))) l st=some (.tt,st):=by
 have:=sJ (ur (c:=c) (st:=st) h) (aC (c:=c) (st:=st) hn U)
 rw[hZ,List.getLast?_concat]at this
 exact this.trans (by rw[beq_self_eq_true])
end
theorem qx(s:Tx):∀l:List Tx,l.flatten.length<=(a9 s l).length
 | []=>mf _
 | [t]=>by show(t++[]).length<=t.length;rw[mh];exact mf _
 | t::u::r=>by
  have:=qx s (u::r)
  show(t++(u::r).flatten).length<=(t++(s++a9 s (u::r))).length
  rw[ku,ku,ku];lia
section
variable{d:Dw}{f0 a0:Nat}{x:V}{iz:List Itm}{t:Tx}
noncomputable def Dw.vL(d:Dw)(e0:Nat)(x:V)(i0:Nat)(y:V)(f0:Nat)(t:Tx)(l:List V)(n:Nat):List V:=d.uL e0 x i0 y f0 t .uu .uu .uu .uu .uu l n
noncomputable def Gm:E:=.and (.b2 (.cmp .eq) (.slice I0 I6 I4) I2) (.b2 (.cmp .eq) (.slice I0 MW I6) I7)
noncomputable def Gl:E:=.and (.b2 (.cmp .eq) (.slice I0 I6 (.u1 .len I7)) I7) (.b2 (.cmp .eq) (.slice I0 MW I6) I2)
theorem FJ(ho:∀z∈iz,d.one z=(JS d.mp::d.bd z)++[aO d.mp])(ht:t=(JS d.mp::a9 [44,32] (iz.map d.bd))++[aO d.mp])(hl:t.length<=56000)(QW:iz.length<=10)(hk:st.cur[a0]?=some (.lst (aq (iz.map d.one)))):∃s1,Ev 91 (.and (.u1 .Mw (.comp false [26,27] o6 Gm)) (.b2 (.cmp .eq) N1 I37)) (d.vL e0 x i0 y f0 t [.ref a0] 5) st .tt s1:=by
 let L:=d.vL e0 x i0 y f0 t [.ref a0] 5
 let ts:=iz.map d.one
 have Rw:ts.length<=1000:=by show(iz.map d.one).length<=_;rw[lf];lia
 have c1:=ed (l:=L) 91 (n:=28) (cs:=[26,27]) (b:=Gm) (f:=λJ=>V.b (.bool true)) U U hk Rw λu hu=>by
  obtain⟨z,hz,rfl⟩:=List.mem_map.mp hu
  refine⟨?_,rfl⟩
  rw[ho z hz]
  exact bP (u:=true) (w:=true) (C0 (t:=[JS d.mp]) (pI (t:=JS d.mp::(d.bd z++[aO d.mp])) U) U) (vb U U)
 have k1:=aA (o:=.lst (ts.map λJ=>V.b (.bool true))) hk
 let s1:=(alloc st (.lst (ts.map λJ=>V.b (.bool true)))).2
 have c2:=qW c1 (ak st _)
 let f:Tx->Tx:=λu=>(u.drop 1).dropLast
 have c3:=ed (l:=L) (st:=s1) 91 (n:=28) (cs:=[]) (b:=.slice I0 I4 MW) (f:=λu=>V.b (.str (f u))) U U k1 Rw λu hu=>by
  obtain⟨z,hz,rfl⟩:=List.mem_map.mp hu
  refine⟨?_,rfl⟩
  rw[ho z hz]
  have:f ((JS d.mp::d.bd z)++[aO d.mp])=d.bd z:=SP
  rw[this]
  exact AB (p:=[JS d.mp]) U U
 have e3:ts.map (λu=>V.b (.str (f u)))=aq (iz.map d.bd):=by
  show(iz.map d.one).map _=(iz.map d.bd).map _
  rw[SV,SV]
  refine S6 λz hz=>?_
  show V.b (.str (f (d.one z)))=V.b (.str (d.bd z))
  rw[ho z hz,show f ((JS d.mp::d.bd z)++[aO d.mp])=d.bd z from SP]
 rw[e3]at c3
 have jl:(a9 [44,32] (iz.map d.bd)).length<=56000:=by
  rw[ht,ku,R0]at hl;lia
 have fl:=qx [44,32] (iz.map d.bd)
 have c4:=jv (a:=.n0 (.cst (.str [44,32]))) (s:=[44,32]) (ts:=iz.map d.bd) U c3 (ak s1 _) (by show 2<=2;decide) (by lia) (by rw[lf];lia)
 let s2:=(alloc s1 (.lst (aq (iz.map d.bd)))).2
 have lim:∀n,n<=60000->n<=JL:=λn h=>ke h (by decide)
 have c5:Ev 91 I37 L s1 (.s t) s2:=by
  rw[ht]
  exact Jl (Jl (a:=(.s [JS d.mp],s1)) U (Jl c4 (bS (lim _ (by show 1+_<=_;lia))))) (Jl (a:=(.s [aO d.mp],s2)) U (bS (s:=JS d.mp::a9 [44,32] (iz.map d.bd)) (lim _ (by rw[R0];show _+1+1<=_;lia))))
 refine⟨s2,Jl c2 (Jl (a:=true) U ?_)⟩
 show Jq (Jr 91) (.b2 (.cmp .eq) N1 _) L s1=_
 refine Jl (a:=(.s t,s1)) U (Jl c5 ?_)
 show some (V.b (.bool (t==t)),s2)=_
 rw[beq_self_eq_true]
theorem FH(ho:∀z∈iz,d.one z=(JS d.mp::d.en)++(d.g z++[aO d.mp]))(ht:t=((JS d.mp::d.en)++(iz.map d.g).flatten)++[aO d.mp])(hl:t.length<=56000)(QW:iz.length<=10)(hk:st.cur[a0]?=some (.lst (aq (iz.map d.one)))):∃s1,Ev 91 (.and (.u1 .Mw (.comp false [27,31] o6 Gl)) (.b2 (.cmp .eq) N1 I43)) (d.vL e0 x i0 y f0 t [.ref a0,.uu,.uu,.s (JS d.mp::d.en)] 2) st .tt s1:=by
 let op:=JS d.mp::d.en
 let L:=d.vL e0 x i0 y f0 t [.ref a0,.uu,.uu,.s op] 2
 let ts:=iz.map d.one
 have Rw:ts.length<=1000:=by show(iz.map d.one).length<=_;rw[lf];lia
 have c1:=ed (l:=L) 91 (n:=28) (cs:=[27,31]) (b:=Gl) (f:=λJ=>V.b (.bool true)) U U hk Rw λu hu=>by
  obtain⟨z,hz,rfl⟩:=List.mem_map.mp hu
  refine⟨?_,rfl⟩
  rw[ho z hz]
  exact bP (u:=true) (w:=true) (C0 (t:=op) (Ei (p:=op) U (vh (p:=op) U)) U) (vb (a:=op++d.g z) (y:=aO d.mp) (by rw[lq];rfl) U)
 have k1:=aA (o:=.lst (ts.map λJ=>V.b (.bool true))) hk
 let s1:=(alloc st (.lst (ts.map λJ=>V.b (.bool true)))).2
 have c2:=qW c1 (ak st _)
 let f:Tx->Tx:=λu=>(u.drop op.length).dropLast
 have fo:∀z∈iz,f (d.one z)=d.g z:=λz hz=>by
  rw[ho z hz]
  show(((op++(d.g z++[aO d.mp])).drop op.length)).dropLast=_
  rw[SD];exact SP
 have c3:=ed (l:=L) (st:=s1) 91 (n:=28) (cs:=[31]) (b:=.slice I0 LU MW) (f:=λu=>V.b (.str (f u))) U U k1 Rw λu hu=>by
  obtain⟨z,hz,rfl⟩:=List.mem_map.mp hu
  refine⟨?_,rfl⟩
  rw[fo z hz,ho z hz]
  exact AB (p:=op) (a:=d.g z) (y:=aO d.mp) (by rw[lq];rfl) (vh (p:=op) U)
 have e3:ts.map (λu=>V.b (.str (f u)))=aq (iz.map d.g):=by
  show(iz.map d.one).map _=(iz.map d.g).map _
  rw[SV,SV]
  refine S6 λz hz=>?_
  show V.b (.str (f (d.one z)))=V.b (.str (d.g z))
  rw[fo z hz]
 rw[e3]at c3
 have jl:op.length+(iz.map d.g).flatten.length+1<=56000:=by
  rw[ht,ku,ku]at hl;exact hl
 have c4:=vl c3 (ak s1 _) (by lia)
 let s2:=(alloc s1 (.lst (aq (iz.map d.g)))).2
 have lim:∀n,n<=60000->n<=JL:=λn h=>ke h (by decide)
 have c5:Ev 91 I43 L s1 (.s t) s2:=by
  rw[ht]
  exact Jl (Jl (a:=(.s op,s1)) U (Jl c4 (bS (lim _ (by lia))))) (Jl (a:=(.s [aO d.mp],s2)) U (bS (s:=op++(iz.map d.g).flatten) (lim _ (by rw[ku];show _+1<=_;lia))))
 refine⟨s2,Jl c2 (Jl (a:=true) U ?_)⟩
 show Jq (Jr 91) (.b2 (.cmp .eq) N1 _) L s1=_
 refine Jl (a:=(.s t,s1)) U (Jl c5 ?_)
 show some (V.b (.bool (t==t)),s2)=_
 rw[beq_self_eq_true]
end
noncomputable def Dw.tx(d:Dw)(iz:List Itm):Tx:=cv d.en (d.X iz)
section
variable{d:Dw}{f0:Nat}{x:V}{iz:List Itm}
theorem mO:∀{iz:List Itm}{q:Itm},q∈iz->q.2.1<=bB iz
 | z::r,q,h=>by
  show _<=z.2.1+bB r
  rcases kl h with rfl | h
  ·exact lu _ _
  ·exact ke (mO h) (mu _ _)
noncomputable def alR:S:=match ah 22 cF with | .cons (.Ju _ (.cons _ (.cons _ r)) _) _=>r | _=>.nil
theorem Cp(ok:dM d)(h:PH d e0 i0 f0 st js iz)(hl:(d.tx iz).length<=56000)(hm:d.md < 2):∃l' s',JJ (Jr 91) (ah 22 cF) (d.vL e0 x i0 y f0 (d.tx iz) [] 6) st=some (.ret .tt,l',s'):=by
 have q:Ep 91 Ar (d.vL e0 x i0 y f0 (d.tx iz) [] 6) st (.o (decide (d.md < 2))):=rfl
 rw[decide_eq_true hm]at q
 have PC:js.length=iz.length:=by have:=kg List.length h.at';rw[lf,lf]at this;exact this
 have hz:=h.sz
 refine An ok (e0:=e0) (js:=js) js iz 0 60000 st [] U h.at' h.it h.ev (λq hq=>ke (mO hq) h.wt) h.ls (by show 0+_<=_;lia) (by lia) λs1 a1 a2=>?_
 let s2:=(alloc s1 (.lst (aq (iz.map d.one)))).2
 have e1:Es 91 (.Nf 28 [12,18,19] N0 alB) (d.vL e0 x i0 y f0 (d.tx iz) [] 6) st (d.vL e0 x i0 y f0 (d.tx iz) [.ref s1.cur.length] 5) s2:=by
  have:Ev 91 (.comp false [12,18,19] N0 alB) (d.vL e0 x i0 y f0 (d.tx iz) [] 6) st (.ref s1.cur.length) s2:=by
   refine Jl (a:=d.aL) U (Jl (a:=(V.ref e0,st)) U (Jl (ab h.ls) ?_))
   show(da (itemAt (.ref e0)) (λi x st=>Jq (Jr 91) alB (x::d.aL) st) (Jr 91).wf 0 st []).map _=_
   rw[dk,a1];rfl
  show(Jq (Jr 91) (.comp false [12,18,19] N0 alB) _ _).map _=_
  rw[this];rfl
 have hk:s2.cur[s1.cur.length]?=some (.lst (aq (iz.map d.one))):=ak s1 _
 have e2:=yo (c:=Jr 91) (l:=d.vL e0 x i0 y f0 (d.tx iz) [.ref s1.cur.length] 5) (n:=28) U hk
 have he:s2.cur[e0]?=some (.lst (OT js)):=aA (a2.keep h.ls)
 have hn:∀{l' s'},JJ (Jr 91) alR (d.vL e0 x i0 y f0 (d.tx iz) [.ref s1.cur.length] 5) s2=some (.ret .tt,l',s')->JJ (Jr 91) (ah 22 cF) (d.vL e0 x i0 y f0 (d.tx iz) [] 6) st=some (.ret .tt,l',s'):=λ{l' s'} hR=>KA (ao q U (go e1 (go (aj e2 U U) hR)))
 have rest:(d.cn=false∨iz=[])->∃l' s',JJ (Jr 91) (ah 22 cF) (d.vL e0 x i0 y f0 (d.tx iz) [] 6) st=some (.ret .tt,l',s'):=λhc=>by
  have ho:∀z∈iz,d.one z=(JS d.mp::d.bd z)++[aO d.mp]:=λz hz=>by
   rcases hc with hc | hc
   ·exact AL hc
   ·exact absurd hz (hc▸mo)
  have ht:d.tx iz=(JS d.mp::a9 [44,32] (iz.map d.bd))++[aO d.mp]:=by
   rcases hc with hc | rfl
   ·exact BL hc
   ·show cv d.en (JS d.mp::([]++(bif d.cn&&false then _ else [aO d.mp])))=_
    rw[Sp,Ot (mA _)]
    show JS d.mp::cv d.en [aO d.mp]=_
    rw[Ot (nh _)];rfl
  obtain⟨s3,f1⟩:=FJ (x:=x) (y:=y) (e0:=e0) (i0:=i0) (f0:=f0) ho ht hl h.sz hk
  refine⟨_,s3,hn (go ?_ (aR f1 _))⟩
  cases OE:d.cn with
  | false=>
   have q3:Ep 91 (.and Kp N0) (d.vL e0 x i0 y f0 (d.tx iz) [.ref s1.cur.length] 5) s2 .ff:=Jl (a:=(V.b (.bool d.cn),s2)) U (Jl (a:=false) (by rw[OE];rfl) (by rw[OE];rfl))
   exact aj q3 U U
  | true=>
   have q3:Ep 91 (.and Kp N0) (d.vL e0 x i0 y f0 (d.tx iz) [.ref s1.cur.length] 5) s2 (.ref e0):=Jl (a:=(V.b (.bool d.cn),s2)) U (Jl (a:=true) (by rw[OE];rfl) U)
   rcases hc with hc | hc
   ·exact Kb (hc.symm.trans OE)
   ·have:js=[]:=List.length_eq_zero_iff.mp (by rw[PC,hc];rfl)
    refine aj q3 ((bX (ab he)).trans ?_) U
    rw[this];rfl
 cases OE:d.cn with
 | false=>exact rest (.inl OE)
 | true=>
  by_cases hi:iz=[]
  ·exact rest (.inr hi)
  ·have q3:Ep 91 (.and Kp N0) (d.vL e0 x i0 y f0 (d.tx iz) [.ref s1.cur.length] 5) s2 (.ref e0):=Jl (a:=(V.b (.bool d.cn),s2)) U (Jl (a:=true) (by rw[OE];rfl) U)
   have ht:truth s2 (.ref e0)=some true:=(bX (ab he)).trans (by
    cases js with
    | nil=>exact absurd (List.length_eq_zero_iff.mp PC.symm) hi
    | cons j js=>rfl)
   have Nb:=BK (d:=d) OE hi
   have h2:d.en.length<=2:=by have:=(gI ok.ln).len;rw[<- ok.en]at this;exact this
   have e5:Es 91 (.Mu 31 Dz) (d.vL e0 x i0 y f0 (d.tx iz) [.ref s1.cur.length] 5) s2 (d.vL e0 x i0 y f0 (d.tx iz) [.ref s1.cur.length,.uu,.uu,.s (JS d.mp::d.en)] 2) s2:=by
    have:Ep 91 Dz (d.vL e0 x i0 y f0 (d.tx iz) [.ref s1.cur.length] 5) s2 (.s (JS d.mp::d.en)):=Jl (a:=(.s [JS d.mp],s2)) U (Jl (a:=(.s d.en,s2)) U (bS (s:=[JS d.mp]) (ke (show 1+d.en.length<=3 by lia) (by decide))))
    exact Jl this U
   obtain⟨s3,f1⟩:=FH (x:=x) (y:=y) (e0:=e0) (i0:=i0) (f0:=f0) (λz J=>AK OE) Nb hl h.sz hk
   exact⟨_,s3,hn (KA (ao q3 ht (go e5 (aR f1 _))))⟩
theorem E4(ok:dM d)(h:PH d e0 i0 f0 st js iz)(hl:(d.tx iz).length<=56000)(hm:d.md=7):∃l' s',JJ (Jr 91) (ah 23 cF) (d.vL e0 x i0 y f0 (d.tx iz) [] 6) st=some (.ret .tt,l',s'):=by
 have hs:d.sm=true:=by rw[ok.sm,hm];rfl
 have hc:d.cn=false:=by
  cases hc:d.cn with
  | false=>rfl
  | true=>exact Kb ((ok.cs hc).symm.trans hs)
 let ws:=d.w.fmod 30
 let wd:Int:=(2*d.JN+1)+ws
 have g0:=(iK d.w (m:=30) (by decide)).1
 have q:Ep 91 I9 (d.vL e0 x i0 y f0 (d.tx iz) [] 6) st (.o d.sm):=rfl
 rw[hs]at q
 have e1:Es 91 Hg (d.vL e0 x i0 y f0 (d.tx iz) [] 6) st (d.vL e0 x i0 y f0 (d.tx iz) [.uu,.i wd] 4) st:=rfl
 have nt:=gH (sm:=d.sm) h.it false false true
 rw[hs]at nt
 have wt:=h.wt
 obtain⟨T,rs,r,hT,hTl,eT,hJ,n1,n2,h4⟩:=DX (ix:=d.ix) ok.ln nt (cV (iF h.ev)) d0 (by decide) (by lia) (wd:=wd) (by rw[<- ok.JN];show d.JN*2 < (2*d.JN+1)+d.w.fmod 30;lia)
 have eY:T=(T3++[32])++T.drop 4:=by rw[<- h4,List.take_append_drop]
 have lY:(T.drop 4).length<=56000:=by rw[Sy];lia
 have hcl:(Ou d.mp false false true (aP iz)).length<=290:=by have:=oa nt;lia
 refine fk (fr:=[32]) h.fl (cV (iF h.ev)) hcl ok.ln (by decide) hT eY λs1 a1 a2=>?_
 rw[<- ok.en]at a1
 let Y:=T.drop 4
 let L1:=d.vL e0 x i0 y f0 (d.tx iz) [.uu,.i wd] 4
 let L2:=d.vL e0 x i0 y f0 (d.tx iz) [.uu,.i wd,.s Y] 3
 have e2t:Ep 91 I82 L1 st (bo false d.ix wd d.ln d.en):=fq (vs:=[.ff,.i d.ix,.i wd,.b d.ln,.s d.en]) (ac (s1:=st) U (ac (s1:=st) U (ac (s1:=st) U (ac (s1:=st) (aC U U) (ac (s1:=st) U U))))) (by show 5<=12;decide)
 have e2:Ev 91 (.JG 65 (.pos Ow (.pos I82 (.pos Ll .nil)))) L1 st (.s Y) s1:=
  aE (c:=Jr 91) (f:=kT) (vs:=[.ref f0,bo false d.ix wd d.ln d.en,.s [32]]) (ws:=[.ref f0,bo false d.ix wd d.ln d.en,.s [32]]) (ac (s1:=st) U (ac e2t U)) (by rw[bg];rfl) U U a1
 have lim:∀n,n<=60000->n<=JL:=λn h=>ke h (by decide)
 have e3':Ep 91 I40 L2 s1 (.s ([45,45,45,32]++Y)):=Jl (a:=(V.b (.str [45,45,45,32]),s1)) U (Jl (a:=(V.b (.str Y),s1)) U (bS (lim _ (by show 4+(T.drop 4).length<=_;lia))))
 have e3:Ep 91 I40 L2 s1 (.s T):=e3'.trans (kg (λt=>some (V.b (.str t),s1)) eY.symm)
 refine jm 90 (st:=s1) (en:=d.en) (T:=T) (rs:=rs) (r:=r) (ok.en▸gI ok.ln) (by rw[ok.en];exact eT) n1 n2 (by lia) λk s2 b1 b2 b3 b4=>?_
 have e4:Ev 91 (.JG 66 (.pos I40 nG)) L2 s1 (.ref k) s2:=aE (c:=Jr 91) (f:=vW) (vs:=[.s T,.s d.en]) (ws:=[.s T,.s d.en]) (ac e3 U) (by rw[bg];rfl) U U b1
 have tot:=lX (en:=JP d.ln) rs r
 rw[<- eT]at tot
 have rl:=j5 (JP d.ln) (gI ok.ln) rs
 have hTl2:(Kg (JP d.ln) rs).length<=T.length:=by rw[eT,ku];exact lu _ _
 refine mM 90 b2 hJ (by lia) (by lia) λs3 c1 c2=>?_
 have e5:Ev 91 GZ L2 s1 (.s (T3++([32]++LJ d.mp false false iz false (aN (.int d.ix)) false 0))) s3:=aE (c:=Jr 91) (f:=y9) (vs:=[.ref k,.i wd]) (ws:=[.ref k,.i wd]) (ac e4 U) (by rw[bg];rfl) U U c1
 have ex:d.tx iz=LJ d.mp false false iz false (aN (.int d.ix)) false 0:=by
  obtain⟨_,_,_,_,_,_,to,_⟩:=nt
  have M8:=(to false d.JN false (by rw[ok.JN];exact(f8 d.ix).1)).c10 U 0
  unfold Dw.tx Dw.X
  rw[hc,dz _ M8,ok.JN]
 rw[<- ex]at e5
 have e6:Ep 91 (.b2 (.bin .add) Du N1) L2 s3 (.s ([45,45,45,32]++d.tx iz)):=Jl (a:=(.s [45,45,45,32],s3)) U (Jl (a:=(.s (d.tx iz),s3)) U (bS (lim _ (by show 4+_<=_;lia))))
 have e7:Ev 91 I62 L2 s1 .tt s3:=by
  refine Jl (a:=(.tt,s1)) U (Jl (a:=true) U ?_)
  show Jq (Jr 91) (.b2 (.cmp .eq) _ _) L2 s1=_
  refine Jl e5 (Jl e6 ?_)
  show some (V.b (.bool (([45,45,45,32]++d.tx iz)==([45,45,45,32]++d.tx iz))),s3)=_
  rw[beq_self_eq_true]
 exact⟨_,s3,KA (ao q U (go e1 (go (Li e2) (aR e7 _))))⟩
end
noncomputable def Qw:V:=OS .nul .nul true true [118] .nul
theorem EP(x:Nat)(h:x=107∨x=118)(Jo sk:Bool)(i:Int):QC Jo sk true [x] .nul i=bif Jo then [34,x,34] else [x]:=by
 have ha:isStr (dF Jo sk true [x] .nul) [34]=Jo:=by rcases h with rfl | rfl <;> revert Jo sk <;> decide +kernel
 have hb:isStr (dF Jo sk true [x] .nul) [39]=false:=by rcases h with rfl | rfl <;> revert Jo sk <;> decide +kernel
 unfold QC
 have e:∀{a b:Bool}{A B C:Tx},a=Jo->b=false->A=[34,x,34]->C=[x]->(bif a then A else bif b then B else C)=bif Jo then [34,x,34] else [x]:=λ{a b A B C} h1 h2 h3 h4=>by rw[h1,h2,h3,h4];rfl
 exact e ha hb (by rcases h with rfl | rfl <;> decide +kernel) rfl
theorem Cd(x:Nat)(h:x=107∨x=118):(!MV [x]&&!MU [x] .nul)=true:=by rcases h with rfl | rfl <;> decide +kernel
theorem ES(x:Nat)(h:x=107∨x=118){n:Nat}:NT false false (n+1) 36 [OS .nul .nul true true [x] .nul] (λJo bi k i=>bif Jo then [34,x,34] else [x]) true:=by
 have vo:Qm false [x] .nul:=by
  rcases h with rfl | rfl
  ·exact vok (i:=12) (x:=([107],.nul)) U
  ·exact vok (i:=13) (x:=([118],.nul)) U
 have:=AO (h:=n) vo false false
 rw[Cd x h]at this
 have e:(λ(Jo:Bool) (bi:Int) (k:Bool) (i:Int)=>j9 false false++QC Jo k (!false) [x] .nul (i+bi))=λJo bi k i=>bif Jo then [34,x,34] else [x]:=funext λJo=>funext λbi=>funext λk=>funext λi=>EP x h Jo k (i+bi)
 rw[e]at this
 exact this
noncomputable def Dw.F(d:Dw)(iz:List Itm):List V:=Ou d.mp false false true (aP iz)
noncomputable def Dw.m(d:Dw)(iz:List Itm):Tx:=cv d.en (LJ d.mp false false iz d.cn d.JN false d.JN)
noncomputable def Dw.pad(d:Dw):Tx:=d.en++ap d.JN
structure Wh(d:Dw)(KY:Bool)(z:Itm)(D:Tx):Prop where
 it:IT KY false 4 z.2.1 z.1 z.2.2
 ev:∀v∈z.1,Kq v
 w:z.2.1<=700
 tx:cv d.en (LJ KY false false [z] d.cn d.JN false 0)=D++[aO KY]
section
variable{d:Dw}{iz:List Itm}{z:Itm}
noncomputable def Dw.wm(d:Dw)(KY:Bool):Dw:=⟨d.s,d.md,d.o,d.w,d.sm,d.cn,d.ix,d.ln,d.en,d.JN,d.r,KY⟩
theorem BG(hc:d.cn=false){B:Tx}(h:cv d.en (z.2.2 false d.JN d.JN)=B):cv d.en (LJ KY false false [z] false d.JN false 0)=(JS KY::B)++[aO KY]:=by
 have:=AL (d:=d.wm KY) (z:=z) hc
 unfold Dw.bd Dw.one at this
 rw[show(d.wm KY).cn=false from hc]at this
 rw[<- h];exact this
theorem BF(hc:d.cn=true){B:Tx}(h:cv d.en (z.2.2 true d.JN d.JN)=B):cv d.en (LJ KY false false [z] true d.JN false 0)=((((JS KY::d.pad)++B)++[44])++d.en)++[aO KY]:=by
 have:=AK (d:=d.wm KY) (z:=z) hc
 unfold Dw.g Dw.one at this
 rw[show cv (d.wm KY).en (z.2.2 true (d.wm KY).JN (d.wm KY).JN)=B from h,show(d.wm KY).cn=true from hc]at this
 refine Eq.trans this ?_
 show JS KY::(d.en++((ap d.JN++(B++(44::d.en)))++[aO KY]))=_
 unfold Dw.pad
 simp only[lq,Sw,SU]
theorem rW(hs:d.sm=false)(it:∀q∈iz,IT d.mp d.sm 3 q.2.1 q.1 q.2.2):NT false true 4 (36+bB iz) (d.F iz) (LJ d.mp false false iz) iz.isEmpty:=by
 have:=gH (sm:=d.sm) it false false true
 rw[hs]at this;exact this
theorem nK(ev:∀q∈iz,∀v∈q.1,Kq v):∀v∈d.F iz,Kq v:=cV (iF ev)
variable(hs:d.sm=false)(it:∀q∈iz,IT d.mp d.sm 3 q.2.1 q.1 q.2.2)(ev:∀q∈iz,∀v∈q.1,Kq v)(wt:bB iz<=400)
include hs it ev wt
theorem Hl:∃z,z.1=d.F iz/\Wh d false z (bif d.cn then((([91]++d.pad)++d.m iz)++[44])++d.en else [91]++d.m iz):=by
 refine⟨(d.F iz,36+bB iz+8,λJo bi i=>LJ d.mp false false iz Jo bi false i),rfl,oz (rW hs it),nK ev,by show 36+bB iz+8<=700;lia,?_⟩
 cases hc:d.cn with
 | false=>exact BG hc (B:=d.m iz) (by unfold Dw.m;rw[hc])
 | true=>exact BF hc (B:=d.m iz) (by unfold Dw.m;rw[hc])
theorem Hk:∃z,z.1=[MS]++d.F iz/\Wh d true z (bif d.cn then(((((([123]++d.pad)++[63,32,34,107,34])++d.pad)++[58,32])++d.m iz)++[44])++d.en else [123,107,58,32]++d.m iz):=by
 have h:=kJ (ES 107 (.inl U) (n:=3)) (rW hs it)
 refine⟨([MS]++d.F iz,36+(36+bB iz)+8,_),rfl,h,λv hv=>?_,by show 36+(36+bB iz)+8<=700;lia,?_⟩
 ·rcases mx hv with hv | hv
  ·obtain rfl:=km hv;exact⟨_,_,rfl,by decide⟩
  ·exact nK ev v hv
 cases hc:d.cn with
 | false=>
  refine BG hc (B:=[107,58,32]++d.m iz) ?_
  unfold Dw.m
  rw[hc];rfl
 | true=>
  refine(BF hc (B:=[63,32,34,107,34]++(d.pad++([58,32]++d.m iz))) ?_).trans ?_
  ·show cv d.en (63::32::34::107::34::((10::ap d.JN)++(58::32::LJ d.mp false false iz true d.JN false d.JN)))=_
   unfold Dw.m Dw.pad
   rw[hc]
   show 63::32::34::107::34::cv d.en (10::(ap d.JN++_))=_
   rw[Q2,aJ,wu,<- lq];rfl
  ·show((((123::d.pad)++_)++[44])++d.en)++_=_
   simp only[lq,Sw,SU,cond_true]
theorem Hj:∃z,z.1=d.F iz++[Qw]/\Wh d true z (bif d.cn then(((((([123]++d.pad)++[63,32])++d.m iz)++d.pad)++[58,32,34,118,34])++[44])++d.en else([123]++(bif iz.isEmpty then d.m iz else([63,32]++d.m iz)++[32]))++[58,32,118]):=by
 have h:=kJ (rW hs it) (ES 118 (.inr U) (n:=3))
 refine⟨(d.F iz++[Qw],36+bB iz+36+8,_),rfl,h,λv hv=>?_,by show 36+bB iz+36+8<=700;lia,?_⟩
 ·rcases mx hv with hv | hv
  ·exact nK ev v hv
  ·obtain rfl:=km hv;exact⟨_,_,rfl,by decide⟩
 cases hc:d.cn with
 | false=>
  refine(BG hc (B:=(bif iz.isEmpty then d.m iz else([63,32]++d.m iz)++[32])++[58,32,118]) ?_).trans ?_
  ·unfold Dw.m
   rw[hc]
   cases iz.isEmpty with
   | true=>
    show cv d.en (LJ d.mp false false iz false d.JN false d.JN++([58,32]++[118]))=_
    rw[aJ];rfl
   | false=>
    show 63::32::cv d.en (LJ d.mp false false iz false d.JN false d.JN++([32]++([58,32]++[118])))=_
    rw[aJ]
    show 63::32::(_++[32,58,32,118])=((63::32::_)++[32])++[58,32,118]
    rw[lq];rfl
  ·show(123::_)++_=_
   simp only[lq,Sw,SU,cond_false]
 | true=>
  refine(BF hc (B:=([63,32]++d.m iz)++(d.pad++[58,32,34,118,34])) ?_).trans ?_
  ·show 63::32::cv d.en (LJ d.mp false false iz true d.JN false d.JN++((10::ap d.JN)++[58,32,34,118,34]))=_
   unfold Dw.m Dw.pad
   rw[hc,aJ]
   show 63::32::(_++cv d.en (10::(ap d.JN++[58,32,34,118,34])))=_
   rw[Q2,aJ,wu]
   show _=(63::32::_)++_
   rw[lq];rfl
  ·show((((123::d.pad)++_)++[44])++d.en)++_=_
   simp only[lq,Sw,SU,cond_true]
end
theorem be{c:Cx}{a b:E}{t:Tx}(ha:Jq c a l st=some (.s s,s1))(hb:Jq c b l s1=some (.s t,s2))(h:s.length+t.length<=200000):Jq c (.b2 (.bin .add) a b) l st=some (.s (s++t),s2):=Jl ha (Jl hb (bS (ke h (by decide))))
theorem AX(d:Nat)(x:Nat)(L:List V)(st:St):Ev d (.lst (.pos (.new 9 (.pos I6 (.pos I6 (.pos w9 (.pos (.n0 (.cst (.str [x]))) .nil))))) .nil)) L st (.ref st.cur.length) (alloc st (.lst [OS .nul .nul true true [x] .nul])).2:=by
 have p5:Ep d w9 L st (.b (.bb true true)):=rfl
 have v5:Ep d (.new 9 (.pos I6 (.pos I6 (.pos w9 (.pos (.n0 (.cst (.str [x]))) .nil))))) L st (OS .nul .nul true true [x] .nul):=
  Jl (ac (s1:=st) (v:=.b .nul) U (ac (s1:=st) (v:=.b .nul) U (ac p5 (ac (s1:=st) (v:=.s [x]) U U)))) (Jl (by rw[dc];rfl) U)
 exact aX (ac v5 (rfl:Kv (Jr d) .nil L st=_)) (by show 1<=12;decide)
noncomputable def Dw.wL(d:Dw)(e0:Nat)(x:V)(i0:Nat)(y:V)(f0 k0 v0:Nat)(t m:Tx)(b u:V)(l:List V)(n:Nat):List V:=d.uL e0 x i0 y f0 t (.ref k0) (.ref v0) (.s m) b u l n
structure Qo(d:Dw)(e0 i0 f0 k0 v0:Nat)(st:St)(js:List Nat)(iz:List Itm):Prop where
 t:PH d e0 i0 f0 st js iz
 k:st.cur[k0]?=some (.lst [MS])
 v:st.cur[v0]?=some (.lst [Qw])
theorem Qo.old{d:Dw}{f0:Nat}{iz:List Itm}(h:Qo d e0 i0 f0 k0 v0 st js iz)(k:Old st s1):Qo d e0 i0 f0 k0 v0 s1 js iz:=⟨h.t.old k,k.keep h.k,k.keep h.v⟩
section
variable{d:Dw}{f0:Nat}{x:V}{iz:List Itm}
theorem pB(ok:dM d):2<=d.JN/\d.JN<=9:=ok.JN▸f8 d.ix
theorem qE(ok:dM d):Mj d.en:=ok.en▸gI ok.ln
theorem CB(ok:dM d)(h:PH d e0 i0 f0 st js iz)(hl:(d.tx iz).length<=56000)(hs:d.sm=false)(hm:decide (d.md < 2)=false)(post:∀k0 v0 s1,Qo d e0 i0 f0 k0 v0 s1 js iz->(∀{R:Kf},JJ (Jr 91) (ah 27 cF) (d.wL e0 x i0 y f0 k0 v0 (d.tx iz) (d.m iz) .uu .uu [] 6) s1=R->JJ (Jr 91) (ah 22 cF) (d.vL e0 x i0 y f0 (d.tx iz) [] 6) st=R)->P):P:=by
 have q1:Ep 91 Ar (d.vL e0 x i0 y f0 (d.tx iz) [] 6) st (.o (decide (d.md < 2))):=rfl
 rw[hm]at q1
 have q2:Ep 91 I9 (d.vL e0 x i0 y f0 (d.tx iz) [] 6) st (.o d.sm):=rfl
 rw[hs]at q2
 let s1:=(alloc st (.lst [MS])).2
 let s2:=(alloc s1 (.lst [Qw])).2
 have e1:=AX 91 107 (d.vL e0 x i0 y f0 (d.tx iz) [] 6) st
 have e2:=AX 91 118 (d.uL e0 x i0 y f0 (d.tx iz) (.ref st.cur.length) .uu .uu .uu .uu [] 6) s1
 have nt:=rW hs h.it
 obtain⟨_,_,_,_,_,_,to,_⟩:=nt
 have to:=to d.cn d.JN false (pB ok).1
 have b:=pB ok
 refine om 89 (st:=s2) (X:=d.X iz) (en:=d.en) (k:=d.JN) (by lia) b.2 (qE ok) (to.Qi 0) (ke hl (by decide)) λs3 a1 a2=>?_
 have em:LG d.JN false (d.X iz)=LJ d.mp false false iz d.cn d.JN false d.JN:=(to.mv 0 d.JN (Sq 0) (by lia)).trans (by rw[S2])
 rw[em]at a1
 let L:=d.uL e0 x i0 y f0 (d.tx iz) (.ref st.cur.length) (.ref s1.cur.length) .uu .uu .uu [] 6
 have e3:Ev 91 (.JG 67 (.pos N1 (.pos nF nG))) L s2 (.s (d.m iz)) s3:=
  aE (c:=Jr 91) (f:=za) (vs:=[.s (d.tx iz),.i d.JN,.s d.en]) (ws:=[.s (d.tx iz),.i d.JN,.s d.en]) U (by rw[bg];rfl) U U a1
 have o3:Old s2 s3:=Kx.old (X:=[]) a2
 exact post st.cur.length s1.cur.length s3 ⟨(h.old (.al st _)).old (.trans (.al s1 _) o3),o3.keep (aA (ak st _)),o3.keep (ak s1 _)⟩ λhR=>go (aj q1 U U) (go (aj q2 U U) (go (Li e1) (go (Li e2) (go (Li e3) hR))))
noncomputable def twB:S:=match ah 27 cF with | .cons (.Ju _ b _) _=>b | _=>.nil
noncomputable def whE:E:=match twB with | .cons (.asg _ (.b2 _ e _)) _=>e | _=>.nil
theorem xu(h:PH d e0 i0 f0 st js iz):(d.F iz).length<=100:=by
 have:=oa (gH (sm:=d.sm) h.it false false true)
 have wt:=h.wt
 show(Ou d.mp false false true (aP iz)).length<=_
 lia
theorem Bu(K:Qo d e0 i0 f0 k0 v0 st js iz){t m:Tx}(post:∀r0 r1 r2 q s6,Ev 91 whE (d.wL e0 x i0 y f0 k0 v0 t m .uu .uu [] 6) st (.ref q) s6->s6.cur[q]?=some (.lst [.ref r0,.ref r1,.ref r2])->s6.cur[r0]?=some (.lst (Ou false false false true (d.F iz)))->s6.cur[r1]?=some (.lst (Ou true false false true ([MS]++d.F iz)))->s6.cur[r2]?=some (.lst (Ou true false false true (d.F iz++[Qw])))->Old st s6->P):P:=by
 have fl:=xu K.t
 let L:=d.wL e0 x i0 y f0 k0 v0 t m .uu .uu [] 6
 have lim:∀n,n<=200->n<=JL:=λn h=>ke h (by decide)
 refine cu 90 (mp:=false) (f:=true) (a:=false) (g:=false) K.t.fl (ke fl (by decide)) λr0 s1 a1 a2 J a4=>?_
 have o1:Old st s1:=Kx.old (X:=[]) a4
 have K1:=K.old o1
 let s2:=(alloc s1 (.lst ([MS]++d.F iz))).2
 have b1:Ev 91 I47 L s1 (.ref s1.cur.length) s2:=Jl (a:=(.ref k0,s1)) U (Jl (a:=(.ref f0,s1)) U (gO K1.k K1.t.fl (lim _ (by show 1+(d.F iz).length<=200;lia))))
 refine cu 90 (mp:=true) (f:=true) (a:=false) (g:=false) (ak s1 (.lst ([MS]++d.F iz))) (by rw[ku];show 1+_<=_;lia) λr1 s3 c1 c2 J c4=>?_
 have o3:Old s1 s3:=.trans (.al s1 _) (Kx.old (X:=[]) c4)
 have K3:=K1.old o3
 let s4:=(alloc s3 (.lst (d.F iz++[Qw]))).2
 have d1:Ev 91 (.b2 (.bin .add) Ow Mo) L s3 (.ref s3.cur.length) s4:=Jl (a:=(.ref f0,s3)) U (Jl (a:=(.ref v0,s3)) U (gO K3.t.fl K3.v (lim _ (by show(d.F iz).length+1<=200;lia))))
 refine cu 90 (mp:=true) (f:=true) (a:=false) (g:=false) (ak s3 (.lst (d.F iz++[Qw]))) (by rw[ku];show _+1<=_;lia) λr2 s5 g1 g2 J g4=>?_
 have o5:Old s3 s5:=.trans (.al s3 _) (Kx.old (X:=[]) g4)
 have h0:Ev 91 (.JG 64 (.pos Ow Po)) L st (.ref r0) s1:=aE (c:=Jr 91) (f:=iM) (vs:=[.ref f0,.ff]) (ws:=[.ref f0,.ff,.tt,.b .nul,.b .nul]) U (by rw[bg];rfl) U U a1
 have h1:Ev 91 (.JG 64 (.pos I47 OJ)) L s1 (.ref r1) s3:=aE (c:=Jr 91) (f:=iM) (vs:=[.ref s1.cur.length,.tt]) (ws:=[.ref s1.cur.length,.tt,.tt,.b .nul,.b .nul]) (ac b1 U) (by rw[bg];rfl) U U c1
 have h2:Ev 91 (.JG 64 (.pos (.b2 (.bin .add) Ow Mo) OJ)) L s3 (.ref r2) s5:=aE (c:=Jr 91) (f:=iM) (vs:=[.ref s3.cur.length,.tt]) (ws:=[.ref s3.cur.length,.tt,.tt,.b .nul,.b .nul]) (ac d1 U) (by rw[bg];rfl) U U g1
 have h3:=aX (vs:=[.ref r0,.ref r1,.ref r2]) (ac h0 (ac h1 (ac h2 (rfl:Kv (Jr 91) .nil L s5=_)))) (by show 3<=12;decide)
 exact post r0 r1 r2 s5.cur.length _ h3 (ak s5 _) (aA (o5.keep (o3.keep a2))) (aA (o5.keep c2)) (aA g2) (.trans o1 (.trans o3 (.trans o5 (.al s5 _))))
noncomputable def twD(D:Tx)(pd:V):List V:=[.uu,.uu,.uu,.uu,pd,.s D]
theorem xI(ok:dM d){w:Nat}{z:Itm}{t m:Tx}{pd:V}(wh:Wh d KY z D)(hw:st.cur[w]?=some (.lst (Ou KY false false true z.1)))(hm:(d.md==2)=!KY):∃l' s',JJ (Jr 91) (ah 2 twB) (d.wL e0 x i0 y f0 k0 v0 t m .uu (.ref w) (twD D pd) 0) st=some (.ret .tt,l',s'):=by
 let L:=d.wL e0 x i0 y f0 k0 v0 t m .uu (.ref w) (twD D pd) 0
 have ei:aP [z]=z.1:=mh _
 have nt:=gH (sm:=false) (l:=[z]) (λq hq=>by obtain rfl:=km hq;exact wh.it) false false true
 rw[ei]at nt
 have ww:=wh.w
 refine gb ok nt hw (cV wh.ev) d0 (by decide) (by show 36+(z.2.1+0)<=800;lia) λs1 a1 J a3=>?_
 rw[wh.tx]at a1 a3
 have e1:Ev 91 (.JG 65 (.pos (.n0 (.loc 25)) I71)) L st (.s (D++[aO KY])) s1:=aE (c:=Jr 91) (f:=kT) (vs:=[.ref w,bo d.cn d.ix 1000 d.ln d.en,.s d.fr]) (ws:=[.ref w,bo d.cn d.ix 1000 d.ln d.en,.s d.fr]) U (by rw[bg];rfl) U U a1
 have e2:Ep 91 I55 L s1 (.s [aO KY]):=by
  have q:Ep 91 (.b2 (.cmp .eq) I7 LV) L s1 (.o (d.md==2)):=rfl
  rw[hm]at q
  refine(bz q U).trans ?_
  cases KY <;> rfl
 rw[ku]at a3
 have hc:12000+100*(36+bB [z])<=200000:=by show 12000+100*(36+(z.2.1+0))<=_;lia
 have e3:Ep 91 (.b2 (.bin .add) (.n0 (.loc 33)) I55) L s1 (.s (D++[aO KY])):=be (s1:=s1) (s:=D) (aC (k:=33) U U) e2 (ke a3 hc)
 have e4:Ev 91 G8 L st .tt s1:=by
  refine Jl e1 (Jl e3 ?_)
  show some (V.b (.bool ((D++[aO KY])==(D++[aO KY]))),s1)=_
  rw[beq_self_eq_true]
 exact⟨_,s1,aR e4 .nil⟩
end
section
variable{d:Dw}{f0 w:Nat}{x:V}{iz:List Itm}{t m S:Tx}
noncomputable def cS(d:Dw)(m:Tx):List Tx:=[([91]++d.pad)++m,(((([123]++d.pad)++[63,32,34,107,34])++d.pad)++[58,32])++m,(((([123]++d.pad)++[63,32])++m)++d.pad)++[58,32,34,118,34]]
noncomputable def fS(em:Bool)(m:Tx):List Tx:=[[91]++m,[123,107,58,32]++m,([123]++(bif em then m else([63,32]++m)++[32]))++[58,32,118]]
theorem pP(ok:dM d):d.pad.length<=11:=by
 have h1:=(qE ok).len
 have h2:=pB ok
 unfold Dw.pad
 rw[ku,bL];lia
theorem at3{b c:Tx}(h:[a,b,c][i]?=some S):([.s a,.s b,.s c]:List V)[i]?=some (.s S):=by
 have:([.s a,.s b,.s c]:List V)=[a,b,c].map λt=>V.b (.str t):=rfl
 rw[this,Sf,h];rfl
noncomputable def QO:E:=.b2 (.bin .sub) I7 LV
theorem F8(ok:dM d)(hc:d.cn=true)(hi:d.md - 2=(i:Int))(hS:(cS d m)[i]?=some S)(hm:m.length<=100000)(hl:S.length<=150000):∃s1,Es 91 (LQ (ah 1 twB)) (d.wL e0 x i0 y f0 k0 v0 t m .uu (.ref w) [] 6) st (d.wL e0 x i0 y f0 k0 v0 t m .uu (.ref w) (twD ((S++[44])++d.en) (.s d.pad)) 0) s1/\Old st s1:=by
 let L:=d.wL e0 x i0 y f0 k0 v0 t m .uu (.ref w) [] 6
 let L1:=d.wL e0 x i0 y f0 k0 v0 t m .uu (.ref w) [.uu,.uu,.uu,.uu,.s d.pad] 1
 have b:=pB ok
 have h2:=(qE ok).len
 have hp:=pP ok
 have q:Ep 91 Kp L st (.o d.cn):=rfl
 rw[hc]at q
 have gm:sO .mul [32] d.JN=some (.s (ap d.JN)):=bU (by
  have h2:([32]:Tx).length*d.JN.toNat<=JL:=by
   rw[show([32]:Tx).length=1 from rfl,Nat.one_mul];exact ke (show d.JN.toNat<=9 by lia) (by decide)
  rw[decide_eq_true (show(-1000000:Int)<=d.JN by lia),decide_eq_true h2];rfl)
 have e0':Ep 91 (.b2 (.bin .mul) Ll nF) L st (.s (ap d.JN)):=Jl (a:=(.s [32],st)) U (Jl (a:=(.i d.JN,st)) U (uX gm))
 have e1:Ep 91 (.b2 (.bin .add) Lv (.b2 (.bin .mul) Ll nF)) L st (.s d.pad):=be (s:=d.en) U e0' (by rw[bL];lia)
 have pd:Ep 91 td L1 st (.s d.pad):=rfl
 have mv:Ep 91 lH L1 st (.s m):=rfl
 have k0:∀s:Tx,Ep 91 (.n0 (.cst (.str s))) L1 st (.s s):=λs=>rfl
 have a0:=be (be (k0 [91]) pd (by show 1+_<=_;lia)) mv (by rw[ku];show 1+_+_<=_;lia)
 have a1:=be (be (be (be (be (k0 [123]) pd (by show 1+_<=_;lia)) (k0 [63,32,34,107,34]) (by simp only[ku,R0,Sb];lia)) pd (by simp only[ku,R0,Sb];lia)) (k0 [58,32]) (by simp only[ku,R0,Sb];lia)) mv (by simp only[ku,R0,Sb];lia)
 have a2:=be (be (be (be (be (k0 [123]) pd (by show 1+_<=_;lia)) (k0 [63,32]) (by simp only[ku,R0,Sb];lia)) mv (by simp only[ku,R0,Sb];lia)) pd (by simp only[ku,R0,Sb];lia)) (k0 [58,32,34,118,34]) (by simp only[ku,R0,Sb];lia)
 have a3:=aX (ac a0 (ac a1 (ac a2 (rfl:Kv (Jr 91) .nil L1 st=_)))) (by show 3<=12;decide)
 have ix:∀s,Ep 91 QO L1 s (.i (i:Int)):=λs=>by rw[<- hi];rfl
 have a4:=Jl (f:=λr=>(Jq (Jr 91) QO L1 r.2).bind λq=>f2 .idx r.1 q.1 q.2) a3 (Jl (ix _) (cH (ak st _) (Sr i) (at3 hS)))
 have a5:=be (c:=Jr 91) (l:=L1) (a:=.b2 .idx _ QO) a4 (b:=.n0 (.cst (.str [44]))) (t:=[44]) U (by show _+1<=_;lia)
 have a6:=be a5 (b:=.n0 (.loc 9)) (t:=d.en) U (by simp only[ku,R0,Sb];lia)
 exact⟨_,ao q U (go (Li e1) (go (Li a6) U)),.al st _⟩
theorem F9(hc:d.cn=false)(hi:d.md - 2=(i:Int)){ev:List V}(hj:st.cur[i0]?=some (.lst ev))(he:ev.isEmpty=em)(hS:(fS em m)[i]?=some S)(hm:m.length<=100000):∃s1,Es 91 (LQ (ah 1 twB)) (d.wL e0 x i0 y f0 k0 v0 t m .uu (.ref w) [] 6) st (d.wL e0 x i0 y f0 k0 v0 t m .uu (.ref w) (twD S .uu) 0) s1/\Old st s1:=by
 let L:=d.wL e0 x i0 y f0 k0 v0 t m .uu (.ref w) [] 6
 have q:Ep 91 Kp L st (.o d.cn):=rfl
 rw[hc]at q
 let s1:=(alloc st (.lst [])).2
 have mv:∀s,Ep 91 lH L s (.s m):=λs=>rfl
 have k0:∀(z:Tx) s,Ep 91 (.n0 (.cst (.str z))) L s (.s z):=λz s=>rfl
 have a0:=be (k0 [91] st) (mv st) (by show 1+_<=_;lia)
 have a1:=be (k0 [123,107,58,32] st) (mv st) (by show 4+_<=_;lia)
 have qe:Ev 91 (.b2 .RF o8 fj) L st (.o em) s1:=by
  refine Jl (a:=(V.ref i0,st)) U (Jl (aX (vs:=[]) (s1:=st) U (mj _)) (Jl (ab (aA hj)) (Jl (ab (ak st _)) ?_)))
  show some (V.b (.bool ev.isEmpty),s1)=_
  rw[he]
 have z1:([63,32]++m:Tx).length<=100002:=by rw[ku];show 2+_<=_;lia
 have ai:Ev 91 I96 L st (.s (bif em then m else([63,32]++m)++[32])) s1:=by
  refine(bz qe U).trans ?_
  cases em with
  | true=>rfl
  | false=>exact be (be (k0 [63,32] s1) (mv s1) (by show 2+_<=_;lia)) (k0 [32] s1) (by show _+1<=_;lia)
 have z2:(bif em then m else([63,32]++m)++[32]).length<=100003:=by
  cases em with
  | true=>exact ke hm (by decide)
  | false=>show(([63,32]++m)++[32]).length<=_;rw[ku];show _+1<=_;lia
 have a2:=be (be (k0 [123] st) ai (by show 1+_<=_;lia)) (k0 [58,32,118] s1) (by rw[ku];show 1+_+3<=_;lia)
 have a3:=aX (ac a0 (ac a1 (ac a2 (rfl:Kv (Jr 91) .nil L s1=_)))) (by show 3<=12;decide)
 have ix:∀s,Ep 91 QO L s (.i (i:Int)):=λs=>by rw[<- hi];rfl
 have a4:=Jl (f:=λr=>(Jq (Jr 91) QO L r.2).bind λq=>f2 .idx r.1 q.1 q.2) a3 (Jl (ix _) (cH (ak s1 _) (Sr i) (at3 hS)))
 exact⟨_,aj q U (go (Li (e:=.b2 .idx _ QO) a4) U),.trans (.al st _) (.al s1 _)⟩
theorem CD(it:∀q∈iz,IT d.mp d.sm 3 q.2.1 q.1 q.2.2):(aP iz).isEmpty=iz.isEmpty:=by
 cases iz with
 | nil=>rfl
 | cons z r=>
  obtain⟨⟨n,tl,e,_⟩,_⟩:=it z (.head _)
  show(z.1++aP r).isEmpty=false
  rw[e];rfl
theorem oo(ok:dM d)(K:Qo d e0 i0 f0 k0 v0 st js iz){z:Itm}{r:Tx}(wh:Wh d KY z D)(hD:D=bif d.cn then(S++[44])++d.en else S)(hS:(bif d.cn then cS d (d.m iz) else fS iz.isEmpty (d.m iz))[i]?=some S)(hm:(d.m iz).length<=100000)(hi:d.md - 2=(i:Int))(QP:(d.md==2)=!KY)(h3:i < 3)(ei:[d.F iz,[MS]++d.F iz,d.F iz++[Qw]][i]?=some z.1)(em:[false,true,true][i]?=some KY):∃l' s',JJ (Jr 91) (ah 27 cF) (d.wL e0 x i0 y f0 k0 v0 t (d.m iz) .uu .uu [] 6) st=some (.ret .tt,l',s'):=by
 let L:=d.wL e0 x i0 y f0 k0 v0 t (d.m iz) .uu .uu [] 6
 have q:Ep 91 (.b2 (.cmp .lt) I7 RX) L st (.o (decide (d.md < 5))):=rfl
 rw[decide_eq_true (show d.md < 5 by lia)]at q
 refine Bu (x:=x) (y:=y) (t:=t) (m:=d.m iz) K λr0 r1 r2 qq s6 a1 a2 a3 a4 a5 a6=>?_
 obtain⟨w,hw,hwl⟩:∃w,([.ref r0,.ref r1,.ref r2]:List V)[i]?=some (.ref w)/\s6.cur[w]?=some (.lst (Ou KY false false true z.1)):=by
  match i,h3,ei,em with
  | 0,_,ei,em=>obtain rfl:=kc em;exact⟨r0,rfl,by rw[<- kc ei];exact a3⟩
  | 1,_,ei,em=>obtain rfl:=kc em;exact⟨r1,rfl,by rw[<- kc ei];exact a4⟩
  | 2,_,ei,em=>obtain rfl:=kc em;exact⟨r2,rfl,by rw[<- kc ei];exact a5⟩
 have ix:Ep 91 QO L s6 (.i (i:Int)):=by rw[<- hi];rfl
 have e1:Ev 91 (.b2 .idx whE QO) L st (.ref w) s6:=Jl a1 (Jl ix (cH a2 (Sr i) hw))
 have K6:=K.old a6
 have fin:∀{pd:V}{s7:St},Es 91 (LQ (ah 1 twB)) (d.wL e0 x i0 y f0 k0 v0 t (d.m iz) .uu (.ref w) [] 6) s6 (d.wL e0 x i0 y f0 k0 v0 t (d.m iz) .uu (.ref w) (twD D pd) 0) s7->Old s6 s7->∃l' s',JJ (Jr 91) (ah 27 cF) (d.wL e0 x i0 y f0 k0 v0 t (d.m iz) .uu .uu [] 6) st=some (.ret .tt,l',s'):=λ{pd s7} h o=>by
  obtain⟨l',s',hf⟩:=xI (e0:=e0) (x:=x) (i0:=i0) (y:=y) (f0:=f0) (k0:=k0) (v0:=v0) (t:=t) (m:=d.m iz) (pd:=pd) ok wh (o.keep hwl) QP
  exact⟨l',s',KA (ao q U (go (Li e1) (go h hf)))⟩
 cases hc:d.cn with
 | true=>
  rw[hc]at hD hS
  have hl:S.length<=150000:=by
   have hp:=pP ok
   have:=lx hS
   rcases kl this with rfl | this
   ·simp only[ku,R0,Sb];lia
   ·rcases kl this with rfl | this
    ·simp only[ku,R0,Sb];lia
    ·obtain rfl:=km this
     simp only[ku,R0,Sb];lia
  obtain⟨s7,h7,o7⟩:=F8 (e0:=e0) (x:=x) (i0:=i0) (y:=y) (f0:=f0) (k0:=k0) (v0:=v0) (w:=w) (t:=t) (st:=s6) ok hc hi hS hm hl
  have hD:D=(S++[44])++d.en:=hD
  rw[<- hD]at h7
  exact fin h7 o7
 | false=>
  rw[hc]at hD hS
  obtain⟨s7,h7,o7⟩:=F9 (e0:=e0) (x:=x) (y:=y) (f0:=f0) (k0:=k0) (v0:=v0) (w:=w) (t:=t) hc hi K6.t.LO (CD K.t.it) hS hm
  have hD:D=S:=hD
  rw[<- hD]at h7
  exact fin h7 o7
theorem Co(ok:dM d)(K:Qo d e0 i0 f0 k0 v0 st js iz)(hs:d.sm=false)(h2:2<=d.md)(h5:d.md < 5):∃l' s',JJ (Jr 91) (ah 27 cF) (d.wL e0 x i0 y f0 k0 v0 t (d.m iz) .uu .uu [] 6) st=some (.ret .tt,l',s'):=by
 have it:=K.t.it
 have ev:=K.t.ev
 have wt:=K.t.wt
 obtain⟨z0,z0e,w0⟩:=Hl hs it ev wt
 have hm:(d.m iz).length<=100000:=by
  have nt:=gH (sm:=false) (l:=[z0]) (λq hq=>by obtain rfl:=km hq;exact w0.it) false false true
  have ei:aP [z0]=z0.1:=mh _
  rw[ei]at nt
  have ww:=w0.w
  have h:=(tK (cn:=d.cn) (ix:=d.ix) ok.ln nt (cV w0.ev) d0 (by decide) (by show 36+(z0.2.1+0)<=800;lia)).2
  rw[<- ok.JN,A9 ok,w0.tx,ku,ku]at h
  have h:_<=12000+100*(36+(z0.2.1+0)):=h
  cases hc:d.cn with
  | true=>
   rw[hc]at h
   simp only[cond_true,ku,R0,Sb]at h
   lia
  | false=>
   rw[hc]at h
   simp only[cond_false,ku,R0,Sb]at h
   lia
 have:d.md=2∨d.md=3∨d.md=4:=by lia
 rcases this with e | e | e
 ·refine oo ok K (i:=0) (S:=bif d.cn then([91]++d.pad)++d.m iz else [91]++d.m iz) (r:=[]) w0 ?_ ?_ hm (by rw[e];rfl) (by rw[e];rfl) (by decide) (by rw[z0e];rfl) U
  ·cases d.cn <;> rfl
  ·cases d.cn <;> rfl
 ·obtain⟨z,ze,w⟩:=Hk hs it ev wt
  refine oo ok K (i:=1) (S:=bif d.cn then(((([123]++d.pad)++[63,32,34,107,34])++d.pad)++[58,32])++d.m iz else [123,107,58,32]++d.m iz) (r:=[]) w ?_ ?_ hm (by rw[e];rfl) (by rw[e];rfl) (by decide) (by rw[ze];rfl) U
  ·cases d.cn <;> rfl
  ·cases d.cn <;> rfl
 ·obtain⟨z,ze,w⟩:=Hj hs it ev wt
  refine oo ok K (i:=2) (S:=bif d.cn then(((([123]++d.pad)++[63,32])++d.m iz)++d.pad)++[58,32,34,118,34] else([123]++(bif iz.isEmpty then d.m iz else([63,32]++d.m iz)++[32]))++[58,32,118]) (r:=[]) w ?_ ?_ hm (by rw[e];rfl) (by rw[e];rfl) (by decide) (by rw[ze];rfl) U
  ·cases d.cn <;> rfl
  ·cases d.cn <;> rfl
end
section
variable{d:Dw}{f0 w:Nat}{x:V}{iz:List Itm}{t m S:Tx}
noncomputable def Dw.bT(d:Dw)(iz:List Itm):Tx:=cv d.en (LJ d.mp false false iz false d.JN false 0)
noncomputable def bwE:E:=.Ju Aq Dx Dv
noncomputable def eQ(d:Dw):V:=bo false d.ix 1000 d.ln d.en
theorem Dd(ok:dM d)(K:Qo d e0 i0 f0 k0 v0 st js iz)(hs:d.sm=false)(h5:d.md=5∨d.md=6)(post:∀r s1 row,Ev 91 bwE (d.wL e0 x i0 y f0 k0 v0 t m (eQ d) .uu [] 6) st (.ref r) s1->s1.cur[r]?=some (.lst row)->(∀v∈row,Kq v)->row.length<=290->gP false d.ix 1000 d.ln row ((T3++d.en)++((bif d.md==5 then [45,32] else [107,58,32])++d.bT iz))->Old st s1->P):P:=by
 have nt:=rW hs K.t.it
 have wt:=K.t.wt
 have fl:=xu K.t
 have bs:aN (.int d.ix)=d.JN:=ok.JN.symm
 let L:=d.wL e0 x i0 y f0 k0 v0 t m (eQ d) .uu [] 6
 have q:Ep 91 Aq L st (.o (d.md==5)):=rfl
 have e3:∀X:Tx,cv (JP d.ln) (T3++(10::X))=(T3++d.en)++cv d.en X:=λX=>by
  rw[<- ok.en,aJ,Q2,lq];rfl
 rcases h5 with h5 | h5
 ·have T:=DZ (ix:=d.ix) ok.ln nt (nK K.t.ev) d0 (by decide) (by lia)
  rw[bs]at T
  rw[show(d.md==5)=true by rw[h5];rfl]at q post
  have T:gP false d.ix 1000 d.ln (Q4 false::(d.F iz++[Ko 11])) (cv (JP d.ln) (T3++(10::([45,32]++LJ d.mp false false iz false d.JN false 0)))):=T
  rw[e3]at T
  refine cu 90 (mp:=false) (f:=false) (a:=false) (g:=false) K.t.fl (ke fl (by decide)) λr0 s1 a1 a2 J a4=>?_
  have h0:Ev 91 Dx L st (.ref r0) s1:=aE (c:=Jr 91) (f:=iM) (vs:=[.ref f0,.ff,.ff]) (ws:=[.ref f0,.ff,.ff,.b .nul,.b .nul]) U (by rw[bg];rfl) U U a1
  exact post r0 s1 _ ((bz q U).trans h0) a2 (cV (nK K.t.ev)) (by show(d.F iz++[_]).length+1<=_;rw[ku];show _+1+1<=_;lia) T (Kx.old (X:=[]) a4)
 ·have T:=DY (ix:=d.ix) ok.ln nt (nK K.t.ev) d0 (by decide) (by lia)
  rw[bs]at T
  rw[show(d.md==5)=false by rw[h5];rfl]at q post
  have T:gP false d.ix 1000 d.ln (Q4 true::(MS::(d.F iz++[Ko 13]))) (cv (JP d.ln) (T3++(10::([107,58,32]++LJ d.mp false false iz false d.JN false 0)))):=T
  rw[e3]at T
  let s2:=(alloc st (.lst ([MS]++d.F iz))).2
  have b1:Ev 91 I47 L st (.ref st.cur.length) s2:=Jl (a:=(.ref k0,st)) U (Jl (a:=(.ref f0,st)) U (gO K.k K.t.fl (ke (show 1+(d.F iz).length<=200 by lia) (by decide))))
  have kv:∀v∈[MS]++d.F iz,Kq v:=λv hv=>by
   rcases mx hv with hv | hv
   ·obtain rfl:=km hv;exact⟨_,_,rfl,by decide⟩
   ·exact nK K.t.ev v hv
  refine cu 90 (mp:=true) (f:=false) (a:=false) (g:=false) (ak st (.lst ([MS]++d.F iz))) (by rw[ku];show 1+_<=_;lia) λr1 s3 c1 c2 J c4=>?_
  have h1:Ev 91 Dv L st (.ref r1) s3:=aE (c:=Jr 91) (f:=iM) (vs:=[.ref st.cur.length,.tt,.ff]) (ws:=[.ref st.cur.length,.tt,.ff,.b .nul,.b .nul]) (ac b1 U) (by rw[bg];rfl) U U c1
  exact post r1 s3 _ ((bz q U).trans h1) c2 (cV kv) (by show(([MS]++d.F iz)++[_]).length+1<=_;rw[ku,ku];show 1+_+1+1<=_;lia) T (.trans (.al st _) (Kx.old (X:=[]) c4))
theorem Cm(ok:dM d)(K:Qo d e0 i0 f0 k0 v0 st js iz)(hs:d.sm=false)(h5:d.md=5∨d.md=6):∃l' s',JJ (Jr 91) (ah 27 cF) (d.wL e0 x i0 y f0 k0 v0 t m .uu .uu [] 6) st=some (.ret .tt,l',s'):=by
 let L:=d.wL e0 x i0 y f0 k0 v0 t m .uu .uu [] 6
 let L1:=d.wL e0 x i0 y f0 k0 v0 t m (eQ d) .uu [] 6
 have q:Ep 91 (.b2 (.cmp .lt) I7 RX) L st (.o (decide (d.md < 5))):=rfl
 rw[decide_eq_false (show ¬ d.md < 5 by lia)]at q
 have e1:Ep 91 (.tup (.pos I3 I57)) L st (eQ d):=fq (vs:=[.ff,.i d.ix,.i 1000,.b d.ln,.s d.en]) (ac (s1:=st) U (ac (s1:=st) U (ac (s1:=st) U (ac (s1:=st) (aC U U) (ac (s1:=st) U U))))) (by show 5<=12;decide)
 refine Dd (x:=x) (y:=y) (t:=t) (m:=m) ok K hs h5 λr s1 row a1 a2 a3 a4 a5 a6=>?_
 refine fk a2 a3 a4 ok.ln (ke (qE ok).len (by decide)) a5 U λs2 b1 b2=>?_
 rw[<- ok.en]at b1
 let hd:Tx:=bif d.md==5 then [45,32] else [107,58,32]
 have e2:Ev 91 (.JG 65 (.pos bwE (.pos (.n0 (.loc 24)) nG))) L1 st (.s (hd++d.bT iz)) s2:=aE (c:=Jr 91) (f:=kT) (vs:=[.ref r,eQ d,.s d.en]) (ws:=[.ref r,eQ d,.s d.en]) (ac a1 U) (by rw[bg];rfl) U U b1
 let L2:=d.wL e0 x i0 y f0 k0 v0 t m (eQ d) (.s (hd++d.bT iz)) [] 6
 have K2:=K.old (.trans a6 b2)
 have wt:=K.t.wt
 obtain⟨t1,t2⟩:=tK (cn:=false) (ix:=d.ix) ok.ln (rW hs K.t.it) (nK K.t.ev) d0 (by decide) (by lia)
 have et:cv (JP d.ln) (QT false++(sp false++LJ d.mp false false iz false (aN (.int d.ix)) false 0))=(T3++[32])++d.bT iz:=by
  unfold Dw.bT
  rw[aJ,aJ,<- ok.JN,<- ok.en,<- lq];rfl
 rw[et]at t1 t2
 have fl:=xu K.t
 refine fk (fr:=[32]) K2.t.fl (cV (iF K.t.ev)) (ke fl (by decide)) ok.ln (by decide) t1 U λs3 c1 c2=>?_
 rw[<- ok.en]at c1
 have e3:Ev 91 GP L2 s2 (.s (d.bT iz)) s3:=aE (c:=Jr 91) (f:=kT) (vs:=[.ref f0,eQ d,.s [32]]) (ws:=[.ref f0,eQ d,.s [32]]) U (by rw[bg];rfl) U U c1
 let L3:=d.wL e0 x i0 y f0 k0 v0 (d.bT iz) m (eQ d) (.s (hd++d.bT iz)) [] 6
 have bl:(d.bT iz).length<=60000:=by rw[ku]at t2;lia
 have e4:Ep 91 G5 L3 s3 (.s hd):=by
  refine(bz (u:=d.md==5) (v:=.o (d.md==5)) (s1:=s3) U U).trans ?_
  show _=some (V.b (.str (bif d.md==5 then [45,32] else [107,58,32])),s3)
  cases d.md==5 <;> rfl
 have hl:hd.length<=3:=by
  show(bif d.md==5 then [45,32] else [107,58,32]:Tx).length<=3
  cases d.md==5
  ·exact mf 3
  ·exact(by decide:2<=3)
 have e5:Ep 91 I33 L3 s3 (.s (hd++d.bT iz)):=be e4 (aC (k:=20) U U) (by lia)
 have e6:Ep 91 (.b2 (.cmp .eq) (.n0 (.loc 25)) I33) L3 s3 .tt:=C0 (aC (k:=25) U U) e5
 have e7:Ep 91 GU L3 s3 .tt:=bP (u:=true) (w:=true) U e6
 exact⟨_,s3,go (aj q U U) (go (Li e1) (go (Li e2) (go (Li e3) (aR e7 .nil))))⟩
end
theorem Cy(s:List Int):∃l' s',JJ (Jr 91) cF (Mq s::PS 33) ⟨[],[]⟩=some (.ret .tt,l',s'):=by
 refine vA s λd st e0 tp ok h1 h2 h3 h4 hd=>?_
 refine C3 (d:=d) h1 h2 h3 h4 λx y s1 tp' js iz a1 a2 a3=>?_
 refine vQ ok (x:=x) (y:=y) a2 a3 λy' i0 f0 s2 b1 b2 b3=>?_
 have fin:∀{l' s'},JJ (Jr 91) (ah 22 cF) (d.vL e0 x i0 y' f0 (d.tx iz) [] 6) s2=some (.ret .tt,l',s')->JJ (Jr 91) cF (Mq s::PS 33) ⟨[],[]⟩=some (.ret .tt,l',s'):=λ{l' s'} h=>hd _ (go a1 (b3 _ h))
 have m0:=ok.m0
 have m8:=ok.m8
 by_cases c1:d.md < 2
 ·obtain⟨l',s',h⟩:=Cp (x:=x) (y:=y') ok b1 b2 c1
  exact⟨l',s',fin h⟩
 ·have q1:Ep 91 Ar (d.vL e0 x i0 y' f0 (d.tx iz) [] 6) s2 (.o (decide (d.md < 2))):=rfl
  rw[decide_eq_false c1]at q1
  by_cases c7:d.md=7
  ·obtain⟨l',s',h⟩:=E4 (x:=x) (y:=y') ok b1 b2 c7
   exact⟨l',s',fin (go (aj q1 U U) h)⟩
  ·have hs:d.sm=false:=by rw[ok.sm];exact beq_eq_false_iff_ne.mpr c7
   refine CB (x:=x) (y:=y') ok b1 b2 hs (decide_eq_false c1) λk0 v0 s3 K f3=>?_
   by_cases c5:d.md < 5
   ·obtain⟨l',s',h⟩:=Co (x:=x) (y:=y') (t:=d.tx iz) ok K hs (by lia) c5
    exact⟨l',s',fin (f3 h)⟩
   ·obtain⟨l',s',h⟩:=Cm (x:=x) (y:=y') (t:=d.tx iz) (m:=d.m iz) ok K hs (by lia)
    exact⟨l',s',fin (f3 h)⟩
end
section
open PySem PySem.W PySem.Calls PyProof.Rows
theorem Facts.i{Y:Lay}(F:Facts Y):∀{k:Nat},k < 2->iL Y k=iR Y k
 | 0,_=>F.i0
 | 1,_=>F.i1
 | k+2,h=>(Nat.not_lt_zero k (R7 (R7 h))).elim
theorem EX{f:Nat->Zs}(h:(Kj f 0 128).Nodup)(a b:Nat)(ha:a < 128)(hb:b < 128)(hn:a≠b):(f a==f b)=false:=by
 have z:=List.pairwise_iff_getElem.mp (List.pairwise_map.mp h)
 have hl:(List.range' 0 128).length=128:=List.length_range'
 have key:∀i j:Nat,i < 128->j < 128->i < j->f i≠f j:=λi j hi hj hij=>by
  have:=z i j (hl▸hi) (hl▸hj) hij
  rw[List.getElem_range',List.getElem_range',SE,SE,Nat.one_mul,Nat.one_mul]at this
  exact this
 exact beq_eq_false_iff_ne.mpr λe=>(Nat.lt_or_gt_of_ne hn).elim (λl=>key a b ha hb l e) λl=>key b a hb ha l e.symm
section
variable{K:Frag}{P:Params}{sa:Addr}{so:Obj}
theorem Facts.fn(F:Facts (Yw K P sa so)){k:Nat}(h:k < 69):Nn (Yw K P sa so) k=Nm (Yw K P sa so) k:=
 if h0:k < 10 then de F.f0 (mj _) h0 else if h1:k < 20 then de F.f1 (SX h0) h1 else if h2:k < 30 then de F.f2 (SX h1) h2 else if h3:k < 40 then de F.f3 (SX h2) h3
 else if h4:k < 50 then de F.f4 (SX h3) h4 else if h5:k < 60 then de F.f5 (SX h4) h5 else de F.f6 (SX h5) h
theorem vP{k:Nat}{f:Fn}(h:gx[k]?=some f):k < 69/\fc k=f:=⟨(kh h).1,dJ h⟩
theorem Facts.lay(F:Facts (Yw K P sa so)){c:Cx}(hc:c.fns=gx)(hs:c.sup=ii):JO (Yw K P sa so) c:=
 ⟨⟨(EX (dEl (aZ F.o (·.2.2.1.getD 2 true)))),
 (λk h=>aZ (dm F.r h) (·.2.1.getD 0 none)),
 (λk h=>aZ (dm F.r h) (·.2.1.getD 1 none)),
 (λk h=>aZ (dm F.r h) (·.1.getD 0 true)),
 (λk h=>aZ (dm F.r h) (·.1.getD 1 true)),
 (λk n h h1 h2=>de (f:=λn=>findIn K (.ref ((Yw K P sa so).J7 k)) (yw n)) (g:=λJ=>some none) (a:=64) (n:=62) (aZ (dm F.r h) (·.2.2.2)) h1 h2),
 (λk h=>aZ (dm F.r h) (·.2.1.getD 2 none)),
 (λk h=>aZ (dm F.r h) (·.2.2.1.getD 0 none)),
 (λk d h hd=>by
  have:=dm (aZ (dm F.r h) (·.2.2.1.tail)) hd
  unfold tQ;rw[hs];exact this),
 (aZ F.o (·.1.getD 0 none))⟩,
 ⟨(aZ F.o (·.2.2.2)),
 (λk h=>aZ (F.i h) (·.2.1.getD 0 true)),
 (λk h=>aZ (F.i h) (·.2.1.getD 1 true)),
 (λk h=>aZ (F.i h) (·.2.2.1.getD 0 none)),
 (λk h=>aZ (F.i h) (·.2.1.getD 2 true)),
 (λk n h hn=>dm (f:=λn=>takerIn K ((Yw K P sa so).JW k) (yw n)) (g:=λJ=>some none) (n:=128) (aZ (F.i h) (·.2.2.2.1)) hn),
 (λk n h h1 h2=>de (f:=λn=>findIn K (.ref ((Yw K P sa so).JW k)) (yw n)) (g:=λJ=>some none) (a:=64) (n:=62) (aZ (F.i h) (·.2.2.2.2)) h1 h2),
 (λk f h hf=>by
  obtain⟨_,e⟩:=vP (hc▸hf)
  subst e
  exact⟨lj (aZ (dm F.m h) (·.1.getD 0 true)),aZ (dm F.m h) (·.2.1.getD 0 none)⟩),
 (λk h=>⟨aZ (dm F.m h) (·.1.getD 1 true),aZ (dm F.m h) (·.2.1.getD 1 none),aZ (dm F.m h) (·.2.2),aZ (dm F.m h) (·.1.getD 2 true)⟩),
 (λk h=>by
  have:=aZ (dm F.m (SG h (by decide))) (·.2.1.getD 2 none)
  have hb:Nat.blt k 57=true:=Nat.ble_eq_true_of_le h
  revert this
  show(bif Nat.blt k 57 then _ else _)=(bif Nat.blt k 57 then _ else _)->_
  rw[hb];exact id)⟩,
 ⟨(λk h=>aZ (dm F.r h) (·.2.1.getD 3 none)),
 (λk h=>AZ (aZ (F.i h) (·.1))),
 (aZ F.o (·.1.getD 1 none)),
 (aZ F.o (·.1.getD 2 none)),
 (λn hn=>by
  have:=aZ F.o (·.2.1)
  revert this
  rcases kl hn with rfl | hn
  ·exact λe=>aZ e (·.getD 0 none)
  rcases kl hn with rfl | hn
  ·exact λe=>aZ e (·.getD 1 none)
  rcases kl hn with rfl | hn
  ·exact λe=>aZ e (·.getD 2 none)
  rcases kl hn with rfl | hn
  ·exact λe=>aZ e (·.getD 3 none)
  rcases kl hn with rfl | hn
  ·exact λe=>aZ e (·.getD 4 none)
  rcases kl hn with rfl | hn
  ·exact λe=>aZ e (·.getD 5 none)
  exact nomatch hn),
 (λk f hf ho=>by
  obtain⟨h,e⟩:=vP (hc▸hf)
  subst e
  have:=dm F.g h
  revert this
  show(bif Nat.beq (fc k).own 2 then _ else _)=List.replicate (bif Nat.beq (fc k).own 2 then _ else _) _->_
  rw[ho];exact λh=>(SW h).1),
 (⟨_,_,kg (·.1) F.d,kZ U U⟩),
 (⟨_,_,kg (·.2) F.d,⟨kZ U U,by decide,by decide⟩⟩),
 (aZ F.o (·.2.2.1.getD 0 true)),
 (aZ F.o (·.2.2.1.getD 1 true))⟩,
 ⟨(aZ F.o (·.1.getD 3 none)),
 (aZ F.o (·.1.getD 4 none)),
 (aZ F.o (·.1.getD 5 none)),
 (aZ F.o (·.1.getD 6 none)),
 (rfl),
 (rfl)⟩⟩
theorem Facts.whole{prog:Program}{w:World}{hB:Heap}{p:Program}{loose:List Zs}{mg mb:Zs->Option Value}(F:Facts (Yw K w.params sa so))(X:K.In hB)(T:TopRead p loose mg mb hB)(S:hB.get? sa=some so)(n:Nat):Lj ⟨prog,w,Yw K w.params sa so,hB,p,loose,mg,mb⟩ (Jr n):=by
 have hf:(Jr n).fns=gx:=by cases n <;> rfl
 have hi:(Jr n).Kd=Kd:=by cases n <;> rfl
 have hs:(Jr n).sup=ii:=by cases n <;> rfl
 refine⟨⟨X,T,S⟩,F.lay hf hs,λk f h=>?_,λk q h=>?_⟩
 ·obtain⟨h1,e⟩:=vP (hf▸h)
  subst e
  exact⟨_,Fv (F.fn h1)⟩
 ·rw[hi]at h
  cases (show iAt k=q from dJ h)
  have h1:k < 15:=(kh h).1
  exact Fq h1 (dm F.n h1)
end
theorem yX{φ:Led}{am:AM}{Y:Lay}{vs:List Value}{ns:List Int}(h:IntsAre vs ns):Mg Y φ am (gQ (KL ns)) vs:=by
 induction h with
 | nil=>rfl
 | cons n t _ ih=>exact .mk (.mk t) ih
theorem vx{vs:List Value}{ns:List Int}(h:IntsAre vs ns):vs.length=ns.length:=by
 induction h with
 | nil=>rfl
 | cons n t _ ih=>exact kg Nat.succ ih
theorem sE{cl:Zs->Option Addr}{mean:ExcName->Option Value}{d:PyData}{JV s':Shared}(keep:∀b o,JV.heap.get? b=some o->s'.heap.get? b=some o)(os:s'.os=JV.os)(g:s'.gens=#[]) :
  GoodW PySem.Challenge.rw_te0050_01.row.claim cl mean [ofPy d] JV (.ok (.ret (.bool true))) s':=
 ⟨.inl ⟨.bool true,.bool true,[],rfl,raisesW_false (r:=PySem.Challenge.rw_te0050_01.row.toRowW) (λJ h=>(mo h).elim),.bool true,postW_of (r:=PySem.Challenge.rw_te0050_01.row.toRowW) (X:=true) U (by wtm_val) U,λJ=>⟨.nil,λJ h=>(mo h).elim⟩⟩,keep,os,g⟩
theorem ve{l:List (Zs×Addr)}{x:Zs}(h:x∈l.map (·.1)):∃a,l.lookup x=some a:=by
 cases e:l.lookup x with
 | some a=>exact⟨a,rfl⟩
 | none=>
  obtain⟨y,hy,ey⟩:=List.mem_map.mp h
  have:=List.lookup_eq_none_iff.mp e y hy
  rw[ey]at this
  exact J4 ((bne_self_eq_false x).symm.trans this)
theorem Cz{prog:Program}{w:World}{K:Frag}{hB:Heap}{p:Program}{loose:List Zs}{mg mb:Zs->Option Value}{sa:Addr}{ws:List Value}{ns:List Int}(F:∀so,Facts (Yw K w.params sa so))(X:K.In hB)(T:TopRead p loose mg mb hB)(L:hB.IsList sa ws.toArray)(I:IntsAre ws ns)(hn:ns.length<=63)
  {m cm:Zs->Option Value} {s:Shared} {sc:Scope} {body:List Stmt} {fa:Addr} {cd:Value} {cn:Zs} {E:Value->Shared->Prop} {Q:Flow->Shared->Prop} (hb:((dU K 835).scope,(dU K 835).body)=(sc,body)) (Fr:Fr hB hB.objs.size s.heap m) (Xc:Cl hB.objs.size (cellsFrom (hB.objs.size+1) sc.names []) s.heap cm) (hcm:∀x,cm x=none) (hm:m (stN "script")=some (.ref sa))
  (post:∀h tk,(∀b o,hB.get? b=some o->h.get? b=some o)->Q (.ret (.bool true)) { s with heap:=h,toks:=tk}):wpAny (model prog w) (callerA.deeper (envOfC cn sc hB.objs.size fa cd)) (execs body (envOfC cn sc hB.objs.size fa cd)) Q E s:=by
 obtain⟨so,S,hso⟩:=L
 have Z:=λn=>(F so).whole (prog:=prog) X T S n
 obtain⟨l,st,ev⟩:=Cy ns
 have c1:=wG Z 91
 have hp:=(F so).p
 have NS:=kg (·.1) hp
 have hp2:=kg (·.2) hp
 cases hb
 refine aEl NS λk1 NS=>aEl NS λk2 NS=>aEl NS λk3 NS=>aEl NS λk4 NS=>aEl NS λk5 NS=>aEl NS λk6 k7=>?_
 have nm:∀n,(cellsFrom n (dU K 835).scope.names []).map (·.1)=CA (dU K 835).scope:=λn=>cellsFrom_names _ _ _ _ _ U
 refine yI (Z 91) c1 (sl:=jt) (cn:=cn ++ ".<locals>.") (L:=hB.objs.size) (f:=fa) (cd:=cd) (cs:=cellsFrom (hB.objs.size+1) (dU K 835).scope.names []) (cm:=cm) (ld k2) (dEl k3) (λx hx=>A4 (ma k4 x hx)) (λx hx hc=>ve ?_) ((nm _).symm▸dEl k6) hcm k1 hp2 U U ev ⟨show 1+claimMargin+1+2*91+2 < recursionLimit by decide,show 4+3+20*91+20 < cLine by decide,rfl⟩ Fr Xc U (ld k7) hm (PJ.scr U hso (yX I) (by rw[vx I,gq];lia)) post
 rw[nm]
 rcases my (ma k5 x hx) with h | h
 ·have h:=not_of h
  have hc:(dU K 835).scope.names.lookup x=some .cell:=hc
  rw[show(OG (Yw K w.params sa so)).scope=(dU K 835).scope from rfl,hc]at h
  exact J4 h.symm
 ·exact List.contains_iff_mem.mp h
noncomputable def Ih:DefRec:=match defOf vw "law" with
 | some x=>x.1 | none=>⟨"",⟨[],[],none,[],[],none,[]⟩,[],⟨.function,[],false,false,[]⟩,zP⟩
theorem EC:PySem.Challenge.rw_te0050_01.row.promised:=by w_witness2
set_option maxHeartbeats 8000000 in
theorem mainT:PySem.Challenge.rw_te0050_01.Holds:=by
 w_on
 refine holds_law Eu λsaid=>?_
 refine holds_open (q:=vw) (loose:=loo) (Xt:=XtF) (XP:=XL vw []) (Yf:=λs=>s.heap) (Ya:=λw=>fL w.params) (YP:=λw h=>(kF w.params).In h) (d:=Ih) (kwd:=[]) (N:=20000) E9 (λw s e=>e▸Ff w.params) (λw h h' x k=>x.keeps k) (λs e=>xl_of s (ly e).1) XL.keeps (by kernel_rfl) (by kernel_rfl) (by kernel_rfl) (λs e=>recFacts_of (ly e).2) (by kernel_rfl) said (by kernel_rfl) ⟨rfl,rfl,rfl,rfl,rfl,by decide +kernel⟩ EC ?hc
 intro w s₀ JV mg mb G Y fa o pm cd doc dV kV ho hd hcd hD hmg hg args vals as Rx hlay hrd hwl hlo
 have KX:(kF w.params).In JV.heap:=Y
 clear Y
 refine Ground.open G ?_
 intro T B D TE TW
 obtain⟨_,_,M⟩:=bmod_of_top T
 have TA:=at_of_top T
 try (obtain⟨_,_,he,B0⟩:=based_of_top T U hmg ho hd;have he':cd=_:=he;subst he';clear he)
 clear hmg
 wrow_args Rx hlay hrd hwl hlo
 refine enter_call ?_
 w_top on
 refine codeAny_mono ?_ (λ_ _ g=>GoodW.toG g)
 have K0:=below_caller (Top.heap T)
 have he:=Dflts.none hD U;subst he;have he:=Dflts.noKw hD;subst he
 refine call_cells (by decide) ho (fd_plain hd) (Top.nolimit T) hcd U (kinds_of (by kinds_ok)) λJ5 tk₁ F X0=>?_
 refine Cz (hb:=?hb) (CT w.params _) KX (topRead_of (by assumption)) (by assumption) (by assumption) ?len F X0 ?hcm ?hm ?post
 case hcm=>exact λx=>congrFun (by kernel_rfl:_=λJ=>none) x
 case hm=>kernel_rfl
 case len=>lia
 case hb=>kernel_rfl
 case post=>exact λh tk keep=>sE keep U (by assumption)
end
end Mine.Internal

theorem PySem.Challenge.cw_te0050_01_holds : PySem.Challenge.rw_te0050_01.Holds := by
  exact Mine.Internal.mainT
