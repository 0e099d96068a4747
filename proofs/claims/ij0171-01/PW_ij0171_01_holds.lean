import PyProof.Rows.All
import Wide.All
import OpenK.AllK
import Wide.FinOn
import PySem.Challenge.RW_ij0171_01
set_option Elab.async false
set_option maxRecDepth 100000
set_option linter.all false
set_option genSizeOf false
set_option genInjectivity false
set_option bootstrap.genMatcherCode false
open PySem PySem.W PyProof.Rows
namespace Mine
set_option backward.match.sparseCases false
section
open PySem.Builtin.Re
noncomputable def PL:Addr:=57
noncomputable def dy:Str:=⟨⟨[95,116,119,105,110,95,114,101,95,49]⟩⟩
noncomputable def CT:Addr:=61
noncomputable def MW (s:Stmt):DefRec:=match s with
 | .FunctionDef n a b _ _ _ sc _ _ pos=>⟨n,a,b,sc,pos⟩
 | _=>⟨Str.empty,⟨[],[],none,[],[],none,[]⟩,[],default,⟨0,0,0,0⟩⟩
noncomputable def aS (i:Nat):DefRec:=MW (PySem.Challenge.pw_ij0171_01.main.body.getD i (.Pass ⟨0,0,0,0⟩))
noncomputable def ao (l:List Nat):Str:=⟨⟨l⟩⟩
noncomputable def mW:List Nat:=[14,14,4,1,1,9,0,64,0,1342177280,0,0,0,0,0,17,0,13,11,9,0,64,0,1342177280,0,0,0,0,0,17,1,1]
noncomputable def aF:Str:=Str.ofString "_flags"
noncomputable def aP:Str:=Str.ofString "_pending_flags"
noncomputable def RF (s:Stmt):List Stmt:=match s with | .ClassDef _ _ _ b ..=>b | _=>[]
noncomputable def RG:List Stmt:=RF (PySem.Challenge.pw_ij0171_01.main.body.getD 11 (.Pass ⟨0,0,0,0⟩))
noncomputable def m9 (i:Nat):DefRec:=MW (RG.getD i (.Pass ⟨0,0,0,0⟩))
noncomputable def Av:Str:=Str.ofString "Flags"
noncomputable abbrev Mp:=Str×Arguments×FuncBody×Scope×Addr×List (Str×Addr)×Value×Value×Value×Addr
noncomputable def tx {α:Type}(o:Option α)(k:α->Bool):Bool:=match o with | some a=>k a | none=>false
noncomputable def Jl:Data->Option FuncData | .func f=>some f | _=>none
noncomputable def oL:Data->Option (Array Value) | .fields vs=>some vs | _=>none
noncomputable def IK:Data->Option (Array Value×Nat) | .seq vs n=>some (vs,n) | _=>none
noncomputable def EA:Data->Option (Array DictEntry×Nat) | .dict vs n=>some (vs,n) | _=>none
noncomputable def JL:Value->Option Str | .str x _=>some x | _=>none
noncomputable def Hu:Value->Option Int | .int x _=>some x | _=>none
noncomputable def Hm:Value->Bool | .none=>true | _=>false
noncomputable def MV:Value->Option Addr | .ref x=>some x | _=>none
noncomputable def Ru (f:FuncData):Mp:=(f.qualname,f.params,f.body,f.scope,f.globals,f.closure,f.defaults,f.kwdefaults,f.code,f.builtins)
noncomputable def Lr (h:Heap)(a:Addr):Option Mp:=(h.get? a).bind λ o=>(Jl o.data).map Ru
noncomputable def Ls (q:Str)(r:DefRec)(a:Addr):Mp:=(q,r.params,.stmts r.body,r.scope,mainGlobals,[],.none,.none,.ref (a - 1),builtinsNs)
noncomputable def Om (h:Heap)(q:Str)(a:Addr):Bool:=tx (h.get? (a - 1)) λ o=>tx (oL o.data) λ vs=>tx (vs[1]?:Option Value) λ v=>tx (JL v) λ x=>decide (x=q)
noncomputable def Jt:List (Nat×Addr):=[(3,43),(6,55),(8,62),(9,69),(13,130),(14,137),(15,144),(16,151),(17,158),(18,163),(19,168),(20,173),(21,178)]
noncomputable def LW:List (Nat×Addr):=[(2,83),(3,90),(4,97),(5,104),(6,111),(7,118)]
noncomputable def mq (i:Nat):Str:=Str.ofString "Flags." ++(m9 i).name
noncomputable def AS:List Addr:=[61,83,90,97,104,111,118,120,121]
noncomputable def By (h:Heap):Frag:=AS.filterMap λ a=>(h.get? a).map λ o=>(a,o)
noncomputable def Ej (K:Frag):Bool:=plainGet K 121 aF&&hasDictIn K 121&&decide (findIn K (.ref 121) aF=some none)&&decide (findIn K (.ref 121) aP=some none)&&decide (findIn K (.ref 121) "__setattr__" = some (some (.builtin "object.__setattr__")))&&plainOver K 121 &&
 decide (takerIn K 121 aF=some none)&&decide (takerIn K 121 aP=some none)&&makesIn K 121&&decide (findIn K (.ref 121) "__init__" = some (some (.ref 83)))&&decide (findIn K (.ref 121) (Str.ofString "add_pending")=some (some (.ref 90))) &&
 decide (findIn K (.ref 121) (Str.ofString "finalize_pending")=some (some (.ref 97)))&&decide (findIn K (.ref 121) (Str.ofString "unset_all")=some (some (.ref 104)))&&decide (findIn K (.ref 121) (Str.ofString "set")=some (some (.ref 111)))&&decide (findIn K (.ref 121) (Str.ofString "is_")=some (some (.ref 118))) &&
 LW.all (λ p=>decide (typeIn K (.ref p.2)=some (.type "function")))&&keepIn K (.ref 121)&&codeHdIn K CT PL
noncomputable def MZ (l:List Value):Bool:=match l with
 | []=>false
 | _::l=>match l with
  | []=>false
  | _::l=>match l with
   | []=>false
   | a::l=>match l with
    | []=>false
    | b::l=>match l with
     | []=>false
     | c::l=>match l with
      | []=>false
      | d::l=>match l with
       | []=>false
       | e::l=>l.isEmpty&&(tx (Hu a) (λ i=>decide (i=1))&&(Hm b&&(Hm c&&(tx (MV d) (λ i=>decide (i=35))&&tx (Hu e) (λ i=>decide (i=0))))))
noncomputable def M0 (h:Heap):Bool:=tx (h.get? 36) (λ o=>decide (o.cls=.type "re.Pattern")&&(decide (o.dict=none)&&tx (oL o.data) λ vs=>MZ vs.toList)) &&
 tx (h.get? 35) (λ o=>tx (IK o.data) λ vs=>decide (((vs.1.map reRawOf).map (·.toNat)).toList=mW))
noncomputable def Ql (e:DictEntry):Bool:=tx (Hu e.key) λ k=>decide (e.hash=hashInt k)
noncomputable def M_ (h:Heap):Bool:=tx (h.get? 45) λ o=>decide (o.cls=.type "dict")&&(decide (o.dict=none)&&(decide (o.slots.size=0)&&tx (EA o.data) λ es =>
 es.1.toList.all Ql&&(decide (findBy Value.isInt es.1 97=none)&&tx (findBy Value.isInt es.1 46) λ v=>tx (JL v) λ x=>decide (x=ao [92,46]))))
noncomputable def MH (h:Heap):Bool:=tx (h.get? PL) λ o=>Hm o.cls&&(decide (o.dict=none)&&(decide (o.slots.size=0)&&tx (oL o.data) λ vs=>decide (vs.size=0)))
noncomputable def EY (h:Heap):Bool:=Jt.all (λ p=>Om h (aS p.1).name p.2)&&LW.all (λ p=>Om h (mq p.1) p.2)&&Ej (By h)&&M0 h&&M_ h&&MH h&&(h.get? sysModules).isSome
noncomputable def OU (mg:Str->Option Value):Bool:=Jt.all (λ p=>decide (mg (aS p.1).name=some (.ref p.2)))&&decide (mg dy=some (.ref 36))&&decide (mg Av=some (.ref 121))&&decide (mg (Str.ofString "_special_chars_map")=some (.ref 45)) &&
 ["len", "range", "min", "max", "isinstance", "str", "object", "set"].all (λ x=>(mg (Str.ofString x)).isNone)
noncomputable abbrev HY:=List (Option Mp)×List (Option Mp)×Bool
noncomputable def Yh (h:Heap):HY:=(Jt.map λ p=>Lr h p.2,LW.map λ p=>Lr h p.2,EY h)
noncomputable def Yf (s:Shared):HY:=Yh s.heap
noncomputable def Ya (_:World):HY:=(Jt.map λ p=>some (Ls (aS p.1).name (aS p.1) p.2),LW.map λ p=>some (Ls (mq p.1) (m9 p.1) p.2),true)
noncomputable def Xt (s:Shared):Bool:=OU (s.heap.nsMap mainGlobals)&&recOk [] s
noncomputable def qv:Program:=view PySem.Challenge.pw_ij0171_01 [21]
noncomputable def pT:List Str:=(Jt.map λ p=>(aS p.1).name).dropLast++[Str.ofString "_sre",dy,Str.ofString "_special_chars_map",Av]
end
noncomputable def jk (w:World):Prop:=(openEnds treeTable PySem.Challenge.pw_ij0171_01 w 4506).map (λ s=>(openSeen qv pT (importedModules PySem.Challenge.pw_ij0171_01.main.body) Xt true s,Yf s))=some (openGood qv pT,Ya w)
set_option maxHeartbeats 0 in
theorem Kn (w:World):jk ((w.withFollow "special-get-raises" false).withFollow "comprehension-iter-twice" false):=by
 unfold jk
 kernel_rfl
set_option maxHeartbeats 0 in
theorem Kl (w:World):jk ((w.withFollow "special-get-raises" true).withFollow "comprehension-iter-twice" false):=by
 unfold jk
 kernel_rfl
set_option maxHeartbeats 0 in
theorem Km (w:World):jk ((w.withFollow "special-get-raises" false).withFollow "comprehension-iter-twice" true):=by
 unfold jk
 kernel_rfl
set_option maxHeartbeats 0 in
theorem Kk (w:World):jk ((w.withFollow "special-get-raises" true).withFollow "comprehension-iter-twice" true):=by
 unfold jk
 kernel_rfl
theorem Dc (w:World):jk w :=
 byRow2 "comprehension-iter-twice" (P:=jk) (byRow2 "special-get-raises" (P:=λ w=>jk (w.withFollow "comprehension-iter-twice" false)) Kn Kl) (byRow2 "special-get-raises" (P:=λ w=>jk (w.withFollow "comprehension-iter-twice" true)) Km Kk) w
theorem left:LeftO PySem.Challenge.pw_ij0171_01 qv pT Xt Yf Ya 4506:=Dc
set_option backward.match.sparseCases true
section
universe u
variable {A B C D E F G H I J K L:Type}{Z:Sort u}
theorem A2 (i:Nonempty Z){P:Z->Prop}(H:P (@Classical.epsilon Z i λ p=>¬P p))(x):P x:=Classical.byContradiction λ n=>Classical.epsilon_spec (p:=λ p=>¬P p) ⟨x,n⟩ H
@[irreducible] noncomputable def epz (i:Nonempty Z)(Q:Z->Prop):Z:=@Classical.epsilon _ i λ p=>¬Q p
theorem gnz (ne:Nonempty Z){Q:Z->Prop}(H:Q (epz ne Q))(a):Q a:=by unfold epz at H;exact A2 ne H a
@[irreducible] noncomputable def ep1 (i:Nonempty (A))(Q:A->Prop):=@Classical.epsilon _ i λ p=>¬Q p
theorem gn1 [ne:Nonempty (A)]{Q:A->Prop}(H:Q (ep1 ne Q))(a):Q a:=by unfold ep1 at H;exact A2 ne (P:=λ p=>Q p) H a
@[irreducible] noncomputable def ep2 (i:Nonempty (A×B))(Q:A->B->Prop):=@Classical.epsilon _ i λ p=>¬Q p.1 p.2
theorem gn2 [ne:Nonempty (A×B)]{Q:A->B->Prop}(H:Q (ep2 ne Q).1 (ep2 ne Q).2)(a b):Q a b:=by unfold ep2 at H;exact A2 ne (P:=λ p=>Q p.1 p.2) H (a,b)
@[irreducible] noncomputable def ep3 (i:Nonempty (A×B×C))(Q:A->B->C->Prop):=@Classical.epsilon _ i λ p=>¬Q p.1 p.2.1 p.2.2
theorem gn3 [ne:Nonempty (A×B×C)]{Q:A->B->C->Prop}(H:Q (ep3 ne Q).1 (ep3 ne Q).2.1 (ep3 ne Q).2.2)(a b c):Q a b c:=by unfold ep3 at H;exact A2 ne (P:=λ p=>Q p.1 p.2.1 p.2.2) H (a,b,c)
@[irreducible] noncomputable def ep4 (i:Nonempty (A×B×C×D))(Q:A->B->C->D->Prop):=@Classical.epsilon _ i λ p=>¬Q p.1 p.2.1 p.2.2.1 p.2.2.2
theorem gn4 [ne:Nonempty (A×B×C×D)]{Q:A->B->C->D->Prop}(H:Q (ep4 ne Q).1 (ep4 ne Q).2.1 (ep4 ne Q).2.2.1 (ep4 ne Q).2.2.2)(a b c d):Q a b c d:=by unfold ep4 at H;exact A2 ne (P:=λ p=>Q p.1 p.2.1 p.2.2.1 p.2.2.2) H (a,b,c,d)
@[irreducible] noncomputable def ep5 (i:Nonempty (A×B×C×D×E))(Q:A->B->C->D->E->Prop):=@Classical.epsilon _ i λ p=>¬Q p.1 p.2.1 p.2.2.1 p.2.2.2.1 p.2.2.2.2
theorem gn5 [ne:Nonempty (A×B×C×D×E)]{Q:A->B->C->D->E->Prop}(H:Q (ep5 ne Q).1 (ep5 ne Q).2.1 (ep5 ne Q).2.2.1 (ep5 ne Q).2.2.2.1 (ep5 ne Q).2.2.2.2)(a b c d e):Q a b c d e:=by unfold ep5 at H;exact A2 ne (P:=λ p=>Q p.1 p.2.1 p.2.2.1 p.2.2.2.1 p.2.2.2.2) H (a,b,c,d,e)
@[irreducible] noncomputable def ep6 (i:Nonempty (A×B×C×D×E×F))(Q:A->B->C->D->E->F->Prop):=@Classical.epsilon _ i λ p=>¬Q p.1 p.2.1 p.2.2.1 p.2.2.2.1 p.2.2.2.2.1 p.2.2.2.2.2
theorem gn6 [ne:Nonempty (A×B×C×D×E×F)]{Q:A->B->C->D->E->F->Prop}(H:Q (ep6 ne Q).1 (ep6 ne Q).2.1 (ep6 ne Q).2.2.1 (ep6 ne Q).2.2.2.1 (ep6 ne Q).2.2.2.2.1 (ep6 ne Q).2.2.2.2.2)(a b c d e f):Q a b c d e f:=by unfold ep6 at H;exact A2 ne (P:=λ p=>Q p.1 p.2.1 p.2.2.1 p.2.2.2.1 p.2.2.2.2.1 p.2.2.2.2.2) H (a,b,c,d,e,f)
@[irreducible] noncomputable def ep7 (i:Nonempty (A×B×C×D×E×F×G))(Q:A->B->C->D->E->F->G->Prop):=@Classical.epsilon _ i λ p=>¬Q p.1 p.2.1 p.2.2.1 p.2.2.2.1 p.2.2.2.2.1 p.2.2.2.2.2.1 p.2.2.2.2.2.2
theorem gn7 [ne:Nonempty (A×B×C×D×E×F×G)]{Q:A->B->C->D->E->F->G->Prop}(H:Q (ep7 ne Q).1 (ep7 ne Q).2.1 (ep7 ne Q).2.2.1 (ep7 ne Q).2.2.2.1 (ep7 ne Q).2.2.2.2.1 (ep7 ne Q).2.2.2.2.2.1 (ep7 ne Q).2.2.2.2.2.2)(a b c d e f g):Q a b c d e f g:=by unfold ep7 at H;exact A2 ne (P:=λ p=>Q p.1 p.2.1 p.2.2.1 p.2.2.2.1 p.2.2.2.2.1 p.2.2.2.2.2.1 p.2.2.2.2.2.2) H (a,b,c,d,e,f,g)
@[irreducible] noncomputable def ep8 (i:Nonempty (A×B×C×D×E×F×G×H))(Q:A->B->C->D->E->F->G->H->Prop):=@Classical.epsilon _ i λ p=>¬Q p.1 p.2.1 p.2.2.1 p.2.2.2.1 p.2.2.2.2.1 p.2.2.2.2.2.1 p.2.2.2.2.2.2.1 p.2.2.2.2.2.2.2
theorem gn8 [ne:Nonempty (A×B×C×D×E×F×G×H)]{Q:A->B->C->D->E->F->G->H->Prop}(H:Q (ep8 ne Q).1 (ep8 ne Q).2.1 (ep8 ne Q).2.2.1 (ep8 ne Q).2.2.2.1 (ep8 ne Q).2.2.2.2.1 (ep8 ne Q).2.2.2.2.2.1 (ep8 ne Q).2.2.2.2.2.2.1 (ep8 ne Q).2.2.2.2.2.2.2)(a b c d e f g h):Q a b c d e f g h:=by unfold ep8 at H;exact A2 ne (P:=λ p=>Q p.1 p.2.1 p.2.2.1 p.2.2.2.1 p.2.2.2.2.1 p.2.2.2.2.2.1 p.2.2.2.2.2.2.1 p.2.2.2.2.2.2.2) H (a,b,c,d,e,f,g,h)
@[irreducible] noncomputable def ep9 (i:Nonempty (A×B×C×D×E×F×G×H×I))(Q:A->B->C->D->E->F->G->H->I->Prop):=@Classical.epsilon _ i λ p=>¬Q p.1 p.2.1 p.2.2.1 p.2.2.2.1 p.2.2.2.2.1 p.2.2.2.2.2.1 p.2.2.2.2.2.2.1 p.2.2.2.2.2.2.2.1 p.2.2.2.2.2.2.2.2
theorem gn9 [ne:Nonempty (A×B×C×D×E×F×G×H×I)]{Q:A->B->C->D->E->F->G->H->I->Prop}(H:Q (ep9 ne Q).1 (ep9 ne Q).2.1 (ep9 ne Q).2.2.1 (ep9 ne Q).2.2.2.1 (ep9 ne Q).2.2.2.2.1 (ep9 ne Q).2.2.2.2.2.1 (ep9 ne Q).2.2.2.2.2.2.1 (ep9 ne Q).2.2.2.2.2.2.2.1 (ep9 ne Q).2.2.2.2.2.2.2.2)(a b c d e f g h i):Q a b c d e f g h i:=by unfold ep9 at H;exact A2 ne (P:=λ p=>Q p.1 p.2.1 p.2.2.1 p.2.2.2.1 p.2.2.2.2.1 p.2.2.2.2.2.1 p.2.2.2.2.2.2.1 p.2.2.2.2.2.2.2.1 p.2.2.2.2.2.2.2.2) H (a,b,c,d,e,f,g,h,i)
@[irreducible] noncomputable def ep10 (i:Nonempty (A×B×C×D×E×F×G×H×I×J))(Q:A->B->C->D->E->F->G->H->I->J->Prop):=@Classical.epsilon _ i λ p=>¬Q p.1 p.2.1 p.2.2.1 p.2.2.2.1 p.2.2.2.2.1 p.2.2.2.2.2.1 p.2.2.2.2.2.2.1 p.2.2.2.2.2.2.2.1 p.2.2.2.2.2.2.2.2.1 p.2.2.2.2.2.2.2.2.2
theorem gn10 [ne:Nonempty (A×B×C×D×E×F×G×H×I×J)]{Q:A->B->C->D->E->F->G->H->I->J->Prop}(H:Q (ep10 ne Q).1 (ep10 ne Q).2.1 (ep10 ne Q).2.2.1 (ep10 ne Q).2.2.2.1 (ep10 ne Q).2.2.2.2.1 (ep10 ne Q).2.2.2.2.2.1 (ep10 ne Q).2.2.2.2.2.2.1 (ep10 ne Q).2.2.2.2.2.2.2.1 (ep10 ne Q).2.2.2.2.2.2.2.2.1 (ep10 ne Q).2.2.2.2.2.2.2.2.2)(a b c d e f g h i j):Q a b c d e f g h i j:=by unfold ep10 at H;exact A2 ne (P:=λ p=>Q p.1 p.2.1 p.2.2.1 p.2.2.2.1 p.2.2.2.2.1 p.2.2.2.2.2.1 p.2.2.2.2.2.2.1 p.2.2.2.2.2.2.2.1 p.2.2.2.2.2.2.2.2.1 p.2.2.2.2.2.2.2.2.2) H (a,b,c,d,e,f,g,h,i,j)
@[irreducible] noncomputable def ep11 (i:Nonempty (A×B×C×D×E×F×G×H×I×J×K))(Q:A->B->C->D->E->F->G->H->I->J->K->Prop):=@Classical.epsilon _ i λ p=>¬Q p.1 p.2.1 p.2.2.1 p.2.2.2.1 p.2.2.2.2.1 p.2.2.2.2.2.1 p.2.2.2.2.2.2.1 p.2.2.2.2.2.2.2.1 p.2.2.2.2.2.2.2.2.1 p.2.2.2.2.2.2.2.2.2.1 p.2.2.2.2.2.2.2.2.2.2
theorem gn11 [ne:Nonempty (A×B×C×D×E×F×G×H×I×J×K)]{Q:A->B->C->D->E->F->G->H->I->J->K->Prop}(H:Q (ep11 ne Q).1 (ep11 ne Q).2.1 (ep11 ne Q).2.2.1 (ep11 ne Q).2.2.2.1 (ep11 ne Q).2.2.2.2.1 (ep11 ne Q).2.2.2.2.2.1 (ep11 ne Q).2.2.2.2.2.2.1 (ep11 ne Q).2.2.2.2.2.2.2.1 (ep11 ne Q).2.2.2.2.2.2.2.2.1 (ep11 ne Q).2.2.2.2.2.2.2.2.2.1 (ep11 ne Q).2.2.2.2.2.2.2.2.2.2)(a b c d e f g h i j k):Q a b c d e f g h i j k:=by unfold ep11 at H;exact A2 ne (P:=λ p=>Q p.1 p.2.1 p.2.2.1 p.2.2.2.1 p.2.2.2.2.1 p.2.2.2.2.2.1 p.2.2.2.2.2.2.1 p.2.2.2.2.2.2.2.1 p.2.2.2.2.2.2.2.2.1 p.2.2.2.2.2.2.2.2.2.1 p.2.2.2.2.2.2.2.2.2.2) H (a,b,c,d,e,f,g,h,i,j,k)
@[irreducible] noncomputable def ep12 (i:Nonempty (A×B×C×D×E×F×G×H×I×J×K×L))(Q:A->B->C->D->E->F->G->H->I->J->K->L->Prop):=@Classical.epsilon _ i λ p=>¬Q p.1 p.2.1 p.2.2.1 p.2.2.2.1 p.2.2.2.2.1 p.2.2.2.2.2.1 p.2.2.2.2.2.2.1 p.2.2.2.2.2.2.2.1 p.2.2.2.2.2.2.2.2.1 p.2.2.2.2.2.2.2.2.2.1 p.2.2.2.2.2.2.2.2.2.2.1 p.2.2.2.2.2.2.2.2.2.2.2
theorem gn12 [ne:Nonempty (A×B×C×D×E×F×G×H×I×J×K×L)]{Q:A->B->C->D->E->F->G->H->I->J->K->L->Prop}(H:Q (ep12 ne Q).1 (ep12 ne Q).2.1 (ep12 ne Q).2.2.1 (ep12 ne Q).2.2.2.1 (ep12 ne Q).2.2.2.2.1 (ep12 ne Q).2.2.2.2.2.1 (ep12 ne Q).2.2.2.2.2.2.1 (ep12 ne Q).2.2.2.2.2.2.2.1 (ep12 ne Q).2.2.2.2.2.2.2.2.1 (ep12 ne Q).2.2.2.2.2.2.2.2.2.1 (ep12 ne Q).2.2.2.2.2.2.2.2.2.2.1 (ep12 ne Q).2.2.2.2.2.2.2.2.2.2.2)(a b c d e f g h i j k l):Q a b c d e f g h i j k l:=by unfold ep12 at H;exact A2 ne (P:=λ p=>Q p.1 p.2.1 p.2.2.1 p.2.2.2.1 p.2.2.2.2.1 p.2.2.2.2.2.1 p.2.2.2.2.2.2.1 p.2.2.2.2.2.2.2.1 p.2.2.2.2.2.2.2.2.1 p.2.2.2.2.2.2.2.2.2.1 p.2.2.2.2.2.2.2.2.2.2.1 p.2.2.2.2.2.2.2.2.2.2.2) H (a,b,c,d,e,f,g,h,i,j,k,l)
end
theorem neSh:Nonempty Shared:=⟨{}⟩
theorem neAr:Nonempty Around:=⟨{}⟩
theorem neDr:Nonempty Drawn:=⟨({}:Shared).drawn⟩
theorem neWo:Nonempty World:=⟨⟨λ _ _=>0,⟨λ _=>0,λ _=>0,λ t=>t,λ _=>0,λ _ _=>0,λ _=>false,λ _=>0,default,default,default,default,default,default,default,default,default,default,default,default,default,default,default,default,default,default⟩⟩⟩
theorem neMo:Nonempty Model:=neWo.elim λ w=>⟨model PySem.Challenge.pw_ij0171_01 w⟩
section
variable {A B C D E F G H:Type}
@[irreducible] noncomputable def ex1 (i:Nonempty (A))(Q:A->Prop):=@Classical.epsilon _ i λ p=>Q p
theorem en1 [ne:Nonempty (A)]{Q:A->Prop}(e:∃ a,Q a):Q (ex1 ne Q):=by obtain ⟨a,hh⟩:=e;unfold ex1;exact Classical.epsilon_spec (p:=λ p:A=>Q p) ⟨(a),hh⟩
@[irreducible] noncomputable def ex2 (i:Nonempty (A×B))(Q:A->B->Prop):=@Classical.epsilon _ i λ p=>Q p.1 p.2
theorem en2 [ne:Nonempty (A×B)]{Q:A->B->Prop}(e:∃ a b,Q a b):Q (ex2 ne Q).1 (ex2 ne Q).2:=by obtain ⟨a,b,hh⟩:=e;unfold ex2;exact Classical.epsilon_spec (p:=λ p:A×B=>Q p.1 p.2) ⟨(a,b),hh⟩
@[irreducible] noncomputable def ex3 (i:Nonempty (A×B×C))(Q:A->B->C->Prop):=@Classical.epsilon _ i λ p=>Q p.1 p.2.1 p.2.2
theorem en3 [ne:Nonempty (A×B×C)]{Q:A->B->C->Prop}(e:∃ a b c,Q a b c):Q (ex3 ne Q).1 (ex3 ne Q).2.1 (ex3 ne Q).2.2:=by obtain ⟨a,b,c,hh⟩:=e;unfold ex3;exact Classical.epsilon_spec (p:=λ p:A×B×C=>Q p.1 p.2.1 p.2.2) ⟨(a,b,c),hh⟩
@[irreducible] noncomputable def ex4 (i:Nonempty (A×B×C×D))(Q:A->B->C->D->Prop):=@Classical.epsilon _ i λ p=>Q p.1 p.2.1 p.2.2.1 p.2.2.2
theorem en4 [ne:Nonempty (A×B×C×D)]{Q:A->B->C->D->Prop}(e:∃ a b c d,Q a b c d):Q (ex4 ne Q).1 (ex4 ne Q).2.1 (ex4 ne Q).2.2.1 (ex4 ne Q).2.2.2:=by obtain ⟨a,b,c,d,hh⟩:=e;unfold ex4;exact Classical.epsilon_spec (p:=λ p:A×B×C×D=>Q p.1 p.2.1 p.2.2.1 p.2.2.2) ⟨(a,b,c,d),hh⟩
@[irreducible] noncomputable def ex5 (i:Nonempty (A×B×C×D×E))(Q:A->B->C->D->E->Prop):=@Classical.epsilon _ i λ p=>Q p.1 p.2.1 p.2.2.1 p.2.2.2.1 p.2.2.2.2
theorem en5 [ne:Nonempty (A×B×C×D×E)]{Q:A->B->C->D->E->Prop}(e:∃ a b c d e,Q a b c d e):Q (ex5 ne Q).1 (ex5 ne Q).2.1 (ex5 ne Q).2.2.1 (ex5 ne Q).2.2.2.1 (ex5 ne Q).2.2.2.2:=by obtain ⟨a,b,c,d,e,hh⟩:=e;unfold ex5;exact Classical.epsilon_spec (p:=λ p:A×B×C×D×E=>Q p.1 p.2.1 p.2.2.1 p.2.2.2.1 p.2.2.2.2) ⟨(a,b,c,d,e),hh⟩
@[irreducible] noncomputable def ex6 (i:Nonempty (A×B×C×D×E×F))(Q:A->B->C->D->E->F->Prop):=@Classical.epsilon _ i λ p=>Q p.1 p.2.1 p.2.2.1 p.2.2.2.1 p.2.2.2.2.1 p.2.2.2.2.2
theorem en6 [ne:Nonempty (A×B×C×D×E×F)]{Q:A->B->C->D->E->F->Prop}(e:∃ a b c d e f,Q a b c d e f):Q (ex6 ne Q).1 (ex6 ne Q).2.1 (ex6 ne Q).2.2.1 (ex6 ne Q).2.2.2.1 (ex6 ne Q).2.2.2.2.1 (ex6 ne Q).2.2.2.2.2:=by obtain ⟨a,b,c,d,e,f,hh⟩:=e;unfold ex6;exact Classical.epsilon_spec (p:=λ p:A×B×C×D×E×F=>Q p.1 p.2.1 p.2.2.1 p.2.2.2.1 p.2.2.2.2.1 p.2.2.2.2.2) ⟨(a,b,c,d,e,f),hh⟩
@[irreducible] noncomputable def ex7 (i:Nonempty (A×B×C×D×E×F×G))(Q:A->B->C->D->E->F->G->Prop):=@Classical.epsilon _ i λ p=>Q p.1 p.2.1 p.2.2.1 p.2.2.2.1 p.2.2.2.2.1 p.2.2.2.2.2.1 p.2.2.2.2.2.2
theorem en7 [ne:Nonempty (A×B×C×D×E×F×G)]{Q:A->B->C->D->E->F->G->Prop}(e:∃ a b c d e f g,Q a b c d e f g):Q (ex7 ne Q).1 (ex7 ne Q).2.1 (ex7 ne Q).2.2.1 (ex7 ne Q).2.2.2.1 (ex7 ne Q).2.2.2.2.1 (ex7 ne Q).2.2.2.2.2.1 (ex7 ne Q).2.2.2.2.2.2:=by obtain ⟨a,b,c,d,e,f,g,hh⟩:=e;unfold ex7;exact Classical.epsilon_spec (p:=λ p:A×B×C×D×E×F×G=>Q p.1 p.2.1 p.2.2.1 p.2.2.2.1 p.2.2.2.2.1 p.2.2.2.2.2.1 p.2.2.2.2.2.2) ⟨(a,b,c,d,e,f,g),hh⟩
end
set_option compiler.extract_closed false
universe u
@[elab_as_elim] theorem rwG {α:Sort u}{a b:α}{P:α->Prop}(h:a=b)(k:P b):P a:=by subst h;exact k
@[elab_as_elim] theorem rwL {α:Sort u}{a b:α}{P:α->Prop}(h:b=a)(k:P b):P a:=by subst h;exact k
section
open Lean Parser Tactic
def q9N (k:Name)(l:Array Syntax):Syntax:=.node .none k l
def q9A (s:String):Syntax:=.atom .none s
def q9L (l:Array Syntax):Syntax:=q9N `null l
def q9I (s:String):Syntax:=mkIdent (.mkSimple s)
def q9H:Syntax:=q9N ``Term.syntheticHole #[q9A "?",q9A "_"]
def q9K:Syntax:=q9N ``Term.hygienicLParen #[q9A "(",q9N hygieneInfoKind #[mkIdent .anonymous]]
def q9Q (l:Array Syntax):Syntax:=q9N ``tacticSeq #[q9N ``tacticSeq1Indented #[q9L (mkSepArray l (q9A ";"))]]
def q9P (l:Array Syntax):Syntax:=q9N ``paren #[q9A "(",q9Q l,q9A ")"]
def q9R (t:Syntax):Syntax:=q9N ``refine #[q9A "refine",t]
def q9F (f:Syntax)(l:Array Syntax):Syntax:=q9N ``Term.app #[f,q9L l]
def q9V (t:Syntax):Syntax:=#["neSh", "neWo", "neAr", "neDr", "neMo"].foldl (λ b n=>q9N ``Term.haveI #[q9A "haveI",q9N ``Term.letConfig #[q9L #[]],q9N ``Term.letDecl #[q9N ``Term.letIdDecl #[q9N ``Term.letId #[q9N hygieneInfoKind #[mkIdent .anonymous]],q9L #[],q9L #[],q9A ":=",q9I n]],q9A ";",b]) t
def q9G (f:String)(xs:Array Syntax):Syntax:=Id.run do
 let h:=q9N ``Term.hole #[q9A "_"]
 let mut c:=q9F (q9I s!"{f}{xs.size}") #[h,h]
 let mut l:=#[]
 let mut n:=xs.size
 let p:=λ (c:Syntax) i=>q9N ``Term.proj #[c,q9A ".",q9N fieldIdxKind #[q9A i]]
 for x in xs do
  n:=n - 1
  l:=l.push (q9N ``generalizeArg #[q9L #[],if n=0 then c else p c "1",q9A "=",x])
  c:=p c "2"
 return q9N ``generalize #[q9A "generalize",q9L (mkSepArray l (q9A ",")),q9L #[]]
def q9E (xs:Array Syntax):Syntax:=q9N ``«tacticExists_,,» #[q9A "exists",q9L (mkSepArray xs (q9A ","))]
def q9X (l:Array Syntax):Syntax:=q9N ``first #[q9A "first",q9L (l.map λ t=>q9N groupKind #[q9A "|",q9Q #[t]])]
end
open Lean Parser Tactic in
local macro_rules (kind:=Lean.Parser.Tactic.«tacticExists_,,»)
| s=>do
 let xs:=s[1].getSepArgs
 let a:=xs.extract 0 12
 let t:=#[q9R (q9N ``Term.noImplicitLambda #[q9A "no_implicit_lambda%",q9V (q9F (q9I s!"gn{a.size}") #[q9H])]),q9G "ep" a]
 return q9P (if 12<xs.size then t.push (q9E (xs.extract 12 xs.size)) else t)
open Lean Parser Tactic in
local macro_rules (kind:=Lean.Parser.Tactic.delta)
| s=>return q9P #[q9N ``revert #[q9A "revert",s[1]],q9E s[1].getArgs]
open Lean Parser Tactic in
local macro_rules (kind:=Lean.Parser.Tactic.obtain)
| s=>do
 let some n:=s[2][1].isNatLit? | Macro.throwUnsupported
 let ps:=s[1][0][0][0][1].getSepArgs
 let q:=ps.extract n ps.size
 let e:=s[3][1][0]
 let c:=if e.isIdent then #[q9N ``tacticTry_ #[q9A "try",q9Q #[q9N ``clear #[q9A "clear",q9L #[e]]]]] else #[]
 let h:=q9N ``Term.hole #[q9A "_"]
 return q9P (#[q9R (q9N ``Term.noImplicitLambda #[q9A "no_implicit_lambda%",q9V (q9F (q9N ``Term.typeAscription #[q9K,q9H,q9A ":",q9L #[q9N ``Term.arrow #[h,q9A "→",h]],q9A ")"]) #[q9F (q9I s!"en{n}") #[e]])]),q9G "ex" ((ps.extract 0 n).map λ p=>p[0][0][0][0]),
  q9N ``rintro #[q9A "rintro",q9L #[q9N ``rintroPat.one #[if q.size=1 then q[0]![0][0][0] else q9N ``rcasesPat.tuple #[q9A "⟨",q9L (mkSepArray q (q9A ",")),q9A "⟩"]]],q9L #[]]]++c)
open Lean Parser Tactic in
local macro_rules (kind:=Lean.Parser.Tactic.show)
| s=>return q9R (q9N ``Term.typeAscription #[q9K,q9H,q9A ":",q9L #[s[1]],q9A ")"])
open Lean Parser Tactic in
local macro_rules (kind:=Lean.Parser.Tactic.rwSeq)
| s=>do
 let H:=s[3][0][1][0].getArgs
 if H.size>1 then Macro.throwUnsupported
 if s[3].getNumArgs≠0&&H.size=0 then Macro.throwUnsupported
 let ts:=s[2][1].getSepArgs.map λ r =>
  let b:=q9N ``rewriteSeq #[q9A "rewrite",s[1],q9N ``rwRuleSeq #[q9A "[",q9L #[r],q9A "]"],s[3]]
  let e:=r[1]
  if (r.find? λ s=>s.isOfKind ``Term.byTactic||s.isOfKind ``Term.syntheticHole).isSome then b
  else if H.size=1 then
   if r[0].getNumArgs=0 then q9X #[q9N ``replace #[q9A "replace",q9N ``Term.letDecl #[q9N ``Term.letIdDecl #[q9N ``Term.letId #[H[0]!],q9L #[],q9L #[],q9A ":=",q9N ``Term.noImplicitLambda #[q9A "no_implicit_lambda%",q9N ``Term.subst #[e,q9A "▸",q9L #[H[0]!]]]]]],b] else b
  else q9X #[q9R (q9F (q9I (if r[0].getNumArgs=0 then "rwG" else "rwL")) #[e,q9H]),b]
 return q9P (ts.push (q9N ``tacticTry_ #[q9A "try",q9Q #[q9N ``withReducible #[q9A "with_reducible",q9Q #[q9N ``tacticRfl #[q9A "rfl"]]]]]))
open Lean Parser Tactic in
local macro_rules (kind:=Lean.Parser.Term.nofun)
|s=>return q9N ``Term.byTactic #[q9A "by",q9Q #[q9N `tacticKernel_rfl #[q9A "kernel_rfl"]]]
open Lean Parser Tactic in
local macro_rules (kind:=Lean.Parser.Term.omission)
|s=>return q9N ``Term.byTactic #[q9A "by",q9Q #[q9N ``Lean.Parser.Tactic.decide #[q9A "decide",q9N ``optConfig #[q9L #[]]]]]
open Lean Parser Tactic in
local macro_rules (kind:=«term∅»)
|s=>return q9N ``Term.byTactic #[q9A "by",q9Q #[q9N ``exact #[q9A "exact",q9N ``Term.dotIdent #[q9A ".",mkIdent `mk]]]]
open _root_.PySem.Str renaming ofString->VN,empty->WT,join->Yi
open _root_.PySem renaming wpAny_bind->VO,Shared->VP,Value->VQ,wpAny_pure->VR,Addr->V4,Comprehension->V6,Around->V7,Program->V8,Stmt->V9,SetTable->Wa,Heap->Wb,World->Wi,wpAny_mono->Wk,wpAny_holding->Wq,wpAny_of_eq->WC,builtinLookup_eq_fast->WG,wpAny_setState_of->WL,wpAny_askSetting->W1,wpAny_Assign_Name->W2,typeLookup_type->W9,wpAny_standAt->Xa,Obj->Xi,NameKind->Xn,FuncData->Xp,PyData->Xu,wpAny_newObj_type->Xv,wpAny_call->XC,isSubtype_type->XK,codeAny_call_builtin->XM,wpAny_assign_Name->XU,Pos->X7,wpAny_setField->Yb,codeAny_of_tree->Yc,wpAny_truthy_bool->Ye,Env->Yq,wpAny_isInstance->Yv,Scope->YB,Flow->YF,codeAny_builtin->YI,wpAny_isTrue_Compare1->YN,wpAny_rule->YV,Operator->YW,wpAny_Expr->Y0,wpAny_seqItems->Y2,wpAny_call_entry->Y5,wpAny_execs_nil->Zb,wpAny_Call_Name_kw->Ze,wpAny_isTrue_value->Zf,Arguments->Zk
open _root_.List renaming mem_cons_of_mem->VS,mem_cons_self->VT,length_cons->VY,length_map->VZ,length_append->V1,mem_cons->V2,getElem?_eq_some_iff->Wd,length_singleton->We,not_mem_nil->Wf,length_filter_le->Wj,drop_drop->Wl,range->Wo,all_eq_true->Wp,getElem?_eq_getElem->Wr,map_cons->Wu,append_assoc->Ww,mem_map->Wz,append_nil->WH,length_nil->WI,length_drop->WK,mem_range->WN,mem_singleton->WR,length_range->WU,drop_eq_getElem_cons->WW,take_of_length_le->WX,map_append->WZ,getElem?_map->W3,flatMap_cons->W4,drop_of_length_le->Xb,getElem?_eq_none_iff->Xc,mem_filter->Xj,drop_eq_nil_iff->Xo,length->Xq,filter_cons->Xr,cons_ne_nil->XD,lookup_cons->XE,map_map->XJ,drop_left->XQ,eq_nil_of_length_eq_zero->XS,forIn_cons->Yd,mem_of_getElem?->Yg,filterMap_cons->Yt,length_take->Yw,cons_append->Yx,any_eq_true->Yz,length_eq_one_iff->YG,map_nil->YH,mem_append->YK,nil_append->YL,flatten_cons->YR,mem_of_mem_take->YX,drop_zero->YY,getElem?_append_left->Y8,zip_cons_cons->Zg,mem_filterMap->Zi,all_eq_not_any_not->Zm,getElem?_cons_zero->Zn
open _root_.Bool renaming and_eq_true_iff->VU,and_eq_true->V3,or_eq_true->Wt,not_eq_true'->Wv,false_eq_true->WY,false_ne_true->Xk,true_and->X5,false_and->X8,not_eq_true->Y6,and_true->Y_
open _root_.Nat renaming beq->VW,le_trans->VX,le_of_ble_eq_true->V0,eq_of_beq_eq_true->V_,ble_eq_true_of_le->Wh,ble->Wm,lt_of_le_of_lt->Wn,lt_of_succ_lt_succ->WB,le_refl->WD,lt_succ_self->WE,le_of_eq->WO,le_of_succ_le_succ->WQ,le_of_lt_succ->W5,zero_le->W7,lt_of_lt_of_le->W8,le_succ_of_le->Xf,succ_pos->Xh,le_add_right->Xm,ne_of_gt->Xw,succ_le_succ->XB,ne_of_lt->XI,casesOn->XR,lt_add_of_pos_right->XT,blt->XW,le_of_lt->XZ,lt_trans->X2,lt_irrefl->X4,lt_succ_of_le->Yk,add_le_add_left->Yr,le_of_not_lt->Yu,min_eq_left->YJ,le_of_succ_le->YO,min_le_left->Za,add_right_comm->Zc,mod_lt->Zh,le_succ->Zl
open _root_.PySem.Heap renaming get?_push_of_some->V5,get?_push_size->Wc,SameBut->Ws,lt_size->Wy,size_push->WM,ExtBut->WV,get?_update_self->XA
open _root_.Option renaming bind_some->Wg,map_some->Xz,isSome_iff_exists->Yp,map_eq_some_iff->YE
open _root_.PySem.Heap.SameBut renaming update->Wx
open _root_.Array renaming length_toList->WA,getElem?_eq_getElem->Xd,eq_empty_of_size_eq_zero->XG,toList_inj->X6,forIn_toList->X9,toList_append->Ys,getElem?_toList->YM,toList_push->YQ,getD_eq_getD_getElem?->YT,getElem?_eq_none_iff->YZ,mem_toList_iff->Y3,getElem?_eq_some_iff->Y4
open _root_.PySem.SetTable renaming insertAt->WF,bits->WJ,runEnd->XX,Probe->X_,below->YA,sizeAbove->Zj
open _root_.PySem.PyData renaming strOk->WP,eqv->YC,str->Y1
open _root_.Option.some renaming inj->WS,injEq->Yl
open _root_.PySem.W.Looks renaming of_pure->W0
open _root_.Ne renaming symm->W6
open _root_.PySem.NameKind renaming free->W_,cell->XH
open _root_.PySem.Keeper renaming boundFrame->Xe,machine->XN,frame->Yj
open _root_.PySem.Value renaming ref->Xg,str->Yy
open _root_.PySem.F renaming called_set->Xl,slot_list_getattribute->Ym
open _root_.PySem.Builtin.Str renaming strSliceIndices->Xs
open _root_.Int renaming toNat_natCast->Xx,negSucc_lt_zero->XY,le_trans->YD,natCast_nonneg->Zd
open _root_.ForInStep renaming yield->Xy
open _root_.PySem.SetTable.layClean renaming free->X3
open _root_.PySem.Builtin.Tuple renaming tupleExact->Yn
open _root_.Prod.mk renaming injEq->Yo
open _root_.PySem.SetTable.probe renaming go->YS
open _root_.PySem.Builtin.ObjectAttr renaming copiedAttributeGuard->YU
open _root_.PySem.Builtin.Slice renaming slicePlaces->Y7
open _root_.PySem.Builtin.List renaming listTooLong->Y9
open _root_.PySem.W renaming Frag->Zo
open _root_.PySem.Challenge renaming rw_ij0171_01->Zp
set_option backward.match.sparseCases false
set_option tactic.hygienic false
theorem bo {α:Type}{x:Option α}{a:α}{P:Prop}(h:x=none)(e:x=some a):P:=by rw[h]at e;cases e
theorem dw {x:Bool}{P:Prop}(h:x=true)(e:x=false):P:=by rw[h]at e;cases e
theorem cG {α:Type}{x:Option α}{a b:α}(h:x=some a)(e:x=some b):a=b:=by rw[h]at e;cases e;rfl
theorem z0 {a i:Nat}{P:Prop}(h:a - i<=0)(k:i<a):P:=absurd (Nat.sub_pos_of_lt k) (Nat.not_lt_of_le h)
theorem z1 {a i m:Nat}(h:a - i<=m+1):a - (i+1)<=m:=Nat.pred_le_pred h
theorem z3 {n l:Nat}(h:n+1<=l):((l - (n+1):Nat):Int)=Int.negSucc n+(l:Int):=(Int.ofNat_sub h).trans (by rw[Int.sub_eq_add_neg,Int.add_comm];rfl)
theorem z4 {n L p:Nat}(h:(n:Int) - L>p):(n:Int) - L=((max p (n - L):Nat):Int):=by
 have k:p+L<n:=Int.ofNat_lt.mp (Int.add_lt_of_lt_sub_right h);rw[Nat.max_eq_right (Nat.le_sub_of_add_le (XZ k)),Int.ofNat_sub (VX (Nat.le_add_left _ _) (XZ k))]
theorem z5 {n L p:Nat}(h:¬ (n:Int) - L>p):(p:Int)=((max p (n - L):Nat):Int):=by
 have k:n<=p+L:=Int.ofNat_le.mp (Int.le_add_of_sub_right_le (Int.not_lt.mp h));rw[Nat.max_eq_left (Nat.sub_le_of_le_add k)]
theorem z6 {P i g c:Nat}(h:P - i=g+c+1+1):i+1+(g+1)+c=P:=by omega
theorem z7 {P i g q:Nat}(h:P - i=g+(q+1)+1+1):i+1+(g+1)<P:=Nat.lt_of_lt_of_eq (XT (Xh q)) (z6 h)
theorem z8 {P i g q:Nat}(h:P - i=g+q+1+1):i+1+(g+1)<=P:=VX (Xm _ q) (WO (z6 h))
theorem z9 {P i g:Nat}(h:P - i=g+1+1):P=i+1+(g+1):=(z6 (c:=0) h).symm
theorem TB {t i a b:Nat}(h:t - i=a+(b+1)):i+a<t:=Nat.add_lt_of_lt_sub' (h▸XT (Xh b))
theorem TA {a b:Nat}(h:min 1 b=a+1):a=0:=Nat.le_zero.mp (WQ (VX (WO h.symm) (Za 1 b)))
theorem OO {u d x:Nat}(h:u<=9000)(k:d<=8):u+1+min x d<9900:=Wn (Nat.add_le_add (XB h) (VX (Nat.min_le_right _ _) k)) ⋯
theorem Tz {u p q:Nat}(h:u+3<9900)(k:p<=3):u+min p q<9900:=Wn (Yr (VX (Za _ _) k) _) h
theorem Pz {S n L:Nat}(h:S+n*17<=1000000)(k:n*L<=n*16):S+n*L<=1000000:=VX (Yr (VX k (Nat.mul_le_mul_left n ⋯)) S) h
theorem Tw {J r a:Nat}(h:J<=4*(r+1))(k:a<=3):a+(J+1)<=4*(r+1+1):=VX (Nat.add_le_add k (XB h)) (WO (Nat.add_comm 3 _))
theorem R6 {n m:Nat}(h:0<m)(k:n<=m - 1):n<m:=Nat.lt_of_le_pred h k
theorem Tv {P' P0 tP H S' S0 tS:Nat}(h:P'<=P0+H/\S'<=S0+3*H)(k:P0<=tP+1/\S0<=tS+3):P'<=tP+(H+1)/\S'<=tS+3*(H+1):=⟨VX h.1 (VX (Nat.add_le_add_right k.1 H) (WO (Zc tP 1 H))),VX h.2 (VX (Nat.add_le_add_right k.2 _) (WO (Zc tS 3 (3*H))))⟩
theorem Tu {S' tS H W:Nat}{p:Prop}(h:p/\S'<=tS+3*H)(k:H<=W)(l:W<=12):S'<=tS+36:=VX h.2 (Yr (Nat.mul_le_mul_left 3 (VX k l)) _)
theorem R5 {u d x:Nat}(h:u<=9000)(k:d<=8):u+min d x<9900:=Wn (Nat.add_le_add h (VX (Za _ _) k)) ⋯
theorem R4 {lo hi:Nat}(h:lo<hi):(lo+hi) / 2<hi:=(Nat.div_lt_iff_lt_mul ⋯).mpr (by rw[Nat.mul_two];exact Nat.add_lt_add_right h hi)
theorem Tt {lo hi:Nat}(h:lo<hi):lo<=(lo+hi) / 2:=(Nat.le_div_iff_mul_le ⋯).mpr (by rw[Nat.mul_two];exact Yr (XZ h) lo)
theorem Ts {j:Int}(h:0<j/\j<1000000000):j.natAbs<1073741824:=X2 (Int.natAbs_lt_natAbs_of_nonneg_of_lt (Int.le_of_lt h.1) h.2) ⋯
theorem Tr {k n R:Nat}(h:k<=10*n)(l:R<=9):R+1+k<=10*(n+1):=VX (Nat.add_le_add (XB l) h) (WO (Nat.add_comm 10 _))
theorem Tq {F f r m:Nat}(h:F<=r*m)(k:f<=m):f+F<=r*m+1*m:=VX (Nat.add_le_add k h) (WO (by rw[Nat.one_mul,Nat.add_comm]))
theorem Tp {q n:Nat}(h:¬ q<n)(k:q - n<1):q=n:=Nat.le_antisymm (Nat.le_of_sub_eq_zero (Nat.lt_one_iff.mp k)) (Yu h)
theorem uD {a b:Nat}(h:b<a):∃f,a=f+1:=⟨a - 1,(Nat.sub_add_cancel (Wn (W7 _) h)).symm⟩
theorem bg {α:Type}{a:α}{P:Prop}(h:none=some a):P:=by cases h
theorem JS {α:Type}{a:α}{P:Prop}(h:some a=none):P:=by cases h
theorem eV {P:Prop}(h:false=true):P:=by cases h
theorem oY {P:Prop}(h:true=false):P:=by cases h
theorem aJ {α:Type}{a b:α}(h:some a=some b):a=b:=by cases h;rfl
theorem bt {α β:Type}{o:Option α}{f:α->Option β}{b:β}{G:Prop}(h:o.bind f=some b)(k:∀a,o=some a->f a=some b->G):G:=by
 induction o with
 |none=>exact bg h
 |some a=>exact k a rfl h
theorem gt {α β:Type}{o:Option α}{f:α->β}{b:β}{G:Prop}(h:o.map f=some b)(k:∀a,o=some a->f a=b->G):G:=by
 induction o with
 |none=>exact bg h
 |some a=>exact k a rfl (WS h)
@[elab_as_elim] theorem Ar {α β:Type}{P:α->Prop}{a t:α}{f:β->α}(h:t=a\/∃x,t=f x)(h0:P a)(h1:∀x,P (f x)):P t:=h.elim (λe=>rwG e h0) λk=>k.elim λx e=>rwG e (h1 x)
@[elab_as_elim] theorem BB {α β γ:Type}{P:α->Prop}{a t:α}{f:β->γ->α}(h:t=a\/∃x y,t=f x y)(h0:P a)(h1:∀x y,P (f x y)):P t:=h.elim (λe=>rwG e h0) λk=>k.elim λx k=>k.elim λy e=>rwG e (h1 x y)
set_option genInjectivity true in
inductive D where
 |none
 |bool (b:Bool)
 |int (i:Int)
 |str (s:Str)
 |tup (l:List D)
 |lst (l:List D)
 |rng (lo hi:Int)
 |opq (v:VQ)
 deriving Inhabited
noncomputable def BN:D->Option Bool | .bool b=>some b |_=>none
noncomputable def un:D->Option Int | .int b=>some b |_=>none
noncomputable def BM:D->Option Str | .str b=>some b |_=>none
theorem gx {d:D}{b:Bool}(h:BN d=some b):d=.bool b:=by cases d<;>first |exact bg h |exact congrArg _ (WS h)
theorem dR {d:D}{b:Int}(h:un d=some b):d=.int b:=by cases d<;>first |exact bg h |exact congrArg _ (WS h)
theorem eH {d:D}{b:Str}(h:BM d=some b):d=.str b:=by cases d<;>first |exact bg h |exact congrArg _ (WS h)
noncomputable def gd {α:Type}(b:Bool)(x:Option α):Option α:=match b with |true=>x |false=>none
theorem ip {α:Type}{b:Bool}{x:Option α}{y:α}{G:Prop}(h:gd b x=some y)(k:b=true->x=some y->G):G:=by
 induction b with
 |true=>exact k rfl h
 |false=>exact bg h
noncomputable def a_ {α:Type}(x y:α):Bool->α |true=>x |false=>y
theorem dS {α β:Type}{o:Option α}{f:α->Option β}{a:α}(h:o=some a):o.bind f=f a:=by rw[h];rfl
theorem LH {α β:Type}{o:Option α}{f:α->Option β}(h:o=none):o.bind f=none:=by rw[h];rfl
theorem w6 {α β:Type}{o:Option α}{f:α->β}{a:α}(h:o=some a):o.map f=some (f a):=by rw[h];rfl
theorem Pq {β:Type}{o:Option D}{f:Bool->Option β}{b:Bool}(h:o=some (.bool b)):(o.bind BN).bind f=f b:=by rw[h];rfl
theorem lx {α:Type}{b:Bool}{x y:Option α}(h:b=true)(k:x=y):gd b x=y:=by rw[h];exact k
theorem S2 {α:Type}{b:Bool}{x:Option α}(k:x=none):gd b x=none:=by induction b<;>first |exact k |rfl
noncomputable def Ps:D->Option (List D) | .lst b=>some b |_=>none
theorem um {d:D}{b:List D}(h:Ps d=some b):d=.lst b:=by cases d<;>first |exact bg h |exact congrArg _ (WS h)
noncomputable def ET:D->Option (List D) | .tup b=>some b |_=>none
theorem mG {d:D}{b:List D}(h:ET d=some b):d=.tup b:=by cases d<;>first |exact bg h |exact congrArg _ (WS h)
noncomputable abbrev Fz:=V4->Option Xi
noncomputable def Fz.le (F G:Fz):Prop:=∀a o,F a=some o->G a=some o
theorem Fz.le_refl (F:Fz):F.le F:=λ_ _ h=>h
theorem Fz.le_trans {F G H:Fz}(a:F.le G)(b:G.le H):F.le H:=λ_ _ h=>b _ _ (a _ _ h)
noncomputable def Fz.set (F:Fz)(a:V4)(o:Xi):Fz:=λb=>if b=a then some o else F b
theorem Fz.set_self (F:Fz)(a:V4)(o:Xi):F.set a o a=some o:=if_pos rfl
theorem Fz.set_ne (F:Fz){a b:V4}(o:Xi)(h:b≠a):F.set a o b=F b:=if_neg h
theorem Fz.le_set {F:Fz}{a:V4}{o:Xi}(h:F a=.none\/F a=some o):F.le (F.set a o):=λb p e=>by
 by_cases q:b=a
 ·subst q
  rcases h with h |h
  ·exact bo h e
  ·rw[F.set_self];rw[h]at e;exact e
 ·rw[F.set_ne o q];exact e
noncomputable def wV (lo hi:Int)(t u v:Tok):Xi:={ cls:=.type "range",dict:=Option.none,data:=.fields #[.int lo t,.int hi u,.int 1 v],slots:=#[] }
noncomputable def cN (i:Int):Bool:=decide (-1000000<=i)&&decide (i<=1000000)
mutual
inductive aj (F:Fz):VQ->D->Prop
 |none:aj F .none .none
 |bool (b):aj F (.bool b) (.bool b)
 |int (i t):aj F (.int i t) (.int i)
 |str (s t):WP s=true->s.length<=1000000->aj F (.str s t) (.str s)
 |tup {a o vs n l}:F a=some o->o.cls=.type "tuple" -> o.data=.seq vs n->l.length<=1000000->al F vs.toList l->aj F (.ref a) (.tup l)
 |lst {a o vs n l}:F a=some o->o.cls=.type "list" -> o.data=.seq vs n->l.length<=1000000->al F vs.toList l->aj F (.ref a) (.lst l)
 |rng {a lo hi t u v}:F a=some (wV lo hi t u v)->(cN lo&&cN hi)=true->aj F (.ref a) (.rng lo hi)
 |opq (v):aj F v (.opq v)
inductive al (F:Fz):List VQ->List D->Prop
 |nil:al F [] []
 |cons {v d vs ds}:aj F v d->al F vs ds->al F (v::vs) (d::ds)
end
@[elab_as_elim] theorem Bt {P:Nat->Prop}(h0:P 0)(h1:P 1)(h2:P 2)(h3:P 3)(h4:P 4)(h5:P 5)(h6:P 6)(h7:P 7)(h8:P 8)(k:Nat)(hk:k<9):P k:=by
 rcases k with _ |_ |_ |_ |_ |_ |_ |_ |_ |k
 ·exact h0
 ·exact h1
 ·exact h2
 ·exact h3
 ·exact h4
 ·exact h5
 ·exact h6
 ·exact h7
 ·exact h8
 ·exact absurd hk (Nat.not_lt_of_le (Nat.le_add_left 9 k))
theorem cJ {α β:Type}{a c:α}{b d:β}(h:some (a,b)=some (c,d)):a=c/\b=d:=by cases h;exact⟨rfl,rfl⟩
noncomputable def RY (F:Fz)(v:VQ):D->Prop
 | .none=>v=.none
 | .bool b=>v=.bool b
 | .int i=>∃t,v=.int i t
 | .str x=>∃t,v=.str x t/\WP x=true/\x.length<=1000000
 | .tup l=>∃a o vs n,v=.ref a/\F a=some o/\o.cls=.type "tuple" /\ o.data=.seq vs n/\l.length<=1000000/\al F vs.toList l
 | .lst l=>∃a o vs n,v=.ref a/\F a=some o/\o.cls=.type "list" /\ o.data=.seq vs n/\l.length<=1000000/\al F vs.toList l
 | .rng lo hi=>∃a t u x,v=.ref a/\F a=some (wV lo hi t u x)/\(cN lo&&cN hi)=true
 | .opq u=>v=u
theorem aj.inv {F:Fz}{v:VQ}{d:D}(h:aj F v d):RY F v d:=by
 delta F v d;intro h;cases h with
 |none=>rfl
 |bool=>rfl
 |int i t=>exact⟨t,rfl⟩
 |str x t k z=>exact⟨t,rfl,k,z⟩
 |tup a b c z r=>exact⟨_,_,_,_,rfl,a,b,c,z,r⟩
 |lst a b c z r=>exact⟨_,_,_,_,rfl,a,b,c,z,r⟩
 |rng a z=>exact⟨_,_,_,_,rfl,a,z⟩
 |opq=>rfl
theorem aj.int_inv {F:Fz}{v:VQ}{i:Int}(h:aj F v (.int i)):∃t,v=.int i t:=h.inv
theorem aj.str3 {F:Fz}{v:VQ}{x:Str}(h:aj F v (.str x)):∃t,v=.str x t/\WP x=true/\x.length<=1000000:=h.inv
theorem aj.str_inv {F:Fz}{v:VQ}{x:Str}(h:aj F v (.str x)):∃t,v=.str x t:=h.str3.imp λ_ z=>z.1
theorem aj.bool_inv {F:Fz}{v:VQ}{b:Bool}(h:aj F v (.bool b)):v=.bool b:=h.inv
theorem aj.none_inv {F:Fz}{v:VQ}(h:aj F v .none):v=.none:=h.inv
theorem aj.opq_inv {F:Fz}{v u:VQ}(h:aj F v (.opq u)):v=u:=h.inv
theorem aj.tup_inv {F:Fz}{v:VQ}{l:List D}(h:aj F v (.tup l)):∃a o vs n,v=.ref a/\F a=some o/\o.cls=.type "tuple" /\ o.data=.seq vs n/\l.length<=1000000/\al F vs.toList l:=h.inv
theorem aj.lst_inv {F:Fz}{v:VQ}{l:List D}(h:aj F v (.lst l)):∃a o vs n,v=.ref a/\F a=some o/\o.cls=.type "list" /\ o.data=.seq vs n/\l.length<=1000000/\al F vs.toList l:=h.inv
theorem aj.rng_inv {F:Fz}{v:VQ}{lo hi:Int}(h:aj F v (.rng lo hi)):∃a t u x,v=.ref a/\F a=some (wV lo hi t u x)/\(cN lo&&cN hi)=true:=h.inv
theorem al.nil_inv {F:Fz}{vs:List VQ}(h:al F vs []):vs=[]:=by cases h;rfl
theorem al.cons_inv {F:Fz}{vs:List VQ}{d:D}{ds:List D}(h:al F vs (d::ds)):∃v us,vs=v::us/\aj F v d/\al F us ds:=by cases h;exact⟨_,_,rfl,by assumption,by assumption⟩
theorem aj.mono {F G:Fz}(h:F.le G){v:VQ}{d:D}(H:aj F v d):aj G v d :=
 aj.rec (motive_1:=λv d _=>aj G v d) (motive_2:=λvs ds _=>al G vs ds) .none .bool .int .str (λa b c z _ r=>.tup (h _ _ a) b c z r) (λa b c z _ r=>.lst (h _ _ a) b c z r) (λa z=>.rng (h _ _ a) z) .opq .nil (λ_ _ a b=>.cons a b) H
theorem al.mono {F G:Fz}(h:F.le G){vs:List VQ}{ds:List D}(H:al F vs ds):al G vs ds:=by
 induction ds generalizing vs with
 |nil=>rw[H.nil_inv];exact .nil
 |cons d ds ih=>obtain⟨v,us,rfl,a,b⟩:=H.cons_inv;exact .cons (a.mono h) (ih b)
theorem al.length {F:Fz}{vs:List VQ}{ds:List D}(H:al F vs ds):vs.length=ds.length:=by
 induction ds generalizing vs with
 |nil=>rw[H.nil_inv];rfl
 |cons d ds ih=>obtain⟨v,us,rfl,_,b⟩:=H.cons_inv;exact congrArg Nat.succ (ih b)
theorem al.append {F:Fz}{vs ws:List VQ}{ds es:List D}(H:al F vs ds)(k:al F ws es):al F (vs++ws) (ds++es):=by
 induction ds generalizing vs with
 |nil=>rw[H.nil_inv];exact k
 |cons d ds ih=>obtain⟨v,us,rfl,a,b⟩:=H.cons_inv;exact .cons a (ih b)
theorem al.get {F:Fz}{vs:List VQ}{ds:List D}(H:al F vs ds)(i:Nat)(d:D)(e:ds[i]?=some d):∃v,vs[i]?=some v/\aj F v d:=by
 induction ds generalizing vs i with
 |nil=>exact bg e
 |cons d0 ds ih =>
  obtain⟨v,us,rfl,a,b⟩:=H.cons_inv;induction i with
  |zero=>exact⟨v,rfl,aJ e▸a⟩
  |succ i=>exact ih b i e
theorem al.drop {F:Fz}{vs:List VQ}{ds:List D}(H:al F vs ds)(n:Nat):al F (vs.drop n) (ds.drop n):=by
 induction ds generalizing vs n with
 |nil=>rw[H.nil_inv,List.drop_nil,List.drop_nil];exact .nil
 |cons d ds ih =>
  obtain⟨v,us,rfl,a,b⟩:=H.cons_inv;induction n with
  |zero=>exact .cons a b
  |succ n=>exact ih b n
theorem al.take {F:Fz}{vs:List VQ}{ds:List D}(H:al F vs ds)(n:Nat):al F (vs.take n) (ds.take n):=by
 induction ds generalizing vs n with
 |nil=>rw[H.nil_inv,List.take_nil,List.take_nil];exact .nil
 |cons d ds ih =>
  obtain⟨v,us,rfl,a,b⟩:=H.cons_inv;induction n with
  |zero=>exact .nil
  |succ n=>exact .cons a (ih b n)
noncomputable def qP (o:Xi):Prop:=∃ps,o=tabObj ps/\TriplesOk ps.toList
noncomputable def cV (h:Wb):Prop:=∃o,h.get? PL=some o/\qP o
theorem cV.keeps {h h':Wb}(t:cV h)(k:∀a o,h.get? a=some o->h'.get? a=some o):cV h':=t.imp λ_ z=>⟨k _ _ z.1,z.2⟩
theorem cV.neD {h:Wb}(t:cV h){a:V4}{o:Xi}(ho:h.get? a=some o)(hd:∀fs,o.data≠.fields fs):a≠PL:=by
 rintro rfl;obtain⟨o',e,ps,rfl,_⟩:=t;obtain rfl:=cG e ho;exact hd _ rfl
theorem cV.neC {h:Wb}(t:cV h){a:V4}{o:Xi}(ho:h.get? a=some o)(hd:o.cls≠.none):a≠PL:=by
 rintro rfl;obtain⟨o',e,ps,rfl,_⟩:=t;replace ho:=cG e ho;obtain rfl:=ho;exact hd rfl
theorem cV.ne0 {h:Wb}(t:cV h){a:V4}(ho:h.get? a=.none):a≠PL:=by
 rintro rfl;obtain⟨o',e,ps,_⟩:=t;exact bo ho e
theorem cV.but {h h':Wb}{a:V4}(t:cV h)(hs:WV a h h')(ha:a≠PL):cV h':=t.imp λ_ z=>⟨hs _ _ (W6 ha) z.1,z.2⟩
noncomputable abbrev RW (h h':Wb):Prop:=∀a o,h.get? a=some o->h'.get? a=some o
noncomputable def iM (h h':Wb):Prop:=∀o,h.get? PL=some o->∃o',h'.get? PL=some o'/\(qP o->qP o')
theorem iM.of {h h':Wb}(k:RW h h'):iM h h':=λo e=>⟨o,k _ _ e,id⟩
theorem iM.trans {h h' Ld:Wb}(a:iM h h')(b:iM h' Ld):iM h Ld:=λo e=>by
 obtain⟨o',Mz⟩:=a o e;obtain⟨TV,U5,k'⟩:=b o' Mz.1;exact⟨TV,U5,λq=>k' (Mz.2 q)⟩
theorem iM.but {h h':Wb}{a:V4}(e:WV a h h')(ha:a≠PL):iM h h':=λo q=>⟨o,e _ _ (W6 ha) q,id⟩
theorem iM.at {h h':Wb}(a:iM h h')(t:cV h):cV h':=by
 obtain⟨o,e,r⟩:=t;obtain⟨o',Mz⟩:=a o e;exact⟨o',Mz.1,Mz.2 r⟩
structure aA (F:Fz)(s:VP)(F':Fz)(s':VP):Prop where
 fle:F.le F'
 keep:∀a o,a≠PL->s.heap.get? a=some o->s'.heap.get? a=some o
 tab:iM s.heap s'.heap
 fz:∀a o,F' a=some o->s'.heap.get? a=some o
 fresh:∀a o,F' a=some o->F a=some o\/s.heap.get? a=.none
 gens:s'.gens=s.gens
 os:s'.os=s.os
theorem aA.refl {F:Fz}{s:VP}(h:∀a o,F a=some o->s.heap.get? a=some o):aA F s F s :=
 ⟨F.le_refl,λ_ _ _ h=>h,.of λ_ _ e=>e,h,λ_ _ h=>.inl h,rfl,rfl⟩
theorem aA.noneAt {F F':Fz}{s s':VP}(g:aA F s F' s'){a:V4}(h:s'.heap.get? a=.none):s.heap.get? a=.none:=by
 cases e:s.heap.get? a with
 |none=>rfl
 |some p =>
  by_cases hx:a=PL
  ·subst hx
   obtain⟨o',e',_⟩:=g.tab p e;exact bo h e'
  ·rw[g.keep a p hx e]at h;exact JS h
theorem aA.trans {F G H:Fz}{s t u:VP}(a:aA F s G t)(b:aA G t H u):aA F s H u :=
 ⟨Fz.le_trans a.fle b.fle,λx o n h=>b.keep x o n (a.keep x o n h),a.tab.trans b.tab,b.fz,λx o h=>(b.fresh x o h).elim (a.fresh x o) (λq=>.inr (a.noneAt q)),b.gens.trans a.gens,b.os.trans a.os⟩
theorem aA.keepD {F F':Fz}{s s':VP}(g:aA F s F' s')(t:cV s.heap){a:V4}{o:Xi}(ho:s.heap.get? a=some o)(hd:∀fs,o.data≠.fields fs):s'.heap.get? a=some o:=g.keep a o (t.neD ho hd) ho
theorem aA.keepC {F F':Fz}{s s':VP}(g:aA F s F' s')(t:cV s.heap){a:V4}{o:Xi}(ho:s.heap.get? a=some o)(hd:o.cls≠.none):s'.heap.get? a=some o:=g.keep a o (t.neC ho hd) ho
theorem aA.keepL {F F':Fz}{s s':VP}(g:aA F s F' s')(t:cV s.heap){a:V4}{o:Xi}(ho:s.heap.get? a=some o)(hc:o.cls=.type "list"):s'.heap.get? a=some o:=g.keepC t ho (by rw[hc];intro q;cases q)
theorem aA.ext {F F':Fz}{s s':VP}(g:aA F s F' s'):WV PL s.heap s'.heap:=λb o h e=>g.keep b o h e
theorem aA.toks {F:Fz}{s:VP}(h:∀a o,F a=some o->s.heap.get? a=some o)(n:Nat):aA F s F { s with toks:=n } :=
 ⟨F.le_refl,λ_ _ _ h=>h,.of λ_ _ e=>e,h,λ_ _ h=>.inl h,rfl,rfl⟩
theorem aA.push {F:Fz}{s:VP}(h:∀a o,F a=some o->s.heap.get? a=some o)(o:Xi)(n:Nat)(hf:o.isFreed=false:=by rfl) :
  aA F s (F.set s.heap.objs.size o) { s with heap:=s.heap.push o,toks:=n }:=by
 have hn:s.heap.get? s.heap.objs.size=.none:=by
  cases e:s.heap.get? s.heap.objs.size with
  |none=>rfl
  |some p=>exact absurd (Wy e) (X4 _)
 have hF:F s.heap.objs.size=.none:=by
  cases e:F s.heap.objs.size with
  |none=>rfl
  |some p=>have:=h _ _ e;exact bo hn this
 refine⟨Fz.le_set (.inl hF),λa p _ e=>V5 _ e,.of λa p e=>V5 _ e,λa p e=>?_,λa p e=>?_,rfl,rfl⟩
 ·by_cases q:a=s.heap.objs.size
  ·subst q;rw[F.set_self]at e;rw[<- (aJ e)];exact Wc _ hf
  ·rw[F.set_ne o q]at e;exact V5 _ (h _ _ e)
 ·by_cases q:a=s.heap.objs.size
  ·clear e;subst q;exact .inr hn
  ·rw[F.set_ne o q]at e;exact .inl e
theorem aA.push0 {F:Fz}{s:VP}(h:∀a o,F a=some o->s.heap.get? a=some o)(o:Xi)(n:Nat) :
  aA F s F { s with heap:=s.heap.push o,toks:=n } :=
 ⟨F.le_refl,λa p _ e=>V5 _ e,.of λa p e=>V5 _ e,λa p e=>V5 _ (h _ _ e),λ_ _ e=>.inl e,rfl,rfl⟩
theorem bu (h:Wb):h.get? h.objs.size=.none:=by
 delta h;cases e:h.get? h.objs.size with
 |none=>rfl
 |some p=>exact absurd (Wy e) (X4 _)
noncomputable def PY (t l:List D->Option Xu):D->Option Xu
 | .none=>some .none
 | .bool b=>some (.bool b)
 | .int i=>some (.int i)
 | .str s=>some (.str s)
 | .tup x=>t x
 | .lst x=>l x
 | .rng _ _=>Option.none
 | .opq _=>Option.none
noncomputable def D.toPy:Nat->D->Option Xu
 |0=>PY (λ_=>Option.none) (λ_=>Option.none)
 |n+1=>PY (λl=>(l.mapM (D.toPy n)).map .tuple) (λl=>(l.mapM (D.toPy n)).map .list)
theorem pS {α β:Type}{f:α->Option β}{x:α}{l:List α}{r:List β}(h:(x::l).mapM f=some r):∃b bs,f x=some b/\l.mapM f=some bs/\r=b::bs:=by
 rw[List.mapM_cons]at h
 cases h1:f x with
 |none=>rw[h1]at h;exact bg h
 |some b =>
  rw[h1]at h
  cases h2:l.mapM f with
  |none=>rw[h2]at h;exact bg h
  |some bs=>rw[h2]at h;replace h:=aJ h;obtain rfl:=h;exact⟨b,bs,rfl,rfl,rfl⟩
noncomputable def Rd (h:Wb)(n:Nat)(v:VQ)(p:Xu):Prop:=(∃as,Reads h v p as)/\p.canLay0=true/\p.depth<=n
theorem rN {F:Fz}{h:Wb}{n:Nat}{t l:List D->Option Xu}(ht:∀x v p,aj F v (.tup x)->t x=some p->Rd h n v p)(hl:∀x v p,aj F v (.lst x)->l x=some p->Rd h n v p){d:D}{v:VQ}{p:Xu}(H:aj F v d)(e:PY t l d=some p):Rd h n v p:=by
 cases H with
 |none=>replace e:=aJ e;obtain rfl:=e;exact⟨⟨_,.none⟩,rfl,W7 _⟩
 |bool b=>replace e:=aJ e;obtain rfl:=e;exact⟨⟨_,.bool _⟩,rfl,W7 _⟩
 |int i=>replace e:=aJ e;obtain rfl:=e;exact⟨⟨_,.int _ _⟩,rfl,W7 _⟩
 |str x t k=>replace e:=aJ e;obtain rfl:=e;exact⟨⟨_,.str _ _⟩,k,W7 _⟩
 |tup a b c z r=>exact ht _ _ _ (.tup a b c z r) e
 |lst a b c z r=>exact hl _ _ _ (.lst a b c z r) e
 |rng=>exact bg e
 |opq=>exact bg e
theorem rO {F:Fz}{h:Wb}{n:Nat}(ih:∀(d:D) (v:VQ) (p:Xu),aj F v d->d.toPy n=some p->Rd h n v p)(l:List D):∀(vs:List VQ) (ps:List Xu),al F vs l->l.mapM (D.toPy n)=some ps ->(∃as,ReadsAll h vs ps as)/\Xu.canLayAll0 ps=true/\Xu.depthAll ps<=n:=by
 induction l with
 |nil =>
  intro vs ps H e;obtain rfl:=H.nil_inv;obtain rfl:=aJ e;exact⟨⟨_,.nil⟩,rfl,W7 _⟩
 |cons d l hi =>
  intro vs ps H e;obtain⟨v,us,rfl,hd,hl⟩:=H.cons_inv;obtain⟨b,bs,e1,e2,rfl⟩:=pS e;obtain⟨⟨as,r1⟩,c1,d1⟩:=ih d _ b hd e1;obtain⟨⟨bs',r2⟩,c2,d2⟩:=hi _ bs hl e2;exact⟨⟨_,.cons r1 r2⟩,VU.mpr ⟨c1,c2⟩,Nat.max_le.mpr ⟨d1,d2⟩⟩
theorem fR {F:Fz}{h:Wb}(hF:∀a o,F a=some o->h.get? a=some o)(n:Nat):∀(d:D) (v:VQ) (p:Xu),aj F v d->d.toPy n=some p->Rd h n v p:=by
 induction n with
 |zero=>exact λd v p H e=>rN (λ_ _ _ _ e=>bg e) (λ_ _ _ _ e=>bg e) H e
 |succ n ih =>
  refine λd v p H e=>rN (λx v p H e=>?_) (λx v p H e=>?_) H e
  ·refine gt e λps e1 e2=>?_
   subst e2;obtain⟨a,o,vs,k,rfl,q,b,c,_,r⟩:=H.tup_inv;obtain⟨⟨as,r1⟩,c1,d1⟩:=rO ih x _ ps r e1;exact⟨⟨_,.tuple (hF _ _ q) b c r1⟩,c1,XB d1⟩
  ·refine gt e λps e1 e2=>?_
   subst e2;obtain⟨a,o,vs,k,rfl,q,b,c,_,r⟩:=H.lst_inv;obtain⟨⟨as,r1⟩,c1,d1⟩:=rO ih x _ ps r e1;exact⟨⟨_,.list (hF _ _ q) b c r1⟩,c1,XB d1⟩
noncomputable def hE (a:V4):Xi:={ cls:=.type "builtin_function_or_method",data:=.fields #[.builtin "list.append",.ref a] }
theorem jG:Slot "method_descriptor" "__get__" "method_descriptor.__get__" :=
 .of (owner:= "method_descriptor") (n:= "__get__") (by rw[W9,WG];kernel_rfl) (by decide +kernel) (by decide +kernel) (by decide +kernel)
  (by first |exact .inl (by decide +kernel) |exact .inr (by decide +kernel)) (by rw[XK];kernel_rfl)
theorem Kb:typeLookup (.type "method_descriptor") "__set__" = pure none:=by rw[W9,WG];kernel_rfl
theorem Kc:typeLookup (.type "method_descriptor") "__delete__" = pure none:=by rw[W9,WG];kernel_rfl
theorem uh:entryFor table "method_descriptor.__get__" = some Builtin.«method_descriptor.__get__»:=entryFor_of_tree nofun
theorem wq (a b c:VQ):argsOk "method_descriptor.__get__" ⟨[a,b,c],[]⟩:=by unfold argsOk;kernel_rfl
theorem Ay:typeLookup (.type "list") "append" = pure (some (.builtin "list.append")):=by rw[W9,WG];kernel_rfl
theorem im:typeOf (.builtin "list.append")=pure (.type "method_descriptor"):=by kernel_rfl
theorem uJ:Manifest.toldItsClass.contains "list.append" = false:=by decide +kernel
theorem tq:(".".intercalate ("list.append".cutAt '.').dropLast)= "list" :=by
 have e0: "list.append".cutAt '.'=["list", "append"]:=by first |rfl |decide +kernel
 rw[e0];decide +kernel
theorem wT:Manifest.signature? "list.append" = some ⟨.oneArg, "list.append", "append",.self,[⟨"object",.posOnly,true⟩]⟩:=by kernel_rfl
theorem vt:builtinKind "list.append" = some .method:=by kernel_rfl
theorem oa:isSubtype (.type "list") (.type "module")=pure false:=by rw[XK];kernel_rfl
theorem vR:s!"{Bind.lastOf "list"}.{Bind.lastOf "list.append"}" = "list.append" :=by decide +kernel
theorem uj (a b:VQ):Bind.checkArgs "list.append" { (⟨.oneArg, "list.append", "append",.self,[⟨"object",.posOnly,true⟩]⟩:Manifest.Signature)with full:=s!"{Bind.lastOf "list"}.{Bind.lastOf "list.append"}" } ⟨[a,b],[]⟩=pure ():=by
 rw[vR];kernel_rfl
theorem mN:isSubtype (.type "list") (.type (".".intercalate ("list.append".cutAt '.').dropLast))=pure true:=by
 rw[tq,XK];kernel_rfl
section
variable {ab:V8}{w:Wi}{A:V7}{E:VQ->VP->Prop}{h:Wb}{g:Array GenState}{d:Drawn}{t:Nat}{os:OsState}{a:V4}{o:Xi}{sl:Array (Option VQ)}
theorem x8 {R:Result->VP->Prop}(hx:h.get? a=some o)(hc:o.cls=.type "list")(hq:R (.ok (.ret (.ref h.objs.size))) ⟨h.push (hE a),g,d,t,os⟩) :
  codeAny (model ab w) A (.call (.builtin "method_descriptor.__get__") ⟨[.builtin "list.append",.ref a,.type "list"],[]⟩) R ⟨h,g,d,t,os⟩:=by
 delta ab w A h g d t os a o R;intro hx hc hq;have hT:(⟨h,g,d,t,os⟩:VP).TypeIs (.ref a) "list" :=⟨_,hx,hc⟩;have SS:(⟨h,g,d,t,os⟩:VP).TypeIs (.builtin "list.append") "method_descriptor" :=im;have f8:=mN;have f9:=uJ;refine XM jG.plain uh (jG.check _ _ _ _ _ _ _ _ SS (wq _ _ _) ?_);iterate 14 (any_goals wp_step)
 refine VO ?_;wp_delta
 refine VR ?_;dsimp only;refine VO (Yv hT f8 ?_);rw[if_neg ⋯];refine VR ?_;refine VO (Xv (VR ?_) (by size_fits));exact hq
theorem x7 {xs:Array VQ}{n:Nat}{Q:Builtin.ObjectAttr.Found->VP->Prop}(hx:h.get? a=some ⟨.type "list",none,.seq xs n,sl⟩)(hq:Q (.bind (.builtin "method_descriptor.__get__") (.builtin "list.append")) ⟨h,g,d,t,os⟩) :
  wpAny (model ab w) A (Builtin.ObjectAttr.ownThenClass (.ref a) (VN "append") (some (.builtin "list.append")) (some (.builtin "method_descriptor.__get__"))) Q E ⟨h,g,d,t,os⟩:=by
 unfold Builtin.ObjectAttr.ownThenClass;refine VO (m:=Builtin.ObjectAttr.inOwnDict (VN "append") (.ref a)) ?_;unfold Builtin.ObjectAttr.inOwnDict;refine VO (m:=Builtin.ObjectAttr.ownDict a) ?_;unfold Builtin.ObjectAttr.ownDict;refine VO (m:=loadHead a) (wpAny_loadPart (s:=⟨h,g,d,t,os⟩) hx ?_);dsimp only;unfold instanceDict;refine VO (wpAny_loadPart (s:=⟨h,g,d,t,os⟩) hx ?_);dsimp only;refine VR (VR ?_);dsimp only;refine VO (m:=YU (VN "append") (.ref a)) ?_;unfold YU;dsimp only;rw[if_neg (by decide +kernel)];refine VR ?_;unfold Builtin.ObjectAttr.byTheClass;exact VO (YV (VR hq))
theorem ww {xs:Array VQ}{n:Nat}{tk:Tok}{R:Result->VP->Prop}(hx:h.get? a=some ⟨.type "list",none,.seq xs n,sl⟩)(hq:R (.ok (.ret (.ref h.objs.size))) ⟨h.push (hE a),g,d,t,os⟩) :
  codeAny (model ab w) A (.call (.builtin "list.__getattribute__") ⟨[.ref a,.str "append" tk],[]⟩) R ⟨h,g,d,t,os⟩:=by
 delta ab w A h g d t os a sl xs n tk R;intro hx hq;have hT:(⟨h,g,d,t,os⟩:VP).TypeIs (.ref a) "list" :=⟨_,hx,rfl⟩;have SS:(⟨h,g,d,t,os⟩:VP).TypeIs (.builtin "list.append") "method_descriptor" :=im;have f4:=Ay;have f5:=im;have f6:=jG.lookup;have f7:=Kb;have f8:=Kc;refine XM Ym.plain F.entry_list_ga (Ym.check _ _ _ _ _ _ _ _ hT (F.args_list_getattribute_2 _ _) ?_);iterate 30 (any_goals wp_step)
 refine x7 hx ?_;dsimp only;unfold Builtin.ObjectAttr.bindTo;dsimp only;refine VO (m:=holding _ _) (Wq (XC (x8 hx rfl ?_)));exact VR hq
theorem Bs {xs:Array VQ}{n:Nat}{tk:Tok}{Q:VQ->VP->Prop}(hx:h.get? a=some ⟨.type "list",none,.seq xs n,sl⟩)(hq:Q (.ref h.objs.size) ⟨h.push (hE a),g,d,t,os⟩) :
  wpAny (model ab w) A (getAttrBy (.ref a) (.str "append" tk) true true) Q E ⟨h,g,d,t,os⟩:=by
 have hT:(⟨h,g,d,t,os⟩:VP).TypeIs (.ref a) "list" :=⟨_,hx,rfl⟩;have f2:=Ym.lookup;have f3:=Ym.bind (.ref a);iterate 16 (any_goals wp_step)
 rw[if_neg ⋯];unfold boundAndCalled;refine VO (WC f3 ?_);dsimp only;refine XC (ww hx ?_);exact VR hq
theorem wx {s:VP}{xs:Array VQ}{n:Nat}{Q:VQ->VP->Prop}(hx:s.heap.get? a=some ⟨.type "list",none,.seq xs n,sl⟩)(hq:Q (.ref s.heap.objs.size) { s with heap:=s.heap.push (hE a),toks:=s.toks+1 }) :
  wpAny (model ab w) A (getAttr (.ref a) "append" true) Q E s:=by
 obtain⟨h,g,d,t,os⟩:=s;unfold getAttr;refine VO (m:=mkText "append") ?_;exact wpAny_mkText (Bs hx hq)
theorem wv {s:VP}{R:Result->VP->Prop}{l:V4}{items:Array VQ}{n:Nat}{x:VQ}(hl:s.heap.get? l=some ⟨.type "list",none,.seq items n,sl⟩)(hsz:items.size<=sizeLine)
  (hQ:∀h' n',h'.get? l=some ⟨.type "list",none,.seq (items.push x) n',sl⟩->Ws l s.heap h'->R (.ok (.ret .none)) { s with heap:=h' }):codeAny (model ab w) A (.builtin "list.append" ⟨[.ref l,x],[]⟩) R s:=by
 refine YI entry_list_append ?_;show wpAny _ _ (updateSeq l (·.push x) >>=λ_=>ret .none) _ _ s;refine VO (wpAny_updateSeq hl rfl (VR ?_));exact hQ _ _ (XA _ hl rfl) (Wx ..)
theorem uo {s:VP}{Q:VQ->VP->Prop}{b l:V4}{items:Array VQ}{n:Nat}{x:VQ}(hb:s.heap.get? b=some (hE l))(hl:s.heap.get? l=some ⟨.type "list",none,.seq items n,sl⟩)(hsz:items.size<=sizeLine)
  (hQ:∀h' n',h'.get? l=some ⟨.type "list",none,.seq (items.push x) n',sl⟩->Ws l s.heap h'->Q .none { s with heap:=h' }):wpAny (model ab w) A (call (.ref b) [x]) Q E s:=by
 revert hb hl hsz hQ;delta ab w A E sl s Q b l items n x;intro hb hl hsz hQ;refine XC (Yc ?_);show wpAny _ A.in1 (callAny (.ref b) _) _ _ s;refine VO (m:=load b) (wpAny_load hb ?_);unfold hE;dsimp only;rw[if_pos ⋯];show wpAny _ _ (checkBoundCall "list.append" ⟨[.ref l,x],[]⟩ >>=λ_=>again (.builtin "list.append" ⟨[.ref l,x],[]⟩)) _ _ s;have hT:s.TypeIs (.ref l) "list" :=⟨_,hl,rfl⟩;refine VO ?_;unfold checkBoundCall;rw[wT,vt];dsimp only;rw[if_neg ⋯];refine VO (Yv hT oa ?_);rw[if_neg (by decide +kernel)];refine VO (m:=isType (.ref l)) ?_;unfold isType;refine VO (m:=loadHead l) (wpAny_loadPart hl ?_);dsimp only;refine VR ?_;refine VO (wpAny_typeOf hT ?_);dsimp only;refine WC (uj _ _) ?_;exact VR ⟨Code.quiet_builtin _ (by decide +kernel),wv hl hsz hQ⟩
end
theorem xa (l b:V4)(items fB:Array VQ)(n n2:Nat)(dd EC:Option V4)(sl Ce:Array (Option VQ))(QN:(!items.isEmpty&&Y9 (items.size+fB.size))=false)(BC:items.size<=sizeLine)(Fk:items.size+fB.size<=sizeLine+1) :
  Meets (Builtin.«list.__iadd__» ⟨[.ref l,.ref b],[]⟩) (λ_ R s=>s.heap.get? l=some { cls:=.type "list",dict:=dd,data:=.seq items n,slots:=sl }/\s.heap.get? b=some { cls:=.type "list",dict:=EC,data:=.seq fB n2,slots:=Ce }/\R (.ok (.ret (Xg l))) { s with heap:=s.heap.update l (Xi.mapSeq λx=>x++fB),toks:=s.toks }) :=
 .of_wp λab w A R s h=>by
  revert QN BC Fk h;delta l b items fB n n2 dd EC sl Ce ab w A R s;intro QN BC Fk h;obtain⟨hp,g,d,tk,os⟩:=s;delta hp g d tk os;intro h;obtain⟨hl,hb,h⟩:=h;have f1:=AutoSeq1.idx_int;have f2:=AutoSeq1.sub_tuple_tuple;have f3:=AutoSeq1.sub_list_list;have f4:=AutoSeq1.sub_tuple_list;have f5:=AutoSeq1.sub_list_tuple;
  have Mb:(items++fB).size<=sizeLine+1:=by rw[Array.size_append];exact Fk
  have Up:¬(!items.isEmpty&&Y9 (items.size+fB.size))=true:=by rw[QN];decide
  wp_walk using(wpAny_updateSeq hl rfl (hz:=BC) (_hz':=Mb)),wpAny_loadPart' hl,wpAny_loadPart' hb;exact⟨_,rfl,h⟩
section
variable {ab:V8}{w:Wi}{A:V7}{E:VQ->VP->Prop}{s:VP}{Q:VQ->VP->Prop}
theorem q9:seqSlot? (.type "list") (dunderI "add")=pure (some (.builtin "list.__iadd__")):=PySem.seqSlot_of PySem.F.slot_list_iadd.lookup (by decide +kernel)
theorem Az {l b:V4}{items fB:Array VQ}{n n2:Nat}{dd EC:Option V4}{sl Ce:Array (Option VQ)}(hl:s.heap.get? l=some { cls:=.type "list",dict:=dd,data:=.seq items n,slots:=sl })
  (hb:s.heap.get? b=some { cls:=.type "list",dict:=EC,data:=.seq fB n2,slots:=Ce }) (hz:items.size+fB.size<=1000000)
  (h:∀h' n',h'.get? l=some { cls:=.type "list",dict:=dd,data:=.seq (items++fB) n',slots:=sl }->Ws l s.heap h'->Q (.ref l) { s with heap:=h' }) :
  wpAny (model ab w) A (inplaceOp .Add (.ref l) (.ref b)) Q E s:=by
 revert hl hb hz h;delta ab w A E s Q l b items fB n n2 dd EC sl Ce;intro hl hb hz h;have ha:s.TypeIs (.ref l) "list" :=⟨_,hl,rfl⟩;have gn:s.TypeIs (.ref b) "list" :=⟨_,hb,rfl⟩;have hk:=PySem.F.slot_list_iadd.lookup;refine Wq ?_;have UL:fillsInplaceSlot (.type "list") "add" (YW.Add==.Add)=pure false:=by
  skip;rfl
 refine VO (wpAny_typeOf ha (VO (WC UL ?_)));refine VO (wpAny_binaryOp1_none (nm:= "add") ha gn noFill_list_add ?_);refine VO (WC q9 ?_);refine VO (YV ?_);refine call_meets PySem.F.slot_list_iadd ha PySem.F.entry_list_iadd (PySem.F.args_list_iadd_2 _ _) (xa l b items fB n n2 dd EC sl Ce ?_ ?_ ?_) ⟨hl,hb,?_⟩
 ·unfold Y9
  simp;intro _;rw[show sizeLine=16777216 from rfl];lia
 ·rw[show sizeLine=16777216 from rfl];lia
 ·rw[show sizeLine=16777216 from rfl];lia
 ·exact h _ _ (XA _ hl rfl) (Wx ..)
end
structure Am (A:V7)(F:Fz)(s:VP):Prop where
 fz:∀a o,F a=some o->s.heap.get? a=some o
 tab:cV s.heap
 pl:F PL=.none
 hh:A.handled=none
 hu:A.units<=9000
theorem Am.grow {A:V7}{F F':Fz}{s s':VP}(am:Am A F s)(g:aA F s F' s'):Am A F' s':=⟨g.fz,g.tab.at am.tab,by
 cases e:F' PL with
 |none=>rfl
 |some o =>
  rcases g.fresh _ _ e with q |q
  ·rw[am.pl]at q;exact bg q
  ·exact absurd rfl (am.tab.ne0 q),am.hh,am.hu⟩
noncomputable abbrev Rt (F:Fz)(s:VP)(d:D)(Q:VQ->VP->Prop):Prop:=∀v F' s',aA F s F' s'->aj F' v d->Q v s'
theorem Rt.val {F:Fz}{s:VP}{d:D}{Q:VQ->VP->Prop}{A:V7}(h:Rt F s d Q)(am:Am A F s){v:VQ}(hv:aj F v d)(n:Nat):Q v { s with toks:=n } :=
 h _ _ _ (aA.toks am.fz n) hv
theorem Rt.here {F:Fz}{s:VP}{d:D}{Q:VQ->VP->Prop}{A:V7}(h:Rt F s d Q)(am:Am A F s){v:VQ}(hv:aj F v d):Q v s :=
 h _ _ _ (aA.refl am.fz) hv
theorem Rt.push {F:Fz}{s:VP}{d:D}{Q:VQ->VP->Prop}{A:V7}(h:Rt F s d Q)(am:Am A F s)(o:Xi)(n:Nat)(hv:aj (F.set s.heap.objs.size o) (.ref s.heap.objs.size) d)
  (hf:o.isFreed=false:=by rfl):Q (.ref s.heap.objs.size) { s with heap:=s.heap.push o,toks:=n } :=
 h _ _ _ (aA.push am.fz o n hf) hv
theorem Rt.tup {F:Fz}{s:VP}{l:List D}{Q:VQ->VP->Prop}{A:V7}(h:Rt F s (.tup l) Q)(am:Am A F s){vs:Array VQ}(n:Nat)(hv:al F vs.toList l)(hz:l.length<=1000000) :
  Q (.ref s.heap.objs.size) { s with heap:=s.heap.push { cls:=.type "tuple",data:=.seq vs },toks:=n } :=
 h.push am _ n (.tup (F.set_self _ _) rfl rfl hz (hv.mono (Fz.le_set (.inl (by
  cases e:F s.heap.objs.size with
  |none=>rfl
  |some p=>have:=am.fz _ _ e;rw[bu]at this;exact bg this)))))
theorem Rt.lst {F:Fz}{s:VP}{l:List D}{Q:VQ->VP->Prop}{A:V7}(h:Rt F s (.lst l) Q)(am:Am A F s){vs:Array VQ}(n:Nat)(hv:al F vs.toList l)(hz:l.length<=1000000) :
  Q (.ref s.heap.objs.size) { s with heap:=s.heap.push { cls:=.type "list",data:=.seq vs },toks:=n } :=
 h.push am _ n (.lst (F.set_self _ _) rfl rfl hz (hv.mono (Fz.le_set (.inl (by
  cases e:F s.heap.objs.size with
  |none=>rfl
  |some p=>have:=am.fz _ _ e;rw[bu]at this;exact bg this)))))
theorem du:sizeLine=16777216:=rfl
theorem aj.isTup {F:Fz}{h:Wb}(hF:∀a o,F a=some o->h.get? a=some o){v:VQ}{l:List D}(H:aj F v (.tup l)):∃a vs,v=.ref a/\IsTup h a vs/\al F vs.toList l/\l.length<=1000000/\vs.size=l.length:=by
 revert hF H;delta F h v l;intro hF H;obtain⟨_,_,_,_,rfl,a,b,c,z,r⟩:=H.tup_inv;exact⟨_,_,rfl,⟨_,hF _ _ a,b,_,c⟩,r,z,by rw[<- r.length];rfl⟩
theorem aj.isLst {F:Fz}{h:Wb}(hF:∀a o,F a=some o->h.get? a=some o){v:VQ}{l:List D}(H:aj F v (.lst l)):∃a vs,v=.ref a/\h.IsList a vs/\al F vs.toList l/\l.length<=1000000/\vs.size=l.length:=by
 revert hF H;delta F h v l;intro hF H;obtain⟨_,_,_,_,rfl,a,b,c,z,r⟩:=H.lst_inv;exact⟨_,_,rfl,⟨_,hF _ _ a,b,_,c⟩,r,z,by rw[<- r.length];rfl⟩
section
variable {ab:V8}{w:Wi}{A:V7}{E:VQ->VP->Prop}{s:VP}{F:Fz}{Q:VQ->VP->Prop}
noncomputable def J6 (a b:Int):Option D :=
 if(a=9\/a=10)/\0<=b/\b<=9 then some (.int (a ^ b.toNat))else none
theorem jr {α:Type}{c:Prop}{i:Decidable c}{x:Option α}{y:α}{G:Prop}(h:(if c then x else none)=some y)(k:c->x=some y->G):G:=by
 by_cases q:c
 ·rw[if_pos q]at h;exact k q h
 ·rw[if_neg q]at h;exact bg h
noncomputable def Hx (k:Int->Int->Option D)(a b:D):Option D:=(un a).bind λa=>(un b).bind λb=>k a b
theorem KL {k:Int->Int->Option D}{a b d:D}{F:Fz}{va vb:VQ}{G:Prop}(ha:aj F va a)(hb:aj F vb b)(e:Hx k a b=some d)(g:∀i j t u,va=.int i t->vb=.int j u->k i j=some d->G):G :=
 bt e λi e1 e=>bt e λj e2 e=>by
  cases dR e1
  cases dR e2;obtain⟨t,e1⟩:=ha.int_inv;obtain⟨u,e2⟩:=hb.int_inv;exact g i j t u e1 e2 e
noncomputable def Jp:List D->List D->Option (List D)
 |[],_=>none
 |a::x,r=>match r with |[]=>none |b::y=>if x.length+y.length<=99999 then some (a::x++b::y)else none
noncomputable def Oz (a b:D):Option D:=match a with
 | .int a=>(un b).map λb=>.int (a+b)
 | .str x=>(BM b).bind λy=>if x.length+y.length<=1000000 then some (.str (x++y))else none
 | .lst x=>(Ps b).bind λy=>if x.length+y.length<=1000000 then some (.lst (x++y))else none
 | .tup x=>(ET b).bind λy=>(Jp x y).map .tup
 |_=>none
noncomputable def LI (op:YW)(a b:D):Option D:=match op with
 | .Add=>Oz a b
 | .Sub=>Hx (λa b=>some (.int (a - b))) a b
 | .FloorDiv=>Hx (λa b=>if 0<b/\b<1000000000 then some (.int (a.fdiv b))else none) a b
 | .Mod=>Hx (λa b=>if 0<b then some (.int (a.fmod b))else none) a b
 | .Pow=>Hx J6 a b
 |_=>none
theorem eW {x y:Str}(hx:WP x=true)(hy:WP y=true):WP (x++y)=true:=by
 unfold WP at *;rw[Array.all_append,hx,hy];rfl
theorem bK (x y:Str):(x++y).length=x.length+y.length:=by
 show(x.cps++y.cps).size=_;rw[Array.size_append];rfl
theorem FZ {a b:Int}{t u:Tok}{d:D}(am:Am A F s)(e:J6 a b=some d)(h:Rt F s d Q):wpAny (model ab w) A (binaryOp .Pow (.int a t) (.int b u)) Q E s:=by
 revert am e h;delta ab w A E s F Q a b t u d;intro am e h;unfold J6 at e;split at e
 ·rename_i c
  obtain rfl:=aJ e;obtain⟨ha,h0,h1⟩:=c;refine AutoIntOpsIf.pow ?_;rw[if_pos (by omega)];by_cases hb:b=0
  ·clear h0 h1;subst hb
   have:a ^ (0:Int).toNat=1:=by rcases ha with rfl |rfl<;>decide
   rw[this]at h;exact h.val am (.int _ _) _
  ·rw[if_neg (by simpa using hb)]
   have e1:¬ (a==0||a==1)=true:=by rcases ha with rfl |rfl<;>decide
   have e2:¬ (a==-1)=true:=by rcases ha with rfl |rfl<;>decide
   have e3:¬ Builtin.Int.intTooBig (((Builtin.Int.intBits a:Nat):Int)*b)=true:=by
    have:Builtin.Int.intBits a=4:=by rcases ha with rfl |rfl<;>decide +kernel
    rw[this];unfold Builtin.Int.intTooBig bitsLine;rw[decide_eq_true_eq];lia
   rw[if_neg e1,if_neg e2,if_neg e3];exact h.val am (.int _ _) _
 ·exact bg e
theorem Bl {x y l:List D}(e:Jp x y=some l):l=x++y/\0<x.length/\0<y.length/\l.length<=100001:=by
 cases x with
 |nil=>exact bg e
 |cons a x =>
  cases y with
  |nil=>exact bg e
  |cons b y =>
   refine jr e λc e=>?_
   obtain rfl:=aJ e;exact⟨rfl,Xh _,Xh _,by rw[V1,VY,VY];lia⟩
theorem Cs {va vb:VQ}{x y:Str}(am:Am A F s)(ha:aj F va (.str x))(hb:aj F vb (.str y))(c:x.length+y.length<=1000000)(h:Rt F s (.str (x++y)) Q):wpAny (model ab w) A (binaryOp .Add va vb) Q E s:=by
 obtain⟨_,rfl,k1,z1⟩:=ha.str3;obtain⟨_,rfl,k2,z2⟩:=hb.str3;have c2:(x++y).length<=1000000:=by rw[bK];exact c
 exact SB.add (λt' k=>h.val am (.str _ _ (eW k1 k2) c2) k) (VX c (by decide +kernel))
theorem Ct {va vb:VQ}{x y:List D}(am:Am A F s)(ha:aj F va (.lst x))(hb:aj F vb (.lst y))(c:x.length+y.length<=1000000)(h:Rt F s (.lst (x++y)) Q):wpAny (model ab w) A (binaryOp .Add va vb) Q E s:=by
 revert am ha hb c h;delta ab w A E s F Q va vb x y;intro am ha hb c h;obtain⟨la,vs,rfl,⟨⟨cls,dd,data,sl⟩,ho,hc,n,hd⟩,r1,z1,q1⟩:=ha.isLst am.fz;revert ha ho hc hd r1 q1;delta la vs cls dd data sl n;intro ha ho hc hd r1 q1;obtain⟨lb,ws,rfl,⟨⟨Ol,EC,data2,Ce⟩,nS,D4,n2,D3⟩,r2,z2,q2⟩:=hb.isLst am.fz;revert hb nS D4 D3 r2 q2;delta lb ws Ol EC data2 Ce n2;intro hb nS D4 D3 r2 q2;subst hc;subst hd;subst D4;subst D3;refine concat_meets ⟨_,ho,rfl⟩ ⟨_,nS,rfl⟩ noFill_list_add seq_list_add PySem.F.slot_list_add PySem.F.entry_list_add (PySem.F.args_list_add_2 _ _) (list_addW la lb vs ws n n2 dd EC sl Ce (by rw[du];lia)) ⟨ho,nS,?_⟩;exact h.lst am _ (by rw[Ys];exact r1.append r2) (by rw[V1];exact c)
theorem vc {α:Type}{vs:Array α}{n:Nat}(q:vs.size=n)(h:0<n):¬ vs.isEmpty=true:=by
 subst q;exact λe=>Xw h (of_decide_eq_true e)
theorem Cr {va vb:VQ}{x y:List D}(am:Am A F s)(ha:aj F va (.tup x))(hb:aj F vb (.tup y))(c1:0<x.length)(c2:0<y.length)(c:(x++y).length<=100001)(h:Rt F s (.tup (x++y)) Q):wpAny (model ab w) A (binaryOp .Add va vb) Q E s:=by
 revert am ha hb c1 c2 c h;delta ab w A E s F Q va vb x y;intro am ha hb c1 c2 c h;obtain⟨la,vs,rfl,⟨⟨cls,dd,data,sl⟩,ho,hc,n,hd⟩,r1,z1,q1⟩:=ha.isTup am.fz;obtain⟨lb,ws,rfl,⟨⟨Ol,EC,data2,Ce⟩,nS,D4,n2,D3⟩,r2,z2,q2⟩:=hb.isTup am.fz;subst hc;subst hd;subst D4;subst D3;refine concat_meets ⟨_,ho,rfl⟩ ⟨_,nS,rfl⟩ noFill_tuple_add seq_tuple_add PySem.F.slot_tuple_add PySem.F.entry_tuple_add (PySem.F.args_tuple_add_2 _ _)
  (tuple_addW2 la lb vs ws n n2 dd EC sl Ce (vc q1 c1) (vc q2 c2) (by rw[du];skip;lia)) ⟨ho,nS,?_⟩
 exact h.tup am _ (by rw[Ys];exact r1.append r2) (VX c ⋯)
theorem Gg {va vb:VQ}{a b d:D}(am:Am A F s)(ha:aj F va a)(hb:aj F vb b)(e:Oz a b=some d)(h:Rt F s d Q):wpAny (model ab w) A (binaryOp .Add va vb) Q E s:=by
 delta ab w A E s F Q va vb a b d;intro am ha hb e h;cases a with
 |int i =>
  refine gt e λj e1 e=>?_
  subst e
  cases dR e1;obtain⟨_,rfl⟩:=ha.int_inv;obtain⟨_,rfl⟩:=hb.int_inv;exact PyProof.Rows.add_int (h.val am (.int _ _) _)
 |str x =>
  refine bt e λy e1 e=>jr e λc e=>?_
  obtain rfl:=aJ e
  cases eH e1;exact Cs am ha hb c h
 |lst x =>
  refine bt e λy e1 e=>jr e λc e=>?_
  obtain rfl:=aJ e
  cases um e1;exact Ct am ha hb c h
 |tup x =>
  refine bt e λy e1 e=>gt e λl e2 e=>?_
  subst e;obtain⟨rfl,c1,c2,c3⟩:=Bl e2
  cases mG e1;exact Cr am ha hb c1 c2 c3 h
 |_=>exact bg e
theorem Ge {op:YW}{va vb:VQ}{a b d:D}(am:Am A F s)(ha:aj F va a)(hb:aj F vb b)(e:LI op a b=some d)(h:Rt F s d Q) :
  wpAny (model ab w) A (binaryOp op va vb) Q E s:=by
 induction op with
 |Add=>exact Gg am ha hb e h
 |Sub =>
  refine KL ha hb e λi j t u e1 e2 e=>?_
  clear ha hb;subst e1 e2;obtain rfl:=aJ e;exact PyProof.Rows.sub_int (h.val am (.int _ _) _)
 |FloorDiv =>
  refine KL ha hb e λi j t u e1 e2 e=>jr e λc e=>?_
  clear ha hb;subst e1 e2;obtain rfl:=aJ e;exact PyProof.Rows.floordiv_int (Int.ne_of_gt c.1) (h.val am (.int _ _) _) (.inl (PyProof.noPylong_small (Ts c)))
 |Mod =>
  refine KL ha hb e λi j t u e1 e2 e=>jr e λc e=>?_
  clear ha hb;subst e1 e2;obtain rfl:=aJ e;exact PyProof.Rows.mod_int (Int.ne_of_gt c) (h.val am (.int _ _) _)
 |Pow =>
  refine KL ha hb e λi j t u e1 e2 e=>?_
  clear ha hb;subst e1 e2;exact FZ am e h
 |_=>exact bg e
noncomputable def gK:D->Option Bool
 | .none=>some false
 | .bool b=>some b
 | .int i=>some (i !=0)
 | .str x=>some ((x.length:Int) !=0)
 | .lst l=>some (!l.isEmpty)
 | .tup l=>some (!l.isEmpty)
 |_=>none
theorem su {n:Nat}(h:n<=1000000):(n:Int)<2 ^ 63:=by lia
theorem Sr {vs:Array VQ}{l:List D}(r:al F vs.toList l):(!l.isEmpty)=!vs.isEmpty:=by
 obtain⟨vs⟩:=vs;induction l with
 |nil=>rw[show vs=[]from r.nil_inv];rfl
 |cons=>obtain⟨v,us,e,_⟩:=r.cons_inv;rw[show vs=v::us from e];rfl
theorem gB {v:VQ}{d:D}{b:Bool}{Q:Bool->VP->Prop}(am:Am A F s)(hd:aj F v d)(e:gK d=some b)
  (h:∀F' s',aA F s F' s'->Q b s'):wpAny (model ab w) A (truthy v) Q E s:=by
 revert am hd e h;delta ab w A E s F v d b Q;intro am hd e h
 cases d with
 |none=>replace e:=aJ e;obtain rfl:=e;replace hd:=hd.none_inv;obtain rfl:=hd;exact WC (a:=false) rfl (h _ _ (aA.refl am.fz))
 |bool b=>replace e:=aJ e;obtain rfl:=e;replace hd:=hd.bool_inv;obtain rfl:=hd;exact Ye (h _ _ (aA.refl am.fz))
 |int i=>replace e:=aJ e;obtain rfl:=e;replace hd:=hd.int_inv;obtain⟨_,rfl⟩:=hd;exact P.truthy_int (h _ _ (aA.refl am.fz))
 |str x=>replace e:=aJ e;obtain rfl:=e;replace hd:=hd.str3;obtain⟨_,rfl,k,z⟩:=hd;exact P.truthy_str (Int.not_le.mpr (su z)) (h _ _ (aA.toks am.fz _))
 |tup l =>
  replace e:=aJ e;obtain rfl:=e;replace hd:=hd.isTup am.fz;obtain⟨a,vs,rfl,ht,r,z,q⟩:=hd;exact truthy_tuple ht (su (VX (WO q) z)) (Sr r▸h _ _ (aA.toks am.fz _))
 |lst l =>
  replace e:=aJ e;obtain rfl:=e;replace hd:=hd.isLst am.fz;obtain⟨a,vs,rfl,ht,r,z,q⟩:=hd;exact wpAny_truthy_list ht (su (VX (WO q) z)) (Sr r▸h _ _ (aA.toks am.fz _))
 |_=>exact bg e
noncomputable def pz:Nat:=8
noncomputable def Bj (a b:D):Option Bool:=(a.toPy pz).bind λp=>(b.toPy pz).map λq=>YC p q
noncomputable def MN {α:Type}(k:List D->α)(s:Str->α)(n:α):D->α
 | .lst l=>k l
 | .tup l=>k l
 | .str y=>s y
 |_=>n
noncomputable def gu:List Nat->List Nat->Bool
 |[],y=>match y with |[]=>true |_::_=>false
 |a::x,y=>match y with |[]=>false |b::y=>VW a b&&gu x y
theorem ce {x y:List Nat}:gu x y=true↔x=y:=by
 induction x generalizing y with
 |nil =>
  induction y with
  |nil=>exact⟨λ_=>rfl,λ_=>rfl⟩
  |cons=>exact⟨eV,λh=>absurd h.symm (XD _ _)⟩
 |cons a x ih =>
  induction y with
  |nil=>exact⟨eV,λh=>absurd h (XD _ _)⟩
  |cons b y =>
   constructor
   ·intro h
    have h:=VU.mp h;rw[V_ h.1,ih.mp h.2]
   ·intro h
    replace h:=List.cons.inj h;obtain⟨rfl,rfl⟩:=h;exact VU.mpr ⟨Nat.beq_refl _,ih.mpr rfl⟩
noncomputable def H1 (a b:D):Option Bool:=match a with
 | .str x=>match b with | .str y=>some (gu x.cps.toList y.cps.toList) |b=>Bj (.str x) b
 | .int i=>match b with | .int j=>some (decide (i=j)) |b=>Bj (.int i) b
 | .bool i=>match b with | .bool j=>some (i==j) |b=>Bj (.bool i) b
 |a=>Bj a b
noncomputable def DO (x:D):List D->Option Bool
 |[]=>some false
 |y::r=>(H1 y x).bind λb=>(DO x r).map λc=>b||c
noncomputable def et (c:Nat):List Nat->Bool
 |[]=>false
 |d::r=>VW d c||et c r
noncomputable def EG (y x:Str):Bool:=match x.cps.toList with
 |[]=>Txt.contains y x
 |c::r=>match r with |[]=>et c y.cps.toList |_::_=>Txt.contains y x
noncomputable def Ma (x:D):D->Option Bool:=MN (λl=>(x.toPy pz).bind λ_=>DO x l) (λy=>(BM x).map (EG y)) none
theorem dE {x y:Str}(h:x.cps.toList=y.cps.toList):x=y:=by
 induction x;induction y;exact congrArg Str.mk (X6.mp h)
theorem ze {a b:D}{r:Bool}(h:H1 a b=some r):Bj a b=some r:=by
 cases a with
 |str x =>
  cases b with
  |str y =>
   obtain rfl:=aJ h;show some (x==y)=_
   cases q:gu x.cps.toList y.cps.toList with
   |true=>rw[dE (ce.mp q),beq_self_eq_true]
   |false =>
    refine congrArg some (beq_eq_false_iff_ne.mpr ?_);clear h;rintro rfl;exact dw (ce.mpr rfl) q
  |_=>exact h
 |int i =>
  cases b with
  |int j=>exact h
  |_=>exact h
 |bool i =>
  cases b with
  |bool j=>exact h
  |_=>exact h
 |_=>exact h
noncomputable def Vw (x:D)(p:Xu)(l:List D)(r:Bool):Prop:=∃qs,l.mapM (D.toPy pz)=some qs/\(qs.any λy=>YC y p)=r
theorem yQ {x:D}{p:Xu}(hp:x.toPy pz=some p){l:List D}{r:Bool}(h:DO x l=some r):Vw x p l r:=by
 induction l generalizing r with
 |nil=>replace h:=aJ h;obtain rfl:=h;exact⟨[],rfl,rfl⟩
 |cons y l ih =>
  refine bt h λb h1 h2=>gt h2 λc h3 h4=>?_
  clear h h2;subst h4;refine bt (ze h1) λq h5 h6=>gt h6 λp' h7 h8=>?_
  replace h7:=cG hp h7;obtain rfl:=h7;replace h3:=ih h3;obtain⟨qs,h9,rfl⟩:=h3;clear h1 h6;subst h8;exact⟨q::qs,by rw[List.mapM_cons,h5,h9];rfl,rfl⟩
theorem EW (c:Nat)(l:List Nat):et c l=decide (c∈l):=by
 delta c l;induction l with
 |nil=>rfl
 |cons d r ih =>
  delta d r;intro ih;show(VW d c||et c r)=_;rw[ih];by_cases q:d=c
  ·clear ih;rw[q];rw[Nat.beq_refl];exact(decide_eq_true VT).symm
  ·have:VW d c=false:=by
    cases q2:VW d c with
    |false=>rfl
    |true=>exact absurd (V_ q2) q
   rw[this];exact decide_eq_decide.mpr ⟨VS _,λh=>(V2.mp h).resolve_left (W6 q)⟩
theorem we (y x:Str):EG y x=Txt.contains y x:=by
 unfold EG;generalize hl:x.cps.toList=l
 cases l with
 |nil=>rfl
 |cons c r =>
  induction r with
  |nil =>
   obtain rfl:x=⟨#[c]⟩:=dE hl;exact(EW c _).trans (StrLaws.found_one y c).symm
  |cons=>rfl
noncomputable def Hq (a b:D):Option Bool:=match b with
 | .opq v=>match v with
  | .ref b=>match a with
   | .opq u=>match u with | .ref a=>if a=b then some true else none |_=>none
   | .str _=>some false
   |_=>none
  |_=>none
 |_=>none
noncomputable def CP (k:Int->Int->Bool)(a b:D):Option D:=(un a).bind λa=>(un b).map λb=>.bool (k a b)
noncomputable def bZ (op:CmpOp)(a b:D):Option D :=
 match op with
 | .Eq=>(H1 a b).map .bool
 | .NotEq=>(H1 a b).map λx=>.bool (!x)
 | .In=>(Ma a b).map .bool
 | .NotIn=>(Ma a b).map λx=>.bool (!x)
 | .Is=>(Hq a b).map .bool
 | .IsNot=>(Hq a b).map λx=>.bool (!x)
 | .Lt=>CP (λa b=>decide (a<b)) a b
 | .LtE=>CP (λa b=>decide (a<=b)) a b
 | .Gt=>CP (λa b=>decide (b<a)) a b
 | .GtE=>CP (λa b=>decide (b<=a)) a b
theorem cLine_9900:cLine=9900:=rfl
theorem sz {va vb:VQ}{a b:D}{r:Bool}(am:Am A F s)(ha:aj F va a)(hb:aj F vb b)(e:H1 a b=some r):∃p q,Rd s.heap pz va p/\Rd s.heap pz vb q/\YC p q=r :=
 bt (ze e) λp hp e=>gt e λq hq e=>⟨p,q,fR am.fz _ _ _ _ ha hp,fR am.fz _ _ _ _ hb hq,e⟩
theorem yL {va vb:VQ}{a b:D}{r:Bool}(ha:aj F va a)(hb:aj F vb b)(e:Hq a b=some r):(∃x,va=.ref x/\vb=.ref x/\r=true)\/(∃x t y,va=.str x t/\vb=.ref y/\r=false):=by
 delta F va vb a b r;intro ha hb e;cases b with
 |opq v =>
  delta v;intro hb e;induction v with
  |ref y =>
   delta y;intro hb e;obtain rfl:=hb.opq_inv
   cases a with
   |opq u =>
    induction u with
    |ref x =>
     refine jr e λc e=>?_
     obtain rfl:=aJ e;clear hb;rw[<- c];obtain rfl:=ha.opq_inv;exact .inl ⟨_,rfl,rfl,rfl⟩
    |_=>exact bg e
   |str x =>
    obtain rfl:=aJ e;obtain⟨t,rfl⟩:=ha.str_inv;exact .inr ⟨_,_,_,rfl,rfl,rfl⟩
   |_=>exact bg e
  |_=>exact bg e
 |_=>exact bg e
theorem GD {k:Int->Int->Bool}{a b d:D}{va vb:VQ}{G:Prop}(ha:aj F va a)(hb:aj F vb b)(e:CP k a b=some d)(g:∀i j t u,va=.int i t->vb=.int j u->d=.bool (k i j)->G):G :=
 KL (k:=λa b=>some (.bool (k a b))) ha hb (bt e λi e1 e=>gt e λj e2 e=>(dS e1).trans ((dS e2).trans (congrArg some e))) λi j t u e1 e2 e=>g i j t u e1 e2 (aJ e).symm
theorem yS {va vb:VQ}{a:D}{l:List D}{r:Bool}(am:Am A F s)(ha:aj F va a)(hb:aj F vb (.lst l))(e:Ma a (.lst l)=some r):∃p qs,Rd s.heap pz va p/\Rd s.heap (pz+1) vb (.list qs)/\(qs.any λy=>YC y p)=r :=
 bt e λp hp e=>let ⟨qs,h1,h2⟩:=yQ hp e;⟨p,qs,fR am.fz _ _ _ _ ha hp,fR am.fz (pz+1) _ _ (.list qs) hb (w6 h1),h2⟩
theorem yR {va vb:VQ}{a:D}{l:List D}{r:Bool}(am:Am A F s)(ha:aj F va a)(hb:aj F vb (.tup l))(e:Ma a (.tup l)=some r):∃p qs,Rd s.heap pz va p/\Rd s.heap (pz+1) vb (.tuple qs)/\(qs.any λy=>YC y p)=r :=
 bt e λp hp e=>let ⟨qs,h1,h2⟩:=yQ hp e;⟨p,qs,fR am.fz _ _ _ _ ha hp,fR am.fz (pz+1) _ _ (.tuple qs) hb (w6 h1),h2⟩
theorem JU {va vb:VQ}{a b:D}{r:Bool}(am:Am A F s)(ha:aj F va a)(hb:aj F vb b)(e:Ma a b=some r)(h:∀t,Q (.bool r) { s with toks:=t }):wpAny (model ab w) A (compareOp .In va vb) Q E s:=by
 delta ab w A E s F Q va vb a b r;intro am ha hb e h;have hu:=am.hu
 cases b with
 |lst l =>
  replace e:=yS am ha hb e;obtain⟨p,qs,⟨⟨as,ra⟩,ca,da⟩,⟨⟨bs,rb⟩,cb,db⟩,rfl⟩:=e;exact SeqAt.in_list_reads rb ra cb ca (by rw[cLine_9900];exact OO ‹_› da) (h s.toks)
 |tup l =>
  replace e:=yR am ha hb e;obtain⟨p,qs,⟨⟨as,ra⟩,ca,da⟩,⟨⟨bs,rb⟩,cb,db⟩,rfl⟩:=e;exact SeqAt.in_tuple_reads rb ra cb ca (by rw[cLine_9900];exact OO ‹_› da) (h s.toks)
 |str y =>
  refine gt e λx e1 e=>?_
  subst e
  cases eH e1;replace ha:=ha.str_inv;obtain⟨_,rfl⟩:=ha;replace hb:=hb.str_inv;obtain⟨_,rfl⟩:=hb;exact SB.contains (we _ _▸h s.toks)
 |_=>exact bg e
theorem zO {va vb:VQ}{a b:D}{r:Bool}(am:Am A F s)(ha:aj F va a)(hb:aj F vb b)(e:Ma a b=some r)(h:∀t,Q (.bool (!r)) { s with toks:=t }):wpAny (model ab w) A (compareOp .NotIn va vb) Q E s:=by
 delta ab w A E s F Q va vb a b r;intro am ha hb e h;have hu:=am.hu
 cases b with
 |lst l =>
  obtain⟨p,qs,⟨⟨as,ra⟩,ca,da⟩,⟨⟨bs,rb⟩,cb,db⟩,rfl⟩:=yS am ha hb e;exact SeqAt.notIn_list_reads rb ra cb ca (by rw[cLine_9900];exact OO ‹_› da) (h s.toks)
 |tup l =>
  obtain⟨p,qs,⟨⟨as,ra⟩,ca,da⟩,⟨⟨bs,rb⟩,cb,db⟩,rfl⟩:=yR am ha hb e;exact SeqAt.notIn_tuple_reads rb ra cb ca (by rw[cLine_9900];exact OO ‹_› da) (h s.toks)
 |str y =>
  refine gt e λx e1 e=>?_
  subst e
  cases eH e1;obtain⟨_,rfl⟩:=ha.str_inv;obtain⟨_,rfl⟩:=hb.str_inv;exact SB.notContains (we _ _▸h s.toks)
 |_=>exact bg e
theorem yj {op:CmpOp}{va vb:VQ}{a b d:D}(am:Am A F s)(ha:aj F va a)(hb:aj F vb b)(e:bZ op a b=some d)(h:Rt F s d Q) :
  wpAny (model ab w) A (compareOp op va vb) Q E s:=by
 delta ab w A E s F Q op va vb a b d;intro am ha hb e h;have hu:=am.hu;induction op with
 |Eq =>
  refine gt e λr e1 e=>?_
  subst e;clear e;obtain⟨p,q,⟨⟨as,ra⟩,ca,da⟩,⟨⟨bs,rb⟩,cb,db⟩,rfl⟩:=sz am ha hb e1;exact SeqAt.compareEq_reads ra rb ca cb (by rw[cLine_9900];exact R5 ‹_› da) (h.here am (.bool _))
 |NotEq =>
  refine gt e λr e1 e=>?_
  subst e;clear e;obtain⟨p,q,⟨⟨as,ra⟩,ca,da⟩,⟨⟨bs,rb⟩,cb,db⟩,rfl⟩:=sz am ha hb e1;exact SeqAt.compareNe_reads ra rb ca cb (by rw[cLine_9900];exact R5 ‹_› da) (h.here am (.bool _))
 |In =>
  refine gt e λr e1 e=>?_
  subst e;exact JU am ha hb e1 λt=>h.val am (.bool _) t
 |NotIn =>
  refine gt e λr e1 e=>?_
  subst e;exact zO am ha hb e1 λt=>h.val am (.bool _) t
 |Is =>
  refine gt e λr e1 e=>?_
  subst e;clear e;rcases yL ha hb e1 with⟨x,rfl,rfl,rfl⟩ |⟨x,t,y,rfl,rfl,rfl⟩
  ·exact wpAny_is_ref_self (h.here am (.bool _))
  ·exact wpAny_is_plain rfl (h.here am (.bool _))
 |IsNot =>
  refine gt e λr e1 e=>?_
  subst e;clear e;rcases yL ha hb e1 with⟨x,rfl,rfl,rfl⟩ |⟨x,t,y,rfl,rfl,rfl⟩
  ·refine VO (m:=isSame _ _) ?_
   show wpAny _ _ (if(x==x)=true then _ else _) _ _ _;rw[beq_self_eq_true,if_pos rfl];exact VR (VR (h.here am (.bool _)))
  ·exact wpAny_isNot_plain rfl (h.here am (.bool _))
 |Lt=>refine GD ha hb e λi j t u e1 e2 e=>?_;clear ha hb;subst e1 e2 e;exact P.lt_int (h.here am (.bool _))
 |LtE=>refine GD ha hb e λi j t u e1 e2 e=>?_;clear ha hb;subst e1 e2 e;exact P.le_int (h.here am (.bool _))
 |Gt=>refine GD ha hb e λi j t u e1 e2 e=>?_;clear ha hb;subst e1 e2 e;exact P.gt_int (h.here am (.bool _))
 |GtE=>refine GD ha hb e λi j t u e1 e2 e=>?_;clear ha hb;subst e1 e2 e;exact P.ge_int (h.here am (.bool _))
end
noncomputable def hB (n:Nat)(i:Int):Nat:=if i<0 then(i+n).toNat else min i.toNat n
noncomputable def l9 (n:Nat):Option Int->Nat
 |none=>0
 |some i=>hB n i
noncomputable def rk (n:Nat):Option Int->Nat
 |none=>n
 |some i=>hB n i
noncomputable def eo {α:Type}(lo hi:Option Int)(l:List α):List α:=(l.drop (l9 l.length lo)).take (rk l.length hi - l9 l.length lo)
noncomputable def jj (lo hi:Option Int)(x:Str):Str:=⟨(eo lo hi x.cps.toList).toArray⟩
theorem M9 (m n:Nat):min (m:Int) n=((min m n:Nat):Int) :=
 (Nat.le_total m n).elim (λh=>by rw[Int.min_eq_left (Int.ofNat_le.mpr h),YJ h]) λh=>by rw[Int.min_eq_right (Int.ofNat_le.mpr h),Nat.min_eq_right h]
theorem zi (n:Nat)(i:Int):max 0 (min (if i<0 then i+n else i) (n:Int))=((hB n i:Nat):Int):=by
 unfold hB;induction i with
 |ofNat m =>
  exact(congrArg _ (M9 m n)).trans (Int.max_eq_right (Zd _))
 |negSucc m =>
  rw[if_pos (XY m),if_pos (XY m),Int.min_eq_left (YD (Int.add_le_add_right (Int.le_of_lt (XY m)) _) (Int.le_of_eq (Int.zero_add _))),Int.ofNat_toNat,Int.max_comm]
theorem Iq (n:Nat)(i:Int):(if i<0 then max (i+n) 0 else min i (n:Int))=((hB n i:Nat):Int):=by
 unfold hB;induction i with
 |ofNat m =>
  exact M9 m n
 |negSucc m =>
  rw[if_pos (XY m),if_pos (XY m),Int.ofNat_toNat]
theorem oH {n:Nat}(h:n<=1000000):n<=sizeLine:=VX h (by decide +kernel)
theorem wd {h l n:Nat}(e:h - l=n)(k:h<=n):min (h - l) (n - l)=n:=by
 rw[e];exact YJ (VX (WO e.symm) (Nat.sub_le_sub_right k l))
theorem Bo (lo hi:Option Int)(n:Nat):sliceBounds lo hi none n=(((l9 n lo:Nat):Int),((rk n hi:Nat):Int),1):=by
 delta lo hi n;induction lo<;>induction hi<;>simp only[sliceBounds,Option.getD_none,show(1:Int)>0 by decide,if_true,l9,rk,zi]<;>rfl
theorem sZ {xs:Array VQ}(lo hi:Option Int):(slicePick xs lo hi none).toList=eo lo hi xs.toList:=by
 unfold slicePick;rw[Bo];simp only[sliceRange_one,pick_run];unfold eo;simp
theorem rC (lo hi:Option Int)(n:Nat):Xs lo hi 1 n=(Wo (rk n hi - l9 n lo)).map (l9 n lo+·):=by
 delta lo hi n;rw[<- sliceRange_one];unfold Xs;induction lo<;>induction hi<;>simp only[show(1:Int)>0 by decide,if_true,l9,rk,zi]<;>rfl
theorem EI (n:Nat)(i:Int)(h:i<0->i+n<=n):hB n i<=n:=by
 unfold hB;split;· exact Int.toNat_le.mpr (h ‹_›)
 ·exact Nat.min_le_right _ _
theorem D0 (n:Nat)(h:Option Int):rk n h<=n:=by
 induction h with
 |none=>exact WD _
 |some i=>exact EI n i λh=>by lia
theorem gZ {α:Type}(lo hi:Option Int)(l:List α):(eo lo hi l).length<=l.length :=
 ((List.take_sublist _ _).trans (List.drop_sublist _ _)).length_le
theorem qH {α:Type}{lo hi:Option Int}{l:List α}(h:(eo lo hi l).length=l.length):eo lo hi l=l :=
 ((List.take_sublist _ _).trans (List.drop_sublist _ _)).eq_of_length h
theorem al.cut {F:Fz}{vs:List VQ}{ds:List D}(h:al F vs ds)(lo hi:Option Int):al F (eo lo hi vs) (eo lo hi ds):=by
 unfold eo;rw[h.length];exact(h.drop _).take _
theorem lP {x y:Str}(hx:WP x=true)(h:∀c∈y.cps.toList,c∈x.cps.toList):WP y=true:=by
 unfold WP at *;rw[Array.all_eq_true']at *;intro c hc;exact hx c (by simpa using h c (by simpa using hc))
section
variable {ab:V8}{w:Wi}{A:V7}{E:VQ->VP->Prop}{s:VP}{F:Fz}{Q:VQ->VP->Prop}
noncomputable def IN {α:Type}(l:List α)(n:Nat):Option α:=match l with
 |[]=>none
 |a::r=>match n with |0=>some a |n+1=>IN r n
theorem mZ {α:Type}(l:List α)(n:Nat):IN l n=l[n]?:=by
 induction l generalizing n with
 |nil=>rfl
 |cons a r ih =>
  induction n with
  |zero=>rfl
  |succ n=>exact ih n
noncomputable def qr {α:Type}(l:List α):Int->Option α
 | .ofNat n=>IN l n
 | .negSucc n=>gd (Wm (n+1) l.length) (IN l (l.length - (n+1)))
noncomputable def xI (l:List D)(i:Int):Option D:=qr l i
noncomputable def bh (o i:D):Option D:=match o with
 | .str x=>(un i).bind λi=>(qr x.cps.toList i).map λc=>.str ⟨⟨[c]⟩⟩
 | .lst l=>(un i).bind (xI l)
 | .tup l=>(un i).bind (xI l)
 |_=>none
noncomputable def yh (lo hi:Option Int):D->Option D
 | .str x=>some (.str (jj lo hi x))
 | .lst l=>some (.lst (eo lo hi l))
 | .tup l=>some (.tup (eo lo hi l))
 |_=>none
theorem MO {i:Int}{n k:Nat}(h:k<n)(e:(k:Int)=if i<0 then i+n else i):seqIndex? i n=some k:=by
 unfold seqIndex?;show(if(decide (0<=(if i<0 then i+(n:Int)else i))&&decide ((if i<0 then i+(n:Int)else i)<(n:Int)))=true then some (if i<0 then i+(n:Int)else i).toNat else none)=_;rw[<- e,if_pos (by simp;lia)];rfl
theorem nY {α:Type}{l:List α}{i:Int}{d:α}(e:qr l i=some d):∃k,seqIndex? i l.length=some k/\l[k]?=some d/\-(l.length:Int)<=i/\i<l.length/\(k:Int)=if i<0 then i+l.length else i:=by
 revert e;induction i with
 |ofNat n =>
  intro e;have e:l[n]?=some d:=(mZ l n).symm.trans e;have h:=(Wd.mp e).1;have k:(n:Int)=if Int.ofNat n<0 then Int.ofNat n+(l.length:Int)else Int.ofNat n:=(if_neg (Int.not_lt.mpr (Zd n))).symm
  exact⟨n,MO h k,e,by simp only[Int.ofNat_eq_natCast];lia,by simp only[Int.ofNat_eq_natCast];lia,k⟩
 |negSucc n =>
  intro e;refine ip e λhb e=>?_
  have hb:=V0 hb;have e:l[l.length - (n+1)]?=some d:=(mZ l _).symm.trans e;have h:=(Wd.mp e).1;have k:((l.length - (n+1):Nat):Int)=if Int.negSucc n<0 then Int.negSucc n+(l.length:Int)else Int.negSucc n:=by rw[if_pos (XY n)];exact z3 ‹_›
  exact⟨l.length - (n+1),MO h k,e,by lia,by lia,k⟩
theorem jX {l:List D}{i:Int}{d:D}(e:xI l i=some d):∃k,seqIndex? i l.length=some k/\l[k]?=some d/\-(l.length:Int)<=i/\i<l.length/\(k:Int)=if i<0 then i+l.length else i:=nY e
theorem Dr {x:Str}{t:Tok}{vi:VQ}{i:Int}{c:Nat}(am:Am A F s)(ho:aj F (.str x t) (.str x))(hi:aj F vi (.int i))(hc:qr x.cps.toList i=some c)(h:Rt F s (.str ⟨⟨[c]⟩⟩) Q):wpAny (model ab w) A (getItem (.str x t) vi) Q E s:=by
 delta ab w A E s F Q x t vi i c;intro am ho hi hc h;obtain⟨kx,hk,hx,b1,b2,b3⟩:=nY hc;delta kx;intro hk hx b3;have dC:x.length=x.cps.toList.length:=rfl;rw[<- dC]at b1 b2 hk;replace hi:=hi.int_inv;obtain⟨_,rfl⟩:=hi;obtain⟨_,_,k,z⟩:=ho.str3;have UQ:Txt.charAt x i=some c:=by
  unfold Txt.charAt;rw[hk];simpa using hx
 have HI:Txt.item x i=⟨⟨[c]⟩⟩:=by unfold Txt.item;rw[UQ];rfl
 refine SB.getItem (by unfold fitsSsize;simp only[Wv,Bool.or_eq_false_iff,decide_eq_false_iff_not];lia) (charAt_isSome b1 b2) (HI▸h.val am (.str _ _ ?_ (show 1<=1000000 by decide)) _);refine lP k λc' mo=>?_
 rw[WR.mp mo];exact Yg hx
theorem HR {a:V4}{vs:Array VQ}{i:Int}{t:Tok}{v:VQ}{k n:Nat}(ht:s.heap.IsList a vs)(q:vs.size=n)(z:n<=1000000)(b1:-(n:Int)<=i)(b2:i<n)(b3:(k:Int)=if i<0 then i+n else i)(hv:vs[k]?=some v)(h:Q v s):wpAny (model ab w) A (getItem (.ref a) (.int i t)) Q E s:=by
 subst q;by_cases hn:i<0
 ·rw[if_pos hn]at b3
  exact wpAny_getItem_list_neg ht hn (by lia) (by lia) (by rw[<- b3];exact hv) h
 ·rw[if_neg hn]at b3
  exact wpAny_getItem_list ht (by lia) (by lia) (by rw[<- b3];exact hv) h
theorem uU {vo vi:VQ}{o i d:D}(am:Am A F s)(ho:aj F vo o)(hi:aj F vi i)(e:bh o i=some d)(h:Rt F s d Q) :
  wpAny (model ab w) A (getItem vo vi) Q E s:=by
 delta ab w A E s F Q vo vi o i d;intro am ho hi e h;cases o with
 |str x =>
  refine bt e λi e1 e=>gt e λc e2 e=>?_
  subst e
  cases dR e1;obtain⟨t,rfl⟩:=ho.str_inv;exact Dr am ho hi e2 h
 |lst l =>
  refine bt e λi e1 e=>?_
  cases dR e1;obtain⟨k,hk,hx,b1,b2,b3⟩:=jX e;obtain⟨t,rfl⟩:=hi.int_inv;obtain⟨a,vs,rfl,ht,r,z,q⟩:=ho.isLst am.fz;obtain⟨v,hv,hd⟩:=r.get k d hx;exact HR ht q z b1 b2 b3 ((YM ..).symm.trans hv) (h.here am hd)
 |tup l =>
  refine bt e λi e1 e=>?_
  cases dR e1;obtain⟨k,hk,hx,b1,b2,b3⟩:=jX e;obtain⟨t,rfl⟩:=hi.int_inv;obtain⟨a,vs,rfl,ht,r,z,q⟩:=ho.isTup am.fz;obtain⟨v,hv,hd⟩:=r.get k d hx;exact PyProof.Rows.getItem_tuple ht (by lia) (by lia) (by rw[q];exact hk) ((YM ..).symm.trans hv) (h.here am hd)
 |_=>exact bg e
inductive ct (F:Fz):VQ->Option Int->Prop
 |none:ct F .none none
 |int (i t):ct F (.int i t) (some i)
theorem s_ {sl:V4}{vl vu:VQ}{lo hi:Option Int}{n:Nat}{Q:Int×Int×Nat->VP->Prop}(hs:s.heap.IsSliceOf sl vl vu .none)(pl:ct F vl lo)(pu:ct F vu hi)
  (h:Q (((l9 n lo:Nat):Int),1,rk n hi - l9 n lo) s):wpAny (model ab w) A (Builtin.Slice.sliceApplied (.ref sl) (pure (n:Int))) Q E s:=by
 revert hs pl pu h;delta ab w A E s F sl vl vu lo hi n Q;intro hs pl pu h;obtain⟨os,qY⟩:=id hs;refine VO (VO (wpAny_field qY.1 qY.2.2 (x:=vl) rfl (VO (wpAny_field qY.1 qY.2.2 (x:=vu) rfl (VO (wpAny_field qY.1 qY.2.2 (x:=.none) rfl (VR ?_)))))));refine VO (slicePart_none ?_);have part:∀{v:VQ} {k:Option Int} {Q:Option Int->VP->Prop},ct F v k->Q k s->wpAny (model ab w) A (Builtin.Slice.slicePartIndex v) Q E s:=λhp hq=>by
  clear pl pu;induction hp with
  |none=>exact slicePart_none hq
  |int i t=>exact slicePart_int hq
 refine VO (part pl (VO (part pu (VO (VR ?_)))));have ea:Builtin.Slice.sliceAdjust lo hi 1 (n:Int)=(((l9 n lo:Nat):Int),((rk n hi:Nat):Int)):=by
  clear pl;induction lo with
  |none=>clear pu h;induction hi with
   |none=>rfl
   |some j=>exact congrArg _ (Iq n j)
  |some i=>clear pu h;induction hi with
   |none=>exact congrArg (·,_) (Iq n i)
   |some j=>exact(congrArg (·,_) (Iq n i)).trans (congrArg _ (Iq n j))
 rw[ea];have ep:Y7 ((l9 n lo:Nat):Int) ((rk n hi:Nat):Int) 1=rk n hi - l9 n lo:=by
  unfold Y7;have h1:(1:Int)>0:=by decide
  simp only[h1,if_true,Int.ediv_one];split
  ·rw[Int.sub_add_cancel,Int.toNat_sub]
  ·rename_i h;exact(Nat.sub_eq_zero_of_le (Int.ofNat_le.mp (Int.not_lt.mp h))).symm
 show wpAny _ _ (pure (((l9 n lo:Nat):Int),(1:Int),Y7 ((l9 n lo:Nat):Int) ((rk n hi:Nat):Int) 1)) _ _ s;rw[ep];exact VR h
theorem BY {xs:Array VQ}{a k:Nat}:((Wo k).filterMap λ(j:Nat)=>xs[((a:Int)+(j:Int)*1).toNat]?).toArray.toList=(xs.toList.drop a).take k:=by
 have e:(λ(j:Nat)=>xs[((a:Int)+(j:Int)*1).toNat]?)=λj=>xs[a+j]?:=by
  funext j;rw[show((a:Int)+(j:Int)*1).toNat=a+j by rw[Int.mul_one];rfl]
 rw[e,<- pick_run xs a k,List.filterMap_map];rfl
theorem zH {vo vl vu:VQ}{sl:V4}{lo hi:Option Int}{x:Str}(am:Am A F s)(ho:aj F vo (.str x))(pl:ct F vl lo)(pu:ct F vu hi)
  (hs:s.heap.IsSliceOf sl vl vu .none) (h:Rt F s (.str (jj lo hi x)) Q):wpAny (model ab w) A (getItem vo (.ref sl)) Q E s:=by
 revert am ho pl pu hs h;delta ab w A E s F Q vo vl vu sl lo hi x;intro am ho pl pu hs h;obtain⟨t,rfl,k,z⟩:=ho.str3;have TR:∃l:Option (Int×Tok),vl=partValue l/\l.map (·.1)=lo:=by
  induction pl with
  |none=>exact⟨none,rfl,rfl⟩
  |int i t=>exact⟨some (i,t),rfl,rfl⟩
 have TQ:∃l:Option (Int×Tok),vu=partValue l/\l.map (·.1)=hi:=by
  induction pu with
  |none=>exact⟨none,rfl,rfl⟩
  |int i t=>exact⟨some (i,t),rfl,rfl⟩
 obtain⟨l,rfl,el⟩:=TR;obtain⟨u,rfl,eu⟩:=TQ;obtain⟨os,qY⟩:=hs;refine wpAny_getItem_str_slice (l:=l) (u:=u) (st:=none) ⟨os,qY.1,qY.2.1,qY.2.2⟩ rfl ?_;have es:(((Xs lo hi 1 x.length).filterMap (x.cps[·]?)).toArray)=(jj lo hi x).cps:=by
  rw[rC,pick_run];rfl
 have dC:(jj lo hi x).length<=x.length:=by
  show(eo lo hi x.cps.toList).toArray.size<=x.cps.size;rw[List.size_toArray];have:=gZ lo hi x.cps.toList;simpa using this
 have fin:∀t' k,Q (.str (jj lo hi x) t') { s with toks:=k }:=λt' k'=>h.val am (.str _ _ (lP k λc hc=>by
  have:c∈eo lo hi x.cps.toList:=by simpa [jj]using hc
  exact List.mem_of_mem_drop (YX this)) (VX dC z)) k'
 refine post_val_or_str ?_;have hp:slicePicked x l u none=Xs lo hi 1 x.length:=by unfold slicePicked;rw[el,eu];rfl
 split
 ·rename_i c
  rw[hp]at c;have c2:(Xs lo hi 1 x.length).length=x.length:=by simpa using c
  rw[rC,VZ,WU]at c2;have c3:jj lo hi x=x:=by
   have:eo lo hi x.cps.toList=x.cps.toList:=qH (by
    rw[Yw,WK,WA];exact wd c2 (D0 x.cps.size hi))
   unfold jj;rw[this]
  rw[c3]at fin;exact⟨oH z,fin⟩
 ·rw[hp,es]
  exact⟨oH (VX dC z),fin⟩
theorem zI {vo vl vu:VQ}{sl:V4}{lo hi:Option Int}{l:List D}(am:Am A F s)(ho:aj F vo (.lst l))(pl:ct F vl lo)(pu:ct F vu hi)
  (hs:s.heap.IsSliceOf sl vl vu .none) (h:Rt F s (.lst (eo lo hi l)) Q):wpAny (model ab w) A (getItem vo (.ref sl)) Q E s:=by
 revert am ho pl pu hs h;delta ab w A E s F Q vo vl vu sl lo hi l;intro am ho pl pu hs h;obtain⟨a,vs,rfl,ht,r,z,q⟩:=ho.isLst am.fz;refine wpAny_getItem_list_slice (lo:=lo) (hi:=hi) (st:=none) ht hs (by clear am pu hs h ho r;induction pl<;>constructor) (by clear am pl hs h ho r;induction pu<;>constructor) .none (by simp) ?_ (oH (VX (WO q) z));exact h.lst am _ (by rw[sZ];exact r.cut lo hi) (VX (gZ _ _ _) z)
theorem zF {vo vl vu:VQ}{sl:V4}{lo hi:Option Int}{l:List D}(am:Am A F s)(ho:aj F vo (.tup l))(pl:ct F vl lo)(pu:ct F vu hi)
  (hs:s.heap.IsSliceOf sl vl vu .none) (h:Rt F s (.tup (eo lo hi l)) Q):wpAny (model ab w) A (getItem vo (.ref sl)) Q E s:=by
 revert am ho pl pu hs h;delta ab w A E s F Q vo vl vu sl lo hi l;intro am ho pl pu hs h;obtain⟨a,vs,rfl,ht,r,z,q⟩:=ho.isTup am.fz;delta a vs;intro ho ht r q;obtain⟨os,QQ,Rc,BI⟩:1:=id hs;have UU:s.TypeIs (.ref sl) "slice" :=⟨os,QQ,Rc⟩;unfold getItem;try with_reducible refine Wq ?_
 first |refine VO (VR ?_) |skip
 refine VO (wpAny_sequenceKey ht.typeIs ⋯ ?_);refine VO (wpAny_callSpecial?_slot (name:=VN "__getitem__") ht.typeIs slot_tuple_getitem
  (Y5 slot_tuple_getitem ht.typeIs entry_tuple_getitem ?_ (args_tuple_getitem _ _)))
 show wpAny _ _ (Builtin.Tuple.tupleItemsOf (.ref a) >>=_) _ _ s;refine VO (tupleItemsOf_ ht ?_);refine VO (wpAny_typeOf UU ?_);refine VO (s_ (F:=F) (n:=vs.size) hs pl pu ?_);have vK:=D0 vs.size hi;by_cases hw:(((l9 vs.size lo:Nat):Int)==0&&(1:Int)==1&&(rk vs.size hi - l9 vs.size lo)==vs.size)=true
 ·show wpAny _ _ (if(((l9 vs.size lo:Nat):Int)==0&&(1:Int)==1&&(rk vs.size hi - l9 vs.size lo)==vs.size)=true then _ else _) _ _ s
  rw[if_pos hw];simp only[V3,beq_iff_eq]at hw;have vP:eo lo hi l=l:=qH (by
   rw[Yw,WK,<- q];exact wd hw.2 vK)
  rw[vP]at h;revert ho ht r q QQ Rc BI vK hw;delta a vs os;intro ho ht r q QQ Rc BI vK hw;obtain⟨o,Tn⟩:1:=id ht;have:=h.here am ho;refine VO (m:=Builtin.Tuple.tupleIsExact _) ?_;refine VO (wpAny_typeOf ht.typeIs (VR ?_));exact VO (YV (VR ⟨_,rfl,VR this⟩))
 ·show wpAny _ _ (if(((l9 vs.size lo:Nat):Int)==0&&(1:Int)==1&&(rk vs.size hi - l9 vs.size lo)==vs.size)=true then _ else _) _ _ s
  rw[if_neg hw];have hsz:sizeOk (.seq ((Wo (rk vs.size hi - l9 vs.size lo)).filterMap λ(j:Nat)=>vs[(((l9 vs.size lo:Nat):Int)+(j:Int)*1).toNat]?).toArray):=by
   show Array.size _<=sizeLine;rw[<- WA,BY];exact oH (VX (((List.take_sublist _ _).trans (List.drop_sublist _ _)).length_le) (VX (WO q) z))
  have:=h.tup am (vs:=((Wo (rk vs.size hi - l9 vs.size lo)).filterMap λ(j:Nat)=>vs[(((l9 vs.size lo:Nat):Int)+(j:Int)*1).toNat]?).toArray) s.toks
   (by rw[BY];have:=r.cut lo hi;unfold eo at this ⊢;simpa [q]using this) (VX (gZ _ _ _) z)
  first
   |exact VO (m:=Yn _) (Xv (VR ⟨_,rfl,VR this⟩) hsz)
   |exact VO (m:=Yn _) (Xv (VO (VR (VR ⟨_,rfl,VR this⟩))) hsz)
   |exact VO (VO (m:=Yn _) (Xv (VR (VR ⟨_,rfl,VR this⟩)) hsz))
   |exact VO (VO (m:=Yn _) (Xv (VR ⟨_,rfl,VR this⟩) hsz))
theorem wP {vo vl vu:VQ}{sl:V4}{o d:D}{lo hi:Option Int}(am:Am A F s)(ho:aj F vo o)(pl:ct F vl lo)(pu:ct F vu hi)
  (hs:s.heap.IsSliceOf sl vl vu .none) (e:yh lo hi o=some d) (h:Rt F s d Q):wpAny (model ab w) A (getItem vo (.ref sl)) Q E s:=by
 cases o with
 |str x=>replace e:=aJ e;obtain rfl:=e;exact zH am ho pl pu hs h
 |lst l=>replace e:=aJ e;obtain rfl:=e;exact zI am ho pl pu hs h
 |tup l=>replace e:=aJ e;obtain rfl:=e;exact zF am ho pl pu hs h
 |_=>exact bg e
noncomputable def xV {α:Type}(lo hi:Option Int)(l:List α):List α:=match lo with
 |none=>match hi with
  |none=>eo none none l
  |some j=>match j with | .ofNat b=>l.take b | .negSucc _=>eo none (some j) l
 |some i=>match i with
  | .ofNat a=>match hi with
   |none=>l.drop a
   |some j=>match j with | .ofNat b=>(l.drop a).take (b - a) | .negSucc _=>eo (some i) (some j) l
  | .negSucc _=>eo (some i) hi l
theorem iJ (n a:Nat):hB n (.ofNat a)=min a n:=if_neg (Int.not_lt.mpr (Zd a))
theorem EE {α:Type}(b:Nat)(l:List α):l.take b=l.take (min b l.length):=by
 rcases Nat.le_total b l.length with h |h
 ·rw[YJ h]
 ·rw[Nat.min_eq_right h,List.take_length,WX h]
theorem EF {α:Type}(a:Nat)(l:List α):l.drop a=l.drop (min a l.length):=by
 rcases Nat.le_total a l.length with h |h
 ·rw[YJ h]
 ·rw[Nat.min_eq_right h,List.drop_length,Xb h]
theorem xU {α:Type}(a b:Nat)(l:List α):(l.drop a).take (b - a)=(l.drop (min a l.length)).take (min b l.length - min a l.length):=by
 rcases Nat.le_total a l.length with h |h
 ·rw[YJ h,EE]
  congr 1;rw[WK,Nat.sub_min_sub_right]
 ·rw[Nat.min_eq_right h,List.drop_length,Xb h,List.take_nil,List.take_nil]
theorem oN {α:Type}(lo hi:Option Int)(l:List α):xV lo hi l=eo lo hi l:=by
 induction lo with
 |none =>
  induction hi with
  |none=>rfl
  |some j =>
   induction j with
   |ofNat b =>
    skip;exact EE b l
   |negSucc=>rfl
 |some i =>
  induction i with
  |ofNat a =>
   induction hi with
   |none =>
    show l.drop a=(l.drop (hB l.length (.ofNat a))).take (l.length - hB l.length (.ofNat a));rw[iJ,<- WK,List.take_length];exact EF a l
   |some j =>
    induction j with
    |ofNat b =>
     skip;exact xU a b l
    |negSucc=>rfl
  |negSucc=>rfl
noncomputable def Ok (lo hi:Option Int)(x:Str):Str:=⟨⟨xV lo hi x.cps.toList⟩⟩
noncomputable def cx (lo hi:Option Int):D->Option D
 | .str x=>some (.str (Ok lo hi x))
 | .lst l=>some (.lst (xV lo hi l))
 | .tup l=>some (.tup (xV lo hi l))
 |_=>none
theorem H4 (lo hi:Option Int)(x:Str):Ok lo hi x=jj lo hi x:=congrArg (λl=>Str.mk ⟨l⟩) (oN lo hi _)
theorem gA (lo hi:Option Int)(d:D):cx lo hi d=yh lo hi d:=by
 cases d with
 |str x=>exact congrArg (λx=>some (D.str x)) (H4 lo hi x)
 |lst l=>exact congrArg (λx=>some (D.lst x)) (oN lo hi l)
 |tup l=>exact congrArg (λx=>some (D.tup x)) (oN lo hi l)
 |_=>rfl
theorem zN {vo vl vu:VQ}{sl:V4}{o d:D}{lo hi:Option Int}(am:Am A F s)(ho:aj F vo o)(pl:ct F vl lo)(pu:ct F vu hi)
  (hs:s.heap.IsSliceOf sl vl vu .none) (e:cx lo hi o=some d) (h:Rt F s d Q):wpAny (model ab w) A (getItem vo (.ref sl)) Q E s:=by
 rw[gA]at e;exact wP am ho pl pu hs e h
end
noncomputable def ls:List D->Option (List Int)
 |[]=>some []
 |d::r=>(un d).bind λi=>(ls r).map (i::·)
noncomputable def mO:List D->Option (List Str)
 |[]=>some []
 |d::r=>(BM d).bind λi=>(mO r).map (i::·)
theorem xu {F:Fz}{vs:List VQ}{ds:List D}{ns:List Int}(H:al F vs ds)(e:ls ds=some ns):IntsAre vs ns:=by
 induction ds generalizing vs ns with
 |nil=>rw[<- (aJ e)];rw[H.nil_inv];exact .nil
 |cons d ds ih =>
  refine bt e λi e1 e=>gt e λms e2 e=>?_
  rw[<- e];obtain⟨v,us,rfl,h,hr⟩:=H.cons_inv
  cases dR e1;clear H;obtain⟨_,rfl⟩:=h.int_inv;exact .cons _ _ (ih hr e2)
theorem o7 {F:Fz}{vs:List VQ}{ds:List D}{ns:List Str}(H:al F vs ds)(e:mO ds=some ns):StrsAre vs ns/\∀y∈ns,WP y=true:=by
 induction ds generalizing vs ns with
 |nil=>rw[<- (aJ e)];rw[H.nil_inv];exact⟨.nil,λ_ h=>(Wf h).elim⟩
 |cons d ds ih =>
  refine bt e λi e1 e=>gt e λms e2 e=>?_
  rw[<- e];obtain⟨v,us,rfl,h,hr⟩:=H.cons_inv
  cases eH e1;clear H;obtain⟨_,rfl,k,_⟩:=h.str3;have ih:=ih hr e2;exact⟨.cons _ _ ih.1,λy hy=>(V2.mp hy).elim (λq=>q▸k) (ih.2 y)⟩
noncomputable def jp:Int->List Int->Int
 |m,[]=>m
 |m,a::r=>jp (if a<m then a else m) r
theorem GO (l:List Int)(m:Int):jp m l<=m/\(∀a∈l,jp m l<=a)/\(jp m l=m\/jp m l∈l):=by
 delta l m;induction l generalizing m with
 |nil=>exact⟨Int.le_refl _,λ_ h=>(Wf h).elim,.inl rfl⟩
 |cons a r ih =>
  revert ih;delta a r m;intro ih;show jp (if a<m then a else m) r<=m/\(∀b∈a::r,jp (if a<m then a else m) r<=b)/\(jp (if a<m then a else m) r=m\/jp (if a<m then a else m) r∈a::r);by_cases c:a<m
  ·rw[if_pos c]
   obtain⟨h1,h2,h3⟩:=ih a;exact⟨YD h1 (Int.le_of_lt c),λb hb=>(V2.mp hb).elim (λq=>q▸h1) (h2 b),.inr (h3.elim (λq=>by rw[q];exact VT) (VS _))⟩
  ·rw[if_neg c]
   obtain⟨h1,h2,h3⟩:=ih m;exact⟨h1,λb hb=>(V2.mp hb).elim (λq=>q▸YD h1 (Int.not_lt.mp c)) (h2 b),h3.imp_right (VS _)⟩
inductive Bi where
 |len |min |max |range
 deriving Nonempty
noncomputable def Bi.value:Bi->VQ
 | .len=>.builtin "len"
 | .min=>.builtin "min"
 | .max=>.builtin "max"
 | .range=>.type "range"
noncomputable def Ng:D->Option D
 | .str x=>some (.int x.length)
 | .lst l=>some (.int l.length)
 | .tup l=>some (.int l.length)
 |_=>none
noncomputable def Qd:List D->Option D
 |[]=>none
 |d::r=>(un d).bind λi=>(ls r).map λns=>.int (jp i ns)
noncomputable def Br (k:D->Option D):List D->Option D
 |[]=>none
 |a::r=>match r with |[]=>k a |_::_=>none
noncomputable def Il (k:D->D->Option D):List D->Option D
 |[]=>none
 |a::r=>Br (k a) r
noncomputable def BL:Bi->List D->Option D
 | .len,l=>Br Ng l
 | .min,l=>Br (λd=>(Ps d).bind Qd) l
 | .max,l=>Il (Hx λa b=>some (.int (if b>a then b else a))) l
 | .range,l=>match l with
  |[]=>none
  |a::r=>match r with
   |[]=>(un a).bind λn=>if cN n=true then some (.rng 0 n)else none
   |b::r=>match r with |[]=>Hx (λa b=>if cN a&&cN b then some (.rng a b)else none) a b |_::_=>none
section
variable {ab:V8}{w:Wi}{A:V7}{E:VQ->VP->Prop}{s:VP}{F:Fz}{Q:VQ->VP->Prop}
theorem aA.keeps {F:Fz}{s:VP}(hf:∀a o,F a=some o->s.heap.get? a=some o){h':Wb}(k:∀b o,s.heap.get? b=some o->h'.get? b=some o)(n:Nat) :
  aA F s F { s with heap:=h',toks:=n }:=⟨F.le_refl,λa o _ e=>k a o e,.of k,λa o e=>k _ _ (hf _ _ e),λ_ _ e=>.inl e,rfl,rfl⟩
theorem nG {F:Fz}{s:VP}(hf:∀a o,F a=some o->s.heap.get? a=some o):F s.heap.objs.size=none:=by
 cases e:F s.heap.objs.size with
 |none=>rfl
 |some p=>have:=hf _ _ e;rw[bu]at this;exact bg this
theorem F_ {v:VQ}{i:Int}{r:List D}{ns:List Int}(am:Am A F s)(h1:aj F v (.lst (.int i::r)))(e:ls r=some ns)(h:Rt F s (.int (jp i ns)) Q):wpAny (model ab w) A (call (.builtin "min") [v]) Q E s:=by
 revert am h1 e h;delta ab w A E s F Q v i r ns;intro am h1 e h;obtain⟨a,vs,rfl,ht,r',z,q⟩:=h1.isLst am.fz;delta a vs;intro h1 ht r' q;have hi:IntsAre vs.toList (i::ns):=xu r' (w6 e);obtain⟨xs,ex⟩:1:=hi.allInts.items;have yT:i::ns=xs.toList.map (·.1):=by rw[<- hi.numsOf,<- nums_intItems,<- ex]
 have hsz:0<xs.size:=by
  have:(i::ns).length=xs.size:=by rw[yT];simp
  simp only[VY]at this;lia
 have xA:s.heap.IsList a (intItems xs):=by rw[<- ex];simpa using ht
 refine min_intList am.hh xA hsz ?_;exists v,h',tk;intro hv hk;obtain⟨t,rfl⟩:=intItems_at hv;delta t;intro hv;obtain⟨h1,h2⟩:=argBest_lt (numAt xs) (xs.size - 1);have hm:=GO ns i;have TZ:numAt xs (argBest (λi j=>decide (numAt xs i<numAt xs j)) (xs.size - 1))∈i::ns:=by
  rw[yT,numAt_eq];exact getD_mem (by rw[VZ,WA];exact R6 ‹_› ‹_›)
 have T3:∀a∈i::ns,numAt xs (argBest (λi j=>decide (numAt xs i<numAt xs j)) (xs.size - 1))<=a:=λa ha=>by
  delta a;intro ha;rw[yT]at ha;replace ha:=mem_getD ha;obtain⟨j,hj,rfl⟩:=ha;rw[VZ,WA]at hj;rw[<- numAt_eq];exact h2 j (Nat.le_sub_one_of_lt ‹_›)
 have eq:numAt xs (argBest (λi j=>decide (numAt xs i<numAt xs j)) (xs.size - 1))=jp i ns:=by
  have a1:jp i ns∈i::ns:=by
   rcases hm.2.2 with q |q
   ·rw[q];exact VT
   ·exact VS _ q
  have a2:=T3 _ a1;have a3:jp i ns<=numAt xs (argBest (λi j=>decide (numAt xs i<numAt xs j)) (xs.size - 1)):=by
   rcases V2.mp TZ with q |q
   ·rw[q];exact hm.1
   ·exact hm.2.1 _ q
  lia
 rw[eq];exact h _ _ _ (aA.keeps am.fz hk _) (.int _ _)
theorem wu {k:D->Option D}{l:List D}{d:D}(e:Br k l=some d):∃a,l=[a]/\k a=some d:=by
 cases l with
 |nil=>exact bg e
 |cons a l=>induction l with
  |nil=>exact⟨a,rfl,e⟩
  |cons=>exact bg e
theorem wt {k:D->D->Option D}{l:List D}{d:D}(e:Il k l=some d):∃a b,l=[a,b]/\k a b=some d:=by
 induction l with
 |nil=>exact bg e
 |cons a l=>exact⟨a,(wu e).imp λ_ z=>⟨congrArg _ z.1,z.2⟩⟩
theorem Jr {k:D->Option D}{l:List D}{d:D}{vs:List VQ}{G:Prop}(hs:al F vs l)(e:Br k l=some d)(g:∀v a,vs=[v]->aj F v a->k a=some d->G):G:=by
 obtain⟨a,rfl,e⟩:=wu e;obtain⟨v,us,rfl,h1,h2⟩:=hs.cons_inv;clear hs;obtain rfl:=h2.nil_inv;exact g _ _ rfl h1 e
theorem Ou {k:D->D->Option D}{l:List D}{d:D}{vs:List VQ}{G:Prop}(hs:al F vs l)(e:Il k l=some d)(g:∀v u a b,vs=[v,u]->aj F v a->aj F u b->k a b=some d->G):G:=by
 obtain⟨a,b,rfl,e⟩:=wt e;obtain⟨v,us,rfl,h1,h2⟩:=hs.cons_inv;clear hs;obtain⟨u,us,rfl,h3,h4⟩:=h2.cons_inv;clear h2;obtain rfl:=h4.nil_inv;exact g _ _ _ _ rfl h1 h3 e
theorem Gc {v:VQ}{a d:D}(am:Am A F s)(h1:aj F v a)(e:Ng a=some d)(h:Rt F s d Q):wpAny (model ab w) A (call (.builtin "len") [v]) Q E s:=by
 cases a with
 |str x=>obtain rfl:=aJ e;obtain⟨_,rfl,k,z⟩:=h1.str3;exact P.len_str (Int.not_le.mpr (su z)) (h.val am (.int _ _) _)
 |lst l=>obtain rfl:=aJ e;obtain⟨a,vs,rfl,ht,r,z,q⟩:=h1.isLst am.fz;exact Calls.call_len_list ht (su (VX (WO q) z)) (by rw[q];exact h.val am (.int _ _) _)
 |tup l=>obtain rfl:=aJ e;obtain⟨a,vs,rfl,ht,r,z,q⟩:=h1.isTup am.fz;exact len_tuple ht (su (VX (WO q) z)) (by rw[q];exact h.val am (.int _ _) _)
 |_=>exact bg e
theorem Ga {va vb:VQ}{a b d:D}(am:Am A F s)(ha:aj F va a)(hb:aj F vb b)(e:Hx (λa b=>some (.int (if b>a then b else a))) a b=some d)(h:Rt F s d Q):wpAny (model ab w) A (call (.builtin "max") [va,vb]) Q E s:=by
 refine KL ha hb e λi j t u e1 e2 e=>?_
 clear ha hb;subst e1 e2;obtain rfl:=aJ e;refine max_two_ints am.hh λh' tk hk=>h _ _ _ (aA.keeps am.fz hk tk) ?_
 split<;>exact .int _ _
theorem Ci {v:VQ}{a d:D}(am:Am A F s)(h1:aj F v a)(e:((un a).bind λn=>if cN n=true then some (D.rng 0 n)else none)=some d)(h:Rt F s d Q):wpAny (model ab w) A (call (.type "range") [v]) Q E s:=by
 refine bt e λn e1 e=>jr e λc e=>?_
 obtain rfl:=aJ e
 cases dR e1;obtain⟨_,rfl⟩:=h1.int_inv;exact call_range_1 (h.push am _ _ (.rng (t:=s.toks) (u:=_) (v:=s.toks+1) (F.set_self _ _) (by rw[c];rfl)))
theorem Ch {va vb:VQ}{a b d:D}(am:Am A F s)(ha:aj F va a)(hb:aj F vb b)(e:Hx (λa b=>if cN a&&cN b then some (.rng a b)else none) a b=some d)(h:Rt F s d Q):wpAny (model ab w) A (call (.type "range") [va,vb]) Q E s:=by
 refine KL ha hb e λi j t u e1 e2 e=>jr e λc e=>?_
 subst e1 e2;obtain rfl:=aJ e;exact call_range_2 (h.push am _ _ (.rng (v:=s.toks) (F.set_self _ _) c))
theorem JV {b:Bi}{vs:List VQ}{ds:List D}{d:D}(am:Am A F s)(hs:al F vs ds)(e:BL b ds=some d)(h:Rt F s d Q) :
  wpAny (model ab w) A (call b.value vs) Q E s:=by
 delta ab w A E s F Q b vs ds d;intro am hs e h;induction b with
 |len=>exact Jr hs e λv a q h1 e=>q▸Gc am h1 e h
 |min =>
  refine Jr hs e λv a q h1 e=>bt e λl e1 e4=>?_
  cases um e1;clear e1;cases l with
  |nil=>exact bg e4
  |cons x r =>
   refine bt e4 λi e2 e5=>gt e5 λns e3 e6=>?_
   cases dR e2;clear hs e5 e4;subst e6 q;exact F_ am h1 e3 h
 |max=>exact Ou hs e λv u a b q h1 h2 e=>q▸Ga am h1 h2 e h
 |range =>
  cases ds with
  |nil=>exact bg e
  |cons a r =>
   obtain⟨v,us,rfl,h1,h2⟩:=hs.cons_inv;clear hs;cases r with
   |nil =>
    obtain rfl:=h2.nil_inv;exact Ci am h1 e h
   |cons b r =>
    obtain⟨u,us,rfl,h4,h3⟩:=h2.cons_inv;clear h2;induction r with
    |nil =>
     obtain rfl:=h3.nil_inv;exact Ch am h1 h4 e h
    |cons=>exact bg e
noncomputable def nQ (name x:Str)(l:List D):Option D:=if gu name.cps.toList [106,111,105,110]=true/\x.length<=16 then(mO l).bind λys=>if(ys.map (·.length)).sum+ys.length*17<=1000000 then some (.str (Yi x ys))else none else none
noncomputable def MT (name x:Str)(a b:D):Option D:=(BM a).bind λy=>(BM b).bind λ_=>if gu name.cps.toList [114,101,112,108,97,99,101]=true/\(Builtin.Str.occurrences x y 0 x.length (x.length+1)).isEmpty=true then some (.str x)else none
noncomputable def iD (name:Str)(o:D)(args:List D):Option D:=(BM o).bind λx=>match args with
 |[]=>none
 |a::r=>match r with
  |[]=>MN (nQ name x) (λ_=>none) none a
  |_::_=>Br (MT name x a) r
theorem yE (sep:Str)(ys:List Str):Txt.join sep ys=Yi sep ys:=by
 have:=join_closes (sep:=sep) (sep':=sep) (ys:=ys) rfl;simpa using this
theorem wL {sep:Str}(hs:WP sep=true){ys:List Str}(h:∀y∈ys,WP y=true):WP (Yi sep ys)=true:=by
 induction ys with
 |nil=>simp[Yi,WT,WP]
 |cons x r ih =>
  have ih:=ih λz hz=>h z (VS _ hz)
  induction r with
  |nil=>exact h x VT
  |cons y r=>exact eW (eW (h x VT) hs) ih
theorem Db (sep:Str)(ys:List Str):(Yi sep ys).length<=(ys.map (·.length)).sum+ys.length*sep.length:=by
 induction ys with
 |nil=>exact W7 _
 |cons x r ih =>
  induction r with
  |nil=>exact VX (Xm _ _) (Xm _ _)
  |cons y r =>
   show(x++sep++Yi sep (y::r)).length<=(x.length+((y::r).map (·.length)).sum)+((y::r).length+1)*sep.length;rw[bK,bK,Nat.succ_mul];lia
theorem Au {n:Str}(h:gu n.cps.toList [106,111,105,110]=true):n=VN "join" :=by
 have:=ce.mp h;clear h;obtain⟨⟨l⟩⟩:=n;have:l=[106,111,105,110]:=this;rw[this];decide +kernel
theorem tC {n:Str}(h:gu n.cps.toList [114,101,112,108,97,99,101]=true):n=VN "replace" :=by
 have:=ce.mp h;clear h;obtain⟨⟨l⟩⟩:=n;have:l=[114,101,112,108,97,99,101]:=this;rw[this];decide +kernel
theorem Cn {x:Str}{t:Tok}{vl:VQ}{l:List D}{d:D}(am:Am A F s)(hx:aj F (.str x t) (.str x))(hd:aj F vl (.lst l)\/aj F vl (.tup l))(KR:x.length<=16)
  (e:((mO l).bind λys=>if(ys.map (·.length)).sum+ys.length*17<=1000000 then some (D.str (Yi x ys))else none)=some d) (h:Rt F s d Q) :
  wpAny (model ab w) A (call (.builtin "str.join") [.str x t,vl]) Q E s:=by
 revert am hx hd KR e h;delta ab w A E s F Q x t vl l d;intro am hx hd KR e h;refine bt e λys hy e=>jr e λc e=>?_
 ·delta ys;intro hy _ c e;obtain rfl:=aJ e
  obtain⟨_,_,k,z⟩:=hx.str3;have vK:ys.length*x.length<=ys.length*16:=Nat.mul_le_mul_left _ KR;have fin:∀(tZ:∀y∈ys,WP y=true),∀t' k,Q (.str (Txt.join x ys) t') { s with toks:=k }:=λtZ t' k'=>by
   rw[yE];exact h.val am (.str _ _ (wL k tZ) (VX (Db x ys) (Pz ‹_› ‹_›))) k'
  rcases hd with hd |hd
  ·replace hd:=hd.isLst am.fz;obtain⟨a,vs,rfl,ht,r,z,q⟩:=hd
   have:=o7 r hy;exact join_list ht this.1 (VX (Pz ‹_› ‹_›) ⋯) (fin this.2)
  ·replace hd:=hd.isTup am.fz;obtain⟨a,vs,rfl,ht,r,z,q⟩:=hd
   have:=o7 r hy;exact join_tuple ht this.1 (VX (Pz ‹_› ‹_›) ⋯) (fin this.2)
end
inductive aO (T:Type) where
 |val (d:D)
 |own (l:List D)
 |app (x:Str)
 |flg (TY:Bool) (t:T)
 |dead
 deriving Nonempty
noncomputable def d4 (a b:Str):Bool:=gu a.cps.toList b.cps.toList
theorem bl {a b:Str}:d4 a b=true↔a=b:=by
 unfold d4;rw[ce];constructor
 ·intro h
  induction a;induction b;simp only[Str.mk.injEq];exact X6.mp h
 ·rintro rfl;rfl
theorem dG {a b:Str}(h:a≠b):d4 a b=false:=by cases q:d4 a b with |false=>rfl |true=>exact absurd (bl.mp q) h
noncomputable abbrev bc:=List (Str×Xn)
noncomputable def bv:bc->Str->Option Xn
 |[],_=>none
 |p::r,x=>a_ (some p.2) (bv r x) (d4 p.1 x)
theorem fc (x:Str)(l:bc):bv l x=l.lookup x:=by
 induction l with
 |nil=>rfl
 |cons p r ih =>
  obtain⟨y,k⟩:=p;rw[XE,<- ih];by_cases h:x=y
  ·rw[h];rw[beq_self_eq_true];exact congrArg (a_ _ _) (bl.mpr rfl)
  ·rw[beq_eq_false_iff_ne.mpr h];exact congrArg (a_ _ _) (dG (W6 h))
noncomputable def fW (l:bc)(x:Str):Bool:=match bv l x with |some .globalImplicit=>true |_=>false
noncomputable def js (l:bc)(x:Str):Bool:=fW l x&&!(d4 x dy)
theorem js_0 {l:bc}{x:Str}(h:js l x=true):fW l x=true:=by
 unfold js at h;rw[V3]at h;exact h.1
theorem js_1 {l:bc}{x:Str}(h:js l x=true):d4 x dy=false:=by
 unfold js at h;rw[V3,Wv]at h;exact h.2
noncomputable def AH:Xn->Bool | .free=>true |_=>false
noncomputable def m0:bc->Bool
 |[]=>true
 |p::r=>!(AH p.2)&&m0 r
noncomputable def Ni (ps:Zk)(sc:YB):Bool:=ps.defaults.isEmpty&&ps.kw_defaults.isEmpty&&m0 sc.names
noncomputable def Qj (l:bc)(x m:Str)(y:Expr):Expr->Option Expr
 | .Lambda ps _ sc _=>gd (fW l x&&d4 x dy&&gu m.cps.toList [115,117,98]&&Ni ps sc) (some y)
 |_=>none
noncomputable def yo (l:bc)(x m:Str):List Expr->Option Expr
 |[]=>none
 |e::r=>match r with
  |[]=>none
  |y::r=>match r with |[]=>Qj l x m y e |_::_=>none
noncomputable def bW (l:bc)(x:Str):Bool:=match bv l x with |some .local=>true |some .cell=>true |_=>false
noncomputable def AJ (l:bc)(x:Str):Bool:=match bv l x with |some .cell=>true |some .free=>true |_=>false
theorem sh {l:bc}{x:Str}(h:fW l x=true):bv l x=some .globalImplicit:=by
 unfold fW at h
 cases q:bv l x with
 |none=>rw[q]at h;exact eV h
 |some k=>rw[q]at h;clear q;induction k<;>first |rfl |exact eV h
theorem iE {l:bc}{x:Str}(h:bW l x=true):bv l x=some .local\/bv l x=some .cell:=by
 unfold bW at h
 cases q:bv l x with
 |none=>rw[q]at h;exact eV h
 |some k=>rw[q]at h;clear q;induction k<;>first |exact .inl rfl |exact .inr rfl |exact eV h
theorem vD {l:bc}{x:Str}(h:AJ l x=true):bv l x=some .cell\/bv l x=some .free:=by
 unfold AJ at h
 cases q:bv l x with
 |none=>rw[q]at h;exact eV h
 |some k=>rw[q]at h;clear q;induction k<;>first |exact .inl rfl |exact .inr rfl |exact eV h
set_option genCtorIdx false in
structure az (T:Type) where
 nm:bc
 vs:List (Str×aO T)
 deriving Nonempty
noncomputable def dD {T:Type}:List (Str×aO T)->Str->Option (aO T)
 |[],_=>none
 |p::r,x=>a_ (some p.2) (dD r x) (d4 p.1 x)
theorem D8 {T:Type}{p:Str×aO T}{r:List (Str×aO T)}{x:Str}{b:aO T}{G:Prop}(e:dD (p::r) x=some b)(h:p.1=x->p.2=b->G)(k:dD r x=some b->G):G:=by
 cases q:d4 p.1 x with
 |true=>exact h (bl.mp q) (aJ (show a_ (some p.2) (dD r x) true=some b by rw[<- q];exact e))
 |false=>exact k (show a_ (some p.2) (dD r x) false=some b by rw[<- q];exact e)
noncomputable def jQ {T:Type}(x:Str)(b:aO T):aO T:=match b with
 | .app z=>a_ .dead (.app z) (d4 z x)
 |b=>b
noncomputable def nO {T:Type}(x:Str):List (Str×aO T)->List (Str×aO T)
 |[]=>[]
 |p::r=>(p.1,jQ x p.2)::nO x r
noncomputable def oc {T:Type}(l:List (Str×aO T))(x:Str)(b:aO T):List (Str×aO T):=match l with
 |[]=>[(x,b)]
 |p::r=>a_ ((p.1,b)::nO x r) ((p.1,jQ x p.2)::oc r x b) (d4 p.1 x)
noncomputable def Fd {T:Type}(l:List (Str×aO T))(x:Str)(b:aO T):List (Str×aO T):=match l with
 |[]=>[]
 |p::r=>a_ ((p.1,b)::r) (p::Fd r x b) (d4 p.1 x)
noncomputable def az.get {T:Type}(σ:az T)(x:Str):Option (aO T):=dD σ.vs x
noncomputable def az.set {T:Type}(σ:az T)(x:Str)(b:aO T):az T:=⟨σ.nm,oc σ.vs x b⟩
noncomputable def az.up {T:Type}(σ:az T)(x:Str)(b:aO T):az T:=⟨σ.nm,Fd σ.vs x b⟩
theorem A5 {T:Type}(x y:Str)(l:List (Str×aO T)):dD (nO x l) y=(dD l y).map (jQ x):=by
 induction l with
 |nil=>rfl
 |cons p r ih =>
  show a_ (some (jQ x p.2)) (dD (nO x r) y) (d4 p.1 y)=(a_ (some p.2) (dD r y) (d4 p.1 y)).map (jQ x)
  cases d4 p.1 y with
  |true=>rfl
  |false=>exact ih
theorem A4 {T:Type}(b:aO T)(x y:Str)(l:List (Str×aO T)):dD (oc l x b) y=if y=x then some b else(dD l y).map (jQ x):=by
 induction l with
 |nil =>
  show a_ (some b) none (d4 x y)=_;by_cases h:y=x
  ·rw[if_pos h,bl.mpr h.symm];rfl
  ·rw[if_neg h,dG (W6 h)];rfl
 |cons p r ih =>
  obtain⟨z,c⟩:=p;show dD (a_ ((z,b)::nO x r) ((z,jQ x c)::oc r x b) (d4 z x)) y=if y=x then some b else(a_ (some c) (dD r y) (d4 z y)).map (jQ x)
  by_cases e:z=x
  ·clear ih;subst e
   rw[bl.mpr rfl];show a_ (some b) (dD (nO z r) y) (d4 z y)=_;by_cases h:y=z
   ·rw[if_pos h,bl.mpr h.symm];rfl
   ·rw[if_neg h,dG (W6 h)];exact A5 z y r
  ·rw[dG e]
   show a_ (some (jQ x c)) (dD (oc r x b) y) (d4 z y)=_;rw[ih];by_cases h:z=y
   ·clear ih;subst h;rw[bl.mpr rfl,if_neg e,if_neg e];rfl
   ·rw[dG h];rfl
theorem D_ {T:Type}(b:aO T)(x y:Str)(l:List (Str×aO T)):dD (Fd l x b) y=if y=x then(dD l x).map λ_=>b else dD l y:=by
 induction l with
 |nil=>exact(ite_self _).symm
 |cons p r ih =>
  obtain⟨z,c⟩:=p;show dD (a_ ((z,b)::r) ((z,c)::Fd r x b) (d4 z x)) y=if y=x then(a_ (some c) (dD r x) (d4 z x)).map (λ_=>b)else a_ (some c) (dD r y) (d4 z y);by_cases e:z=x
  ·clear ih;subst e
   rw[bl.mpr rfl];show a_ (some b) (dD r y) (d4 z y)=_;by_cases h:y=z
   ·rw[if_pos h,bl.mpr h.symm];rfl
   ·rw[if_neg h,dG (W6 h)];rfl
  ·rw[dG e]
   show a_ (some c) (dD (Fd r x b) y) (d4 z y)=_;rw[ih];by_cases h:z=y
   ·clear ih;subst h;rw[bl.mpr rfl,if_neg e,if_neg e]
   ·rw[dG h];rfl
theorem az.get_set {T:Type}(b:aO T)(x y:Str)(σ:az T):(σ.set x b).get y=if y=x then some b else(σ.get y).map (jQ x):=A4 b x y σ.vs
theorem az.get_up {T:Type}(b:aO T)(x y:Str)(σ:az T):(σ.up x b).get y=if y=x then(σ.get x).map λ_=>b else σ.get y:=D_ b x y σ.vs
noncomputable def lV:Data->Prop
 | .dict .. | .set .. | .plain=>True
 |_=>False
set_option genCtorIdx false in
structure gJ where
 T:Type
 At:Fz->Wb->VQ->T->List V4->Prop
 loc:∀{F F':Fz} {h h':Wb} {v:VQ} {t:T} {O:List V4},At F h v t O->F.le F'->(∀a∈O,h'.get? a=h.get? a)->At F' h' v t O
 alive:∀{F:Fz} {h:Wb} {v:VQ} {t:T} {O:List V4},At F h v t O->∀a∈O,∃o,h.get? a=some o/\lV o.data
 aa:T->Str->List D->Option D
theorem neEx:Nonempty gJ:=⟨⟨Unit,λ_ _ _ _ _=>False,λh=>h.elim,λh=>h.elim,λ_ _ _=>none⟩⟩
open Lean Parser Tactic in
local macro_rules (kind:=Lean.Parser.Tactic.unfold)
|s=>do
 if s[1].getNumArgs≠1||s[2].getNumArgs≠0 then Macro.throwUnsupported
 let h:=q9N ``Term.hole #[q9A "_"]
 return q9P #[q9N ``revert #[q9A "revert",s[1]],q9R (q9N ``Term.noImplicitLambda #[q9A "no_implicit_lambda%",q9F (q9I "gnz") #[q9N ``Term.byTactic #[q9A "by",q9Q #[q9X #[q9N ``exact #[q9A "exact",q9I "neEx"],q9N ``tacticInfer_instance #[q9A "infer_instance"]]]],q9H]]),q9N ``generalize #[q9A "generalize",q9L #[q9N ``generalizeArg #[q9L #[],q9F (q9I "epz") #[h,h],q9A "=",s[1][0]]],q9L #[]]]
noncomputable def gJ.but (X:gJ)(C:V4):gJ where
 T:=X.T
 At:=λF h v t O=>X.At F h v t O/\C∉O
 loc:=λa b c=>⟨X.loc a.1 b c,a.2⟩
 alive:=λa=>X.alive a.1
 aa:=X.aa
noncomputable abbrev b_:=Str->List D->Option D
noncomputable def xW:Const->Option D
 | .none=>some .none
 | .bool b=>some (.bool b)
 | .int i=>some (.int i)
 | .str s=>gd (WP s&&Wm s.length 1000000) (some (.str s))
 |_=>none
noncomputable def jv (f:Str):Option Bi :=
 a_ (some .len) (a_ (some .range) (a_ (some .min) (a_ (some .max) none (gu f.cps.toList [109,97,120])) (gu f.cps.toList [109,105,110])) (gu f.cps.toList [114,97,110,103,101])) (gu f.cps.toList [108,101,110])
noncomputable def bX (a:Int):Nat->List D
 |0=>[]
 |n+1=>.int a::bX (a+1) n
noncomputable def cP:D->Option (List D)
 | .lst l=>some l
 | .tup l=>some l
 | .rng a b=>some (bX a (b - a).toNat)
 |_=>none
noncomputable def qM:Option D->Option (Option Int)
 |none=>some none
 |some d=>(un d).map some
noncomputable def iC:List D->Option Str
 |[]=>some WT
 |d::r=>(BM d).bind λx=>(iC r).map (x++·)
section
variable {T:Type}
noncomputable abbrev Fn (T:Type):=az T->Bool->Expr->Option D
noncomputable def EP (σ:az T)(d:D):Expr->Option (az T)
 | .Name x _=>gd (bW σ.nm x) (some (σ.set x (.val d)))
 |_=>none
noncomputable def cw (σ:az T)(es:List Expr)(ds:List D):Option (az T):=match es with
 |[]=>match ds with |[]=>some σ |_::_=>none
 |e::es=>match ds with |[]=>none |d::ds=>(EP σ d e).bind λσ=>cw σ es ds
noncomputable def bB (σ:az T)(e:Expr)(d:D):Option (az T):=match e with
 | .Tuple es _ _=>(ET d).bind (cw σ es)
 |e=>EP σ d e
noncomputable def xL (σ:az T):Expr->Bool
 | .Name x _=>match σ.get x with |none=>true |some _=>false
 |_=>false
noncomputable def xK (σ:az T):List Expr->Bool
 |[]=>true
 |e::es=>xL σ e&&xK σ es
noncomputable def ja (σ:az T):Expr->Bool
 | .Tuple es _ _=>xK σ es
 |e=>xL σ e
noncomputable def bq (f:Fn T)(σ:az T):List Expr->Option Bool
 |[]=>some true
 |e::es=>((f σ true e).bind BN).bind (a_ (bq f σ es) (some false))
noncomputable def gM (f:Fn T)(σ:az T):List Expr->Option Bool
 |[]=>some false
 |e::es=>((f σ true e).bind BN).bind (a_ (some true) (gM f σ es))
noncomputable def LO (f:Fn T)(σ:az T):List Expr->Option D
 |[]=>none
 |e::es=>match es with
  |[]=>f σ false e
  |_::_=>(f σ false e).bind λd=>(gK d).bind (a_ (LO f σ es) (some d))
noncomputable def PZ (f:Fn T)(σ:az T):List Expr->Option D
 |[]=>none
 |e::es=>match es with
  |[]=>f σ false e
  |_::_=>(f σ false e).bind λd=>(gK d).bind (a_ (some d) (PZ f σ es))
noncomputable def k5 (f:Fn T)(σ:az T):List Expr->Option (List D)
 |[]=>some []
 |e::es=>(f σ false e).bind λd=>(k5 f σ es).map (d::·)
theorem Ev {T:Type}{f:Fn T}{σ:az T}{e:Expr}{d:D}(h:f σ false e=some d):k5 f σ [e]=some [d]:=congrArg (·.bind λd=>some [d]) h
theorem Bh {T:Type}{f:Fn T}{σ:az T}{e e':Expr}{d d':D}(h:f σ false e=some d)(h':f σ false e'=some d'):k5 f σ [e,e']=some [d,d']:=(congrArg (·.bind λd=>(k5 f σ [e']).map (d::·)) h).trans (congrArg (·.map (d::·)) (Ev h'))
noncomputable def Oj (f:Fn T)(σ:az T):Option Expr->Option (Option D)
 |none=>some none
 |some e=>(f σ false e).map some
noncomputable def pR {α β:Type}(g:α->Option β):List α->Option (List β)
 |[]=>some []
 |x::r=>(g x).bind λy=>(pR g r).map (y::·)
theorem Kd {α β:Type}(g:α->Option β)(x:α)(r:List α):pR g (x::r)=(g x).bind λy=>(pR g r).map (y::·):=rfl
noncomputable def comp (f:Fn T)(elt:Expr):List V6->az T->List D->Option (List D)
 |[],σ,_=>(f σ false elt).map ([·])
 |g::gs,σ,items=>gd (ja σ g.target) ((pR (λx=>(bB σ g.target x).bind λσ'=>(bq f σ' g.ifs).bind (a_ (match gs with
   |[]=>(f σ' false elt).map ([·])
   |g'::_=>(f σ' false g'.iter).bind λd=>(cP d).bind λits=>comp f elt gs σ' its) (some []))) items).map List.flatten)
noncomputable def Qx {T:Type}(x:Str)(l:List (Str×aO T)):Option (aO T)->List (Str×aO T)
 |none=>l
 |some b=>match b with
  | .val d=>(x,.val d)::l
  | .flg _ t=>(x,.flg false t)::l
  |_=>l
noncomputable def nj (vs:List (Str×aO T)):bc->List (Str×aO T)
 |[]=>[]
 |p::r=>a_ (Qx p.1 (nj vs r) (dD vs p.1)) (nj vs r) (AH p.2)
noncomputable def di (sc:YB)(σ:az T):az T:=⟨sc.names,nj σ.vs sc.names⟩
noncomputable def pC:bc->Bool
 |[]=>true
 |p::r=>!(gu p.1.cps.toList [95,95,100,101,98,117,103,95,95])&&!(gu p.1.cps.toList [95,95,99,108,97,115,115,100,105,99,116,95,95])&&pC r
noncomputable def j9:bc->Bool
 |[]=>true
 |p::r=>(bv r p.1).isNone&&j9 r
noncomputable def jb (nm:bc):bc->Bool
 |[]=>true
 |p::r=>a_ (AJ nm p.1) true (AH p.2)&&jb nm r
noncomputable def Nq:ScopeKind->Bool | .function=>true |_=>false
theorem DF {k:ScopeKind}(h:Nq k=true):k=.function:=by induction k<;>first |rfl |exact eV h
theorem DE {k:Xn}(h:AH k=true):k=.free:=by induction k<;>first |rfl |exact eV h
noncomputable def jF (gs:List V6):Bool:=gs.all λg=>decide (g.is_async=0)
noncomputable def oe (nm:bc)(sc:YB):Bool:=Nq sc.kind&&j9 sc.names&&jb nm sc.names&&pC sc.names&&!(fW sc.names dy)
set_option genCtorIdx false in
inductive VV where
 |const (c:Const)
 |name (x:Str)
 |bin (l:Expr) (op:YW) (r:Expr)
 |not (x:Expr)
 |neg (i:Int)
 |and (es:List Expr)
 |or (es:List Expr)
 |cmp (l:Expr) (op:CmpOp) (r:Expr)
 |ite (t b o:Expr)
 |tup (es:List Expr)
 |lst (es:List Expr)
 |slc (v:Expr) (lo hi:Option Expr)
 |subN (x:Str) (i:Expr)
 |sub (v i:Expr)
 |callN (f:Str) (args:List Expr)
 |callM (x m:Str) (aE:X7) (args:List Expr) (pos:X7)
 |callC (c:Const) (m:Str) (aE:X7) (args:List Expr) (pos:X7)
 |comp (elt:Expr) (g:V6) (gs:List V6) (sc:YB)
 |join (es:List Expr)
 |fmt (v:Expr) (c:Int)
 |no
noncomputable def TE (x:Expr):UnaryOp->VV
 | .Not=>.not x
 | .USub=>match x with
  | .Constant c _ _=>match c with | .int i=>.neg i |_=>.no
  |_=>.no
 |_=>.no
noncomputable def U_ (es:List Expr):BoolOp->VV
 | .And=>.and es
 | .Or=>.or es
noncomputable def U8 (l:Expr):List CmpOp->List Expr->VV
 |[],_=>.no
 |o::os,rs=>match os with
  |[]=>match rs with
   |[]=>.no
   |r::q=>match q with |[]=>.cmp l o r |_::_=>.no
  |_::_=>.no
noncomputable def MI (v i:Expr):VV:=match v with
 | .Name x _=>.subN x i
 |v=>.sub v i
noncomputable def TL (v i:Expr):VV:=match i with
 | .Slice lo hi st _=>match st with |none=>.slc v lo hi |some _=>.no
 |i=>MI v i
noncomputable def U9 (m:Str)(aE:X7)(args:List Expr)(pos:X7)(v:Expr):VV:=match v with
 | .Name x _=>.callM x m aE args pos
 | .Constant c _ _=>.callC c m aE args pos
 |_=>.no
noncomputable def Tb (f:Expr)(args:List Expr)(pos:X7):VV:=match f with
 | .Name f _=>.callN f args
 | .Attribute v m aE=>U9 m aE args pos v
 |_=>.no
noncomputable def vv:Expr->VV
 | .Constant c _ _=>.const c
 | .Name x _=>.name x
 | .BinOp l op r _=>.bin l op r
 | .UnaryOp op x _=>TE x op
 | .BoolOp op es _=>U_ es op
 | .Compare l ops rs _=>U8 l ops rs
 | .IfExp t b o _=>.ite t b o
 | .Tuple es _ _=>.tup es
 | .List es _=>.lst es
 | .Subscript v i _=>TL v i
 | .Call f args kws pos=>match kws with |[]=>Tb f args pos |_::_=>.no
 | .ListComp elt gs sc _=>match gs with |[]=>.no |g::gs=>.comp elt g gs sc
 | .JoinedStr es _=>.join es
 | .FormattedValue v c sp _=>match sp with |none=>.fmt v c |some _=>.no
 |_=>.no
inductive oQ:Expr->VV->Prop
 |const {c k p}:oQ (.Constant c k p) (.const c)
 |name {x p}:oQ (.Name x p) (.name x)
 |bin {l op r p}:oQ (.BinOp l op r p) (.bin l op r)
 |not {x p}:oQ (.UnaryOp .Not x p) (.not x)
 |neg {i k q p}:oQ (.UnaryOp .USub (.Constant (.int i) k q) p) (.neg i)
 |and {es p}:oQ (.BoolOp .And es p) (.and es)
 |or {es p}:oQ (.BoolOp .Or es p) (.or es)
 |cmp {l op r p}:oQ (.Compare l [op] [r] p) (.cmp l op r)
 |ite {t b o p}:oQ (.IfExp t b o p) (.ite t b o)
 |tup {es k p}:oQ (.Tuple es k p) (.tup es)
 |lst {es p}:oQ (.List es p) (.lst es)
 |slc {v lo hi q p}:oQ (.Subscript v (.Slice lo hi none q) p) (.slc v lo hi)
 |subN {x q i p}:oQ (.Subscript (.Name x q) i p) (.subN x i)
 |sub {v i p}:oQ (.Subscript v i p) (.sub v i)
 |callN {f q args p}:oQ (.Call (.Name f q) args [] p) (.callN f args)
 |callM {x q m aE args p}:oQ (.Call (.Attribute (.Name x q) m aE) args [] p) (.callM x m aE args p)
 |callC {c k q m aE args p}:oQ (.Call (.Attribute (.Constant c k q) m aE) args [] p) (.callC c m aE args p)
 |comp {elt g gs sc p}:oQ (.ListComp elt (g::gs) sc p) (.comp elt g gs sc)
 |join {es p}:oQ (.JoinedStr es p) (.join es)
 |fmt {v c p}:oQ (.FormattedValue v c none p) (.fmt v c)
 |no {e}:oQ e .no
theorem Qu (v i:Expr)(p:X7):oQ (.Subscript v i p) (MI v i):=by cases v<;>constructor
theorem Qv (f:Expr)(args:List Expr)(p:X7):oQ (.Call f args [] p) (Tb f args p):=by
 cases f with
 |Attribute v m q=>cases v<;>constructor
 |_=>constructor
theorem Qr (e:Expr):oQ e (vv e):=by
 cases e with
 |UnaryOp op x p =>
  induction op with
  |USub =>
   cases x with
   |Constant c k q=>induction c<;>constructor
   |_=>constructor
  |_=>constructor
 |BoolOp op es p=>induction op<;>constructor
 |Compare l ops rs p =>
  cases ops with
  |nil=>constructor
  |cons o os =>
   induction os with
   |nil =>
    induction rs with
    |nil=>constructor
    |cons r q=>induction q<;>constructor
   |cons=>constructor
 |Subscript v i p =>
  cases i with
  |Slice lo hi st q=>induction st<;>constructor
  |_=>exact Qu _ _ _
 |Call f args kws p =>
  induction kws with
  |nil=>exact Qv _ _ _
  |cons=>constructor
 |ListComp elt gs sc p=>induction gs<;>constructor
 |FormattedValue v c sp p=>induction sp<;>constructor
 |_=>constructor
noncomputable def BV:Option (aO T)->Option D |some b=>(match b with | .val d=>some d |_=>none) |none=>none
theorem oV {b:Option (aO T)}{d:D}(h:BV b=some d):b=some (.val d):=by
 induction b with
 |none=>exact bg h
 |some b=>induction b<;>first |exact bg h |exact congrArg (λd=>some (aO.val d)) (WS h)
noncomputable def Nm (x y:Option D):Bool->Option D |true=>x |false=>y
noncomputable def JJ (σ:az T)(f:Option D):Option (aO T)->Option D
 |some b=>match b with
  | .own l=>f.bind λd=>(un d).bind λk=>xI l k
  | .val o=>f.bind λd=>bh o d
  |_=>none
 |none=>none
noncomputable def M7 (aa:T->Str->List D->Option D)(m:Str)(f:Option (List D))(r:Option D):Option (aO T)->Option D
 |some b=>match b with
  | .flg _ t=>f.bind λds=>aa t m ds
  | .val o=>f.bind λds=>iD m o ds
  |_=>none
 |none=>r
noncomputable def Lm (Φ:b_)(f:Str)(ds:List D):Option Bi->Option D
 |some b=>BL b ds
 |none=>Φ f ds
noncomputable def Rx (aa:T->Str->List D->Option D)(Φ:b_)(f:Fn T)(σ:az T):VV->Option D
 | .const c=>xW c
 | .name x=>BV (σ.get x)
 | .bin l op r=>(f σ false l).bind λa=>(f σ false r).bind λb=>LI op a b
 | .not x=>(f σ false x).bind λd=>(gK d).map λb=>.bool (!b)
 | .neg i=>some (.int (-i))
 | .and es=>LO f σ es
 | .or es=>PZ f σ es
 | .cmp l op r=>(f σ false l).bind λa=>(f σ false r).bind λb=>bZ op a b
 | .ite t b o=>(f σ true t).bind λd=>(BN d).bind (Nm (f σ false b) (f σ false o))
 | .tup es=>gd (Wm es.length 1000) ((k5 f σ es).map .tup)
 | .lst es=>gd (Wm es.length 1000) ((k5 f σ es).map .lst)
 | .slc v lo hi=>(f σ false v).bind λo=>(Oj f σ lo).bind λa=>(qM a).bind λa=>(Oj f σ hi).bind λb=>(qM b).bind λb=>cx a b o
 | .subN x i=>JJ σ (f σ false i) (σ.get x)
 | .sub v i=>(f σ false v).bind λo=>(f σ false i).bind λd=>bh o d
 | .callN g args=>gd (js σ.nm g) ((k5 f σ args).bind λds=>Lm Φ g ds (jv g))
 | .callM x m aE args pos=>gd (VW aE.endLine pos.line&&Wm args.length 9) (M7 aa m (k5 f σ args) ((yo σ.nm x m args).bind λy=>(f σ false y).bind λd=>Φ dy [d]) (σ.get x))
 | .callC c m aE args pos=>gd (VW aE.endLine pos.line&&Wm args.length 9) ((xW c).bind λo=>(k5 f σ args).bind λds=>iD m o ds)
 | .comp elt g gs sc=>gd (oe σ.nm sc&&jF (g::gs)) ((f σ false g.iter).bind λd=>(cP d).bind λits=>(comp f elt (g::gs) (di sc σ) its).bind λl=>gd (Wm l.length 100000) (some (.lst l)))
 | .join es=>(k5 f σ es).bind λds=>(iC ds).bind λx=>gd (Wm x.length 1000000) (some (.str x))
 | .fmt v c=>gd (decide (c=-1)) ((f σ false v).bind λd=>(BM d).map .str)
 | .no=>none
noncomputable def PI (b:Option (aO T)):Option D:=match b with
 |some b=>match b with
  | .own l=>some (.bool (!l.isEmpty))
  | .val d=>(gK d).map .bool
  |_=>none
 |none=>none
noncomputable def Rw (f:Fn T)(σ:az T)(e:Expr):VV->Option D
 | .not x=>(f σ true x).bind λd=>(BN d).map λb=>.bool (!b)
 | .and es=>(bq f σ es).map .bool
 | .or es=>(gM f σ es).map .bool
 | .ite t b o=>(f σ true t).bind λd=>(BN d).bind (Nm (f σ true b) (f σ true o))
 | .name x=>PI (σ.get x)
 |_=>(f σ false e).bind λd=>(gK d).map .bool
noncomputable def ev (aa:T->Str->List D->Option D)(Φ:b_):Nat->az T->Bool->Expr->Option D
 |0,_,_,_=>none
 |n+1,σ,b,e=>match b with
  |true=>Rw (λσ b e=>ev aa Φ n σ b e) σ e (vv e)
  |false=>Rx aa Φ (λσ b e=>ev aa Φ n σ b e) σ (vv e)
end
noncomputable def aU (env:Yq)(h:Wb)(x:Str)(v:VQ):Prop :=
 (env.kindOf x=some .local/\∃m,h.Ns env.locals m/\m x=some v)\/((env.kindOf x=some .cell\/env.kindOf x=some .free)/\∃c,env.cells.lookup x=some c/\h.IsCell c (some v))
theorem Ns.unique {h:Wb}{a:V4}{m m':Str->Option VQ}(x:h.Ns a m)(y:h.Ns a m'):m=m':=by
 delta h a m m';intro x y;obtain⟨o,es,ep,ho,hd,_,hf⟩:3:=x;obtain⟨o',wH,H2,dM,eS,z9⟩:=y;obtain rfl:=cG ho dM;rw[hd]at eS;cases eS;funext n;rw[<- hf,z9.2]
theorem aU.unique {env:Yq}{h:Wb}{x:Str}{v v':VQ}(a:aU env h x v)(b:aU env h x v'):v=v':=by
 revert a b;delta env h x v v';intro a b;rcases a with⟨k,m,n,e⟩ |⟨k,c,l,o,ho,hd⟩<;>rcases b with⟨k',m',n',e'⟩ |⟨k',c',l',o',dM,eS⟩
 ·have:=Ns.unique n n';clear n';subst this;replace e':=cG e e';obtain rfl:=e';rfl
 ·rw[k]at k';rcases k' with q |q<;>cases q
 ·rw[k']at k;rcases k with q |q<;>cases q
 ·replace l':=cG l l';obtain rfl:=l';replace ho:=cG dM ho;obtain rfl:=ho;rw[hd]at eS;clear hd;cases eS;rfl
theorem Ns.ne {h:Wb}{a:V4}{m:Str->Option VQ}(t:cV h)(n:h.Ns a m):a≠PL:=by
 obtain⟨o,es,ep,cn⟩:=n;exact t.neD cn.1 (by rw[cn.2.1];intro fs q;cases q)
theorem IsCell.ne {h:Wb}{a:V4}{v:Option VQ}(t:cV h)(n:h.IsCell a v):a≠PL:=by
 obtain⟨o,cn⟩:=n;exact t.neD cn.1 (by rw[cn.2];intro fs q;cases q)
theorem aU.grow {env:Yq}{h h':Wb}{x:Str}{v:VQ}(t:cV h)(k:WV PL h h')(a:aU env h x v):aU env h' x v:=by
 delta env h h' x v;intro t k a;rcases a with⟨q,m,n,e⟩ |⟨q,c,l,hc⟩
 ·exact .inl ⟨q,m,n.extBut k (Ns.ne t n),e⟩
 ·delta c;intro l hc;refine .inr ⟨q,c,l,?_⟩
  have:=IsCell.ne t hc;obtain⟨o,cn⟩:=hc;exact⟨o,k _ _ this cn.1,cn.2⟩
structure Fe (env:Yq):Prop where
 kind:env.scope.kind=.function
 globals:env.globals=mainGlobals
 builtins:env.builtins=builtinsNs
 inj:∀x y c,env.cells.lookup x=some c->env.cells.lookup y=some c->x=y
 dbg:env.kindOf "__debug__" = none
 clsd:env.kindOf "__classdict__" = none
section
variable (X:gJ)
noncomputable def jw (an:Wb)(F:Fz)(env:Yq)(σ:az X.T)(h:Wb)(v:VQ):aO X.T->Prop
 | .val d=>aj F v d
 | .own l=>∃a,v=.ref a/\F a=none/\an.get? a=none/\∃o vs n,h.get? a=some o/\o.cls=.type "list" /\ o.data=.seq vs n/\al F vs.toList l/\l.length<=100000/\o.dict=none/\o.slots=#[]
 | .app x=>∃b a o,v=.ref b/\F b=some o/\o=hE a/\aU env h x (.ref a)
 | .flg m t=>∃O:List V4,X.At F h v t O/\∀a∈O,F a=none/\a≠env.locals/\(∀y c,env.cells.lookup y=some c->a≠c)/\(m=true->an.get? a=none)
 | .dead=>True
structure cW (an:Wb)(F:Fz)(env:Yq)(σ:az X.T)(h:Wb):Prop where
 fe:Fe env
 base:∀a o,a≠PL->an.get? a=some o->h.get? a=some o
 tab:cV h
 cd:fW σ.nm dy=true->env.code=.ref CT
 ns:∃m,h.Ns env.locals m
 lF:F env.locals=none
 l0:an.get? env.locals=none
 glob:∀x,fW σ.nm x=true->env.kindOf x=some .globalImplicit
 cf:∀x,AJ σ.nm x=true->(env.kindOf x=some .cell\/env.kindOf x=some .free)/\∃c,env.cells.lookup x=some c
 cells:∀x c,env.cells.lookup x=some c->F c=none/\∃v,h.IsCell c v
 kx:∀x,(bv σ.nm x=some .local->env.kindOf x=some .local)/\(bv σ.nm x=some .cell->env.kindOf x=some .cell)
 wr:∀x,bW σ.nm x=true->env.kindOf x=some .local\/(env.kindOf x=some .cell/\∃c,env.cells.lookup x=some c/\an.get? c=none)
 vars:∀x b,σ.get x=some b->∃v,aU env h x v/\jw X an F env σ h v b
 apart:∀x y l l' a,σ.get x=some (.own l)->σ.get y=some (.own l')->aU env h x (.ref a)->aU env h y (.ref a)->x=y
 one:∀x m t y l,σ.get x=some (.flg m t)->σ.get y≠some (.own l)
end
section
variable {X:gJ}{an:Wb}{F F':Fz}{env:Yq}{σ:az X.T}{s s':VP}
theorem fS {d:Data}(h:lV d):∀fs,d≠.fields fs:=by
 rintro fs rfl;exact h
theorem jw.grow {v:VQ}{b:aO X.T}(t:cV s.heap)(g:aA F s F' s')(r:jw X an F env σ s.heap v b):jw X an F' env σ s'.heap v b:=by
 revert t g r;revert an F F' env σ s s' v b;unfold X;exists an,F,F',env,σ,s,s',v,b;intro t g r;induction b with
 |val d=>exact aj.mono g.fle r
 |own l =>
  obtain⟨a,rfl,f,z,o,vs,n,cn⟩:=r;refine⟨a,rfl,?_,z,o,vs,n,g.keepL t cn.1 cn.2.1,cn.2.1,cn.2.2.1,cn.2.2.2.1.mono g.fle,cn.2.2.2.2⟩
  cases e:F' a with
  |none=>rfl
  |some p =>
        rcases g.fresh _ _ e with q |q
        ·exact bo f q
        ·exact bo q cn.1
 |app x =>
  obtain⟨b,a,o,Ft⟩:=r;exact⟨b,a,o,Ft.1,g.fle _ _ Ft.2.1,Ft.2.2.1,Ft.2.2.2.grow t g.ext⟩
 |dead=>trivial
 |flg m t' =>
  obtain⟨O,at_,hz⟩:=r;refine⟨O,X.loc at_ g.fle λa ha=>?_,λa ha=>?_⟩
  ·obtain⟨o,ho,hq⟩:=X.alive at_ a ha
   rw[ho,g.keepD t ho (fS hq)]
  ·obtain⟨o,ho,_⟩:=X.alive at_ a ha
   refine⟨?_,(hz a ha).2⟩
   cases e:F' a with
   |none=>rfl
   |some p =>
         rcases g.fresh _ _ e with q |q
         ·rw[(hz a ha).1]at q;exact bg q
         ·exact bo q ho
theorem cW.grow (g:aA F s F' s')(r:cW X an F env σ s.heap):cW X an F' env σ s'.heap where
 fe:=r.fe
 base:=λa o n e=>g.keep _ _ n (r.base _ _ n e)
 tab:=g.tab.at r.tab
 cd:=r.cd
 ns:=r.ns.imp λ_ hm=>hm.extBut g.ext (Ns.ne r.tab hm)
 lF:=by
  obtain⟨m,o,es,ep,ho,_⟩:=r.ns
  cases e:F' env.locals with
  |none=>rfl
  |some p =>
        rcases g.fresh _ _ e with q |q
        ·rw[r.lF]at q;exact bg q
        ·exact bo q ho
 l0:=r.l0
 glob:=r.glob
 cf:=r.cf
 cells:=λx c e=>by
  obtain⟨f,v,o,cn⟩:=r.cells x c e;refine⟨?_,v,o,g.keepD r.tab cn.1 (by rw[cn.2];intro fs q;clear cn;cases q),cn.2⟩;clear r;cases e:F' c with
  |none=>rfl
  |some p =>
        rcases g.fresh _ _ e with q |q
        ·exact bo f q
        ·exact bo q cn.1
 kx:=r.kx
 wr:=r.wr
 vars:=λx b e=>(r.vars x b e).imp λ_ z=>⟨z.1.grow r.tab g.ext,z.2.grow r.tab g⟩
 apart:=λx y l l' a ex ey vx vy=>by
  obtain⟨v,ax,bx⟩:=r.vars x _ ex;obtain⟨v',R2⟩:=r.vars y _ ey;have e1:=aU.unique (ax.grow r.tab g.ext) vx;have e2:=aU.unique (R2.1.grow r.tab g.ext) vy;clear bx;subst e1 e2;exact r.apart x y l l' a ex ey ax R2.1
 one:=r.one
variable {M:Model}{A:V7}{E:VQ->VP->Prop}{Q:VQ->VP->Prop}
theorem i8 {x:Str}{k:Xn}(fe:Fe env)(h:env.kindOf x=some k):(x==("__debug__" : Str))=false:=by
 cases q:x==("__debug__" : Str)with
 |false=>rfl
 |true =>
  have:=eq_of_beq q;clear q;subst this;rw[fe.dbg]at h;exact bg h
theorem oG {x:Str}{v:VQ}(fe:Fe env)(hv:aU env s.heap x v)(h:Q v s):wpAny M A (loadName env x) Q E s:=by
 delta env s M A E Q x v;intro fe hv h;rcases hv with⟨k,m,n,e⟩ |⟨k,c,l,hc⟩
 ·exact wpAny_loadName_local fe.kind k n e h
 ·rcases k with k |k
  ·exact wpAny_loadName_cell fe.kind k l hc h
  ·exact wpAny_loadName_free fe.kind k l hc h (by
    cases q:x==("__classdict__" : Str)with
    |false=>rfl
    |true =>
     have:=eq_of_beq q;clear l q;subst this;rw[fe.clsd]at k;exact bg k)
structure wE (h:Wb)(acc:List (Str×V4))(names:bc)(cl:List (Str×V4))(h':Wb):Prop where
 new:∀x,(x,XH)∈names->∃c,cl.lookup x=some c/\h.objs.size<=c/\h'.IsCell c none
 old:∀x,(x,XH)∉names->cl.lookup x=acc.lookup x
 lt:∀x c,cl.lookup x=some c->c<h'.objs.size
 inj:∀x y c,cl.lookup x=some c->cl.lookup y=some c->x=y
 le:h.objs.size<=h'.objs.size
 keep:∀b o,h.get? b=some o->h'.get? b=some o
theorem C_ {α:Type}{n x:Str}{c v:α}{l:List (Str×α)}(e:((n,c)::l).lookup x=some v):(x=n/\c=v)\/(x≠n/\l.lookup x=some v):=by
 rw[XE]at e;by_cases h:x=n
 ·subst h;rw[beq_self_eq_true]at e;exact .inl ⟨rfl,aJ e⟩
 ·rw[beq_eq_false_iff_ne.mpr h]at e;exact .inr ⟨h,e⟩
theorem Na {α:Type}{n x:Str}{c:α}{l:List (Str×α)}(h:x≠n):((n,c)::l).lookup x=l.lookup x:=by
 rw[XE,beq_eq_false_iff_ne.mpr h]
theorem mF (names:bc):∀(h:Wb) (acc:List (Str×V4)),(∀x c,acc.lookup x=some c->c<h.objs.size)->(∀x y c,acc.lookup x=some c->acc.lookup y=some c->x=y) ->wE h acc names (cellsFrom h.objs.size names acc) (pushCells h names):=by
 induction names with
 |nil=>exact λh acc hl hi=>⟨λx hx=>(Wf hx).elim,λ_ _=>rfl,hl,hi,WD _,λ_ _ e=>e⟩
 |cons p r ih =>
  intro h acc hl hi;obtain⟨n,k⟩:=p;unfold cellsFrom pushCells;by_cases hk:(k==.cell)=true
  ·rw[if_pos hk,if_pos hk]
   obtain rfl:k=.cell:=eq_of_beq hk;have ih:=ih (h.push { cls:=.type "cell",data:=.cell none }) ((n,h.objs.size)::acc) (λx c e=>by
     rw[WM];rcases C_ e with⟨_,rfl⟩ |⟨_,e⟩
     ·exact WE _
     ·exact Nat.lt_succ_of_lt (hl x c e)) (λx y c ex ey=>by
     rcases C_ ex with⟨rfl,rfl⟩ |⟨_,e3⟩<;>rcases C_ ey with⟨rfl,e2⟩ |⟨_,e4⟩
     ·rfl
     ·exact absurd (hl _ _ e4) (X4 _)
     ·clear ex ey;subst e2;exact absurd (hl _ _ e3) (X4 _)
     ·exact hi x y c e3 e4)
   rw[WM]at ih;refine⟨λx hx=>?_,λx hx=>?_,ih.lt,ih.inj,VX (Zl _) (by have:=ih.le;rw[WM]at this;exact this),λb o e=>ih.keep b o (V5 _ e)⟩
   ·by_cases hr:(x,XH)∈r
    ·obtain⟨c,a,b,d⟩:=ih.new x hr
     rw[WM]at b;exact⟨c,a,YO b,d⟩
    ·obtain rfl:=(Prod.mk.inj ((V2.mp hx).resolve_right hr)).1
     exact⟨h.objs.size,by rw[ih.old _ hr,List.lookup_cons_self],WD _,⟨_,ih.keep _ _ (Wc _ rfl),rfl⟩⟩
   ·rw[ih.old x λq=>hx (VS _ q)]
    exact Na λq=>hx (q▸VT)
  ·rw[if_neg hk,if_neg hk]
   have ih:=ih h acc hl hi;refine⟨λx hx=>?_,λx hx=>ih.old x (λq=>hx (VS _ q)),ih.lt,ih.inj,ih.le,ih.keep⟩;rcases V2.mp hx with e |e
   ·exact absurd (by rw[<- (Prod.mk.inj e).2];rfl) hk
   ·exact ih.new x e
theorem mM {scope:YB}{globals:V4}{closure:List (Str×V4)}{qual:Str}{IM:Yq}{Q:Yq->VP->Prop}
  (h:Q (newEnv scope s.heap.objs.size globals (cellsFrom (s.heap.objs.size+1) scope.names closure) qual none .none (some IM) builtinsNs)
   { s with heap:=pushCells (s.heap.push { cls:=.type "dict",data:=.dict #[] }) scope.names }) :
  wpAny M A (newFunctionEnv scope globals closure [] qual none .none (some IM)) Q E s:=by
 refine VO (wpAny_alloc ?_);refine VO (wpAny_layCells _ (λname kind cells=>by cases hkc:kind==XH<;>simp[hkc]) _ _ _ _ ?_);rw[show({ s with heap:=s.heap.push { cls:=.type "dict",data:=.dict #[] } }:VP).heap.objs.size=s.heap.objs.size+1 from WM ..];exact VO (by skip;exact VR (VR h))
theorem xX {sc:YB}{nm:bc}(hf:jb nm sc.names=true)(hc:∀x,AJ nm x=true->∃c,env.cells.lookup x=some c) :
  ∃cl,closureFor sc env=pure cl/\(∀x c,cl.lookup x=some c->env.cells.lookup x=some c)/\∀x,(x,W_)∈sc.names->∃c,cl.lookup x=some c:=by
 revert hf hc;delta env sc nm;intro hf hc;have key:∀(names:bc) (acc:List (Str×V4)),jb nm names=true->(∀x c,acc.lookup x=some c->env.cells.lookup x=some c) ->∃cl,(forIn names acc (λx r=>match x with |(name,kind)=>if(kind==W_)=true then(do let a <- cellOf env name;pure (Xy ((name,a)::r)))else pure (Xy r)):Sem (List (Str×V4)))=pure cl /\(∀x c,cl.lookup x=some c->env.cells.lookup x=some c)/\(∀x,(x,W_)∈names\/(∃c,acc.lookup x=some c)->∃c,cl.lookup x=some c):=by
  exists names;induction names with
  |nil=>intro acc _ ha;exact⟨acc,rfl,ha,λx hx=>hx.elim (λq=>(nomatch q)) id⟩
  |cons y r ih =>
   delta y r;intro ih;obtain⟨n,k⟩:=y;delta n k;intro acc hf ha;delta acc;intro ha;rw[Yd];by_cases hk:k=.free
   ·subst hk
    obtain⟨q,hf⟩:=VU.mp hf
    ·obtain⟨c,mo⟩:1:=hc n q
     delta c;intro mo;have e1:cellOf env n=pure c:=by unfold cellOf;rw[mo]
     obtain⟨cl,sL⟩:=ih ((n,c)::acc) hf (λx c' e=>by
      delta x c';intro e;rw[XE]at e
      cases qx:x==n with
      |true=>rw[qx]at e;clear ha e1;rw[<- e];rw[eq_of_beq qx];exact mo
      |false=>rw[qx]at e;exact ha x c' e)
     delta cl;intro sL;refine⟨cl,?_,sL.2.1,λx hx=>sL.2.2 x ?_⟩
     ·simp only[beq_self_eq_true,if_true,e1,pure_bind]
      exact sL.1
     ·delta x;intro hx;by_cases qx:x=n
      ·clear q mo e1 sL hx;rw[qx];exact .inr ⟨c,by skip;simp⟩
      ·rcases hx with hx |⟨c',hx⟩
       ·rcases V2.mp hx with e |e
        ·clear q mo e1 sL hx;cases e;exact absurd rfl qx
        ·exact .inl e
       ·exact .inr ⟨c',by rw[XE,beq_eq_false_iff_ne.mpr qx];exact hx⟩
   ·have BH:(k==W_)=false:=beq_eq_false_iff_ne.mpr hk
    have Q9:jb nm r=true:=(VU.mp hf).2;obtain⟨cl,sL⟩:1:=ih acc Q9 ha;delta cl;intro sL;refine⟨cl,?_,sL.2.1,λx hx=>sL.2.2 x ?_⟩
    ·simp only[BH,WY,if_false,pure_bind]
     exact sL.1
    ·delta x;intro hx;rcases hx with hx |hx
     ·rcases V2.mp hx with e |e
      ·clear BH hx;cases e;exact absurd rfl hk
      ·exact .inl e
     ·exact .inr hx
 obtain⟨cl,sL⟩:1:=key sc.names [] hf (λx c e=>by simp at e);delta cl;intro sL;refine⟨cl,?_,sL.2.1,λx hx=>sL.2.2 x (.inl hx)⟩;refine Eq.trans (congrArg (· >>=λcs=>pure cs) sL.1) ?_;rfl
end
noncomputable def dc (d:Data):Prop:=match d with | .dict .. | .cell _=>True |_=>False
theorem ED {d:Data}(h:dc d):∀fs,d≠.fields fs:=by
 rintro fs rfl;exact h
section
variable {X:gJ}{an:Wb}{F F':Fz}{env:Yq}{σ:az X.T}{h h':Wb}
theorem j_ {h:Wb}{a:V4}{m:Str->Option VQ}(n:h.Ns a m):∃o,h.get? a=some o/\dc o.data:=by
 obtain⟨o,es,ep,cn⟩:=n;exact⟨o,cn.1,by rw[cn.2.1];trivial⟩
theorem gX {h:Wb}{a:V4}{v:Option VQ}(n:h.IsCell a v):∃o,h.get? a=some o/\dc o.data:=by
 obtain⟨o,cn⟩:=n;exact⟨o,cn.1,by rw[cn.2];trivial⟩
theorem aU.but {x:Str}{v:VQ}{b:V4}{ob:Xi}(hb:h.get? b=some ob)(hd:¬ dc ob.data)(e:WV b h h')(a:aU env h x v):aU env h' x v:=by
 delta env h h' x v b ob;intro hb hd e a;rcases a with⟨k,m,n,q⟩ |⟨k,c,l,hc⟩
 ·refine .inl ⟨k,m,n.extBut e ?_,q⟩
  clear e;rintro rfl;obtain⟨o,ho,eS⟩:=j_ n;replace ho:=cG hb ho;obtain rfl:=ho;exact hd eS
 ·refine .inr ⟨k,c,l,?_⟩
  have cS:c≠b:=by
   rintro rfl;obtain⟨o,ho,eS⟩:=gX hc;replace ho:=cG hb ho;obtain rfl:=ho;exact hd eS
  obtain⟨o,cn⟩:=hc;exact⟨o,e _ _ cS cn.1,cn.2⟩
theorem cW.but {b:V4}{ob:Xi}(r:cW X an F env σ h)(hb:h.get? b=some ob)(hd:¬ dc ob.data)(hq:¬ lV ob.data)(h0:an.get? b=none)(hF:F b=none)(Fp:b≠PL)(e:WV b h h')
  (tY:(∀x l,σ.get x≠some (.own l))\/∃fs,ob.data=.fields fs):cW X an F env σ h' where
 fe:=r.fe
 base:=λa o n q=>e a o (by clear hb hF Fp e;rintro rfl;exact bo h0 q) (r.base a o n q)
 tab:=r.tab.but e Fp
 cd:=r.cd
 ns:=by
  obtain⟨m,n⟩:=r.ns;refine⟨m,n.extBut e ?_⟩;intro q;obtain⟨o,ho,eS⟩:=j_ n;rw[q,hb]at ho;replace ho:=aJ ho;obtain rfl:=ho;exact hd eS
 lF:=r.lF
 l0:=r.l0
 glob:=r.glob
 cf:=r.cf
 cells:=λx c q=>by
  obtain⟨f,v,hc⟩:=r.cells x c q;have cS:c≠b:=by
   clear h0 hF Fp;rintro rfl;obtain⟨o,ho,eS⟩:=gX hc;replace ho:=cG hb ho;obtain rfl:=ho;exact hd eS
  obtain⟨o,cn⟩:=hc;exact⟨f,v,o,e _ _ cS cn.1,cn.2⟩
 kx:=r.kx
 wr:=r.wr
 vars:=λx bd q=>by
  obtain⟨v,va,rb⟩:=r.vars x bd q;refine⟨v,va.but hb hd e,?_⟩;induction bd with
  |val d=>exact rb
  |dead=>trivial
  |app y =>
   obtain⟨b',a,o,n_⟩:=rb;exact⟨b',a,o,n_.1,n_.2.1,n_.2.2.1,n_.2.2.2.but hb hd e⟩
  |own l =>
   obtain⟨a,e1,e2,e3,o,vs,n,ho,hc,qk,hl,hz⟩:=rb;refine⟨a,e1,e2,e3,o,vs,n,e a o ?_ ho,hc,qk,hl,hz⟩;clear h0 hF Fp e;rintro rfl;rcases tY with q' |⟨fs,q'⟩
   ·exact q' x l q
   ·replace hb:=cG ho hb;clear hd hq;obtain rfl:=hb;rw[qk]at q';clear qk hl;cases q'
  |flg m t =>
   obtain⟨O,uC⟩:=rb;refine⟨O,X.loc uC.1 F.le_refl λa ha=>?_,uC.2⟩;obtain⟨o,ho,Us⟩:=X.alive uC.1 a ha;rw[ho];exact e a o (by clear h0 hF Fp e;rintro rfl;replace ho:=cG hb ho;obtain rfl:=ho;exact hq Us) ho
 apart:=λx y l l' a ex ey vx vy=>by
  obtain⟨v,va,rb⟩:=r.vars x _ ex;obtain⟨v',Mr⟩:=r.vars y _ ey;have e1:=aU.unique (va.but hb hd e) vx;have e2:=aU.unique (Mr.1.but hb hd e) vy;clear rb;subst e1 e2;exact r.apart x y l l' a ex ey va Mr.1
 one:=r.one
theorem aU.other {w:VQ}{x y:Str}{v:VQ}{b:V4}(cS:y≠x)(fe:Fe env)(yT:∃m,h.Ns env.locals m)(a:aU env h y v)
  (hs:Ws b h h') (hb:(b=env.locals/\∀m,h.Ns env.locals m->h'.Ns env.locals (λz=>if z=x then some w else m z))\/(env.cells.lookup x=some b/\(∃u,h.IsCell b u)/\∃u,h'.IsCell b u)):aU env h' y v:=by
 revert cS fe yT a hs hb;delta env h h' w x y v b;intro cS fe yT a hs hb;rcases a with⟨k,m,n,q⟩ |⟨k,c,l,hc⟩
 ·delta m;intro n q;rcases hb with⟨rfl,hn⟩ |⟨hl,⟨u,hu⟩,_⟩
  ·exact .inl ⟨k,_,hn m n,by simp[cS,q]⟩
  ·delta u;intro hu;refine .inl ⟨k,m,n.sameBut hs ?_,q⟩
   clear hs hl;rintro rfl;obtain⟨o,ho,hd⟩:1:=hu;obtain⟨o',es,ep,dM,eS,_⟩:=n;obtain rfl:=cG dM ho;rw[hd]at eS;clear hd;cases eS
 ·delta c;intro l hc;rcases hb with⟨rfl,hn⟩ |⟨hl,hu,_⟩
  ·refine .inr ⟨k,c,l,?_⟩
   obtain⟨o,ho,hd⟩:1:=hc;by_cases nl:c=env.locals
   ·clear l;subst nl
    exfalso;obtain⟨m,o',es,ep,dM,eS,_⟩:=yT;obtain rfl:=cG ho dM;rw[hd]at eS;clear hd;cases eS
   ·exact⟨o,(hs.2 _ nl).trans ho,hd⟩
  ·refine .inr ⟨k,c,l,?_⟩
   obtain⟨o,cn⟩:1:=hc;by_cases nl:c=b
   ·clear hs hu;subst nl
    exact absurd (fe.inj _ _ _ l hl) cS
   ·exact⟨o,(hs.2 _ nl).trans cn.1,cn.2⟩
theorem yD {T:Type}(x:Str)(b:aO T):jQ x b=b\/jQ x b=.dead:=by
 induction b with
 |app z=>exact(match d4 z x with |true=>.inr rfl |false=>.inl rfl:a_ aO.dead (.app z) (d4 z x)=.app z\/a_ aO.dead (.app z) (d4 z x)=.dead)
 |_=>exact .inl rfl
theorem fV {x:Str}{b:aO X.T}{l:List D}(e:jQ x b=.own l):b=.own l:=by
 revert e;revert x b l;unfold X;exists x,b,l;intro e;rcases yD x b with q |q
 ·exact q▸e
 ·rw[q]at e;cases e
theorem pW {x:Str}{b:aO X.T}{m:Bool}{t:X.T}(e:jQ x b=.flg m t):b=.flg m t:=by
 rcases yD x b with q |q
 ·exact q▸e
 ·rw[q]at e;cases e
theorem df {x y:Str}{b b':aO X.T}(e:(σ.set x b).get y=some b'):(y=x/\b'=b)\/(y≠x/\∃c,σ.get y=some c/\b'=jQ x c):=by
 rw[az.get_set]at e;by_cases h:y=x
 ·rw[if_pos h]at e;replace e:=aJ e;rw[e];exact .inl ⟨h,rfl⟩
 ·rw[if_neg h]at e
  obtain⟨c,Mx⟩:=YE.mp e;exact .inr ⟨h,c,Mx.1,Mx.2.symm⟩
theorem fx {M:Model}{A:V7}{E:VQ->VP->Prop}{s:VP}{Q:Unit->VP->Prop}{x:Str}{v:VQ}{bd:aO X.T}(r:cW X an F env σ s.heap)(hw:bW σ.nm x=true)(hv:jw X an F env σ s.heap v bd)
  (AX:∀y,bd=.app y->y≠x)
  (tY:∀l,bd=.own l->(∀m t y,σ.get y≠some (.flg m t))/\∀y l' a,y≠x->σ.get y=some (.own l')->v=.ref a->¬ aU env s.heap y (.ref a))
  (D1:∀m t,bd=.flg m t->∀y l,σ.get y≠some (.own l))
  (h:∀h' tk b ob,(b=env.locals\/∃z,env.cells.lookup z=some b)->s.heap.get? b=some ob->dc ob.data->Ws b s.heap h'->an.get? b=none->F b=none->cW X an F env (σ.set x bd) h'->Q () { s with heap:=h',toks:=tk }) :
  wpAny M A (storeName env x v) Q E s:=by
 revert r hw hv AX tY D1 h;revert an F env σ M A E s Q x v bd;unfold X;exists an,F,env,σ,M,A,E,s,Q,x,v,bd;intro r hw hv AX tY D1 h;have fin:∀(h':Wb) (tk:Nat) (b:V4),Ws b s.heap h'->an.get? b=none->F b=none->aU env h' x v->(∃ob,s.heap.get? b=some ob/\dc ob.data) ->(b=env.locals\/∃z,env.cells.lookup z=some b)->(∃m,h'.Ns env.locals m)->(∀y c,env.cells.lookup y=some c->∃u,h'.IsCell c u) ->(∀y u,y≠x->aU env s.heap y u->aU env h' y u)->Q () { s with heap:=h',toks:=tk }:=by
  intro h' tk b hs b0 bF vx ⟨ob,ed,oj⟩ gG yT hcells hoth;refine h h' tk b ob gG ed oj hs b0 bF ?_;have jR:∀(u:VQ) (c:aO X.T),(∀z,c=.app z->z≠x)->jw X an F env σ s.heap u c->jw X an F env (σ.set x bd) h' u c:=by
   intro u c hz rb;induction c with
   |val d=>exact rb
   |dead=>trivial
   |app z =>
    obtain⟨b',a,o,n_⟩:=rb;exact⟨b',a,o,n_.1,n_.2.1,n_.2.2.1,hoth z _ (hz z rfl) n_.2.2.2⟩
   |own l =>
    obtain⟨a,e1,e2,e3,o,vs,n,cn⟩:=rb;refine⟨a,e1,e2,e3,o,vs,n,?_,cn.2.1,cn.2.2.1,cn.2.2.2.1,cn.2.2.2.2⟩;rw[hs.2 a (by clear hs b0 bF gG;rintro rfl;obtain rfl:=cG ed cn.1;rw[cn.2.2.1]at oj;exact oj)];exact cn.1
   |flg m t =>
    obtain⟨O,uC⟩:=rb;refine⟨O,X.loc uC.1 F.le_refl λa ha=>?_,uC.2⟩;refine hs.2 a ?_;clear hs b0 bF ed;rintro rfl;rcases gG with q |⟨z,q⟩
    ·exact(uC.2 _ ha).2.1 q
    ·exact(uC.2 _ ha).2.2.1 z _ q rfl
  exact{
   fe:=r.fe
   base:=λa o n q=>by rw[hs.2 a (by clear hs bF ed gG;rintro rfl;exact bo b0 q)];exact r.base a o n q
   tab:=r.tab.but hs.extBut (r.tab.neD ed (ED oj))
   cd:=r.cd
   ns:=yT
   lF:=r.lF
   l0:=r.l0
   glob:=r.glob
   cf:=r.cf
   cells:=λy c q=>⟨(r.cells y c q).1,hcells y c q⟩
   kx:=r.kx
   wr:=r.wr
   vars:=λy b' q=>by
    clear hw tY D1 h;rcases df q with⟨rfl,rfl⟩ |⟨cS,c,hc,rfl⟩
    ·exact⟨v,vx,jR _ _ AX hv⟩
    ·obtain⟨u,va,rb⟩:=r.vars y c hc
     refine⟨u,hoth y u cS va,?_⟩;clear hc q;induction c with
     |app z =>
      show jw X _ F env _ _ _ (a_ .dead (.app z) (d4 z x))
      cases qz:d4 z x with
      |true=>trivial
      |false=>exact jR u _ (λz' e=>by clear r hv AX jR rb;cases e;intro e';clear vx hoth cS;subst e';rw[bl.mpr rfl]at qz;exact oY qz) rb
     |val d=>exact jR u _ (λz e=>by clear r hv AX vx hoth jR cS rb;cases e) rb
     |own l=>exact jR u _ (λz e=>by clear r hv AX vx hoth jR cS rb;cases e) rb
     |flg m t=>exact jR u _ (λz e=>by clear r hv AX vx hoth jR cS rb;cases e) rb
     |dead=>trivial
   apart:=λy z l l' a ey ez vy vz=>by
    clear hw AX h jR;rcases df ey with⟨rfl,e1⟩ |⟨hy,c,hc,e1⟩<;>rcases df ez with⟨rfl,e2⟩ |⟨hz,c',mo,e2⟩
    ·rfl
    ·exfalso
     have RA:=fV e2.symm;clear e2;subst RA;obtain⟨u,IA⟩:=r.vars z _ mo;have:=aU.unique (hoth z u hz IA.1) vz;subst this;have:=aU.unique vx vy;exact(tY l e1.symm).2 z l' a hz mo this IA.1
    ·exfalso
     have Mn:=fV e1.symm;clear e1;subst Mn;obtain⟨u,va,rb⟩:=r.vars y _ hc;have:=aU.unique (hoth y u hy va) vy;clear rb;subst this;have:=aU.unique vx vz;exact(tY l' e2.symm).2 y l a hy hc this va
    ·have Mn:=fV e1.symm
     have RA:=fV e2.symm;clear e1 e2;subst Mn RA;obtain⟨u,IA⟩:=r.vars y _ hc;obtain⟨u',II,PV⟩:=r.vars z _ mo;have:=aU.unique (hoth y u hy IA.1) vy;subst this;have:=aU.unique (hoth z u' hz II) vz;clear PV;subst this;exact r.apart y z l l' a hc mo IA.1 II
   one:=λy m t z l ey ez=>by
    clear hw AX h vx hoth jR;rcases df ey with⟨rfl,e1⟩ |⟨hy,c,hc,e1⟩<;>rcases df ez with⟨rfl,e2⟩ |⟨hz,c',mo,e2⟩
    ·rw[<- e1]at e2;clear r hv D1 e1 tY ey ez;cases e2
    ·exact D1 m t e1.symm z l (by rw[mo,fV e2.symm])
    ·exact(tY l e2.symm).1 m t y (by rw[hc,pW e1.symm])
    ·exact r.one y m t z l (by rw[hc,pW e1.symm]) (by rw[mo,fV e2.symm]) }
 obtain⟨m,hn⟩:=r.ns;rcases r.wr x hw with hk |⟨hk,c,hl,h0⟩
 ·refine wpAny_storeName_local hk hn (λh' QV hs=>?_) (by rw[r.fe.kind];rfl)
  refine fin h' _ env.locals hs r.l0 r.lF (.inl ⟨hk,_,QV,by simp⟩) (j_ hn) (.inl rfl) ⟨_,QV⟩ (λy c q=>?_) (λy u cS va=>?_)
  ·obtain⟨_,u,o,ho,hd⟩:=r.cells y c q
   refine⟨u,o,?_,hd⟩;rw[hs.2 c ?_];exact ho;clear q;rintro rfl;obtain⟨o',es,ep,dM,eS,_⟩:=hn;replace dM:=cG ho dM;obtain rfl:=dM;rw[hd]at eS;clear hd;cases eS
  ·exact aU.other (w:=v) cS r.fe ⟨m,hn⟩ va hs (.inl ⟨rfl,λm' n'=>by rw[Ns.unique n' hn];exact QV⟩)
 ·obtain⟨cF,u,hc⟩:=r.cells x c hl
  refine wpAny_storeName_cell r.fe.kind hk hl hc (λh' mo hs=>?_);have cS:env.locals≠c:=by
   rintro rfl;obtain⟨o,ho,hd⟩:=hc;obtain⟨o',es,ep,dM,eS,_⟩:=hn;replace dM:=cG ho dM;obtain rfl:=dM;rw[hd]at eS;clear hd;cases eS
  refine fin h' s.toks c hs h0 cF (.inr ⟨.inl hk,c,hl,mo⟩) (gX hc) (.inr ⟨x,hl⟩) ⟨m,hn.sameBut hs cS⟩ (λy c' q=>?_) (λy u' QS va=>?_)
  ·by_cases e:c'=c
   ·clear hl h0 cF hc hs cS;rw[e];exact⟨_,mo⟩
   ·obtain⟨_,u',o,cn⟩:=r.cells y c' q
    exact⟨u',o,by rw[hs.2 c' e];exact cn.1,cn.2⟩
  ·exact aU.other (w:=v) QS r.fe ⟨m,hn⟩ va hs (.inr ⟨hl,⟨u,hc⟩,⟨_,mo⟩⟩)
theorem iw {M:Model}{A:V7}{E:VQ->VP->Prop}{s:VP}{Q:Unit->VP->Prop}{x:Str}{v:VQ}{d:D}(r:cW X an F env σ s.heap)(hw:bW σ.nm x=true)(hv:aj F v d)
  (h:∀h' tk b ob,(b=env.locals\/∃z,env.cells.lookup z=some b)->s.heap.get? b=some ob->dc ob.data->Ws b s.heap h'->an.get? b=none->F b=none->cW X an F env (σ.set x (.val d)) h'->Q () { s with heap:=h',toks:=tk }) :
  wpAny M A (storeName env x v) Q E s :=
 fx r hw (bd:=.val d) hv (λ_ e=>by cases e) (λ_ e=>by cases e) (λ_ _ e=>by cases e) h
end
inductive f_ (F:Fz)(h:Wb)(I:V4)(items:List D)(i:Nat):Prop
 |lst (a:V4) (vs:Array VQ) (o:Xi) (n:Nat):F a=some o->o.cls=.type "list" -> o.data=.seq vs n->al F vs.toList items->h.IsListIter I a i->f_ F h I items i
 |tup (a:V4) (vs:Array VQ) (o:Xi) (n:Nat):F a=some o->o.cls=.type "tuple" -> o.data=.seq vs n->al F vs.toList items->h.IsTupleIter I a i->f_ F h I items i
 |rng (x left:Int):0<=left->items.drop i=bX x left.toNat->IsRangeIter h I x left 1->f_ F h I items i
theorem f_.obj {F:Fz}{h:Wb}{I:V4}{items:List D}{i:Nat}(t:f_ F h I items i):∃o fs,h.get? I=some o/\o.data=.fields fs:=by
 delta F h I items i;intro t;induction t with
 |lst a vs o n _ _ _ _ x=>obtain⟨o,ho,_,hd⟩:=x;exact⟨o,_,ho,hd⟩
 |tup a vs o n _ _ _ _ x=>obtain⟨o,ho,_,hd⟩:=x;exact⟨o,_,ho,hd⟩
 |rng x left _ _ q=>exact⟨_,_,q,rfl⟩
theorem f_.keeps {F F':Fz}{h h':Wb}{I:V4}{items:List D}{i:Nat}(t:f_ F h I items i)(e:∀a o,h.get? a=some o->h'.get? a=some o)(fl:F.le F'):f_ F' h' I items i:=by
 induction t with
 |lst a vs o n q1 q2 q3 q4 x=>obtain⟨o',ho,r⟩:=x;exact .lst a vs o n (fl _ _ q1) q2 q3 (q4.mono fl) ⟨o',e _ _ ho,r⟩
 |tup a vs o n q1 q2 q3 q4 x=>obtain⟨o',ho,r⟩:=x;exact .tup a vs o n (fl _ _ q1) q2 q3 (q4.mono fl) ⟨o',e _ _ ho,r⟩
 |rng x left q1 q2 q=>exact .rng x left q1 q2 (e _ _ q)
section
variable {ab:V8}{w:Wi}{A:V7}{E:VQ->VP->Prop}{s:VP}{F:Fz}
theorem rG {i:Int}:cN i=true↔-1000000<=i/\i<=1000000:=by
 unfold cN;rw[V3,decide_eq_true_eq,decide_eq_true_eq]
theorem pn (lo hi:Int):Builtin.Range.rangeSize lo hi 1=((hi - lo).toNat:Nat):=by
 rw[rangeSize_one];split;· exact(Int.toNat_of_nonneg (Int.sub_nonneg_of_le (Int.le_of_lt ‹_›))).symm
 ·lia
theorem Oe {i:Int}(a:-4000000<=i)(b:i<=4000000):Builtin.Range.rangeFitsLong i=true:=VU.mpr ⟨decide_eq_true (YD ⋯ a),decide_eq_true (Int.lt_of_le_of_lt b ⋯)⟩
theorem Ad {lo hi:Int}(h1:-1000000<=lo/\lo<=1000000)(h2:-1000000<=hi/\hi<=1000000):Builtin.Range.small lo hi 1=true:=by
 have f:∀{i:Int},-1000000<=i/\i<=1000000->Builtin.Range.rangeFitsLong i=true:=λh=>Oe (YD ⋯ h.1) (YD h.2 ⋯)
 have a:∀{x y:Bool},x=true->y=true->(x&&y)=true:=λh k=>by rw[h,k];rfl
 unfold Builtin.Range.small;rewrite [pn,if_pos ⋯,show hi+((1:Int) - 1)=hi from Int.add_zero hi,f h2,Bool.or_true]
 exact a (a (a (a (f h1) rfl) (f ⟨by decide,by decide⟩)) (Oe (YD ⋯ (Zd _)) (YD (Int.ofNat_le.mpr (Int.toNat_le.mpr (Int.sub_le_sub h2.2 h1.1))) (by decide:((2000000:Nat):Int)<=4000000)))) rfl
theorem lT {v:VQ}{d:D}{items:List D}{Q:VQ->VP->Prop}(am:Am A F s)(hd:aj F v d)(e:cP d=some items)
  (h:∀I s',aA F s F s'->F I=none->s.heap.get? I=none->f_ F s'.heap I items 0->Q (.ref I) s'):wpAny (model ab w) A (pyIter v) Q E s:=by
 revert am hd e h;delta ab w A E s F v d items Q;intro am hd e h
 cases d with
 |lst l =>
  obtain rfl:=aJ e;obtain⟨_,_,_,_,rfl,a,b,c,z,r⟩:=hd.lst_inv;exact wpAny_pyIter_list ⟨_,am.fz _ _ a,b,_,c⟩ (h _ _ (aA.push0 am.fz _ s.toks) (nG am.fz) (bu _) (.lst _ _ _ _ a b c r ⟨_,Wc _ rfl,rfl,rfl⟩))
 |tup l =>
  obtain rfl:=aJ e;obtain⟨_,_,_,_,rfl,a,b,c,z,r⟩:=hd.tup_inv;exact wpAny_pyIter_tuple ⟨_,am.fz _ _ a,b,_,c⟩ (h _ _ (aA.push0 am.fz _ s.toks) (nG am.fz) (bu _) (.tup _ _ _ _ a b c r ⟨_,Wc _ rfl,rfl,rfl⟩))
 |rng lo hi =>
  delta lo hi;intro hd e;obtain rfl:=aJ e;obtain⟨_,_,_,_,rfl,a,sm⟩:=hd.rng_inv;obtain⟨h1,h2⟩:=VU.mp sm;refine wpAny_pyIter_range (am.fz _ _ a) (Ad (rG.mp h1) (rG.mp h2)) (h _ _ (aA.push0 am.fz _ s.toks) (nG am.fz) (bu _) ?_);exact .rng lo (Builtin.Range.rangeSize lo hi 1) (by rw[pn];lia) (by rw[pn,YY];congr 1) (Wc _ rfl)
 |_=>exact bg e
theorem rJ {I:V4}{items:List D}{i:Nat}{Q:VQ->VP->Prop}(t:f_ F s.heap I items i)(h:Q (.ref I) s):wpAny (model ab w) A (pyIter (.ref I)) Q E s:=by
 induction t with
 |lst a vs o n q1 q2 q3 q4 x=>exact wpAny_pyIter_listiter x h
 |tup a vs o n q1 q2 q3 q4 x=>exact wpAny_pyIter_tupleiter x h
 |rng x left q1 q2 q=>exact wpAny_pyIter_rangeiter q h
theorem lR {I:V4}{items:List D}{i:Nat}{Q:Option VQ->VP->Prop}(am:Am A F s)(hI:F I=none)(t:f_ F s.heap I items i)
  (item:∀d v h' tk,items[i]?=some d->aj F v d->f_ F h' I items (i+1)->Ws I s.heap h'->Q (some v) { s with heap:=h',toks:=tk })
  (fin:∀h',items[i]?=none->WV I s.heap h'->Q none { s with heap:=h' }):wpAny (model ab w) A (pyNext (.ref I)) Q E s:=by
 induction t with
 |lst a vs o n q1 q2 q3 q4 x =>
  have hl:s.heap.IsList a vs:=⟨o,am.fz _ _ q1,q2,n,q3⟩
  cases hx:items[i]? with
  |some d =>
   obtain⟨v,hv,hd⟩:=q4.get i d hx;exact wpAny_pyNext_list_item x hl (by simpa using hv) λh' HI hs=>item d v h' s.toks hx hd (.lst a vs o n q1 q2 q3 q4 HI) hs
  |none =>
   refine wpAny_pyNext_list_end am.hh x hl ?_ λh' he=>fin h' hx he
   have:=q4.length;simp only[Xc]at hx;simp only[YZ];simp only[WA]at this;omega
 |tup a vs o n q1 q2 q3 q4 x =>
  have hl:s.heap.IsTuple a vs:=⟨o,am.fz _ _ q1,q2,n,q3⟩
  cases hx:items[i]? with
  |some d =>
   obtain⟨v,hv,hd⟩:=q4.get i d hx;exact wpAny_pyNext_tuple_item x hl (by simpa using hv) λh' HI hs=>item d v h' s.toks hx hd (.tup a vs o n q1 q2 q3 q4 HI) hs
  |none =>
   refine wpAny_pyNext_tuple_end am.hh x hl ?_ λh' he=>fin h' hx he
   have:=q4.length;simp only[Xc]at hx;simp only[YZ];simp only[WA]at this;omega
 |rng x left q1 q2 q =>
  by_cases h0:0<left
  ·refine wpAny_pyNext_range_item q h0 λh' HI hs=>?_
   clear q;obtain⟨m,rfl⟩:∃m:Nat,left=m+1:=⟨(left - 1).toNat,by rw[Int.toNat_of_nonneg (Int.le_sub_one_of_lt h0),Int.sub_add_cancel]⟩;have e:((m:Int)+1).toNat=m+1:=(by exact rfl);rw[e]at q2;replace q2:items.drop i=.int x::bX (x+1) m:=q2;have hx:items[i]?=some (.int x):=by
    have:=congrArg (·[0]?) q2;simpa using this
   refine item _ _ h' _ hx (.int _ _) (.rng (x+1) ((m:Int)+1 - 1) (by lia) ?_ HI) hs;have:=congrArg (List.drop 1) q2;simpa using this
  ·refine wpAny_pyNext_range_end am.hh q (by lia) λh' he=>fin h' ?_ he
   have:left.toNat=0:=by lia
   rw[this]at q2;replace q2:items.drop i=[]:=q2;have:=Xo.mp q2;simpa using this
end
structure cq (h h':Wb):Prop where
 get:∀a o,a≠PL->h.get? a=some o->¬ dc o.data->h'.get? a=some o
 to:cV h->iM h h'
theorem cq.trans {a b c:Wb}(x:cq a b)(y:cq b c):cq a c:=⟨λp o n e d=>y.get p o n (x.get p o n e d) d,λt=>(x.to t).trans (y.to ((x.to t).at t))⟩
theorem cq.of {a b:Wb}(k:∀p o,a.get? p=some o->b.get? p=some o):cq a b:=⟨λp o n e _=>k p o e,λ_=>.of k⟩
theorem cq.same {h h':Wb}{b:V4}{ob:Xi}(hb:h.get? b=some ob)(hd:dc ob.data)(hs:Ws b h h'):cq h h':=⟨λp o n e nd=>by
 rw[hs.2 p];exact e;clear hs;rintro rfl;rw[hb]at e;replace e:=aJ e;obtain rfl:=e;exact nd hd,λt=>.but hs.extBut (t.neD hb (ED hd))⟩
section
variable {ab:V8}{w:Wi}{A:V7}{E:VQ->VP->Prop}{s:VP}{F:Fz}{X:gJ}{an:Wb}{env:Yq}{σ σ':az X.T}
theorem fP {T:Type}{σ σ':az T}{ds:List D}(e:cw σ [] ds=some σ'):ds=[]/\σ=σ':=by
 induction ds with
 |nil=>exact⟨rfl,aJ e⟩
 |cons _ _=>exact bg e
theorem sE {T:Type}{σ σ':az T}{t:Expr}{d:D}(e:EP σ d t=some σ'):∃x p,t=.Name x p/\bW σ.nm x=true/\σ.set x (.val d)=σ':=by
 cases t with
 |Name x p=>exact ip e λh e=>⟨x,p,rfl,h,aJ e⟩
 |_=>exact bg e
theorem fh {T:Type}{σ σ':az T}{e1:Expr}{es:List Expr}{ds:List D}(e:cw σ (e1::es) ds=some σ'):∃x p d r,e1=.Name x p/\ds=d::r/\bW σ.nm x=true/\cw (σ.set x (.val d)) es r=some σ':=by
 revert e;revert σ σ' e1 es ds;unfold T;exists σ,σ',e1,es,ds;intro e;cases ds with
 |nil=>exact bg e
 |cons d r =>
  delta d r;intro e;refine bt e ?_;exists σ1;intro e1 e2;clear e;obtain⟨x,p,rfl,h,rfl⟩:=sE e1;exact⟨x,p,d,r,rfl,rfl,h,e2⟩
theorem nz {T:Type}{σ σ':az T}{t:Expr}{d:D}(e:bB σ t d=some σ'):(∃x p,t=.Name x p/\bW σ.nm x=true/\σ.set x (.val d)=σ')\/∃es k p ds,t=.Tuple es k p/\d=.tup ds/\cw σ es ds=some σ':=by
 cases t with
 |Tuple es k p=>exact bt e λds e1 e=>.inr ⟨es,k,p,ds,rfl,mG e1,e⟩
 |Name x p=>exact .inl (sE (t:=.Name x p) e)
 |_=>exact bg e
theorem q8 (es:List Expr):∀(σ:az X.T) (ds:List D) (vs:List VQ) (s:VP) (Q:Unit->VP->Prop),cw σ es ds=some σ'->cW X an F env σ s.heap->(∀a o,F a=some o->s.heap.get? a=some o)->al F vs ds ->(∀h' tk,cq s.heap h'->(∀a o,F a=some o->h'.get? a=some o)->cW X an F env σ' h'->Q () { s with heap:=h',toks:=tk }) ->wpAny (model ab w) A (assignInOrder ((assignEach es env).map (·.2)) vs) Q E s:=by
 revert ab w A E F an env σ' es;unfold X;exists ab,w,A,E,F,an,env,σ',es;induction es with
 |nil =>
  intro σ ds vs s Q e r hf hv h;obtain⟨rfl,rfl⟩:=fP e;obtain rfl:=hv.nil_inv;exact VR (h s.heap s.toks (cq.of λ_ _ e=>e) hf r)
 |cons e1 es ih =>
  intro σ ds vs s Q e r hf hv h;obtain⟨x,p,d,ds,rfl,rfl,Fb⟩:=fh e;obtain⟨v,us,rfl,hv,fn⟩:=hv.cons_inv;show wpAny _ _ (holding _ (assign (.Name x p) env _) >>=λ_=>assignInOrder ((assignEach es env).map (·.2)) _) Q E s;refine VO (Wq (XU (iw r Fb.1 hv λh' tk b ob gG ed oj hs b0 bF r'=>?_)));have Q9:∀a o,F a=some o->h'.get? a=some o:=λa o q=>by
   rw[hs.2 a (by clear gG ed hs b0;rintro rfl;exact bo bF q)];exact hf a o q
  exact ih _ ds _ { s with heap:=h',toks:=tk } Q Fb.2 r' Q9 fn λLd uK k f PW=>h Ld uK ((cq.same ed oj hs).trans k) f PW
theorem iL (es:List Expr):∀(σ:az X.T) (ds:List D),cw σ es ds=some σ'->(assignEach es env).length=ds.length/\(assignEach es env).findIdx? (·.1)=none:=by
 revert env σ' es;unfold X;exists env,σ',es;induction es with
 |nil =>
  intro σ ds e;replace e:=fP e;obtain⟨rfl,rfl⟩:=e;exact⟨rfl,rfl⟩
 |cons e1 es ih =>
  intro σ ds e;replace e:=fh e;obtain⟨x,p,d,ds,rfl,rfl,Fb⟩:=e;obtain⟨a,b⟩:=ih _ ds Fb.2;have e2:assignEach (.Name x p::es) env=(false,assign (.Name x p) env)::assignEach es env:=rfl;exact⟨by rw[VY,VY,a],by rw[List.findIdx?_cons];simp[b]⟩
theorem k_ {t:Expr}{d:D}{v:VQ}{Q:Unit->VP->Prop}(am:Am A F s)(e:bB σ t d=some σ')(r:cW X an F env σ s.heap)(hv:aj F v d)
  (h:∀h' tk,cq s.heap h'->(∀a o,F a=some o->h'.get? a=some o)->cW X an F env σ' h'->Q () { s with heap:=h',toks:=tk }) :
  wpAny (model ab w) A (assign t env v) Q E s:=by
 revert am e r hv h;revert ab w A E s F an env σ σ' t d v Q;unfold X;exists ab,w,A,E,s,F,an,env,σ,σ',t,d,v,Q;intro am e r hv h;rcases nz e with⟨x,p,rfl,hw,rfl⟩ |⟨es,k,p,ds,rfl,rfl,e⟩
 ··refine XU (iw r hw hv λh' tk b ob gG ed oj hs b0 bF r'=>?_)
   exact h h' tk (cq.same ed oj hs) (λa o q=>by rw[hs.2 a (by clear gG ed hs b0;rintro rfl;exact bo bF q)];exact am.fz a o q) r'
 ·obtain⟨a,vs,rfl,Ju⟩:=hv.isTup am.fz
  obtain⟨n1,n2⟩:=iL (env:=env) es σ ds e;refine wpAny_assign_Tuple am.hh Ju.1 (by rw[n1,Ju.2.2.2]) n2 λh' he=>?_
  have keep:∀b o,s.heap.get? b=some o->h'.get? b=some o:=λb o eb=>he b o (XI (Wy eb)) eb
  have g:=aA.keeps am.fz keep s.toks;refine q8 es σ ds _ { s with heap:=h' } Q e (r.grow g) g.fz Ju.2.1 λLd tk k f PW=>h Ld tk ((cq.of keep).trans k) f PW
end
structure Lv (A:V7)(k:Nat):Prop where
 d:A.depth+k<1000
 u:A.units+100*k<=9000
structure dT (hb:Wb)(mg:Str->Option VQ):Prop where
 g:hb.Ns mainGlobals mg
 b:∃mb,hb.Ns builtinsNs mb/\∀x:Str,x≠ "__name__" -> mb x=bootBuiltins x
 bi:∀f b,jv f=some b->mg f=none
 nolimit:hb.NoLimit
 chd:CodeHd hb CT PL
 bm:hb.BuiltinsAt mg PL
noncomputable def au (hb:Wb)(F:Fz):Prop:=∀a o,hb.get? a=some o->F a=some o
theorem au.grow {hb:Wb}{F F':Fz}(b:au hb F)(h:F.le F'):au hb F':=λa o e=>h _ _ (b _ _ e)
theorem au.keep {hb:Wb}{F:Fz}{h:Wb}(b:au hb F)(hf:∀a o,F a=some o->h.get? a=some o):∀a o,hb.get? a=some o->h.get? a=some o:=λa o e=>hf _ _ (b _ _ e)
section
variable (ab:V8)(w:Wi)(X:gJ)(Φ:b_)(hb:Wb)(mg:Str->Option VQ)(k:Nat)
noncomputable def nD:Prop:=∀f ds d,d4 f dy=false->Φ f ds=some d->∃a o fd,mg f=some (.ref a)/\hb.get? a=some o/\o.data=.func fd /\∀(A:V7) (F:Fz) (s:VP) (vs:List VQ) (Q:VQ->VP->Prop) (E:VQ->VP->Prop),Am A F s->Lv A k->au hb F->al F vs ds->Rt F s d Q->wpAny (model ab w) A (call (.ref a) vs) Q E s
noncomputable def sJ:Prop:=∀(A:V7) (E:VQ->VP->Prop) (F:Fz) (s:VP) (env:Yq) (an:Wb) (σ:az X.T) (x m:Str) (p aE pos:X7) (args:List Expr) (y:Expr) (d r:D) (Q:VQ->VP->Prop),yo σ.nm x m args=some y->Φ dy [d]=some r->VW aE.endLine pos.line=true->Am A F s->Lv A k->au hb F->cW X an F env σ s.heap ->(∀aR Q',aA F s F aR->Rt F aR d Q'->wpAny (model ab w) A (eval y env) Q' E aR)->starEach [y] env=[(false,eval y env)]->Rt F s r Q ->wpAny (model ab w) A (eval (.Call (.Attribute (.Name x p) m aE) args [] pos) env) Q E s
noncomputable def hU:Prop:=∀t m ds d,X.aa t m ds=some d->∃a o fd,hb.get? a=some o/\o.data=.func fd /\(∀(A:V7) (E:VQ->VP->Prop) (F:Fz) (s:VP) (v:VQ) (O:List V4) (pl:Sem Bool) (Q:VQ×List VQ->VP->Prop),X.At F s.heap v t O->Am A F s->au hb F->Q (.ref a,[v]) s->wpAny (model ab w) A (getMethod v m pl) Q E s) /\(∀(A:V7) (F:Fz) (s:VP) (v:VQ) (O:List V4) (vs:List VQ) (Q:VQ->VP->Prop) (E:VQ->VP->Prop),X.At F s.heap v t O->Am A F s->Lv A k->au hb F->al F vs ds->Rt F s d Q->wpAny (model ab w) A (call (.ref a) (v::vs)) Q E s)
noncomputable def cR (n:Nat):Prop:=∀(A:V7) (E:VQ->VP->Prop) (F:Fz) (s:VP) (env:Yq) (an:Wb) (σ:az X.T) (e:Expr) (d:D) (Q:VQ->VP->Prop),ev X.aa Φ n σ false e=some d->Am A F s->Lv A k->au hb F->cW X an F env σ s.heap->Rt F s d Q->wpAny (model ab w) A (eval e env) Q E s
noncomputable def eP (n:Nat):Prop:=∀(A:V7) (E:VQ->VP->Prop) (F:Fz) (s:VP) (env:Yq) (an:Wb) (σ:az X.T) (e:Expr) (b:Bool) (Q:Bool->VP->Prop),ev X.aa Φ n σ true e=some (.bool b)->Am A F s->Lv A k->au hb F->cW X an F env σ s.heap->(∀F' s',aA F s F' s'->Q b s')->wpAny (model ab w) A (isTrue e env (eval e env)) Q E s
end
section
variable {ab:V8}{w:Wi}{X:gJ}{Φ:b_}{hb:Wb}{mg:Str->Option VQ}{k:Nat}{A:V7}{E:VQ->VP->Prop}{F:Fz}{s:VP}{env:Yq}{an:Wb}{σ:az X.T}
theorem Rt.grow {F F':Fz}{s s':VP}{d:D}{Q:VQ->VP->Prop}(h:Rt F s d Q)(g:aA F s F' s'):Rt F' s' d Q:=λv qW Ff g' hd=>h v qW Ff (g.trans g') hd
set_option tactic.hygienic true in
theorem gw {n:Nat}{b:Bool}{e:Expr}{d:D}(h:ev X.aa Φ n σ b e=some d):∀es,starEach (e::es) env=(false,eval e env)::starEach es env:=by
 intro es
 cases e<;>try rfl
 exfalso;rename_i e p;induction n generalizing b d with
 |zero=>exact bg h
 |succ n ih =>
  induction b with
  |false=>exact bg h
  |true =>
   exact bt h λd' h1 _=>ih h1
theorem lS {n:Nat}(IH:cR ab w X Φ hb k n)(es:List Expr):∀(ds:List D) (F:Fz) (s:VP) (pos:X7) (Q:List VQ->VP->Prop),k5 (λσ b e=>ev X.aa Φ n σ b e) σ es=some ds->Am A F s->Lv A k->au hb F->cW X an F env σ s.heap ->(∀vs F' s',aA F s F' s'->al F' vs ds->Q vs s')->wpAny (model ab w) A (spliced (backTo pos (starEach es env))) Q E s:=by
 induction es with
 |nil =>
  intro ds F s pos Q e am lv bf r h;replace e:=aJ e;obtain rfl:=e;exact wpAny_items_nil (h _ _ _ (aA.refl am.fz) .nil)
 |cons e1 es ih =>
  intro ds F s pos Q e am lv bf r h;refine bt e λd e2 e=>gt e λMo e3 e=>?_
  subst e;refine wpAny_items_cons (IH A E F s env an σ e1 d _ e2 am lv bf r λv F' s' g hv=>?_) (gw e2 es);exact ih Mo F' s' pos _ e3 (am.grow g) lv (bf.grow g.fle) (r.grow g) λvs qW Ff g' fn=>h _ _ _ (g.trans g') (.cons (hv.mono g'.fle) fn)
theorem d6 {M:Model}{h:Wb}{a:V4}{o:Xi}{fd:Xp}(ho:h.get? a=some o)(hd:o.data=.func fd):Looks M h (keeperOf (.ref a)) .frame:=by
 refine(Looks.ld (part:=none) ho).andThen ?_;rw[hd];exact .now
theorem CW {n:Nat}(es:List Expr):∀(ds:List D) (pos:X7),k5 (λσ b e=>ev X.aa Φ n σ b e) σ es=some ds->(backTo pos (starEach es env)).any (·.1)=false:=by
 induction es with
 |nil=>exact λ_ _ _=>rfl
 |cons e1 es ih =>
  intro ds pos e;refine bt e λd e2 e=>gt e λMo e3 _=>?_
  rw[gw e2 es];exact ih Mo pos e3
theorem gq {n:Nat}(IH:cR ab w X Φ hb k n){pos:X7}{f:VQ}{first:List VQ}{args:List Expr}{ds:List D}{Q:VQ->VP->Prop}{P:Wb->Prop}
  (e:k5 (λσ b e=>ev X.aa Φ n σ b e) σ args=some ds) (am:Am A F s) (lv:Lv A k) (bf:au hb F) (r:cW X an F env σ s.heap)
  (hk:∀h,P h->∃k,(k=Yj\/k=XN\/k=Xe)/\Looks (model ab w) h (keeperOf f) k)
  (h:∀vs F' s',aA F s F' s'->al F' vs ds->P s'.heap/\wpAny (model ab w) A (call f (first++vs)) Q E s') :
  wpAny (model ab w) A (callWith pos f first (backTo pos (starEach args env)) (backToKw pos (keywordEach [] env))) Q E s:=by
 have yT:=CW (env:=env) args ds pos e;refine callWith_of (P:=P) (by rw[yT];rfl) hk ?_;clear yT;induction args with
 |nil =>
  clear IH r;obtain rfl:=aJ e;exact evalArgs_kw_nil rfl (wpAny_evalAll_nil (by simpa using h [] F s (aA.refl am.fz) .nil))
 |cons e1 es =>
  have e':=e;refine bt e' λd e2 _=>?_
  have fj:backTo pos (starEach (e1::es) env)=(false,eval e1 env)::backTo pos (starEach es env):=by rw[gw e2 es];rfl
  rw[fj];refine Calls.evalArgs_plain ?_;rw[<- fj];exact lS IH (e1::es) ds F s pos _ e am lv bf r λvs F' s' g fn=>h vs F' s' g fn
theorem dn {f:Str}{p:X7}{v:VQ}{Q:VQ->VP->Prop}(B:dT hb mg)(am:Am A F s)(bf:au hb F)(r:cW X an F env σ s.heap)(hg:js σ.nm f=true)
  (hv:mg f=some v\/(mg f=none/\bootBuiltins f=some v/\f≠ "__name__")) (h:Q v s):wpAny (model ab w) A (eval (.Name f p) env) Q E s:=by
 have hk:=r.glob f (js_0 hg);refine Calls.Name_function_global r.fe.kind hk ?_ (i8 r.fe hk);have gG:=bf.keep am.fz;rcases hv with hv |⟨h1,h2,h3⟩
 ·exact Calls.loadGlobal_global (by rw[r.fe.globals];exact B.g.keeps gG) hv h
 ·obtain⟨mb,n,hm⟩:=B.b
  exact Calls.loadGlobal_builtin (by rw[r.fe.globals];exact B.g.keeps gG) h1 (by rw[r.fe.builtins];exact n.keeps gG) ((hm f h3).trans h2) h
theorem LJ {α:Type}{x y:Option α}{b:Bool}{z:α}{G:Prop}(e:a_ x y b=some z)(h:b=true->x=some z->G)(k:y=some z->G):G:=by
 induction b with
 |true=>exact h rfl e
 |false=>exact k e
theorem sX {f:Str}{l:List Nat}(x:Str)(hx:x.cps.toList=l)(hl:gu f.cps.toList l=true):f=x:=dE ((ce.mp hl).trans hx.symm)
theorem wn {f:Str}{b:Bi}(h:jv f=some b):(f= "len" /\ b=.len)\/(f= "range" /\ b=.range)\/(f= "min" /\ b=.min)\/(f= "max" /\ b=.max) :=
 LJ h (λq e=>.inl ⟨sX _ (by decide +kernel) q,(aJ e).symm⟩) λh=>LJ h (λq e=>.inr (.inl ⟨sX _ (by decide +kernel) q,(aJ e).symm⟩)) λh =>
  LJ h (λq e=>.inr (.inr (.inl ⟨sX _ (by decide +kernel) q,(aJ e).symm⟩))) λh=>LJ h (λq e=>.inr (.inr (.inr ⟨sX _ (by decide +kernel) q,(aJ e).symm⟩))) bg
theorem Bp {f:Str}{b:Bi}(h:jv f=some b):bootBuiltins f=some b.value/\f≠ "__name__" :=by
 delta f b;intro h;rcases wn h with⟨rfl,rfl⟩ |⟨rfl,rfl⟩ |⟨rfl,rfl⟩ |⟨rfl,rfl⟩
 ·exact⟨PyProof.Rows.Boot.«len»,by decide +kernel⟩
 ·exact⟨PyProof.Rows.Boot.«range»,by decide +kernel⟩
 ·exact⟨PyProof.Rows.Boot.«min»,by decide +kernel⟩
 ·exact⟨PyProof.Rows.Boot.«max»,by decide +kernel⟩
theorem E6 {b:Bi}(h:Wb):∃k,(k=Yj\/k=XN\/k=Xe)/\Looks (model ab w) h (keeperOf b.value) k :=
 ⟨.machine,.inr (.inl rfl),by induction b<;>exact W0 rfl⟩
theorem td {n:Nat}(IH:cR ab w X Φ hb k n)(B:dT hb mg)(G:nD ab w Φ hb mg k){f:Str}{p pos:X7}{args:List Expr}{ds:List D}{d:D}{Q:VQ->VP->Prop}
  (hg:js σ.nm f=true) (e:k5 (λσ b e=>ev X.aa Φ n σ b e) σ args=some ds) (e2:Lm Φ f ds (jv f)=some d)
  (am:Am A F s) (lv:Lv A k) (bf:au hb F) (r:cW X an F env σ s.heap) (h:Rt F s d Q):wpAny (model ab w) A (eval (.Call (.Name f p) args [] pos) env) Q E s:=by
 refine Ze ?_
 cases gn:jv f with
 |some b =>
  rw[gn]at e2;obtain⟨h1,h2⟩:=Bp gn;refine dn B am bf r hg (.inr ⟨B.bi f b gn,h1,h2⟩) ?_;refine gq IH (P:=λ_=>True) e am lv bf r (λh _=>E6 h) λvs F' s' g fn=>⟨trivial,?_⟩
  exact JV (am.grow g) fn e2 (h.grow g)
 |none =>
  rw[gn]at e2;obtain⟨a,o,fd,hm,ho,hd,hc⟩:=G f ds d (js_1 hg) e2;refine dn B am bf r hg (.inl hm) ?_;refine gq IH (P:=λh=>h.get? a=some o) e am lv bf r (λh hq=>⟨.frame,.inl rfl,d6 hq hd⟩) λvs F' s' g fn=>?_
  refine⟨g.fz _ _ (g.fle _ _ (bf _ _ ho)),?_⟩;exact hc A F' s' vs Q E (am.grow g) lv (bf.grow g.fle) fn (h.grow g)
end
set_option backward.match.sparseCases true
section
variable {ab:V8}{w:Wi}{X:gJ}{Φ:b_}{hb:Wb}{mg:Str->Option VQ}{k:Nat}{A:V7}{E:VQ->VP->Prop}{F:Fz}{s:VP}{env:Yq}{an:Wb}{σ:az X.T}
theorem o6 (ph:Expr)(o i:VQ):∃l,subscripted ph false o i=operate l (getItem o i):=by
 cases ph with
 |Slice lo hi st p=>induction st<;>exact⟨_,rfl⟩
 |_=>exact⟨_,rfl⟩
theorem nA {value ph:Expr}{pos:X7}{Q:VQ->VP->Prop}
  (h:wpAny (model ab w) A (eval value env) (λo aR=>wpAny (model ab w) A (eval ph env) (λi kL=>(∃T id,typeLookup (.type T) "__getitem__" = pure (some (.builtin id))/\kL.TypeIs o T)/\wpAny (model ab w) A (getItem o i) Q E kL) E aR) E s) :
  wpAny (model ab w) A (eval (.Subscript value ph pos) env) Q E s:=by
 refine VO (Wk h (λo aR gh=>VO (Wq (Wk gh (λi kL KP=>VO (Xa ?_)) λ_ _ x=>x))) λ_ _ x=>x);obtain⟨⟨T,id,hl,hT⟩,hg⟩:=KP;refine VO ?_;refine VO (wpAny_specialOf hT hl ?_);have fin:∀l,wpAny (model ab w) A (operate l (getItem o i)) (λr sW=>wpAny (model ab w) A (letTemporaryGo value o r >>=λ_=>pure r) Q E sW) E kL:=λl =>
  wpAny_operating (Wk hg (λr sW xx=>VO (wpAny_letTemporaryGo (VR xx))) λ_ _ x=>x)
 have sub:wpAny (model ab w) A (subscripted ph false o i) (λr sW=>wpAny (model ab w) A (letTemporaryGo value o r >>=λ_=>pure r) Q E sW) E kL:=by
  obtain⟨l,hl⟩:=o6 ph o i;rw[hl];exact fin l
 first
  |exact VR (VO sub)
  |exact VO (VR (VO sub))
  |exact VO sub
noncomputable def xg:D->Prop
 | .str _=>True
 | .lst _=>True
 | .tup _=>True
 |_=>False
theorem Lh {v:VQ}{d:D}(hf:∀a o,F a=some o->s.heap.get? a=some o)(h:aj F v d)(hd:xg d) :
  ∃T id,typeLookup (.type T) "__getitem__" = pure (some (.builtin id))/\s.TypeIs v T:=by
 revert hf h hd;delta F s v d;intro hf h hd
 cases h with
 |str x t=>exact⟨"str",_,PySem.F.slot_str_getitem.lookup,typeIs_str _ _ _⟩
 |lst a b c z r=>exact⟨"list",_,slot_list_getitem.lookup,⟨_,hf _ _ a,b⟩⟩
 |tup a b c z r=>exact⟨"tuple",_,slot_tuple_getitem.lookup,⟨_,hf _ _ a,b⟩⟩
 |_=>exact hd.elim
theorem sb {o i d:D}(e:bh o i=some d):xg o:=by
 cases o<;>first |trivial |exact bg e
theorem wO {lo hi:Option Int}{o d:D}(e:cx lo hi o=some d):xg o:=by
 cases o<;>first |trivial |exact bg e
theorem rK {c:Const}{kk:Nat}{pos:X7}{d:D}{Q:VQ->VP->Prop}(am:Am A F s)(e:xW c=some d)(h:Rt F s d Q):wpAny (model ab w) A (eval (.Constant c kk pos) env) Q E s:=by
 induction c with
 |none=>replace e:=aJ e;obtain rfl:=e;exact wpAny_Constant_none (h.here am .none)
 |bool b=>replace e:=aJ e;obtain rfl:=e;exact wpAny_Constant_bool (h.here am (.bool _))
 |int i=>replace e:=aJ e;obtain rfl:=e;exact wpAny_Constant_int (h.val am (.int _ _) _)
 |str x =>
  refine ip e λq e=>?_
  obtain rfl:=aJ e;have q:=VU.mp q;exact wpAny_Constant_str (h.val am (.str _ _ q.1 (V0 q.2)) _)
 |_=>exact bg e
theorem uS {n:Nat}(IH:cR ab w X Φ hb k n){p:Option Expr}{od:Option D}{oi:Option Int}{Q:VQ->VP->Prop}(e:Oj (λσ b e=>ev X.aa Φ n σ b e) σ p=some od)(e2:qM od=some oi)
  (am:Am A F s) (lv:Lv A k) (bf:au hb F) (r:cW X an F env σ s.heap) (h:∀v F' s',aA F s F' s'->ct F' v oi->Q v s'):wpAny (model ab w) A (evalPart p env) Q E s:=by
 induction p with
 |none =>
  obtain rfl:=aJ e;obtain rfl:=aJ e2;exact VR (h _ _ _ (aA.refl am.fz) .none)
 |some x =>
  refine gt e λd e3 e4=>?_
  clear e;subst e4;refine gt e2 λi e4 e5=>?_
  cases dR e4;clear e2;subst e5;refine IH A E F s env an σ x _ _ e3 am lv bf r λv F' s' g hv=>?_
  obtain⟨_,rfl⟩:=hv.int_inv;exact h _ _ _ g (.int _ _)
theorem ct.any {F G:Fz}{v:VQ}{o:Option Int}(h:ct F v o):ct G v o:=by induction h<;>constructor
theorem Gf {n:Nat}(IH:cR ab w X Φ hb k n){pos:X7}(es:List Expr):∀(d:D) (F:Fz) (s:VP) (Q:VQ->VP->Prop),LO (λσ b e=>ev X.aa Φ n σ b e) σ es=some d->Am A F s->Lv A k->au hb F->cW X an F env σ s.heap ->Rt F s d Q->wpAny (model ab w) A (boolOp pos .And (evalEach es env)) Q E s:=by
 induction es with
 |nil=>exact λ_ _ _ _ e=>bg e
 |cons x es ih =>
  intro d F s Q e am lv bf r h
  cases es with
  |nil=>exact IH A E F s env an σ x d Q e am lv bf r h
  |cons y es =>
   refine bt e λd1 e1 e=>bt e λb e2 e=>?_
   show wpAny _ _ (do
    let v <- eval x env
    standAt pos
    let t <- holding [v] (truthy v)
    match BoolOp.And,t with
    | .And,false | .Or,true=>pure v
    |_,_=>boolOp pos .And (evalEach (y::es) env)) Q E s
   refine VO (IH A E F s env an σ x d1 _ e1 am lv bf r λv F' s' g hv=>VO (Xa (VO (Wq (gB (am.grow g) hv e2 λqW Ff g'=>?_)))));clear e2;induction b with
   |false=>obtain rfl:=aJ e;exact VR (h _ _ _ (g.trans g') (hv.mono g'.fle))
   |true=>exact ih d qW Ff Q e ((am.grow g).grow g') lv ((bf.grow g.fle).grow g'.fle) ((r.grow g).grow g') (h.grow (g.trans g'))
theorem JT {n:Nat}(IH:cR ab w X Φ hb k n){pos:X7}(es:List Expr):∀(d:D) (F:Fz) (s:VP) (Q:VQ->VP->Prop),PZ (λσ b e=>ev X.aa Φ n σ b e) σ es=some d->Am A F s->Lv A k->au hb F->cW X an F env σ s.heap ->Rt F s d Q->wpAny (model ab w) A (boolOp pos .Or (evalEach es env)) Q E s:=by
 induction es with
 |nil=>exact λ_ _ _ _ e=>bg e
 |cons x es ih =>
  intro d F s Q e am lv bf r h
  cases es with
  |nil=>exact IH A E F s env an σ x d Q e am lv bf r h
  |cons y es =>
   refine bt e λd1 e1 e=>bt e λb e2 e=>?_
   show wpAny _ _ (do
    let v <- eval x env
    standAt pos
    let t <- holding [v] (truthy v)
    match BoolOp.Or,t with
    | .And,false | .Or,true=>pure v
    |_,_=>boolOp pos .Or (evalEach (y::es) env)) Q E s
   refine VO (IH A E F s env an σ x d1 _ e1 am lv bf r λv F' s' g hv=>VO (Xa (VO (Wq (gB (am.grow g) hv e2 λqW Ff g'=>?_)))));clear e2;induction b with
   |true=>obtain rfl:=aJ e;exact VR (h _ _ _ (g.trans g') (hv.mono g'.fle))
   |false=>exact ih d qW Ff Q e ((am.grow g).grow g') lv ((bf.grow g.fle).grow g'.fle) ((r.grow g).grow g') (h.grow (g.trans g'))
theorem Cq {n:Nat}(IT:eP ab w X Φ hb k n)(es:List Expr):∀(b:Bool) (F:Fz) (s:VP) (Q:Bool->VP->Prop),bq (λσ b e=>ev X.aa Φ n σ b e) σ es=some b->Am A F s->Lv A k->au hb F->cW X an F env σ s.heap ->(∀F' s',aA F s F' s'->Q b s')->wpAny (model ab w) A (allTrue .And es env) Q E s:=by
 induction es with
 |nil =>
  intro b F s Q e am lv bf r h;replace e:=aJ e;obtain rfl:=e;exact wpAny_allTrue_And_nil (h _ _ (aA.refl am.fz))
 |cons x es ih =>
  intro b F s Q e am lv bf r h;refine bt e λc e1 e=>bt e1 λd e1 e2=>?_
  cases gx e2;refine wpAny_allTrue_And_cons (IT A E F s env an σ x c _ e1 am lv bf r λF' s' g=>?_);clear e2;induction c with
  |true=>exact ih b F' s' Q e (am.grow g) lv (bf.grow g.fle) (r.grow g) λqW Ff g'=>h _ _ (g.trans g')
  |false=>obtain rfl:=aJ e;exact h _ _ g
theorem Cp {n:Nat}(IT:eP ab w X Φ hb k n)(es:List Expr):∀(b:Bool) (F:Fz) (s:VP) (Q:Bool->VP->Prop),gM (λσ b e=>ev X.aa Φ n σ b e) σ es=some b->Am A F s->Lv A k->au hb F->cW X an F env σ s.heap ->(∀F' s',aA F s F' s'->Q b s')->wpAny (model ab w) A (allTrue .Or es env) Q E s:=by
 induction es with
 |nil =>
  intro b F s Q e am lv bf r h;replace e:=aJ e;obtain rfl:=e;exact wpAny_allTrue_Or_nil (h _ _ (aA.refl am.fz))
 |cons x es ih =>
  intro b F s Q e am lv bf r h;refine bt e λc e1 e=>bt e1 λd e1 e2=>?_
  cases gx e2;refine wpAny_allTrue_Or_cons (IT A E F s env an σ x c _ e1 am lv bf r λF' s' g=>?_);clear e2;induction c with
  |false=>exact ih b F' s' Q e (am.grow g) lv (bf.grow g.fle) (r.grow g) λqW Ff g'=>h _ _ (g.trans g')
  |true=>obtain rfl:=aJ e;exact h _ _ g
theorem pF {d:D}{ds:List D}{x:Str}(e:iC (d::ds)=some x):∃y z,d=.str y/\iC ds=some z/\y++z=x:=by
 exact bt e λy e0 e=>gt e λz e1 e2=>⟨y,z,eH e0,e1,e2⟩
theorem zx (a b c:Str):a++b++c=a++(b++c):=Str.append_assoc a b c
theorem zP {n:Nat}(IH:cR ab w X Φ hb k n)(es:List Expr):∀(ds:List D) (x acc:Str) (F:Fz) (s:VP) (Q:Str->VP->Prop),k5 (λσ b e=>ev X.aa Φ n σ b e) σ es=some ds->iC ds=some x->(acc++x).length<=1000000->WP acc=true ->Am A F s->Lv A k->au hb F->cW X an F env σ s.heap->(∀F' s',aA F s F' s'->WP (acc++x)=true->Q (acc++x) s')->Joins (model ab w) A E (evalEach es env) acc Q s:=by
 revert IH;revert ab w Φ hb k A E env an σ n es;unfold X;exists ab,w,Φ,hb,k,A,E,env,an,σ,n,es;intro IH;induction es with
 |nil =>
  intro ds x acc F s Q e e2 hz ho am lv bf r h;obtain rfl:=aJ e;obtain rfl:=aJ e2;have:acc++WT=acc:=Str.append_empty acc;exact h _ _ (aA.refl am.fz) ho
 |cons e1 es ih =>
  intro ds x acc F s Q e e2 hz ho am lv bf r h;refine bt e λd e3 e=>gt e λMo e4 e=>?_
  subst e;obtain⟨y,z,rfl,e5,rfl⟩:=pF e2;rw[<- zx]at hz h;refine IH A E F s env an σ e1 _ _ e3 am lv bf r λv F' s' g hv=>?_
  cases hv with
  |str _ t k1 z1=>exact⟨y,t,rfl,VX (VX (by rw[bK,bK,bK];exact Xm _ _) hz) (by decide +kernel),ih Mo z (acc++y) F' s' Q e4 e5 hz (eW ho k1) (am.grow g) lv (bf.grow g.fle) (r.grow g) λqW Ff g'=>h _ _ (g.trans g')⟩
end
set_option backward.match.sparseCases false
theorem aA.but {F F':Fz}{s s':VP}{b:V4}{h':Wb}{tk:Nat}(g:aA F s F' s')(b0:s.heap.get? b=.none)(bF:F' b=.none)(hb:b≠PL)(e:WV b s'.heap h'):aA F s F' { s' with heap:=h',toks:=tk } :=
 ⟨g.fle,λa o n q=>e a o (by clear bF hb e;rintro rfl;exact bo b0 q) (g.keep a o n q),g.tab.trans (.but e hb),λa o q=>e a o (by clear b0 hb e;rintro rfl;exact bo bF q) (g.fz a o q),g.fresh,g.gens,g.os⟩
theorem aA.at {F F':Fz}{s s':VP}{h':Wb}{tk:Nat}(g:aA F s F' s')(k:∀a o,a≠PL->s.heap.get? a=some o->h'.get? a=some o)(t:iM s'.heap h')(f:∀a o,F' a=some o->h'.get? a=some o):aA F s F' { s' with heap:=h',toks:=tk } :=
 ⟨g.fle,k,g.tab.trans t,f,g.fresh,g.gens,g.os⟩
theorem f_.at {F F':Fz}{h h':Wb}{I:V4}{items:List D}{i:Nat}(t:f_ F h I items i)(e:∀o,h.get? I=some o->h'.get? I=some o)(fl:F.le F'):f_ F' h' I items i:=by
 induction t with
 |lst a vs o n q1 q2 q3 q4 x=>obtain⟨o',ho,r⟩:=x;exact .lst a vs o n (fl _ _ q1) q2 q3 (q4.mono fl) ⟨o',e _ ho,r⟩
 |tup a vs o n q1 q2 q3 q4 x=>obtain⟨o',ho,r⟩:=x;exact .tup a vs o n (fl _ _ q1) q2 q3 (q4.mono fl) ⟨o',e _ ho,r⟩
 |rng x left q1 q2 q=>exact .rng x left q1 q2 (e _ q)
theorem kH {T:Type}{aa:T->Str->List D->Option D}{Φ:b_}{n:Nat}{σ:az T}{e:Expr}{d:D}(h:ev aa Φ n σ false e=some d)(env:Yq)(x:VQ):foldedSetIterable e env x=pure x:=by
 cases e<;>try rfl
 exfalso;induction n<;>exact bg h
section
variable {ab:V8}{w:Wi}{A:V7}{E:VQ->VP->Prop}{s:VP}{F:Fz}
noncomputable def tv:List String:=["enumerate", "zip", "dict_itemiterator", "dict_reverseitemiterator", "odict_iterator", "itertools.zip_longest", "itertools.pairwise"]
theorem kz {t:Expr}{I:V4}{v:VQ}{T:String}{o:Xi}{vs:Array VQ}{Q:Unit->VP->Prop}(ho:s.heap.get? I=some o)(hc:o.cls=.type T)(hd:o.data=.fields vs)(hT:tv.contains T=false)(h:Q () s):wpAny (model ab w) A (letOwnedTupleGo t (.ref I) v) Q E s:=by
 have body:∀p,wpAny (model ab w) A (letOwnedTupleGo (.List [] p) (.ref I) v) Q E s:=λp=>by
  induction v with
  |ref a =>
   refine VO (m:=load I) (wpAny_load ho ?_);rw[hc,hd];show wpAny _ _ (if(tv.contains T&&_)=true then _ else _) _ _ _;rw[hT,X8,if_neg Xk];exact VR h
  |_=>exact VR h
 cases t with
 |Tuple es k p=>exact body p
 |List es p=>exact body p
 |_=>exact VR h
theorem rI {t:Expr}{I:V4}{v:VQ}{items:List D}{i:Nat}{Q:Unit->VP->Prop}(it:f_ F s.heap I items i)(h:Q () s):wpAny (model ab w) A (letOwnedTupleGo t (.ref I) v) Q E s:=by
 induction it with
 |lst a vs o n _ _ _ _ x=>obtain⟨o,ho,hc,hd⟩:=x;exact kz ho hc hd ⋯ h
 |tup a vs o n _ _ _ _ x=>obtain⟨o,ho,hc,hd⟩:=x;exact kz ho hc hd ⋯ h
 |rng x left _ _ q=>exact kz q rfl rfl ⋯ h
end
section
variable {ab:V8}{w:Wi}{X:gJ}{Φ:b_}{hb:Wb}{mg:Str->Option VQ}{k:Nat}{A:V7}{E:VQ->VP->Prop}{F:Fz}{s:VP}{env:Yq}{an:Wb}{σ σ':az X.T}
noncomputable def iQ (σ:az X.T):Prop:=∀x b,σ.get x=some b->(∃d,b=.val d)\/∃t,b=.flg false t
noncomputable def Sub (σ σ':az X.T):Prop:=σ'.nm=σ.nm/\∀x b,σ.get x=some b->σ'.get x=some b
theorem Sub.refl (σ:az X.T):Sub σ σ:=⟨rfl,λ_ _ h=>h⟩
theorem jw.loc {h:Wb}{v:VQ}{b:aO X.T}(r:jw X an F env σ' h v b):jw X an F env σ h v b:=by induction b<;>exact r
theorem cW.sub {h:Wb}(q:Sub σ σ')(r:cW X an F env σ' h):cW X an F env σ h where
 fe:=r.fe
 base:=r.base
 tab:=r.tab
 cd:=by rw[<- q.1];exact r.cd
 ns:=r.ns
 lF:=r.lF
 l0:=r.l0
 glob:=by rw[<- q.1];exact r.glob
 cf:=by rw[<- q.1];exact r.cf
 cells:=r.cells
 kx:=by rw[<- q.1];exact r.kx
 wr:=by rw[<- q.1];exact r.wr
 vars:=λx b e=>(r.vars x b (q.2 _ _ e)).imp λ_ z=>⟨z.1,z.2.loc⟩
 apart:=λx y l l' a ex ey=>r.apart x y l l' a (q.2 _ _ ex) (q.2 _ _ ey)
 one:=λx m t y l ex ey=>r.one x m t y l (q.2 _ _ ex) (q.2 _ _ ey)
theorem iQ.set (p:iQ σ)(x:Str)(d:D):iQ (σ.set x (.val d)):=λy b e=>by
 revert p e;revert σ x d y b;unfold X;exists σ,x,d,y,b;intro p e;rcases df e with⟨_,rfl⟩ |⟨_,c,hc,rfl⟩
 ·exact .inl ⟨d,rfl⟩
 ·delta c;intro hc e;rcases p y c hc with⟨d',rfl⟩ |⟨t,rfl⟩
  ·exact .inl ⟨d',rfl⟩
  ·exact .inr ⟨t,rfl⟩
theorem iQ.sub_set (p:iQ σ){x:Str}(d:D)(h:σ.get x=none):Sub σ (σ.set x (.val d)):=⟨rfl,λy b e=>by
 rw[az.get_set];by_cases q:y=x
 ·subst q;exact bo h e
 ·rw[if_neg q,e]
  rcases p y b e with⟨d',rfl⟩ |⟨t,rfl⟩<;>rfl⟩
theorem qt {T:Type}{σ:az T}{x:Str}{p:X7}(f:xL σ (.Name x p)=true):σ.get x=none:=by
 cases q:σ.get x with
 |none=>rfl
 |some b=>exact oY (show true=false by rw[<- f];show(match σ.get x with |none=>true |some _=>false)=false;rw[q])
theorem ow (es:List Expr):∀(ru σ:az X.T) (ds:List D),iQ σ->Sub ru σ->xK ru es=true->cw σ es ds=some σ'->iQ σ'/\Sub ru σ':=by
 revert σ' es;unfold X;exists σ',es;induction es with
 |nil =>
  intro ru σ ds p q f e;obtain⟨rfl,rfl⟩:=fP e;exact⟨p,q⟩
 |cons e1 es ih =>
  intro ru σ ds p q f e;obtain⟨x,pp,d,ds,rfl,rfl,Fb⟩:=fh e;have f:=VU.mp f;have hx:=qt f.1;refine ih ru _ ds (p.set x d) ⟨q.1,λy b ey=>?_⟩ f.2 Fb.2;rw[az.get_set];by_cases qq:y=x
  ·clear Fb e;subst qq;exact bo hx ey
  ·rw[if_neg qq,q.2 y b ey]
   rcases p y b (q.2 y b ey)with⟨d',rfl⟩ |⟨t,rfl⟩<;>rfl
theorem wk {t:Expr}{d:D}(p:iQ σ)(f:ja σ t=true)(e:bB σ t d=some σ'):iQ σ'/\Sub σ σ':=by
 revert p f e;revert σ σ' t d;unfold X;exists σ,σ',t,d;intro p f e;rcases nz e with⟨x,q,rfl,_,rfl⟩ |⟨es,_,_,ds,rfl,rfl,e⟩
 ·exact⟨p.set _ _,p.sub_set _ (qt (p:=q) f)⟩
 ·exact ow es σ σ ds p (Sub.refl σ) f e
theorem Ed {Q:Bool->VP->Prop}(es:List Expr)(h:Q false s):wpAny (model ab w) A (forIn es false λc r=>if r=true then do let ok <- isTrue c env (eval c env);pure (Xy ok)else pure (Xy r)) Q E s:=by
 induction es with
 |nil=>exact VR h
 |cons y ys ih=>rw[Yd,if_neg Xk];exact VO (VR ih)
theorem zL {n:Nat}(IT:eP ab w X Φ hb k n)(es:List Expr):∀(b:Bool) (F:Fz) (s:VP) (Q:Bool->VP->Prop),bq (λσ b e=>ev X.aa Φ n σ b e) σ es=some b->Am A F s->Lv A k->au hb F->cW X an F env σ s.heap ->(∀F' s',aA F s F' s'->Q b s')->wpAny (model ab w) A (forIn es true λc r=>if r=true then do let ok <- isTrue c env (eval c env);pure (Xy ok)else pure (Xy r)) Q E s:=by
 induction es with
 |nil=>intro b F s Q e am lv bf r h;rw[aJ e];exact VR (h _ _ (aA.refl am.fz))
 |cons x es ih =>
  intro b F s Q e am lv bf r h;refine bt e λc e1 e=>bt e1 λd e1 e2=>?_
  cases gx e2;rw[Yd,if_pos rfl];refine VO (VO (IT A E F s env an σ x c _ e1 am lv bf r λF' s' g=>VR ?_));induction c with
  |true=>exact ih b F' s' Q e (am.grow g) lv (bf.grow g.fle) (r.grow g) λqW Ff g'=>h _ _ (g.trans g')
  |false=>obtain rfl:=aJ e;exact Ed es (h _ _ g)
structure oB (af:Fz)(ae:VP)(b9:Yq)(ac:V4)(K:V4->Xi->Prop)(F:Fz)(σ:az X.T)(s:VP)(L:List D):Prop where
 t0:cV ae.heap
 g:aA af ae F s
 r:cW X ae.heap F b9 σ s.heap
 p:iQ σ
 aF:F ac=none
 a0:ae.heap.get? ac=none
 acc:∃vs,s.heap.IsList ac vs/\al F vs.toList L
 kk:∀a o,K a o->s.heap.get? a=some o/\F a=none/\ae.heap.get? a=none/\∃fs,o.data=.fields fs
variable {af F':Fz}{ae s':VP}{b9:Yq}{ac:V4}{K:V4->Xi->Prop}{L:List D}
theorem dh {a:V4}{o:Xi}(g:aA F s F' s')(f:F a=none)(ho:s.heap.get? a=some o):F' a=none:=by
 cases e:F' a with
 |none=>rfl
 |some p =>
       rcases g.fresh _ _ e with q |q
       ·exact bo f q
       ·exact bo q ho
theorem oB.grow (c:oB af ae b9 ac K F σ s L)(g:aA F s F' s'):oB af ae b9 ac K F' σ s' L where
 t0:=c.t0
 g:=c.g.trans g
 r:=c.r.grow g
 p:=c.p
 aF:=by obtain⟨vs,⟨o,ho,_⟩,_⟩:=c.acc;exact dh g c.aF ho
 a0:=c.a0
 acc:=by obtain⟨vs,⟨o,ho,q⟩,hl⟩:=c.acc;exact⟨vs,⟨o,g.keep _ _ (c.t0.ne0 c.a0) ho,q⟩,hl.mono g.fle⟩
 kk:=λa o q=>by obtain⟨h1,h2,h3,h4⟩:=c.kk a o q;exact⟨g.keep _ _ (c.t0.ne0 h3) h1,dh g h2 h1,h3,h4⟩
theorem oB.but (c:oB af ae b9 ac K F σ s L){b:V4}{ob:Xi}{fs:Array VQ}{h':Wb}{tk:Nat}(ed:s.heap.get? b=some ob)(hd:ob.data=.fields fs)(h0:ae.heap.get? b=none)(hF:F b=none)(hK:∀a o,K a o->a≠b)
  (e:WV b s.heap h'):oB af ae b9 ac K F σ { s with heap:=h',toks:=tk } L where
 t0:=c.t0
 g:=c.g.but h0 hF (c.t0.ne0 h0) e
 r:=c.r.but ed (by rw[hd];exact id) (by rw[hd];exact id) h0 hF (c.t0.ne0 h0) e (.inr ⟨fs,hd⟩)
 p:=c.p
 aF:=c.aF
 a0:=c.a0
 acc:=by
  obtain⟨vs,⟨o,ho,hc,n,qk⟩,hl⟩:=c.acc;refine⟨vs,⟨o,e _ _ ?_ ho,hc,n,qk⟩,hl⟩;clear h0 hF hK e;rintro rfl;replace ho:=cG ed ho;clear hc;obtain rfl:=ho;rw[hd]at qk;clear hd hl;cases qk
 kk:=λa o q=>by obtain⟨h1,h2,h3,h4⟩:=c.kk a o q;exact⟨e _ _ (hK a o q) h1,h2,h3,h4⟩
theorem oB.sub (c:oB af ae b9 ac K F σ' s L)(q:Sub σ σ')(p:iQ σ):oB af ae b9 ac K F σ s L:=⟨c.t0,c.g,c.r.sub q,p,c.aF,c.a0,c.acc,c.kk⟩
theorem oB.less {K':V4->Xi->Prop}(c:oB af ae b9 ac K F σ s L)(h:∀a o,K' a o->K a o):oB af ae b9 ac K' F σ s L:=⟨c.t0,c.g,c.r,c.p,c.aF,c.a0,c.acc,λa o q=>c.kk a o (h a o q)⟩
theorem oB.append (c:oB af ae b9 ac K F σ s L){h':Wb}{v:VQ}{d:D}{vs:Array VQ}(fn:s.heap.IsList ac vs)(hL:al F vs.toList L)(hv:aj F v d)(hl:h'.IsList ac (vs.push v))(hs:Ws ac s.heap h') :
  oB af ae b9 ac K F σ { s with heap:=h' } (L++[d]) where
 t0:=c.t0
 g:=c.g.but c.a0 c.aF (c.t0.ne0 c.a0) hs.extBut
 r:=by
  obtain⟨o,ho,hc,n,hd⟩:=fn;refine c.r.but ho (by rw[hd];exact id) (by rw[hd];exact id) c.a0 c.aF (c.t0.ne0 c.a0) hs.extBut (.inl λx l q=>?_);rcases c.p x _ q with⟨_,h⟩ |⟨_,h⟩<;>cases h
 p:=c.p
 aF:=c.aF
 a0:=c.a0
 acc:=⟨_,hl,by rw[YQ];exact hL.append (.cons hv .nil)⟩
 kk:=λa o q=>by
  obtain⟨h1,h2,h3,fs,h4⟩:=c.kk a o q;refine⟨hs.extBut _ _ ?_ h1,h2,h3,fs,h4⟩;clear c hl hs;rintro rfl;obtain⟨o',ho,hc,n,hd⟩:=fn;replace h1:=cG ho h1;clear q;obtain rfl:=h1;rw[h4]at hd;clear hL h4;cases hd
theorem oB.assign (c:oB af ae b9 ac K F σ s L){h':Wb}{tk:Nat}(kd:cq s.heap h')(fz:∀a o,F a=some o->h'.get? a=some o)(r:cW X ae.heap F b9 σ' h')(p:iQ σ') :
  oB af ae b9 ac K F σ' { s with heap:=h',toks:=tk } L where
 t0:=c.t0
 g:=c.g.at r.base (kd.to c.r.tab) fz
 r:=r
 p:=p
 aF:=c.aF
 a0:=c.a0
 acc:=by
  obtain⟨vs,⟨o,ho,hc,n,hd⟩,hl⟩:=c.acc;exact⟨vs,⟨o,kd.get _ _ (c.t0.ne0 c.a0) ho (by rw[hd];exact id),hc,n,hd⟩,hl⟩
 kk:=λa o q=>by
  obtain⟨h1,h2,h3,fs,h4⟩:=c.kk a o q;exact⟨kd.get _ _ (c.t0.ne0 h3) h1 (by rw[h4];exact id),h2,h3,fs,h4⟩
end
section
variable {ab:V8}{w:Wi}{X:gJ}{Φ:b_}{hb:Wb}{mg:Str->Option VQ}{k:Nat}{A:V7}{E:VQ->VP->Prop}{F:Fz}{s:VP}{env:Yq}{an:Wb}{σ σ':az X.T}
theorem jC {elt:Expr}{gens:List V6}{scope:YB}{pos:X7}{j:Nat}{g:V6}{it acc:VQ}{Q:Fin->VP->Prop}(hg:gens[j]?=some g)(ha:g.is_async=0)
  (h:wpAny (model ab w) A (pyNext it) (λr aR=>match r with
   |none=>Q (.done .next) aR
   |some v=>wpAny (model ab w) A (letOwnedTupleGo g.target it v) (λ_ aR=>wpAny (model ab w) A (assign g.target env v) (λ_ kL =>
     wpAny (model ab w) A (forIn g.ifs true λc r=>if r=true then do let ok <- isTrue c env (eval c env);pure (Xy ok)else pure (Xy r)) (λok sW =>
      match ok with
      |false=>Q (.again (.compLoop (.ListComp elt gens scope pos) j it acc env)) sW
      |true=>match gens[j+1]? with
       |some g'=>g'.is_async=0/\wpAny (model ab w) A (eval g'.iter env) (λx oZ=>foldedSetIterable g'.iter env x=pure x/\wpAny (model ab w) A (pyIter x) (λI sV =>
         wpAny (model ab w) A (runOwn (.compStart (.ListComp elt gens scope pos) (j+1) I acc env) env) (λ_ FQ=>Q (.again (.compLoop (.ListComp elt gens scope pos) j it acc env)) FQ) E sV) E oZ) E sW
       |none=>wpAny (model ab w) A (eval elt env) (λx oZ=>wpAny (model ab w) A (call (.builtin "list.append") [acc,x]) (λ_ sV=>Q (.again (.compLoop (.ListComp elt gens scope pos) j it acc env)) sV) E oZ) E sW) E kL) E aR) E aR) E s) :
  wpAny (model ab w) A (compTurn (.ListComp elt gens scope pos) j it acc env) Q E s:=by
 revert hg ha h;delta ab w A E s env elt gens scope pos j g it acc Q;intro hg ha h;unfold compTurn;simp only[hg,ha];refine VO (Xa ?_);refine VO (Wk h (λr aR gh=>?_) λ_ _ x=>x);induction r with
 |none=>exact VR gh
 |some v =>
  refine VO (Wk gh (λ_ aR gh=>VO (Wk gh (λ_ kL KP=>VO (Wk KP (λok sW xx=>?_) λ_ _ x=>x)) λ_ _ x=>x)) λ_ _ x=>x);induction ok with
  |false=>exact VR xx
  |true =>
   cases q:gens[j+1]? with
   |none =>
    rw[q]at xx;exact VO (VO (Wk xx (λx oZ DP=>VO (Wk DP (λ_ sV KO=>VR (VR KO)) λ_ _ x=>x)) λ_ _ x=>x))
   |some g' =>
    rw[q]at xx;have My:=xx;refine VO (Wk My.2 (λx oZ DP=>VO (Xa ?_)) λ_ _ x=>x);obtain⟨hf,DP⟩:=DP;rw[My.1];refine VO (WC hf ?_);refine VO (Wq (Wk DP (λI sV KO=>VO (Wk KO (λ_ FQ QA=>VR QA) λ_ _ x=>x)) λ_ _ x=>x))
theorem fw {R:Result->VP->Prop}{elt:Expr}{gens:List V6}{scope:YB}{pos:X7}{j:Nat}{g:V6}{it acc:VQ}(hg:gens[j]?=some g)(ha:g.is_async=0)
  (h0:codeAny (model ab w) A (.compLoop (.ListComp elt gens scope pos) j it acc env) R s)
  (h:wpAny (model ab w) A (pyIter it) (λmJ s'=>codeAny (model ab w) A (.compLoop (.ListComp elt gens scope pos) j mJ acc env) R s')
   (notedBy (model ab w) A env λx s'=>R (.error x) s') s) :
  codeAny (model ab w) A (.compStart (.ListComp elt gens scope pos) j it acc env) R s:=by
 delta ab w A s env R elt gens scope pos j g it acc;intro hg ha h0 h;refine Yc ?_;refine wpAny_notedAt ?_;unfold compStart;simp only[show clausesOf (.ListComp elt gens scope pos)=gens from rfl,hg];rw[show(Option.elim (some g) false (λx=>x.is_async !=0))=false from by simp[ha]];refine VO (W1 (wpAny_ite ?_));split
 ·first
   |exact VO (VR (VR (And.intro rfl h0)))
   |exact VR (And.intro rfl h0)
 ·first
   |exact VO (YV (VO (Xa (VO (Wk h (λmJ s' h'=>VR (And.intro rfl h')) λ_ _ x=>x)))))
   |(refine VO (YV ?_);show wpAny _ _ (standAt g.iter.pos >>=_) _ _ s;exact VO (Xa (VO (Wk h (λmJ s' h'=>VR (And.intro rfl h')) λ_ _ x=>x))))
theorem fZ {R:Result->VP->Prop}{elt:Expr}{gens:List V6}{scope:YB}{pos:X7}{j:Nat}{it acc:VQ}
  (h:wpAny (model ab w) A (compTurn (.ListComp elt gens scope pos) j it acc env) (λfin s'=>match fin with | .done f=>R (.ok f) s' | .again c'=>c'.quiet=true/\codeAny (model ab w) A c' R s') (notedBy (model ab w) A env λx s'=>R (.error x) s') s) :
  codeAny (model ab w) A (.compLoop (.ListComp elt gens scope pos) j it acc env) R s:=by
 refine Yc ?_;exact wpAny_noted h
variable {af:Fz}{ae:VP}{b9:Yq}{ac:V4}
noncomputable def xZ {T:Type}(f:Fn T)(elt:Expr)(σ':az T):List V6->Option (List D)
 |[]=>(f σ' false elt).map ([·])
 |g'::gs=>(f σ' false g'.iter).bind λd=>(cP d).bind λits=>comp f elt (g'::gs) σ' its
noncomputable def sP {T:Type}(f:Fn T)(elt:Expr)(σ:az T)(g:V6)(gs:List V6)(x:D):Option (List D) :=
 (bB σ g.target x).bind λσ'=>(bq f σ' g.ifs).bind (a_ (xZ f elt σ' gs) (some []))
theorem iI {T:Type}(f:Fn T)(elt:Expr)(σ:az T)(g:V6)(gs:List V6)(items:List D):comp f elt (g::gs) σ items=gd (ja σ g.target) ((pR (sP f elt σ g gs) items).map List.flatten):=by
 induction gs<;>rfl
theorem Ax {f:D->Option (List D)}{items:List D}{i:Nat}{d:D}{l:List (List D)}(h:items[i]?=some d)(e:pR f (items.drop i)=some l) :
  ∃y l',f d=some y/\pR f (items.drop (i+1))=some l'/\l=y::l':=by
 revert h e;delta f items i d l;intro h e;have:items.drop i=d::items.drop (i+1):=by
  obtain⟨hi,rfl⟩:=Wd.mp h;exact WW hi
 rw[this]at e;exact bt e λy e1 e=>gt e λl' e2 e3=>⟨y,l',e1,e2,e3.symm⟩
noncomputable def E_ (ab:V8)(w:Wi)(A:V7)(E:VQ->VP->Prop)(af:Fz)(ae:VP)(b9:Yq)(ac:V4)(f:Fn X.T)(elt:Expr)(gens:List V6)(scope:YB)(pos:X7)(gs:List V6)(j:Nat):Prop :=
 ∀(K:V4->Xi->Prop) (F:Fz) (σ':az X.T) (s:VP) (L y:List D) (Q:VP->Prop),xZ f elt σ' gs=some y->(L++y).length<=100000->oB af ae b9 ac K F σ' s L ->(∀F' s',oB af ae b9 ac K F' σ' s' (L++y)->F.le F'->Q s') ->match gens[j+1]? with
  |some g'=>g'.is_async=0/\wpAny (model ab w) A (eval g'.iter b9) (λx oZ=>foldedSetIterable g'.iter b9 x=pure x/\wpAny (model ab w) A (pyIter x) (λI sV =>
         wpAny (model ab w) A (runOwn (.compStart (.ListComp elt gens scope pos) (j+1) I (.ref ac) b9) b9) (λ_ FQ=>Q FQ) E sV) E oZ) E s
  |none=>wpAny (model ab w) A (eval elt b9) (λx oZ=>wpAny (model ab w) A (call (.builtin "list.append") [.ref ac,x]) (λ_ sV=>Q sV) E oZ) E s
theorem rH {n:Nat}(IT:eP ab w X Φ hb k n){elt:Expr}{gens:List V6}{scope:YB}{pos:X7}{g:V6}{gs:List V6}{j:Nat}(hg:gens[j]?=some g)(ha:g.is_async=0)
  (ag:Am A af ae) (lv:Lv A k) (ai:au hb af) (R:Result->VP->Prop)
  (Rh:E_ ab w A (notedBy (model ab w) A b9 λx s'=>R (.error x) s') af ae b9 ac (λσ b e=>ev X.aa Φ n σ b e) elt gens scope pos gs j) :
  ∀(m:Nat) (K:V4->Xi->Prop) (F:Fz) (σ:az X.T) (s:VP) (L:List D) (items:List D) (i:Nat) (I:V4) (l:List (List D)),items.length - i<=m->ja σ g.target=true->pR (sP (λσ b e=>ev X.aa Φ n σ b e) elt σ g gs) (items.drop i)=some l->(L++l.flatten).length<=100000 ->oB af ae b9 ac K F σ s L->f_ F s.heap I items i->F I=none->ae.heap.get? I=none->(∀a o,K a o->a≠I) ->(∀F' s',oB af ae b9 ac K F' σ s' (L++l.flatten)->F.le F'->R (.ok .next) s') ->codeAny (model ab w) A (.compLoop (.ListComp elt gens scope pos) j (.ref I) (.ref ac) b9) R s:=by
 revert IT hg ha ag lv ai Rh;revert ab w Φ hb k A af ae b9 ac n elt gens scope pos g gs j R;unfold X;exists ab,w,Φ,hb,k,A,af,ae,b9,ac,n,elt,gens,scope,pos,g,gs,j,R;intro IT hg ha ag lv ai Rh;intro m;induction m with
 |zero =>
  intro K F σ s L items i I l hm kX e hz c it fI I0 hK h;refine fZ (jC hg ha (lR (ag.grow c.g) fI it (λd v h' tk hd=>?_) λh' hn he=>?_))
  ·have:=Wd.mp hd
   obtain⟨h1,_⟩:=this;exact z0 ‹_› h1
  ·obtain⟨ob,fs,ed,qk⟩:=it.obj
   have:items.drop i=[]:=Xo.mpr (by simpa using hn);rw[this]at e;obtain rfl:=aJ e;simp only[List.flatten_nil,WH]at h;exact h F _ (c.but (tk:=s.toks) ed qk I0 fI hK he) F.le_refl
 |succ m ih =>
  intro K F σ s L items i I l hm kX e hz c it fI I0 hK h;obtain⟨ob,fs,ed,qk⟩:=it.obj;refine fZ (jC hg ha (lR (ag.grow c.g) fI it (λd v h' tk hd hv mJ hs=>?_) λh' hn he=>?_))
  ·obtain⟨y,l',e1,e2,rfl⟩:=Ax hd e
   have c1:=c.but (tk:=tk) ed qk I0 fI hK hs.extBut;refine rI mJ ?_;refine bt e1 λσ' e3 e1=>bt e1 λb e4 e1=>?_
   have Pw:=wk c.p kX e3;refine k_ (ag.grow c1.g) e3 c1.r hv λh2 oD kd fz r'=>?_
   have c2:=c1.assign (tk:=oD) kd fz r' Pw.1;have Sq:f_ F h2 I items (i+1):=mJ.at (λo ho=>kd.get _ _ (c.t0.ne0 I0) ho (by
    obtain⟨o',VM,dM,eS⟩:=mJ.obj;rw[cG ho dM];rw[eS];exact id)) F.le_refl
   refine zL IT g.ifs b F _ _ e4 (ag.grow c2.g) lv (ai.grow c2.g.fle) c2.r λF3 s3 g3=>?_
   have c3:=c2.grow g3;have KA:=Sq.at (λo ho=>g3.keep _ _ (c.t0.ne0 I0) ho) g3.fle;obtain⟨GJ,_,qj,_⟩:=Sq.obj;have S7:=dh g3 fI qj;induction b with
   |false =>
    obtain rfl:=aJ e1;refine⟨rfl,ih K F3 σ s3 L items (i+1) I l' (z1 ‹_›) kX e2 (by simpa using hz) (c3.sub Pw.2 c.p) KA S7 I0 hK λF' s' cc fl=>h F' s' (by simpa using cc) (Fz.le_trans g3.fle fl)⟩
   |true =>
    obtain⟨Sj,U0,NJ,Jd⟩:=KA.obj;refine Rh (λa o=>K a o\/(a=I/\o=Sj)) F3 σ' s3 L y _ e1 (by simp only[V1,YR]at hz ⊢;lia) ⟨c3.t0,c3.g,c3.r,c3.p,c3.aF,c3.a0,c3.acc,λa o q=>?_⟩ λF4 s4 c4 Jn=>?_
    ·rcases q with q |⟨rfl,rfl⟩
     ·exact c3.kk a o q
     ·exact⟨NJ,S7,I0,U0,Jd⟩
    ·obtain⟨k1,k2,k3,k4⟩:=c4.kk I Sj (.inr ⟨rfl,rfl⟩)
     refine⟨rfl,ih K F4 σ s4 (L++y) items (i+1) I l' (z1 ‹_›) kX e2 (by simpa using hz) ((c4.less λa o q=>.inl q).sub Pw.2 c.p) (KA.at (λo ho=>by obtain rfl:=cG NJ ho;exact k1) Jn) k2 I0 hK
      λF' s' cc fl=>h F' s' (by simpa using cc) (Fz.le_trans (Fz.le_trans g3.fle Jn) fl)⟩
  ·have:items.drop i=[]:=Xo.mpr (by simpa using hn)
   rw[this]at e;obtain rfl:=aJ e;simp only[List.flatten_nil,WH]at h;exact h F _ (c.but (tk:=s.toks) ed qk I0 fI hK he) F.le_refl
theorem Cj {n:Nat}(IE:cR ab w X Φ hb k n)(IT:eP ab w X Φ hb k n){elt:Expr}{gens:List V6}{scope:YB}{pos:X7}(wG:jF gens=true)
  (ag:Am A af ae) (lv:Lv A k) (ai:au hb af) :
  ∀(gs:List V6) (g:V6) (j:Nat),gens.drop j=g::gs->∀(R:Result->VP->Prop) (K:V4->Xi->Prop) (F:Fz) (σ:az X.T) (s:VP) (L:List D) (items:List D) (I:V4) (l:List D),comp (λσ b e=>ev X.aa Φ n σ b e) elt (g::gs) σ items=some l->(L++l).length<=100000 ->oB af ae b9 ac K F σ s L->f_ F s.heap I items 0->F I=none->ae.heap.get? I=none->(∀a o,K a o->a≠I) ->(∀F' s',oB af ae b9 ac K F' σ s' (L++l)->F.le F'->R (.ok .next) s') ->codeAny (model ab w) A (.compLoop (.ListComp elt gens scope pos) j (.ref I) (.ref ac) b9) R s:=by
 revert IE IT wG ag lv ai;revert ab w Φ hb k A af ae b9 ac n elt gens scope pos;unfold X;exists ab,w,Φ,hb,k,A,af,ae,b9,ac,n,elt,gens,scope,pos;intro IE IT wG ag lv ai;intro gs;have sy:∀{j:Nat} {g:V6},gens[j]?=some g->g.is_async=0:=λhg=>by
  have:=(Wp.mp wG) _ (Yg hg);simpa using this
 induction gs with
 |nil =>
  intro g j hj R K F σ s L items I l e hz c it fI I0 hK h;have hg:gens[j]?=some g:=by
   have:=congrArg (·[0]?) hj;simpa using this
  have HK:gens[j+1]?=none:=by
   have:=congrArg (·[1]?) hj;simpa using this
  rw[iI]at e
  ·refine ip e λkX e=>gt e λll e' e=>?_
   subst e;refine rH IT (gs:=[]) hg (sy hg) ag lv ai R ?_ items.length K F σ s L items 0 I ll (WD _) kX (by simpa using e') hz c it fI I0 hK h;intro K F σ' s L y Q e1 hz c h;rw[HK];refine gt e1 λd' e9 e2=>?_
   subst e2;refine IE A _ F s b9 ae.heap σ' elt d' _ e9 (ag.grow c.g) lv (ai.grow c.g.fle) c.r λv' F4 s4 g4 HC=>?_
   have c4:=c.grow g4;obtain⟨vs,Fu⟩:=c4.acc;refine wpAny_list_append Fu.1 (λh5 UD Uo=>?_) (by
    have:=Fu.2.length;simp only[WA]at this;rw[du];simp only[V1]at hz;lia)
   exact h F4 _ (c4.append Fu.1 Fu.2 HC UD Uo) g4.fle
 |cons g' gs IHg =>
  intro g j hj R K F σ s L items I l e hz c it fI I0 hK h;have hg:gens[j]?=some g:=by
   have:=congrArg (·[0]?) hj;simpa using this
  have HK:gens[j+1]?=some g':=by
   have:=congrArg (·[1]?) hj;simpa using this
  have UG:gens.drop (j+1)=g'::gs:=by
   have:=congrArg (List.drop 1) hj;simpa using this
  rw[iI]at e
  ·refine ip e λkX e=>gt e λll e' e=>?_
   subst e;refine rH IT (gs:=g'::gs) hg (sy hg) ag lv ai R ?_ items.length K F σ s L items 0 I ll (WD _) kX (by simpa using e') hz c it fI I0 hK h;intro K F σ' s L y Q e1 hz c h;rw[HK];refine bt e1 λd' e1 e2=>bt e2 λits e2 e3=>⟨sy HK,?_⟩
   refine IE A _ F s b9 ae.heap σ' g'.iter d' _ e1 (ag.grow c.g) lv (ai.grow c.g.fle) c.r λv' F4 s4 g4 HC=>?_
   have c4:=c.grow g4;refine⟨kH e1 _ _,lT (ag.grow c4.g) HC e2 λI' s5 g5 S8 Ti mJ=>?_⟩;have c5:=c4.grow g5;have Si:ae.heap.get? I'=none:=c4.g.noneAt Ti;have KI:∀a o,K a o->a≠I':=λa o q=>by
    clear S8 mJ Si;rintro rfl;have:=(c4.kk a o q).1;exact bo Ti this
   have lp:codeAny (model ab w) (A.mark none) (.compLoop (.ListComp elt gens scope pos) (j+1) (.ref I') (.ref ac) b9) (λr s'=>match r with | .ok f=>Q s' | .error e=>cameBackBy (model ab w) A b9 (notedBy (model ab w) A b9 λx s'=>R (.error x) s') e s') s5 :=
    IHg g' (j+1) UG _ K F4 σ' s5 L its I' y e3 hz c5 mJ S8 Si KI λF' s' cc fl=>h F' s' cc (Fz.le_trans g4.fle fl)
   exact wpAny_runOwn (fw HK (sy HK) lp (rJ mJ lp))
end
theorem gE {x:Str}{k:Xn}{l:bc}(h:bv l x=some k):(x,k)∈l:=by
 induction l with
 |nil=>exact bg h
 |cons p r ih =>
  obtain⟨y,k'⟩:=p;have h:a_ (some k') (bv r x) (d4 y x)=some k:=h
  cases q:d4 y x with
  |true=>rw[q]at h;rw[<- bl.mp q,<- aJ h];exact VT
  |false=>rw[q]at h;exact VS _ (ih h)
theorem fO {x:Str}{k:Xn}{l:bc}(hd:j9 l=true)(h:(x,k)∈l):bv l x=some k:=by
 induction l with
 |nil=>exact(Wf h).elim
 |cons p r ih =>
  obtain⟨y,k'⟩:=p;obtain⟨q,hd⟩:=VU.mp hd;show a_ (some k') (bv r x) (d4 y x)=some k;rcases V2.mp h with e |e
  ·clear h q;obtain⟨rfl,rfl⟩:=Prod.mk.inj e
   rw[bl.mpr rfl];rfl
  ·have ih:=ih hd e
   rw[dG (by clear h e;rintro rfl;exact bo (Option.isNone_iff_eq_none.mp q) ih)];exact ih
theorem ic {x:Str}{l:bc}(h:pC l=true)(hx:x.cps.toList=[95,95,100,101,98,117,103,95,95]\/x.cps.toList=[95,95,99,108,97,115,115,100,105,99,116,95,95]):bv l x=none:=by
 induction l with
 |nil=>rfl
 |cons p r ih =>
  obtain⟨y,k⟩:=p;obtain⟨h,h3⟩:=VU.mp h;obtain⟨h1,h2⟩:=VU.mp h;show a_ (some k) (bv r x) (d4 y x)=none;rw[dG]
  ·exact ih h3
  ·clear ih;rintro rfl
   rcases hx with e |e
   ·rw[ce.mpr e]at h1;exact eV h1
   ·rw[ce.mpr e]at h2;exact eV h2
noncomputable def L7 (env:Yq)(x:Str)(k:Xn):Xn:=if(k==.free&&env.scope.kind==.function&&env.kindOf x==some .cell)=true then .cell else k
theorem pU {env:Yq}{names:bc}{x:Str} :
  (names.map λ(n,k)=>if(k==W_&&env.scope.kind==.function&&env.kindOf n==some .cell)then(n,XH)else(n,k)).lookup x=(names.lookup x).map (L7 env x):=by
 delta env names x;induction names with
 |nil=>rfl
 |cons p r ih =>
  delta p r;intro ih;obtain⟨n,k⟩:=p;delta n k;show List.lookup x ((if(k==W_&&env.scope.kind==.function&&env.kindOf n==some .cell)=true then(n,XH)else(n,k))::_)=_;have e:(if(k==W_&&env.scope.kind==.function&&env.kindOf n==some .cell)=true then(n,XH)else(n,k))=(n,L7 env n k):=by
   unfold L7;split<;>rfl
  rw[e,XE,XE]
  cases hx:x==n with
  |true=>rw[eq_of_beq hx];rfl
  |false=>exact ih
section
variable {X:gJ}{an:Wb}{F F':Fz}{env:Yq}{σ:az X.T}{h h':Wb}{s s':VP}
theorem Hw {T:Type}{y x:Str}{l:List (Str×aO T)}{o:Option (aO T)}{b:aO T}{G:Prop}(e:dD (Qx y l o) x=some b)(h:y=x->((∃d,b=.val d/\o=some (.val d))\/∃m t,b=.flg false t/\o=some (.flg m t))->G)(k:dD l x=some b->G):G:=by
 induction o with
 |none=>exact k e
 |some c =>
  induction c with
  |val d=>exact D8 e (λp q=>h p (.inl ⟨d,q.symm,rfl⟩)) k
  |flg m t=>exact D8 e (λp q=>h p (.inr ⟨m,t,q.symm,rfl⟩)) k
  |_=>exact k e
theorem qp {T:Type}(vs:List (Str×aO T))(l:bc)(x:Str)(b:aO T)(e:dD (nj vs l) x=some b):(x,W_)∈l/\((∃d,b=.val d/\dD vs x=some (.val d))\/∃m t,b=.flg false t/\dD vs x=some (.flg m t)):=by
 revert e;revert vs l x b;unfold T;exists vs,l,x,b;intro e;induction l with
 |nil=>exact bg e
 |cons p r ih =>
  delta p r;intro ih e;obtain⟨y,k⟩:=p;delta y k;intro e;have cC:=λe=>(ih e).imp_left (VS (y,k))
  have e:dD (a_ (Qx y (nj vs r) (dD vs y)) (nj vs r) (AH k)) x=some b:=e
  cases q:AH k with
  |false=>rw[q]at e;exact cC e
  |true =>
   rw[q]at e;refine Hw e (λp h=>?_) cC;rw[<- p];rw[DE q];exact⟨VT,h⟩
theorem jT (sc:YB)(σ:az X.T):iQ (X:=X) (di sc σ):=λx b e=>by
 rcases(qp σ.vs sc.names x b e).2 with⟨d,h,_⟩ |⟨m,t,h,_⟩
 ·exact .inl ⟨d,h⟩
 ·exact .inr ⟨t,h⟩
theorem vS {nm:bc}{x:Str}{l:bc}(h:jb nm l=true)(hm:(x,W_)∈l):AJ nm x=true:=by
 induction l with
 |nil=>exact(Wf hm).elim
 |cons p r ih =>
  obtain⟨h1,h2⟩:=VU.mp h;rcases V2.mp hm with e |e
  ·clear h hm;subst e;exact h1
  ·exact ih h2 e
theorem pk {nm:bc}{sc:YB}(h:oe nm sc=true):sc.kind=.function/\j9 sc.names=true/\jb nm sc.names=true/\pC sc.names=true/\fW sc.names dy=false:=by
 delta nm sc;intro h;obtain⟨h,h5⟩:=VU.mp h;obtain⟨h,h4⟩:=VU.mp h;obtain⟨h,h3⟩:=VU.mp h;obtain⟨h1,h2⟩:=VU.mp h;exact⟨DF h1,h2,h3,h4,(Wv _).mp h5⟩
theorem cW.inner {sc:YB}{cl:List (Str×V4)}{qual:Str}(am:∀a o,F a=some o->s.heap.get? a=some o)(hs:oe σ.nm sc=true)(r:cW X an F env σ s.heap)
  (nl:∀x c,cl.lookup x=some c->env.cells.lookup x=some c) (kX:∀x,(x,W_)∈sc.names->∃c,cl.lookup x=some c) (b:Wb) (hb:∀a o,a≠PL->b.get? a=some o->s.heap.get? a=some o) :
  let h1:=pushCells (s.heap.push { cls:=.type "dict",data:=.dict #[] }) sc.names
  let b9:Yq:={ newEnv sc s.heap.objs.size env.globals (cellsFrom (s.heap.objs.size+1) sc.names cl) qual none .none (some env) builtinsNs with scope:=relabel sc env }
  cW X b F b9 (di sc σ) h1/\(∀a o,s.heap.get? a=some o->h1.get? a=some o):=by
 revert am hs r nl kX hb;revert an F env σ s sc cl qual b;unfold X;exists an,F,env,σ,s,sc,cl,qual,b;intro am hs r nl kX hb;intro h1 b9;obtain⟨hk,AU,K7,kE,Ux⟩:=pk hs;have CN:wE (s.heap.push { cls:=.type "dict",data:=.dict #[] }) cl sc.names (cellsFrom (s.heap.push { cls:=.type "dict",data:=.dict #[] }).objs.size sc.names cl) h1:=by
  refine mF _ _ _ (λx c e=>?_) (λx y c ex ey=>r.fe.inj x y c (nl _ _ ex) (nl _ _ ey));obtain⟨_,v,o,ho,_⟩:=r.cells x c (nl _ _ e);rw[WM];exact Nat.lt_succ_of_lt (Wy ho)
 rw[WM]at CN;have keep:∀a o,s.heap.get? a=some o->h1.get? a=some o:=λa o e=>CN.keep _ _ (V5 _ e)
 have kd:∀x,b9.kindOf x=(bv sc.names x).map (L7 env x):=λx=>by rw[fc];exact pU
 have fresh:∀a,s.heap.objs.size<=a->F a=none/\s.heap.get? a=none/\b.get? a=none:=λa ha=>by
  have h1:s.heap.get? a=none:=by
   cases e:s.heap.get? a with
   |none=>rfl
   |some o=>exact absurd (Wy e) (Nat.not_lt.mpr ha)
  refine⟨?_,h1,?_⟩
  ·cases e:F a with
   |none=>rfl
   |some o=>rw[am _ _ e]at h1;clear e;cases h1
  ·cases e:b.get? a with
   |none=>rfl
   |some o=>rw[hb _ _ (r.tab.ne0 h1) e]at h1;clear e;cases h1
 have new:∀x,bv sc.names x=some .cell->∃c,b9.cells.lookup x=some c/\s.heap.objs.size+1<=c/\h1.IsCell c none:=λx hx=>by
  obtain⟨c,a1,a2,a3⟩:=CN.new x (gE hx);rw[WM]at a2;exact⟨c,a1,a2,a3⟩
 have wZ:∀x,bv sc.names x≠some .cell->b9.cells.lookup x=cl.lookup x:=λx hx=>CN.old x λhm=>hx (fO AU hm)
 have other:∀x c,b9.cells.lookup x=some c->(s.heap.objs.size+1<=c/\h1.IsCell c none)\/env.cells.lookup x=some c:=λx c e=>by
  by_cases q:bv sc.names x=some .cell
  ·obtain⟨c',a1,a2,a3⟩:=new x q
   replace a1:=cG e a1;obtain rfl:=a1;exact .inl ⟨a2,a3⟩
  ·rw[wZ x q]at e
   exact .inr (nl _ _ e)
 refine⟨?_,keep⟩;exact{
  fe:={
   kind:=hk
   globals:=r.fe.globals
   builtins:=r.fe.builtins
   inj:=CN.inj
   dbg:=by rw[kd,ic kE (.inl (by decide +kernel))];rfl
   clsd:=by rw[kd,ic kE (.inr (by decide +kernel))];rfl }
  base:=λa o n e=>keep a o (hb a o n e)
  tab:=r.tab.keeps keep
  cd:=λq=>by
   rw[show(Mine.di sc σ).nm=sc.names from rfl,Ux]at q;cases q
  ns:=⟨_,(Wb.Ns.new s.heap (.type "dict")).keeps CN.keep⟩
  lF:=(fresh _ (WD _)).1
  l0:=(fresh _ (WD _)).2.2
  glob:=λx hx=>by
   rw[kd];rw[show bv sc.names x=_ from sh hx];rfl
  cf:=λx hx=>by
   rw[kd];rcases(show bv sc.names x=_\/bv sc.names x=_ from vD hx)with q |q
   ·obtain⟨c,a1,_⟩:=new x q
    rw[q];exact⟨.inl rfl,c,a1⟩
   ·obtain⟨c,a1⟩:=kX x (gE q)
    rw[q];refine⟨?_,c,?_⟩
    ·simp only[Xz,L7]
     split
     ·exact .inl rfl
     ·exact .inr rfl
    ·rw[wZ x (by rw[q];simp)];exact a1
  cells:=λx c e=>by
   rcases other x c e with⟨a2,a3⟩ |e'
   ·exact⟨(fresh c (by omega)).1,_,a3⟩
   ·obtain⟨f,v,hc⟩:=r.cells x c e'
    exact⟨f,v,hc.keeps keep⟩
  kx:=λx=>⟨λhx=>(by rw[kd];change bv sc.names x=_ at hx;rw[hx];rfl),λhx=>(by rw[kd];change bv sc.names x=_ at hx;rw[hx];rfl)⟩
  wr:=λx hx=>by
   rw[kd];rcases(show bv sc.names x=_\/bv sc.names x=_ from iE hx)with q |q
   ·rw[q]
    exact .inl rfl
   ·obtain⟨c,a1,a2,_⟩:=new x q
    rw[q];exact .inr ⟨rfl,c,a1,(fresh c (YO a2)).2.2⟩
  vars:=λx bd e=>by
   obtain⟨hm,gn⟩:=qp σ.vs sc.names x bd e;obtain⟨Mg,c,hc⟩:=r.cf x (vS K7 hm);obtain⟨c',mo⟩:=kX x hm;have:=nl _ _ mo;replace this:=cG hc this;obtain rfl:=this;have hq:=fO AU hm;have Nb:∀v,aU env s.heap x v->aU b9 h1 x v:=λv va=>by
    rcases va with⟨q,_⟩ |⟨_,c2,D4,hZ⟩
    ·rw[q]at Mg;rcases Mg with q' |q'<;>cases q'
    ·replace D4:=cG hc D4;obtain rfl:=D4
     refine .inr ⟨?_,c,?_,hZ.keeps keep⟩
     ·rw[kd,hq]
      simp only[Xz,L7];split
      ·exact .inl rfl
      ·exact .inr rfl
     ·rw[wZ x (by rw[hq];simp)];exact mo
   clear e;rcases gn with⟨d,rfl,hd⟩ |⟨m,t,rfl,hd⟩
   ·obtain⟨v,va,rb⟩:=r.vars x _ hd
    exact⟨v,Nb v va,rb⟩
   ·obtain⟨v,va,O,at_,hz⟩:=r.vars x _ hd
    refine⟨v,Nb v va,O,X.loc at_ F.le_refl λa ha=>?_,λa ha=>?_⟩
    ·obtain⟨o,ho,_⟩:=X.alive at_ a ha
     rw[ho,keep _ _ ho]
    ·obtain⟨o,ho,_⟩:=X.alive at_ a ha
     have lK:=Wy ho;refine⟨(hz a ha).1,XI lK,λy c2 e2=>?_,λq=>by cases q⟩;rcases other y c2 e2 with⟨a2,_⟩ |e'
     ·exact XI (W8 lK (YO a2))
     ·exact(hz a ha).2.2.1 y c2 e'
  apart:=λx y l l' a ex ey=>by
   rcases jT sc σ x _ ex with⟨_,q⟩ |⟨_,q⟩<;>cases q
  one:=λx m t y l ex ey=>by
   rcases jT sc σ y _ ey with⟨_,q⟩ |⟨_,q⟩<;>cases q }
end
section
variable {ab:V8}{w:Wi}{X:gJ}{Φ:b_}{hb:Wb}{mg:Str->Option VQ}{k:Nat}{A:V7}{E:VQ->VP->Prop}{F:Fz}{s:VP}{env:Yq}{an:Wb}{σ σ':az X.T}
structure Iz (env:Yq)(F:Fz)(s:VP)(l:List D)(ac C:V4)(F':Fz)(s':VP):Prop where
 g:aA F s F' s'
 aF:F' ac=none
 a0:s.heap.get? ac=none
 acc:∃vs,s'.heap.IsList ac vs/\al F' vs.toList l
 ns:∃m,s'.heap.Ns C m
 cF:F' C=none
 c0:s.heap.get? C=none
 ne:ac≠C
 cl:C≠env.locals
 cc:∀y c,env.cells.lookup y=some c->c≠C
theorem zQ {n:Nat}(IE:cR ab w X Φ hb k n)(IT:eP ab w X Φ hb k n){elt:Expr}{g:V6}{gs:List V6}{sc:YB}{pos:X7}{its l:List D}{use:Option (VQ->Sem Unit)}{Q:VQ->VP->Prop}
  {cl:List (Str×V4)} {s3:VP} {F1:Fz} {I ac:V4}
  (Fj:oe σ.nm sc=true) (wG:jF (g::gs)=true)
  (e3:comp (λσ b e=>ev X.aa Φ n σ b e) elt (g::gs) (di sc σ) its=some l) (hz:l.length<=100000)
  (am:Am A F s) (lv:Lv A k) (bf:au hb F) (r:cW X an F env σ s.heap) (g3:aA F s F1 s3) (nl:∀x c,cl.lookup x=some c->env.cells.lookup x=some c) (kX:∀x,(x,W_)∈sc.names->∃c,cl.lookup x=some c)
  (aF:F1 ac=none) (a0:s.heap.get? ac=none) (SR:s3.heap.get? ac=some { cls:=.type "list",data:=.seq ([]:List VQ).toArray })
  (it:f_ F1 s3.heap I its 0) (fI:F1 I=none) (I0:s.heap.get? I=none)
  (h:∀F' s' ac C,Iz env F s l ac C F' s'->compPost (model ab w) A E use Q (.ref ac) C (.ok .next) s') :
  wpAny (model ab w) A (newFunctionEnv sc env.globals cl [] env.qual none .none (some env)) (λb9 oZ =>
    codeAny (model ab w) A (.compStart (.ListComp elt (g::gs) sc pos) 0 (.ref I) (.ref ac) { b9 with scope:=relabel sc env }) (compPost (model ab w) A E use Q (.ref ac) b9.locals) oZ) E s3:=by
 refine mM ?_;obtain⟨ri,ki⟩:=cW.inner (qual:=env.qual) g3.fz Fj (r.grow g3) nl kX s.heap g3.keep;have gi:aA F s F1 { s3 with heap:=pushCells (s3.heap.push { cls:=.type "dict",data:=.dict #[] }) sc.names }:=g3.at (λa o n e=>ki _ _ (g3.keep _ _ n e)) (.of ki) (λa o e=>ki _ _ (g3.fz _ _ e));have c:oB F s _ ac (λ_ _=>False) F1 (di sc σ) { s3 with heap:=pushCells (s3.heap.push { cls:=.type "dict",data:=.dict #[] }) sc.names } [] :=
  ⟨am.tab,gi,ri,jT sc σ,aF,a0,⟨_,⟨_,ki _ _ SR,rfl,_,rfl⟩,.nil⟩,λ_ _ q=>q.elim⟩
 have So:=it.keeps ki F1.le_refl;have hC:s.heap.get? s3.heap.objs.size=none:=g3.noneAt (bu _);have lp:=Cj (A:=A) (R:=compPost (model ab w) A E use Q (.ref ac) s3.heap.objs.size) (L:=[]) (scope:=sc) (pos:=pos) IE IT wG am lv bf gs g 0 rfl (K:=λ_ _=>False) (F:=F1) (σ:=di sc σ) (items:=its) (I:=I) (l:=l) _ e3 (by simpa using hz) c So fI I0 (λ_ _ q=>q.elim)
  λF' s' cc fl=>h F' s' ac _ {
   g:=cc.g
   aF:=cc.aF
   a0:=cc.a0
   acc:=cc.acc
   ns:=cc.r.ns
   cF:=cc.r.lF
   c0:=cc.r.l0
   ne:=λq=>by have:=Wy SR;rw[q]at this;exact X4 _ this
   cl:=λq=>by
    obtain⟨m,o,_,_,ho,_⟩:=r.ns;have:=cc.r.l0;rw[show(s3.heap.objs.size:V4)=env.locals from q]at hC;exact bo hC ho
   cc:=λy c e q=>by
    obtain⟨_,v,o,ho,_⟩:=r.cells y c e;rw[q]at ho;rw[show s.heap.get? s3.heap.objs.size=none from hC]at ho;cases ho }
 exact fw rfl (by
  have:=(Wp.mp wG) g VT;simpa using this) lp (rJ So lp)
theorem uV {n:Nat}(IE:cR ab w X Φ hb k n)(IT:eP ab w X Φ hb k n){elt:Expr}{g:V6}{gs:List V6}{sc:YB}{pos Rr:X7}{d:D}{its l:List D}{use:Option (VQ->Sem Unit)}{Q:VQ->VP->Prop}
  (Fj:oe σ.nm sc=true) (wG:jF (g::gs)=true) (e1:ev X.aa Φ n σ false g.iter=some d) (e2:cP d=some its)
  (e3:comp (λσ b e=>ev X.aa Φ n σ b e) elt (g::gs) (di sc σ) its=some l) (hz:l.length<=100000)
  (am:Am A F s) (lv:Lv A k) (bf:au hb F) (r:cW X an F env σ s.heap)
  (h:∀F' s' ac C,Iz env F s l ac C F' s'->compPost (model ab w) A E use Q (.ref ac) C (.ok .next) s') :
  wpAny (model ab w) A (comprehension (.ListComp elt (g::gs) sc pos) sc env Rr (newList []) false (eval g.iter env) use) Q E s:=by
 obtain⟨hk,AU,K7,kE,_⟩:=pk Fj;obtain⟨cl,Rg,nl,kX⟩:=xX (env:=env) K7 λx hx=>(r.cf x hx).2
 refine wpAny_comprehension_free rfl (λx=>kH e1 env x) Rg hk (λx hx hl=>?_) ?_
 ·have:=fO AU (show(x.1,Xn.local)∈sc.names from hl▸hx)
  rw[<- fc];exact this
 refine IE A E F s env an σ g.iter d _ e1 am lv bf r λv F1 s1 g1 hv=>?_
 have qO:=am.grow g1;refine lT qO hv e2 λI s2 g2 fI I0 it=>?_
 have Ph:=g1.trans g2;refine wpAny_newList ?_;have g3:aA F s F1 { s2 with heap:=s2.heap.push { cls:=.type "list",data:=.seq ([]:List VQ).toArray } }:=Ph.trans (aA.push0 Ph.fz { cls:=.type "list",data:=.seq ([]:List VQ).toArray } s2.toks);have KA:f_ F1 (s2.heap.push { cls:=.type "list",data:=.seq ([]:List VQ).toArray }) I its 0:=it.keeps (λa o e=>V5 _ e) F1.le_refl;refine zQ IE IT Fj wG e3 hz am lv bf r g3 nl kX (nG Ph.fz) ?_ (Wc _ rfl) KA fI ?_ h
 ·exact Ph.noneAt (bu _)
 ·exact g1.noneAt I0
theorem Iz.out {l:List D}{ac C:V4}{F':Fz}{s':VP}(c:Iz env F s l ac C F' s')(hz:l.length<=100000) :
  ∃qW,F'.le qW/\aj qW (.ref ac) (.lst l)/\qW C=none/\aA F s qW s':=by
 obtain⟨vs,⟨o,ho,hc,n,hd⟩,hl⟩:=c.acc;refine⟨F'.set ac o,Fz.le_set (.inl c.aF),.lst (F'.set_self _ _) hc hd (VX (by assumption) ⋯) (hl.mono (Fz.le_set (.inl c.aF))),by rw[F'.set_ne _ (W6 c.ne)];exact c.cF,?_⟩;refine⟨Fz.le_trans c.g.fle (Fz.le_set (.inl c.aF)),c.g.keep,c.g.tab,λa p e=>?_,λa p e=>?_,c.g.gens,c.g.os⟩
 ·by_cases q:a=ac
  ·clear c;subst q;rw[F'.set_self]at e;clear hc hd;rw[<- e];exact ho
  ·rw[F'.set_ne _ q]at e;exact c.g.fz _ _ e
 ·by_cases q:a=ac
  ·clear ho e;rw[q];exact .inr c.a0
  ·rw[F'.set_ne _ q]at e;exact c.g.fresh _ _ e
theorem te {n:Nat}(IE:cR ab w X Φ hb k n)(IT:eP ab w X Φ hb k n){elt:Expr}{g:V6}{gs:List V6}{sc:YB}{pos:X7}{d:D}{its l:List D}{Q:VQ->VP->Prop}
  (Fj:oe σ.nm sc=true) (wG:jF (g::gs)=true) (e1:ev X.aa Φ n σ false g.iter=some d) (e2:cP d=some its)
  (e3:comp (λσ b e=>ev X.aa Φ n σ b e) elt (g::gs) (di sc σ) its=some l) (hz:l.length<=100000)
  (am:Am A F s) (lv:Lv A k) (bf:au hb F) (r:cW X an F env σ s.heap) (h:Rt F s (.lst l) Q) :
  wpAny (model ab w) A (eval (.ListComp elt (g::gs) sc pos) env) Q E s:=by
 rw[eval_ListComp];have hg:firstAsync (g::gs)=false:=by
  have:=(Wp.mp wG) g VT;obtain⟨_,_,_,a⟩:=g;have ha:a=0:=by simpa using this
  clear this;rw[ha];rfl
 have hi:firstIter (g::gs) env=eval g.iter env:=by obtain⟨_,_,_,_⟩:=g;rfl
 rw[hg,hi];refine uV (use:=none) IE IT Fj wG e1 e2 e3 hz am lv bf r λF' s' ac C c=>?_
 obtain⟨m,hn⟩:=c.ns;refine⟨m,hn,λh' hs=>?_⟩;obtain⟨qW,fl,hh,cF,g'⟩:=c.out hz;exact h _ qW _ (g'.but (tk:=s'.toks) c.c0 cF (am.tab.ne0 c.c0) hs.extBut) hh
theorem cW.toBut {h:Wb}{C:V4}(r:cW X an F env σ h)(hC:h.get? C=none):cW (X.but C) an F env (σ:az X.T) h where
 fe:=r.fe
 base:=r.base
 tab:=r.tab
 cd:=r.cd
 ns:=r.ns
 lF:=r.lF
 l0:=r.l0
 glob:=r.glob
 cf:=r.cf
 cells:=r.cells
 kx:=r.kx
 wr:=r.wr
 vars:=λx bd e=>by
  obtain⟨v,va,rb⟩:=r.vars x bd e;refine⟨v,va,?_⟩;clear e;induction bd with
  |val d=>exact rb
  |dead=>trivial
  |app y=>exact rb
  |own l=>exact rb
  |flg m t =>
   obtain⟨O,at_,hz⟩:=rb;refine⟨O,⟨at_,λhm=>?_⟩,hz⟩;obtain⟨o,ho,_⟩:=X.alive at_ _ hm;exact bo hC ho
 apart:=r.apart
 one:=r.one
theorem cW.letGo {h h':Wb}{C:V4}{m:Str->Option VQ}(r:cW (X.but C) an F env (σ:az X.T) h)(hn:h.Ns C m)(hs:Ws C h h')(hL:C≠env.locals)(nl:∀y c,env.cells.lookup y=some c->c≠C)(h0:an.get? C=none)(hF:F C=none):cW X an F env σ h' where
 fe:=r.fe
 base:=λa o n q=>hs.extBut a o (by clear r hn hs hL nl hF;rintro rfl;exact bo h0 q) (r.base a o n q)
 tab:=r.tab.but hs.extBut (Ns.ne r.tab hn)
 cd:=r.cd
 ns:=let ⟨m,n⟩:=r.ns;⟨m,n.sameBut hs (W6 hL)⟩
 lF:=r.lF
 l0:=r.l0
 glob:=r.glob
 cf:=r.cf
 cells:=λx c q=>by
  obtain⟨f,v,o,ho,hd⟩:=r.cells x c q;exact⟨f,v,o,hs.extBut _ _ (nl x c q) ho,hd⟩
 kx:=r.kx
 wr:=r.wr
 vars:=λx bd q=>by
  have vk:∀{x v},aU env h x v->aU env h' x v:=λva=>by
   rcases va with⟨k,m',n,q⟩ |⟨k,c,l,o,ho,hd⟩
   ·exact .inl ⟨k,m',n.sameBut hs (W6 hL),q⟩
   ·exact .inr ⟨k,c,l,o,hs.extBut _ _ (nl _ c l) ho,hd⟩
  obtain⟨v,va,rb⟩:=r.vars x bd q;refine⟨v,vk va,?_⟩;induction bd with
  |val d=>exact rb
  |dead=>trivial
  |app y =>
   obtain⟨b',a,o,e1,e2,e3,e4⟩:=rb;exact⟨b',a,o,e1,e2,e3,vk e4⟩
  |own l =>
   obtain⟨a,e1,e2,e3,o,vs,n,ho,hc,qk,hl,hz⟩:=rb;refine⟨a,e1,e2,e3,o,vs,n,hs.extBut a o ?_ ho,hc,qk,hl,hz⟩;clear r hs hL nl h0 hF;rintro rfl;obtain⟨o',es,ep,dM,eS,_⟩:=hn;replace dM:=cG ho dM;obtain rfl:=dM;rw[qk]at eS;clear qk hl;cases eS
  |flg m' t =>
   obtain⟨O,⟨at_,hCO⟩,hz⟩:=rb;refine⟨O,X.loc at_ F.le_refl λa ha=>?_,hz⟩;obtain⟨o,ho,_⟩:=X.alive at_ a ha;rw[ho];exact hs.extBut a o (by clear r hn hs hL nl h0 hF;rintro rfl;exact hCO ha) ho
 apart:=λx y l l' a ex ey vx vy=>by
  have vk:∀{x v},aU env h x v->aU env h' x v:=λva=>by
   rcases va with⟨k,m',n,q⟩ |⟨k,c,l,o,ho,hd⟩
   ·exact .inl ⟨k,m',n.sameBut hs (W6 hL),q⟩
   ·exact .inr ⟨k,c,l,o,hs.extBut _ _ (nl _ c l) ho,hd⟩
  obtain⟨v,va,rb⟩:=r.vars x _ ex;obtain⟨v',II,PV⟩:=r.vars y _ ey;have e1:=aU.unique (vk va) vx;have e2:=aU.unique (vk II) vy;clear rb PV;subst e1 e2;exact r.apart x y l l' a ex ey va II
 one:=r.one
theorem mT {n:Nat}(IE:cR ab w X Φ hb k n)(IT:eP ab w X Φ hb k n){elt:Expr}{g:V6}{gs:List V6}{sc:YB}{pos MJ py:X7}{y:Str}{d:D}{its l:List D}{Q:YF->VP->Prop}
  (AO:swapsWith (.ListComp elt (g::gs) sc pos) (some (.Name y py)) MJ.line env=pure true) (hw:bW σ.nm y=true)
  (Fj:oe σ.nm sc=true) (wG:jF (g::gs)=true) (e1:ev X.aa Φ n σ false g.iter=some d) (e2:cP d=some its)
  (e3:comp (λσ b e=>ev X.aa Φ n σ b e) elt (g::gs) (di sc σ) its=some l) (hz:l.length<=100000)
  (am:Am A F s) (lv:Lv A k) (bf:au hb F) (r:cW X an F env σ s.heap)
  (h:∀F' h' s',aA F s F' s'->(∀a o,F' a=some o->h'.get? a=some o)->(∀a o,a≠PL->an.get? a=some o->h'.get? a=some o)->cq s.heap h'->cW X an F' env (σ.set y (.val (.lst l))) h'->∀tk,Q .next { s' with heap:=h',toks:=tk }) :
  wpAny (model ab w) A (exec (.Assign [.Name y py] (.ListComp elt (g::gs) sc pos) MJ) env) Q E s:=by
 rw[exec_Assign_Name_used _ _ _ _ AO];refine VO (Xa (VO ?_));have hg:firstAsync (g::gs)=false:=by
  have:=(Wp.mp wG) g VT;clear AO;obtain⟨_,_,_,a⟩:=g;have ha:a=0:=by simpa using this
  rw[ha];rfl
 have hi:firstIter (g::gs) env=eval g.iter env:=by obtain⟨_,_,_,_⟩:=g;rfl
 show wpAny _ A (do let _ <- comprehension (.ListComp elt (g::gs) sc pos) sc env (firstIterPos (g::gs) pos) (newList []) (firstAsync (g::gs)) (firstIter (g::gs) env) (some (assign (.Name y py) env))) _ _ s;rw[hg,hi];refine VO (Wk (uV (use:=some (assign (.Name y py) env)) (Q:=λ_ s'=>Q .next s') IE IT Fj wG e1 e2 e3 hz am lv bf r λF' s' ac C c=>?_) (λ_ s' hq=>VR (VR hq)) λ_ _ e=>e);obtain⟨m,hn⟩:=c.ns;obtain⟨qW,fl,hh,cF,g'⟩:=c.out hz;have r':cW (X.but C) an qW env (σ:az X.T) s'.heap:=(r.toBut c.c0).grow g';have Rq:an.get? C=none:=by
  cases q:an.get? C with
  |none=>rfl
  |some o=>have:=r.base _ _ (am.tab.ne0 c.c0) q;rw[c.c0]at this;clear q;exact bg this
 refine XU (iw r' hw hh λh2 tk b ob gG ed oj hs b0 bF r2=>?_);have Mk:C≠b:=by
  clear b0;rintro rfl;rcases gG with q |⟨z,q⟩
  ·exact c.cl q
  ·exact c.cc z _ q rfl
 refine⟨m,hn.sameBut hs Mk,λh3 Me=>?_⟩;have QU:=hn.sameBut hs Mk;have UZ:∀a o,qW a=some o->h3.get? a=some o:=λa o q=>Me.extBut a o (by clear c hn r' Rq r2 Mk Me QU;rintro rfl;exact bo cF q) (hs.extBut a o (by clear gG ed hs Mk;rintro rfl;exact bo bF q) (g'.fz _ _ q))
 have r3:cW X an qW env (σ.set y (.val (.lst l))) h3:=r2.letGo QU Me c.cl c.cc Rq cF;exact h qW h3 s' g' UZ r3.base ⟨λa o n e nd=>Me.extBut a o (by clear hn cF r' Rq r2 Mk Me QU;rintro rfl;rw[c.c0]at e;clear nd;exact bg e) (hs.extBut a o (by clear gG hs bF Mk;rintro rfl;have:=g'.keep _ _ n e;replace this:=cG ed this;clear e;obtain rfl:=this;exact nd oj) (g'.keep _ _ n e)),λt=>(g'.tab.trans (.but hs.extBut ((g'.tab.at t).neD ed (ED oj)))).trans (.but Me.extBut (am.tab.ne0 c.c0))⟩ r3 tk
theorem yw {name:Str}{vo:VQ}{o d:D}{ds:List D}(ho:aj F vo o)(e:iD name o ds=some d) :
  (∃id,(∀(pl:Sem Bool) (M:Model) (A:V7) (E:VQ->VP->Prop) (s:VP) (Q:VQ×List VQ->VP->Prop),Q (.builtin id,[vo]) s->wpAny M A (getMethod vo name pl) Q E s) /\∀(A:V7) (E:VQ->VP->Prop) (F':Fz) (s:VP) (vs:List VQ) (Q:VQ->VP->Prop),Am A F' s->al F' vs ds->Rt F' s d Q->wpAny (model ab w) A (call (.builtin id) (vo::vs)) Q E s):=by
 revert ho e;delta ab w F name vo o d ds;intro ho e;refine bt e λx e0 e8=>?_
 delta x;intro e0 e8;clear e;have e:=e8;clear e8
 cases eH e0;obtain⟨t,rfl,k,z⟩:=ho.str3
 cases ds with
 |nil=>exact bg e
 |cons a r =>
  cases r with
  |nil =>
   have hj:∃l,nQ name x l=some d/\(a=.lst l\/a=.tup l):=by
    cases a with
    |lst l=>exact⟨l,e,.inl rfl⟩
    |tup l=>exact⟨l,e,.inr rfl⟩
    |_=>exact bg e
   obtain⟨l,e,ha⟩:=hj;refine jr e λc e=>?_
   rw[Au c.1];refine⟨"str.join",λpl M A E s Q hq=>GM.join hq,λA E F' s vs Q am hs h=>?_⟩;obtain⟨v,us,rfl,h1,h2⟩:=hs.cons_inv;clear hs;obtain rfl:=h2.nil_inv;exact Cn am (.str _ _ k z) (ha.imp (λq=>q▸h1) (λq=>q▸h1)) c.2 e h
  |cons b r =>
   induction r with
   |nil =>
    refine bt e λy e1 e=>bt e λy2 e2 e=>jr e λc e=>?_
    rw[tC c.1];obtain rfl:=aJ e
    cases eH e1
    cases eH e2;refine⟨"str.replace",λpl M A E s Q hq=>GM.replace hq,λA E F' s vs Q am hs h=>?_⟩;obtain⟨v,us,rfl,h1,h2⟩:=hs.cons_inv;clear hs;obtain⟨v2,us,rfl,h4,h3⟩:=h2.cons_inv;clear h2;obtain rfl:=h3.nil_inv;obtain⟨_,rfl⟩:=h1.str_inv;obtain⟨_,rfl⟩:=h4.str_inv;refine call_gives PySem.F.slot_str_replace (typeIs_str _ _ _) PySem.F.entry_str_replace (PySem.F.args_str_replace_3 _ _ _) (gives_str_replace _ _ _ _ _ _ λhf=>by rw[c.2]at hf;exact oY hf) ?_;rw[c.2];exact h.here am (.str _ _ k z)
   |cons=>exact bg e
theorem iY {n:Nat}(IH:cR ab w X Φ hb k n){o:Expr}{m:Str}{aE pos:X7}{args:List Expr}{ds:List D}{Q:VQ->VP->Prop}
  (iF:attributeBase o m env (eval o env)=eval o env) (hl:(VW aE.endLine pos.line&&Wm args.length 9)=true) (e:k5 (λσ b e=>ev X.aa Φ n σ b e) σ args=some ds)
  (am:Am A F s) (lv:Lv A k) (bf:au hb F) (r:cW X an F env σ s.heap)
  (ho:wpAny (model ab w) A (eval o env) (λv aR=>∃nE,aA F s nE aR/\∃f first,(∀pl Q',Q' (f,first) aR->wpAny (model ab w) A (getMethod v m pl) Q' E aR) /\(∀h:Wb,(∀a o,nE a=some o->h.get? a=some o)->∃k,(k=Yj\/k=XN\/k=Xe)/\Looks (model ab w) h (keeperOf f) k) /\∀vs F' s',aA nE aR F' s'->al F' vs ds->wpAny (model ab w) A (call f (first++vs)) Q E s') E s) :
  wpAny (model ab w) A (eval (.Call (.Attribute o m aE) args [] pos) env) Q E s:=by
 rw[arm_eval_Call,iF];refine VO (Wk ho (λv aR gh=>?_) λ_ _ x=>x);obtain⟨nE,g,f,first,HJ,Mg,jh⟩:=gh;refine VO (Xa ?_);simp only[V3,Nat.ble_eq]at hl;have sn:methodCallForm (args.length+([]:List Keyword).length) (backTo pos (starEach args env)) (backToKw pos (keywordEach [] env))=true:=by
  have yT:=CW (env:=env) args ds pos e;unfold methodCallForm;have e1:((backTo pos (starEach args env)).all λx=>!x.1)=true:=by
   rw[Zm];simp only[Bool.not_not];rw[yT];rfl
  rw[e1];exact decide_eq_true (Wn hl.2 ⋯)
 have kS:methodCallPos true o env aE pos=pure pos:=by
  unfold methodCallPos;have:(aE.endLine==pos.line)=true:=by rw[beq_iff_eq];exact V_ hl.1
  simp[this]
 unfold methodCall calleeOf;rw[sn];simp only[if_true];refine VO (Wq (HJ _ _ ?_));refine VO (WC kS ?_);exact gq IH (P:=λh=>∀a o,nE a=some o->h.get? a=some o) e (am.grow g) lv (bf.grow g.fle) (r.grow g) Mg λvs F' s' g' fn=>⟨λa o q=>g'.fz _ _ (g'.fle _ _ q),jh vs F' s' g' fn⟩
theorem oF {n:Nat}(IH:cR ab w X Φ hb k n){es:List Expr}{c:Nat}{pos:X7}{ds:List D}{Q:VQ->VP->Prop}(e:k5 (λσ b e=>ev X.aa Φ n σ b e) σ es=some ds)(hz:ds.length<=1000000)(am:Am A F s)(lv:Lv A k)(bf:au hb F)(r:cW X an F env σ s.heap)
  (h:Rt F s (.tup ds) Q):wpAny (model ab w) A (eval (.Tuple es c pos) env) Q E s:=by
 refine wpAny_Tuple (lS IH es ds F s pos _ e am lv bf r λvs F' s' g fn=>?_);refine⟨by rw[fn.length,du];lia,?_⟩;exact(h.grow g).tup (am.grow g) s'.toks (by simpa using fn) hz
theorem Gb {n:Nat}(IH:cR ab w X Φ hb k n){es:List Expr}{pos:X7}{ds:List D}{Q:VQ->VP->Prop}(e:k5 (λσ b e=>ev X.aa Φ n σ b e) σ es=some ds)(hz:ds.length<=1000000)(am:Am A F s)(lv:Lv A k)(bf:au hb F)(r:cW X an F env σ s.heap)
  (h:Rt F s (.lst ds) Q):wpAny (model ab w) A (eval (.List es pos) env) Q E s:=by
 refine wpAny_List (lS IH es ds F s pos _ e am lv bf r λvs F' s' g fn=>?_);refine⟨by rw[fn.length,du];lia,?_⟩;exact(h.grow g).lst (am.grow g) s'.toks (by simpa using fn) hz
theorem cy {x:Str}{p:X7}{d:D}{Q:VQ->VP->Prop}(am:Am A F s)(r:cW X an F env σ s.heap)(e:σ.get x=some (.val d))(h:Rt F s d Q):wpAny (model ab w) A (eval (.Name x p) env) Q E s:=by
 obtain⟨v,va,hv⟩:=r.vars x _ e;have hk:(x==("__debug__" : Str))=false:=by
  rcases va with⟨q,_⟩ |⟨q |q,_⟩<;>exact i8 r.fe q
 exact wpAny_Name (oG r.fe va (h.here am hv)) hk
theorem bL {x:Str}{p:X7}{v:VQ}{Q:VQ->VP->Prop}(r:cW X an F env σ s.heap)(va:aU env s.heap x v)(h:Q v s):wpAny (model ab w) A (eval (.Name x p) env) Q E s:=by
 have hk:(x==("__debug__" : Str))=false:=by
  rcases va with⟨q,_⟩ |⟨q |q,_⟩<;>exact i8 r.fe q
 exact wpAny_Name (oG r.fe va h) hk
theorem Cg {n:Nat}(IH:cR ab w X Φ hb k n){v i:Expr}{pos:X7}{o x d:D}{Q:VQ->VP->Prop}
  (e1:ev X.aa Φ n σ false v=some o) (e2:ev X.aa Φ n σ false i=some x) (e3:bh o x=some d) (am:Am A F s) (lv:Lv A k) (bf:au hb F) (r:cW X an F env σ s.heap) (h:Rt F s d Q) :
  wpAny (model ab w) A (eval (.Subscript v i pos) env) Q E s:=by
 refine nA (IH A E F s env an σ v o _ e1 am lv bf r λvo F1 s1 g1 ho=>IH A E F1 s1 env an σ i x _ e2 (am.grow g1) lv (bf.grow g1.fle) (r.grow g1) λvi F2 s2 g2 hi=>?_);have ox:=(am.grow g1).grow g2;have nS:=ho.mono g2.fle;exact⟨Lh ox.fz nS (sb e3),uU ox nS hi e3 (h.grow (g1.trans g2))⟩
end
theorem lB {T:Type}{f:Fn T}{σ:az T}{es:List Expr}:∀{ds:List D},k5 f σ es=some ds->ds.length=es.length:=by
 induction es with
 |nil =>
  intro _ h;rw[<- (aJ h)];rfl
 |cons e es ih =>
  intro ds h;refine bt h λd _ h1=>?_
  clear h;obtain⟨Mo,h2,rfl⟩:=YE.mp h1;rw[VY,VY,ih h2]
section
variable {ab:V8}{w:Wi}{X:gJ}{Φ:b_}{hb:Wb}{mg:Str->Option VQ}{k:Nat}{A:V7}{E:VQ->VP->Prop}{F:Fz}{s:VP}{env:Yq}{an:Wb}{σ σ':az X.T}
theorem sH {T:Type}{aa:T->Str->List D->Option D}{Φ:b_}{n:Nat}{σ:az T}{e:Expr}{d:D}(h:ev aa Φ n σ false e=some d)(op:CmpOp):behindInMarks op e=false:=by
 cases e<;>try rfl
 exfalso;induction n<;>exact bg h
theorem F0 {i:Int}{kk:Nat}{q p:X7}{Q:VQ->VP->Prop}(am:Am A F s)(h:Rt F s (.int (-i)) Q):wpAny (model ab w) A (eval (.UnaryOp .USub (.Constant (.int i) kk q) p) env) Q E s :=
 wpAny_UnaryOp (wpAny_Constant_int (PyProof.Rows.neg_int (h _ _ _ (aA.toks am.fz _) (.int _ _))))
theorem FY {n:Nat}(IE:cR ab w X Φ hb k n){v:Expr}{lo hi:Option Expr}{q p:X7}{d:D}{Q:VQ->VP->Prop}
  (he:((ev X.aa Φ n σ false v).bind λo=>(Oj (λσ b e=>ev X.aa Φ n σ b e) σ lo).bind λa=>(qM a).bind λa=>(Oj (λσ b e=>ev X.aa Φ n σ b e) σ hi).bind λb=>(qM b).bind λb=>cx a b o)=some d)
  (am:Am A F s) (lv:Lv A k) (bf:au hb F) (r:cW X an F env σ s.heap) (h:Rt F s d Q):wpAny (model ab w) A (eval (.Subscript v (.Slice lo hi none q) p) env) Q E s:=by
 refine bt he λo e1 he=>bt he λa e2 he=>bt he λa' e3 he=>bt he λb e4 he=>bt he λb' e5 e6=>?_
 refine nA (IE A E F s env an σ v o _ e1 am lv bf r λvo F1 s1 g1 ho=>?_);refine wpAny_Slice (uS IE e2 e3 (am.grow g1) lv (bf.grow g1.fle) (r.grow g1) λvl F2 s2 g2 hl=>uS IE e4 e5 ((am.grow g1).grow g2) lv ((bf.grow g1.fle).grow g2.fle) ((r.grow g1).grow g2) λvu F3 s3 g3 hu=>VR ?_);have S4:=(g1.trans g2).trans g3;have g4:=S4.trans (aA.push0 S4.fz { cls:=.type "slice",data:=.fields #[vl,vu,.none] } s3.toks);have nS:=ho.mono (Fz.le_trans g2.fle g3.fle);exact⟨Lh g4.fz nS (wO e6),zN (am.grow g4) nS hl.any hu.any (Wb.IsSliceOf.new ..) e6 (h.grow g4)⟩
theorem Cf {n:Nat}(IE:cR ab w X Φ hb k n){x:Str}{q p:X7}{i:Expr}{d:D}{Q:VQ->VP->Prop}(he:JJ σ (ev X.aa Φ n σ false i) (σ.get x)=some d)
  (am:Am A F s) (lv:Lv A k) (bf:au hb F) (r:cW X an F env σ s.heap) (h:Rt F s d Q):wpAny (model ab w) A (eval (.Subscript (.Name x q) i p) env) Q E s:=by
 generalize hx:σ.get x=b at he;induction b with
 |none=>exact bg he
 |some b =>
  induction b with
  |own l =>
   refine bt he λy e1 he=>bt he λkk e2 he=>?_
   cases dR e2;obtain⟨v,va,a,rfl,fa,h0,o,vs,nn,ho,hc,hd,hl,hz,_⟩:=r.vars x _ hx;refine nA (bL r va (IE A E F s env an σ i _ _ e1 am lv bf r λvi F2 s2 g2 hi=>?_));obtain⟨_,rfl⟩:=hi.int_inv;obtain⟨kx,hk,Ue,b1,b2,b3⟩:=jX he;have SI:s2.heap.IsList a vs:=⟨o,g2.keepL am.tab ho hc,hc,nn,hd⟩;obtain⟨vv,ON⟩:=hl.get kx d Ue;have hsz:vs.size=l.length:=by rw[<- hl.length];rfl
   refine⟨⟨"list",_,slot_list_getitem.lookup,⟨_,g2.keepL am.tab ho hc,hc⟩⟩,?_⟩;by_cases hn:kk<0
   ·skip
    exact wpAny_getItem_list_neg SI hn (by lia) (by lia) (by rw[show(kk+(vs.size:Int)).toNat=kx by lia];simpa using ON.1) (h _ _ _ g2 (ON.2.mono g2.fle))
   ·rw[if_neg hn]at b3
    exact wpAny_getItem_list SI (by lia) (by lia) (by rw[show kk.toNat=kx by lia];simpa using ON.1) (h _ _ _ g2 (ON.2.mono g2.fle))
  |val o =>
   refine bt he λy e1 he=>?_
   refine nA (cy am r hx λvo F1 s1 g1 ho=>IE A E F1 s1 env an σ i y _ e1 (am.grow g1) lv (bf.grow g1.fle) (r.grow g1) λvi F2 s2 g2 hi=>?_);have ox:=(am.grow g1).grow g2;have nS:=ho.mono g2.fle;exact⟨Lh ox.fz nS (sb he),uU ox nS hi he (h.grow (g1.trans g2))⟩
  |_=>exact bg he
theorem zR {n:Nat}(IE:cR ab w X Φ hb k n)(GR:sJ ab w X Φ hb k)(XO:hU ab w X hb k){x m:Str}{q aE p:X7}{args:List Expr}{d:D}{Q:VQ->VP->Prop}(hl:(VW aE.endLine p.line&&Wm args.length 9)=true)
  (he:M7 X.aa m (k5 (λσ b e=>ev X.aa Φ n σ b e) σ args) ((yo σ.nm x m args).bind λy=>(ev X.aa Φ n σ false y).bind λd=>Φ dy [d]) (σ.get x)=some d)
  (am:Am A F s) (lv:Lv A k) (bf:au hb F) (r:cW X an F env σ s.heap) (h:Rt F s d Q):wpAny (model ab w) A (eval (.Call (.Attribute (.Name x q) m aE) args [] p) env) Q E s:=by
 revert IE GR XO hl he am lv bf r h;revert ab w Φ hb k A E F s env an σ n x m q aE p args d Q;unfold X;exists ab,w,Φ,hb,k,A,E,F,s,env,an,σ,n,x,m,q,aE,p,args,d,Q;intro IE GR XO hl he am lv bf r h;generalize hx:σ.get x=b at he;induction b with
 |none =>
  refine bt he λy hy he=>bt he λd' e1 he=>?_
  exact GR A E F s env an σ x m q aE p args y d' d Q hy he (VU.mp hl).1 am lv bf r (λaR Q' g hq=>IE A E F aR env an σ y d' Q' e1 (am.grow g) lv bf (r.grow g) hq) (by rw[gw e1 []];rfl) h
 |some b =>
  induction b with
  |flg mm t =>
   refine bt he λds e1 he=>?_
   obtain⟨v,va,O,at_,hz⟩:=r.vars x _ hx;obtain⟨a,o,fd,ho,Fv⟩:=XO t m ds d he;refine iY IE rfl hl e1 am lv bf r (bL r va ⟨F,aA.refl am.fz,.ref a,[v],λpl Q' hq=>Fv.2.1 A E F s v O pl Q' at_ am bf hq,λh hh=>⟨.frame,.inl rfl,d6 (hh _ _ (bf _ _ ho)) Fv.1⟩,λvs F' s' g fn=>?_⟩);refine Fv.2.2 A F' s' v O vs Q E (X.loc at_ g.fle λa ha=>?_) (am.grow g) lv (bf.grow g.fle) fn (h.grow g);obtain⟨o,ho,hq⟩:=X.alive at_ a ha;rw[ho,g.keepD am.tab ho (fS hq)]
  |val o =>
   refine bt he λds e1 he=>?_
   obtain⟨v,IA⟩:=r.vars x _ hx;obtain⟨id,HJ,jh⟩:=yw (ab:=ab) (w:=w) IA.2 he;refine iY IE rfl hl e1 am lv bf r (bL r IA.1 ⟨F,aA.refl am.fz,.builtin id,[v],λpl Q' hq=>HJ pl _ A E s Q' hq,λh hh=>⟨.machine,.inr (.inl rfl),W0 rfl⟩,λvs F' s' g fn=>?_⟩);exact jh A E F' s' vs Q (am.grow g) fn (h.grow g)
  |_=>exact bg he
theorem Cm {n:Nat}(IE:cR ab w X Φ hb k n){es:List Expr}{p:X7}{ds:List D}{x:Str}{Q:VQ->VP->Prop}(e1:k5 (λσ b e=>ev X.aa Φ n σ b e) σ es=some ds)(e2:iC ds=some x)(hz:x.length<=1000000)
  (am:Am A F s) (lv:Lv A k) (bf:au hb F) (r:cW X an F env σ s.heap) (h:Rt F s (.str x) Q):wpAny (model ab w) A (eval (.JoinedStr es p) env) Q E s:=by
 have Mi:WT++x=x:=Str.empty_append x;have join:Joins (model ab w) A E (evalEach es env) WT (λout aR=>out.length<=sizeLine/\Q (.str out aR.toks) { aR with toks:=aR.toks+1 }) s :=
  zP IE es ds x WT F s _ e1 e2 (by rw[Mi];exact hz) (by decide +kernel) am lv bf r λF' s' g ho=>by
   rw[Mi]at ho ⊢
   exact⟨VX hz (by decide +kernel),h _ _ _ (g.trans (aA.toks g.fz _)) (.str _ _ ho hz)⟩
 cases es with
 |nil =>
  exact wpAny_joinPartsRec [] _ _ _ join
 |cons v es =>
  induction es with
  |nil =>
   refine bt e1 λdd e3 e4=>?_
   clear e1;obtain rfl:=aJ e4;clear hz Mi e4;obtain⟨y,z,rfl,e5,rfl⟩:=pF e2;clear e2;obtain rfl:=aJ e5;exact wpAny_JoinedStr_one (IE A E F s env an σ v _ _ e3 am lv bf r h)
  |cons v2 cC=>exact wpAny_JoinedStr join
theorem wS {n:Nat}(B:dT hb mg)(G:nD ab w Φ hb mg k)(GR:sJ ab w X Φ hb k)(XO:hU ab w X hb k)(IE:cR ab w X Φ hb k n)(IT:eP ab w X Φ hb k n):cR ab w X Φ hb k (n+1):=by
 revert B G GR XO IE IT;revert ab w Φ hb mg k n;unfold X;exists ab,w,Φ,hb,mg,k,n;intro B G GR XO IE IT;exists A,E,F,s,env,an,σ,e,d,Q;intro he am lv bf r h;replace he:Rx X.aa Φ (λσ b e=>ev X.aa Φ n σ b e) σ (vv e)=some d:=he;have hv:=Qr e;generalize vv e=q at he hv;revert he;induction hv with
 |const=>intro he;exact rK am he h
 |name=>intro he;exact cy am r (oV he) h
 |bin =>
  intro he;refine bt he λa e1 he=>bt he λb e2 he=>wpAny_BinOp (IE A E F s env an σ _ a _ e1 am lv bf r λv F1 s1 g1 hv=>IE A E F1 s1 env an σ _ b _ e2 (am.grow g1) lv (bf.grow g1.fle) (r.grow g1) λv2 F2 s2 g2 hZ=>?_)
  exact Ge ((am.grow g1).grow g2) (hv.mono g2.fle) hZ he (h.grow (g1.trans g2))
 |not =>
  intro he;refine bt he λa e1 he=>gt he λb e2 he=>?_
  subst he;exact wpAny_UnaryOp (IE A E F s env an σ _ a _ e1 am lv bf r λv F1 s1 g1 hv=>not_value (gB (am.grow g1) hv e2 λF2 s2 g2=>h _ _ _ (g1.trans g2) (.bool _)))
 |neg=>intro he;replace he:=aJ he;obtain rfl:=he;exact F0 am h
 |and=>intro he;exact Gf IE _ d F s Q he am lv bf r h
 |or=>intro he;exact JT IE _ d F s Q he am lv bf r h
 |cmp =>
  intro he;refine bt he λa e1 he=>bt he λb e2 he=>wpAny_Compare1 (IE A E F s env an σ _ a _ e1 am lv bf r λv F1 s1 g1 hv=>IE A E F1 s1 env an σ _ b _ e2 (am.grow g1) lv (bf.grow g1.fle) (r.grow g1) λv2 F2 s2 g2 hZ=>?_) (sH e2 _)
  exact yj ((am.grow g1).grow g2) (hv.mono g2.fle) hZ he (h.grow (g1.trans g2))
 |ite =>
  delta t b o p;intro he;refine bt he λa e1 he=>bt he λc e2 he=>?_
  cases gx e2;refine wpAny_IfExp (IT A E F s env an σ _ c _ e1 am lv bf r λF1 s1 g1=>?_);clear e1 e2;induction c with
  |true=>exact IE A E F1 s1 env an σ _ d _ he (am.grow g1) lv (bf.grow g1.fle) (r.grow g1) (h.grow g1)
  |false=>exact IE A E F1 s1 env an σ _ d _ he (am.grow g1) lv (bf.grow g1.fle) (r.grow g1) (h.grow g1)
 |tup =>
  intro he;refine ip he λhz he=>gt he λds e1 he=>?_
  subst he;exact oF IE e1 (VX (WO (lB e1)) (VX (V0 hz) ⋯)) am lv bf r h
 |lst =>
  intro he;refine ip he λhz he=>gt he λds e1 he=>?_
  subst he;exact Gb IE e1 (VX (WO (lB e1)) (VX (V0 hz) ⋯)) am lv bf r h
 |slc=>intro he;exact FY IE he am lv bf r h
 |subN=>intro he;exact Cf IE he am lv bf r h
 |sub=>intro he;exact bt he λo e1 he=>bt he λx e2 he=>Cg IE e1 e2 he am lv bf r h
 |callN=>intro he;exact ip he λhg he=>bt he λds e1 e2=>td IE B G hg e1 e2 am lv bf r h
 |callM=>intro he;exact ip he λhl he=>zR IE GR XO hl he am lv bf r h
 |callC =>
  delta c k_1 q_1 m aE args p;intro he;refine ip he λhl he=>bt he λo e0 he=>bt he λds e1 e2=>?_
  revert e0 he e1 e2;delta o ds;intro e0 he e1 e2;refine iY IE rfl hl e1 am lv bf r (rK am e0 λv F1 s1 g1 hv=>?_);obtain⟨id,HJ,jh⟩:=yw (ab:=ab) (w:=w) hv e2;exact⟨F1,g1,.builtin id,[v],λpl Q' hq=>HJ pl _ A E s1 Q' hq,λh hh=>⟨.machine,.inr (.inl rfl),W0 rfl⟩,λvs F' s' g fn=>jh A E F' s' vs Q ((am.grow g1).grow g) fn (h.grow (g1.trans g))⟩
 |comp =>
  intro he;refine ip he λhc he=>bt he λdd e1 he=>bt he λits e2 he=>bt he λl e3 he=>ip he λhz he=>?_
  obtain rfl:=aJ he;have hc:=VU.mp hc;exact te IE IT hc.1 hc.2 e1 e2 e3 (V0 hz) am lv bf r h
 |join =>
  intro he;refine bt he λds e1 he=>bt he λx e2 he=>ip he λhz he=>?_
  obtain rfl:=aJ he;exact Cm IE e1 e2 (V0 hz) am lv bf r h
 |fmt =>
  delta v c p;intro he;refine ip he λhc he=>bt he λdd e1 he=>gt he λx e2 he=>?_
  subst he
  cases eH e2;replace hc:=of_decide_eq_true hc;obtain rfl:=hc;refine wpAny_FormattedValue_plain (IE A E F s env an σ _ _ _ e1 am lv bf r λvv F1 s1 g1 hv=>?_);clear e1 e2;cases hv with
  |str _ t k1 z1=>exact SB.field_str (λt' k=>h _ _ _ (g1.trans (aA.toks g1.fz k)) (.str _ _ k1 z1)) (VX z1 (by decide +kernel))
 |no=>intro he;exact bg he
theorem Iu {n:Nat}(IE:cR ab w X Φ hb k n){e:Expr}{b:Bool}{Q:Bool->VP->Prop}(am:Am A F s)(lv:Lv A k)(bf:au hb F)(r:cW X an F env σ s.heap)(h:∀F' s',aA F s F' s'->Q b s')
  (he:((ev X.aa Φ n σ false e).bind λd=>(gK d).map D.bool)=some (.bool b)) (hq:isTrue e env (eval e env)=(do let v <- eval e env;standAt e.pos;holding [v] (truthy v))):wpAny (model ab w) A (isTrue e env (eval e env)) Q E s:=by
 refine bt he λd e1 he=>gt he λb' e2 he=>?_
 obtain rfl:=D.bool.inj he;exact Zf (IE A E F s env an σ e d _ e1 am lv bf r λv F1 s1 g1 hv=>gB (am.grow g1) hv e2 λF2 s2 g2=>h _ _ (g1.trans g2)) hq
theorem wR {n:Nat}(LE:∀m,m<=n->cR ab w X Φ hb k m)(IT:eP ab w X Φ hb k n):eP ab w X Φ hb k (n+1):=by
 revert LE IT;revert ab w Φ hb k n;unfold X;exists ab,w,Φ,hb,k,n;intro LE IT;have IE:=LE n (WD _);exists A,E,F,s,env,an,σ,e,b,Q;intro he am lv bf r h;replace he:Rw (λσ b e=>ev X.aa Φ n σ b e) σ e (vv e)=some (.bool b):=he;have hv:=Qr e;generalize hq:vv e=q at he hv;revert hq he
 cases hv with
 |not =>
  delta x p;intro hq he;refine bt he λd e1 he=>gt he λb' e2 he=>?_
  cases he
  cases gx e2;exact wpAny_isTrue_Not (IT A E F s env an σ _ b' _ e1 am lv bf r λF' s' g=>h F' s' g)
 |and =>
  intro hq he;refine gt he λb' e1 he=>?_
  cases he;exact wpAny_isTrue_BoolOp (Cq IT _ b F s Q e1 am lv bf r h)
 |or =>
  intro hq he;refine gt he λb' e1 he=>?_
  cases he;exact wpAny_isTrue_BoolOp (Cp IT _ b F s Q e1 am lv bf r h)
 |ite =>
  delta t b_1 o p;intro hq he;refine bt he λa e1 he=>bt he λc e2 he=>?_
  cases gx e2;rw[arm_isTrue_IfExp];refine VO (IT A E F s env an σ _ c _ e1 am lv bf r λF1 s1 g1=>?_);clear e1 e2;induction c with
  |true=>exact IT A E F1 s1 env an σ _ b Q he (am.grow g1) lv (bf.grow g1.fle) (r.grow g1) λF' s' g=>h _ _ (g1.trans g)
  |false=>exact IT A E F1 s1 env an σ _ b Q he (am.grow g1) lv (bf.grow g1.fle) (r.grow g1) λF' s' g=>h _ _ (g1.trans g)
 |@name x p =>
  delta x p;intro hq he;have he:PI (σ.get x)=_:=he;generalize hx:σ.get x=o at he;delta o;intro hx he;induction o with
  |none=>exact bg he
  |some o =>
   delta o;intro hx he;induction o with
   |own l =>
    delta l;intro hx he;cases he;obtain⟨v,va,a,rfl,fa,h0,o,vs,nn,ho,hc,hd,hl,hz,_⟩:=r.vars x _ hx;refine Zf (bL r va ?_);have hsz:vs.size=l.length:=by rw[<- hl.length];rfl
    have:(!vs.isEmpty)=!l.isEmpty:=by induction l<;>simp_all [Array.isEmpty]
    exact wpAny_truthy_list (items:=vs) ⟨o,ho,hc,nn,hd⟩ (by lia) (this▸h _ _ (aA.toks am.fz _))
   |val d =>
    refine gt he λb' e1 he=>?_
    cases he;exact Zf (cy am r hx λv F1 s1 g1 hv=>gB (am.grow g1) hv e1 λF2 s2 g2=>h _ _ (g1.trans g2))
   |_=>exact bg he
 |@cmp l op rr p =>
  delta l op rr p;intro hq he;refine bt he λd e1 he=>gt he λb' e2 he=>?_
  cases he;induction n with
  |zero=>exact bg e1
  |succ m =>
   delta m;intro _ LE IT IE he e1;have Th:=LE m (Zl m);refine bt e1 λa e3 e1=>bt e1 λb2 e4 e1=>?_
   refine YN (Th A E F s env an σ l a _ e3 am lv bf r λv F1 s1 g1 hv=>Th A E F1 s1 env an σ rr b2 _ e4 (am.grow g1) lv (bf.grow g1.fle) (r.grow g1) λv2 F2 s2 g2 hZ=>?_) (sH e4 op);have ox:=(am.grow g1).grow g2;exact yj ox (hv.mono g2.fle) hZ e1 λv3 F3 s3 g3 HB=>gB (ox.grow g3) HB e2 λF4 s4 g4=>h _ _ (((g1.trans g2).trans g3).trans g4)
 |no =>
  intro hq he;refine bt he λd e1 _=>?_
  clear LE IT IE he;induction n with
  |zero=>exact bg e1
  |succ m =>
   have e1:Rx X.aa Φ (λσ b e=>ev X.aa Φ m σ b e) σ (vv e)=some d:=e1;rw[hq]at e1;exact bg e1
 |_=>intro hq he;exact Iu IE am lv bf r h he rfl
theorem pi (B:dT hb mg)(G:nD ab w Φ hb mg k)(GR:sJ ab w X Φ hb k)(XO:hU ab w X hb k):∀n,cR ab w X Φ hb k n/\eP ab w X Φ hb k n:=by
 intro n;induction n using Nat.strongRecOn with
 |ind n ih =>
  induction n with
  |zero=>exact⟨λA E F s env an σ e d Q he=>(by exact bg he),λA E F s env an σ e b Q he=>(by exact bg he)⟩
  |succ n =>
   have h:=ih n (WE n);exact⟨wS B G GR XO h.1 h.2,wR (λm hm=>(ih m (Yk hm)).1) h.2⟩
end
noncomputable def t9 {α:Type}(n:Nat)(k:Nat->α):α:=match n with |0=>k 0 |m+1=>k (m+1)
theorem ss {α:Type}(n:Nat)(k:Nat->α):t9 n k=k n:=by induction n<;>rfl
noncomputable def nr {α:Type}(i:Int)(k:Int->α):α:=match i with | .ofNat n=>t9 n λn=>k (.ofNat n) | .negSucc n=>t9 n λn=>k (.negSucc n)
theorem nq {α:Type}(i:Int)(k:Int->α):nr i k=k i:=by induction i<;>simp only[nr,ss]
noncomputable def xN {α:Type}:List Nat->(List Nat->α)->α
 |[],k=>k []
 |a::r,k=>t9 a λa=>xN r λr=>k (a::r)
theorem A_ {α:Type}(l:List Nat):∀(k:List Nat->α),xN l k=k l:=by
 induction l with
 |nil=>exact λ_=>rfl
 |cons a r ih=>exact λk=>(ss a _).trans (ih _)
mutual
noncomputable def em {α:Type}:D->(D->α)->α
 | .none,k=>k .none
 | .bool b,k=>match b with |true=>k (.bool true) |false=>k (.bool false)
 | .int i,k=>nr i λi=>k (.int i)
 | .str s,k=>xN s.cps.toList λl=>k (.str ⟨⟨l⟩⟩)
 | .tup l,k=>ij l λl=>k (.tup l)
 | .lst l,k=>ij l λl=>k (.lst l)
 | .rng a b,k=>nr a λa=>nr b λb=>k (.rng a b)
 | .opq v,k=>k (.opq v)
noncomputable def ij {α:Type}:List D->(List D->α)->α
 |[],k=>k []
 |d::r,k=>em d λd=>ij r λr=>k (d::r)
end
mutual
theorem bO {α:Type}:∀(d:D) (k:D->α),em d k=k d
 | .none,k=>rfl
 | .bool b,k=>by induction b<;>rfl
 | .int i,k=>nq i λi=>k (.int i)
 | .str s,k=>A_ _ _
 | .tup l,k=>eM l _
 | .lst l,k=>eM l _
 | .rng a b,k=>(nq a λa=>nr b λb=>k (.rng a b)).trans (nq b λb=>k (.rng a b))
 | .opq v,k=>rfl
theorem eM {α:Type}:∀(l:List D) (k:List D->α),ij l k=k l
 |[],k=>rfl
 |d::r,k=>(bO d _).trans (eM r _)
end
noncomputable def qu {α:Type}:List D->(List D->α)->α
 |[],k=>k []
 |d::r,k=>qu r λr=>k (d::r)
theorem np {α:Type}(l:List D):∀(k:List D->α),qu l k=k l:=by
 induction l with
 |nil=>exact λ_=>rfl
 |cons a r ih=>exact λk=>ih _
noncomputable def Ec {T α:Type}(b:aO T)(k:aO T->α):α:=match b with
 | .val d=>k (.val d)
 | .own l=>k (.own l)
 | .app y=>k (.app y)
 | .flg m t=>k (.flg m t)
 | .dead=>k .dead
theorem Ba {T α:Type}(b:aO T)(k:aO T->α):Ec b k=k b:=by induction b<;>rfl
noncomputable def xM {T α:Type}:List (Str×aO T)->(List (Str×aO T)->α)->α
 |[],k=>k []
 |p::r,k=>Ec p.2 λb=>xM r λr=>k ((p.1,b)::r)
theorem A9 {T α:Type}(l:List (Str×aO T)):∀(k:List (Str×aO T)->α),xM l k=k l:=by
 induction l with
 |nil=>exact λ_=>rfl
 |cons p r ih=>exact λk=>(Ba p.2 _).trans (ih _)
noncomputable def kG {T α:Type}(σ:az T)(k:az T->α):α:=xM σ.vs λvs=>k ⟨σ.nm,vs⟩
theorem gU {T α:Type}(σ:az T)(k:az T->α):kG σ k=k σ:=A9 σ.vs _
inductive Fl where
 |next
 |brk
 |cont
 |ret (d:D)
 deriving Nonempty
inductive E7 (F:Fz):Fl->YF->Prop
 |next:E7 F .next .next
 |brk:E7 F .brk .brk
 |cont:E7 F .cont .cont
 |ret {d v}:aj F v d->E7 F (.ret d) (.ret v)
noncomputable abbrev Rs (T:Type):=Option (az T×Fl)
noncomputable def dB (l:bc)(x:Str):Bool:=match bv l x with |some .local=>true |_=>false
noncomputable def gT (l:bc)(x:Str):Bool:=match bv l x with |some .cell=>true |_=>false
theorem ng {l:bc}{x:Str}(h:dB l x=true):bv l x=some .local:=by
 unfold dB at h
 cases q:bv l x with
 |none=>rw[q]at h;exact eV h
 |some k=>rw[q]at h;clear q;induction k<;>first |rfl |exact eV h
theorem xr {l:bc}{x:Str}(h:gT l x=true):bv l x=some .cell:=by
 unfold gT at h
 cases q:bv l x with
 |none=>rw[q]at h;exact eV h
 |some k=>rw[q]at h;clear q;induction k<;>first |rfl |exact eV h
theorem mj {l:bc}{x:Str}(h:dB l x=true):bW l x=true:=by
 unfold bW;rw[ng h]
section
variable {T:Type}
noncomputable def lW:List (Str×aO T)->List Str
 |[]=>[]
 |p::r=>match p.2 with | .own _=>p.1::lW r |_=>lW r
noncomputable def Oc (σ:az T)(x:Str):Option (aO T)->az T
 |none=>σ
 |some b=>match b with | .own l=>σ.set x (.val (.lst l)) |_=>σ
noncomputable def Pm (σ:az T)(x:Str):az T:=Oc σ x (σ.get x)
noncomputable def xJ (σ:az T):List Str->az T
 |[]=>σ
 |x::r=>xJ (Pm σ x) r
noncomputable def JC (σ:az T):List Str->List (az T)
 |[]=>[]
 |[x]=>[Pm σ x]
 |x::y::r=>(x::y::r).map (Pm σ)++[xJ σ (x::y::r)]
noncomputable def dW (σ:az T):List (az T):=σ::JC σ (lW σ.vs)
noncomputable def bA {α:Type}(f:az T->Option α):List (az T)->Option α
 |[]=>none
 | σ::r=>match f σ with |some a=>some a |none=>bA f r
theorem Of {α:Type}{f:az T->Option α}{σ:az T}{a:α}(h:f σ=some a)(r:List (az T)):bA f (σ::r)=some a:=by
 show(match f σ with |some a=>some a |none=>bA f r)=_;rw[h]
theorem Mm {α:Type}{f:az T->Option α}{σ:az T}(h:f σ=none)(r:List (az T)):bA f (σ::r)=bA f r:=by
 show(match f σ with |some a=>some a |none=>bA f r)=_;rw[h]
noncomputable def Nr:aO T->Bool | .flg _ _=>true |_=>false
noncomputable def u_:List (Str×aO T)->Bool
 |[]=>true
 |p::r=>!(Nr p.2)&&u_ r
noncomputable def si (m:Str):Bool:=gu m.cps.toList [97,112,112,101,110,100]
noncomputable def sw (nm:bc)(x:Str)(p vp:X7)(sc:YB):Bool:=dB nm x&&(p.line==vp.line)&&!(sc.names.any λ(n,k)=>n==x&&(k==.local||k==.cell))
noncomputable def DL:YW->Bool | .Add=>true |_=>false
theorem AL {o:YW}(h:DL o=true):o=.Add:=by induction o<;>first |rfl |exact eV h
noncomputable def Ij (o:YW)(a b:D):Option D:=gd (DL o) (match a with
 | .int a=>(un b).map λb=>.int (a+b)
 | .str x=>(BM b).bind λy=>gd (Wm (x.length+y.length) 1000000) (some (.str (x++y)))
 |_=>none)
noncomputable def mX:Expr->Bool | .List ..=>false | .ListComp ..=>false | .Attribute ..=>false |_=>true
noncomputable def tA:Expr->Bool | .Tuple ..=>false |_=>true
set_option genCtorIdx false in
inductive SV where
 |own (x:Str) (es:List Expr)
 |comp (x:Str) (p:X7) (elt:Expr) (g:V6) (gs:List V6) (sc:YB) (vp:X7)
 |app (x y a:Str)
 |val (x:Str) (v:Expr)
 |two (a:Str) (pa:X7) (b:Str) (pb:X7) (v1 v2:Expr)
 |tup (ts:List Expr) (k:Nat) (tp:X7) (v:Expr)
 |appd (x m:Str) (aE:X7) (e:Expr) (g_:X7)
 |appC (f:Str) (e:Expr)
 |aug (x:Str) (op:YW) (e:Expr)
 |ret (e:Expr)
 |brk
 |cont
 |pass
 |asrt (t:Expr)
 |no
noncomputable def Oq (x:Str)(p:X7)(v:Expr):SV:=match v with
 | .List es _=>.own x es
 | .ListComp elt gs sc vp=>match gs with |[]=>.no |g::gs=>.comp x p elt g gs sc vp
 | .Attribute e a _=>match e with | .Name y _=>.app x y a |_=>.no
 |v=>.val x v
noncomputable def MB (a:Str)(pa:X7)(r vs:List Expr):SV:=match r with
 |[]=>.no
 |e::r=>match e with
  | .Name b pb=>match r with
   |[]=>match vs with
    |[]=>.no
    |v1::vs=>match vs with
     |[]=>.no
     |v2::vs=>match vs with |[]=>.two a pa b pb v1 v2 |_::_=>.no
   |_::_=>.no
  |_=>.no
noncomputable def TH (ts vs:List Expr):SV:=match ts with
 |[]=>.no
 |e::r=>match e with | .Name a pa=>MB a pa r vs |_=>.no
noncomputable def PM (v:Expr):Expr->SV
 | .Name x p=>Oq x p v
 | .Tuple ts k tp=>match v with | .Tuple vs _ _=>TH ts vs |v=>.tup ts k tp v
 |_=>.no
noncomputable def U1 (e:Expr)(g_:X7):Expr->SV
 | .Attribute v m aE=>match v with | .Name x _=>.appd x m aE e g_ |_=>.no
 | .Name f _=>.appC f e
 |_=>.no
noncomputable def R9:Expr->SV
 | .Call f args kws g_=>match kws with
  |[]=>match args with
   |[]=>.no
   |e::r=>match r with |[]=>U1 e g_ f |_::_=>.no
  |_::_=>.no
 |_=>.no
noncomputable def sv:V9->SV
 | .Assign ts v _=>match ts with |[]=>.no |t::r=>match r with |[]=>PM v t |_::_=>.no
 | .Expr e _=>R9 e
 | .AugAssign t op e _=>match t with | .Name x _=>.aug x op e |_=>.no
 | .Return e _=>match e with |some e=>.ret e |none=>.no
 | .Break _=>.brk
 | .Continue _=>.cont
 | .Pass _=>.pass
 | .Assert t m _=>match m with |none=>.asrt t |some _=>.no
 |_=>.no
inductive rt:V9->SV->Prop
 |own {x p es q r}:rt (.Assign [.Name x p] (.List es q) r) (.own x es)
 |comp {x p elt g gs sc vp r}:rt (.Assign [.Name x p] (.ListComp elt (g::gs) sc vp) r) (.comp x p elt g gs sc vp)
 |app {x p y a q s r}:rt (.Assign [.Name x p] (.Attribute (.Name y q) a s) r) (.app x y a)
 |val {x p v r}:mX v=true->rt (.Assign [.Name x p] v r) (.val x v)
 |two {a pa b pb k tp v1 v2 k2 vp r}:rt (.Assign [.Tuple [.Name a pa,.Name b pb] k tp] (.Tuple [v1,v2] k2 vp) r) (.two a pa b pb v1 v2)
 |tup {ts k tp v r}:tA v=true->rt (.Assign [.Tuple ts k tp] v r) (.tup ts k tp v)
 |appd {x q m aE e g_ r}:rt (.Expr (.Call (.Attribute (.Name x q) m aE) [e] [] g_) r) (.appd x m aE e g_)
 |appC {f q e g_ r}:rt (.Expr (.Call (.Name f q) [e] [] g_) r) (.appC f e)
 |aug {x q op e r}:rt (.AugAssign (.Name x q) op e r) (.aug x op e)
 |ret {e r}:rt (.Return (some e) r) (.ret e)
 |brk {r}:rt (.Break r) .brk
 |cont {r}:rt (.Continue r) .cont
 |pass {r}:rt (.Pass r) .pass
 |asrt {t r}:rt (.Assert t none r) (.asrt t)
 |no {st}:rt st .no
theorem Nv (x:Str)(p:X7)(v:Expr)(r:X7):rt (.Assign [.Name x p] v r) (Oq x p v):=by
 delta x p v r;cases v with
 |List=>exact .own
 |ListComp elt gs sc vp=>induction gs<;>constructor
 |Attribute e a q=>cases e<;>constructor
 |_=>exact .val rfl
theorem Qs (a:Str)(pa:X7)(r vs:List Expr)(k:Nat)(tp:X7)(k2:Nat)(vp q:X7):rt (.Assign [.Tuple (.Name a pa::r) k tp] (.Tuple vs k2 vp) q) (MB a pa r vs):=by
 cases r with
 |nil=>constructor
 |cons e r =>
  cases e with
  |Name b pb =>
   induction r with
   |nil =>
    cases vs with
    |nil=>constructor
    |cons v1 vs =>
     cases vs with
     |nil=>constructor
     |cons v2 vs=>induction vs<;>constructor
   |cons=>constructor
  |_=>constructor
theorem No (ts:List Expr)(k:Nat)(tp:X7)(v:Expr)(q:X7):rt (.Assign [.Tuple ts k tp] v q) (PM v (.Tuple ts k tp)):=by
 cases v with
 |Tuple vs k2 vp =>
  induction ts with
  |nil=>constructor
  |cons e r =>
   cases e with
   |Name a pa=>exact Qs _ _ _ _ _ _ _ _ _
   |_=>constructor
 |_=>exact .tup rfl
theorem Qt (t v:Expr)(r:X7):rt (.Assign [t] v r) (PM v t):=by
 cases t with
 |Name x p=>exact Nv _ _ _ _
 |Tuple ts k tp=>exact No _ _ _ _ _
 |_=>constructor
theorem Qn (e:Expr)(r:X7):rt (.Expr e r) (R9 e):=by
 cases e with
 |Call f args kws g_ =>
  induction kws with
  |nil =>
   cases args with
   |nil=>constructor
   |cons e l =>
    induction l with
    |nil =>
     cases f with
     |Attribute v m aE=>cases v<;>constructor
     |_=>constructor
    |cons=>constructor
  |cons=>constructor
 |_=>constructor
theorem T_ (st:V9):rt st (sv st):=by
 cases st with
 |Assign ts v r =>
  induction ts with
  |nil=>constructor
  |cons t l =>
   induction l with
   |nil=>exact Qt _ _ _
   |cons=>constructor
 |Expr e r=>exact Qn _ _
 |AugAssign t op e r=>cases t<;>constructor
 |Return e r=>induction e<;>constructor
 |Assert t m r=>induction m<;>constructor
 |_=>constructor
noncomputable def GC:Option (aO T)->Option (List D) |some b=>(match b with | .own l=>some l |_=>none) |none=>none
theorem pH {b:Option (aO T)}{l:List D}(h:GC b=some l):b=some (.own l):=by
 induction b with
 |none=>exact bg h
 |some b=>induction b<;>first |exact bg h |exact congrArg (λd=>some (aO.own d)) (WS h)
noncomputable def Ov:Option (aO T)->Option Str |some b=>(match b with | .app l=>some l |_=>none) |none=>none
theorem EV {b:Option (aO T)}{l:Str}(h:Ov b=some l):b=some (.app l):=by
 induction b with
 |none=>exact bg h
 |some b=>induction b<;>first |exact bg h |exact congrArg (λd=>some (aO.app d)) (WS h)
noncomputable def I4:YW->Bool | .Add=>true |_=>false
theorem AK {o:YW}(h:I4 o=true):o=.Add:=by induction o<;>first |rfl |exact eV h
variable (aa:T->Str->List D->Option D)(Φ:b_)(N:Nat)
noncomputable def RS (σ:az T)(x:Str)(op:YW)(f:Option D):Option (aO T)->Rs T
 |some b=>match b with
  | .val old=>f.bind λv=>(Ij op old v).bind λd=>em d λd=>some (σ.set x (.val d),.next)
  | .own l=>gd (I4 op) (f.bind λv=>(Ps v).bind λl2=>gd (Wm (l.length+l2.length) 100000) (ij (l++l2) λl=>some (σ.set x (.own l),.next)))
  |_=>none
 |none=>none
noncomputable def Sg (σ:az T):SV->Rs T
 | .own x es=>gd (bW σ.nm x) (gd (Wm es.length 1000&&u_ σ.vs) ((k5 (λσ b e=>ev aa Φ N σ b e) σ es).bind λds=>ij ds λds=>some (σ.set x (.own ds),.next)))
 | .comp x p elt g gs sc vp=>gd (bW σ.nm x) (a_
   (gd (oe σ.nm sc&&jF (g::gs)) ((ev aa Φ N σ false g.iter).bind λd=>(cP d).bind λits =>
    (comp (λσ b e=>ev aa Φ N σ b e) elt (g::gs) (di sc σ) its).bind λl=>gd (Wm l.length 100000) (ij l λl=>some (σ.set x (.val (.lst l)),.next))))
   ((ev aa Φ N σ false (.ListComp elt (g::gs) sc vp)).bind λd=>em d λd=>some (σ.set x (.val d),.next)) (sw σ.nm x p vp sc))
 | .app x y a=>gd (bW σ.nm x) (gd (si a&&!(d4 x y)) ((GC (σ.get y)).bind λ_=>some (σ.set x (.app y),.next)))
 | .val x v=>gd (bW σ.nm x) ((ev aa Φ N σ false v).bind λd=>em d λd=>some (σ.set x (.val d),.next))
 | .two a pa b pb v1 v2=>a_
   ((ev aa Φ N σ false v1).bind λd1=>(ev aa Φ N σ false v2).bind λd2=>em d1 λd1=>em d2 λd2=>some ((σ.set b (.val d2)).set a (.val d1),.next))
   (gd (gT σ.nm a||gT σ.nm b) ((ev aa Φ N σ false v1).bind λd1=>(ev aa Φ N σ false v2).bind λd2=>em d1 λd1=>em d2 λd2=>(cw σ [.Name a pa,.Name b pb] [d1,d2]).map (·,.next)))
   (dB σ.nm a&&dB σ.nm b&&VW pb.line pa.line&&!(d4 a b)&&!(foldedForSure 8 v1&&foldedForSure 8 v2)&&!(constantsAlone 8 v1&&constantsAlone 8 v2))
 | .tup ts k tp v=>(ev aa Φ N σ false v).bind λd=>em d λd=>(bB σ (.Tuple ts k tp) d).map (·,.next)
 | .appd x m aE e g_=>gd (si m&&VW aE.endLine g_.line) ((GC (σ.get x)).bind λl=>(ev aa Φ N σ false e).bind λd=>gd (XW l.length 100000) (em d λd=>qu (l++[d]) λl=>some (σ.up x (.own l),.next)))
 | .appC f e=>(Ov (σ.get f)).bind λy=>(GC (σ.get y)).bind λl=>(ev aa Φ N σ false e).bind λd=>gd (XW l.length 100000) (em d λd=>qu (l++[d]) λl=>some (σ.up y (.own l),.next))
 | .aug x op e=>gd (bW σ.nm x) (RS σ x op (ev aa Φ N σ false e) (σ.get x))
 | .ret e=>(ev aa Φ N σ false e).bind λd=>em d λd=>some (σ,.ret d)
 | .brk=>some (σ,.brk)
 | .cont=>some (σ,.cont)
 | .pass=>some (σ,.next)
 | .asrt t=>(ev aa Φ N σ true t).bind λd=>(BN d).bind λb=>gd b (some (σ,.next))
 | .no=>none
noncomputable def bV (σ:az T)(st:V9):Rs T:=Sg aa Φ N σ (sv st)
noncomputable def JB (t:Expr)(σ:az T):Option (az T×Bool):=bA (λσ=>((ev aa Φ N σ true t).bind BN).map λc=>(σ,c)) (dW σ)
noncomputable def A1 (k:az T->Rs T)(r:az T×Fl):Rs T:=match r.2 with
 | .next=>k r.1
 | .cont=>k r.1
 | .brk=>some (r.1,.next)
 | .ret d=>some (r.1,.ret d)
noncomputable def de (rec:az T->List V9->Rs T)(t:Expr)(b:List V9):Nat->az T->Rs T
 |0,_=>none
 |m+1,σ=>(JB aa Φ N t σ).bind λr=>a_ ((rec r.1 b).bind (A1 λσ=>de rec t b m σ)) (some (r.1,.next)) r.2
noncomputable def iH (rec:az T->List V9->Rs T)(tg:Expr)(b:List V9)(σ:az T)(l:List D):Rs T:=match l with
 |[]=>some (σ,.next)
 |x::r=>(bB σ tg x).bind λσ=>kG σ λσ=>(rec σ b).bind (A1 λσ=>iH rec tg b σ r)
set_option genCtorIdx false in
inductive XV where
 |ite (t:Expr) (b o:List V9)
 |wh (t:Expr) (b:List V9)
 |fo (tg it:Expr) (b:List V9)
 |st (st:V9)
noncomputable def xv:V9->XV
 | .If t b o _=>.ite t b o
 | .While t b o p=>match o with |[]=>.wh t b |q::r=>.st (.While t b (q::r) p)
 | .For tg it b o p=>match o with |[]=>.fo tg it b |q::r=>.st (.For tg it b (q::r) p)
 |st=>.st st
inductive OI:V9->XV->Prop
 |ite {t b o p}:OI (.If t b o p) (.ite t b o)
 |wh {t b p}:OI (.While t b [] p) (.wh t b)
 |fo {tg it b p}:OI (.For tg it b [] p) (.fo tg it b)
 |st {st}:OI st (.st st)
theorem T9 (st:V9):OI st (xv st):=by
 cases st with
 |While t b o p=>induction o<;>constructor
 |For tg it b o p=>induction o<;>constructor
 |_=>constructor
noncomputable def S9 (rec:az T->List V9->Rs T)(σ:az T):XV->Rs T
 | .ite t b o=>(JB aa Φ N t σ).bind λr=>a_ (rec r.1 b) (rec r.1 o) r.2
 | .wh t b=>de aa Φ N rec t b N σ
 | .fo tg it b=>(bA (λσ=>(ev aa Φ N σ false it).map λd=>(σ,d)) (dW σ)).bind λr=>(cP r.2).bind λits=>iH rec tg b r.1 its
 | .st st=>bA (λσ=>bV aa Φ N σ st) (dW σ)
noncomputable def bQ (rec:az T->List V9->Rs T)(σ:az T)(st:V9):Rs T:=S9 aa Φ N rec σ (xv st)
noncomputable def yt (k:az T->Rs T)(r:az T×Fl):Rs T:=match r.2 with
 | .next=>kG r.1 k
 | .brk=>kG r.1 λσ=>some (σ,.brk)
 | .cont=>kG r.1 λσ=>some (σ,.cont)
 | .ret d=>some (r.1,.ret d)
noncomputable def eT (f:az T->V9->Rs T)(σ:az T)(l:List V9):Rs T:=match l with
 |[]=>some (σ,.next)
 |st::cC=>(f σ st).bind (yt λσ=>eT f σ cC)
noncomputable def aW:Nat->az T->List V9->Rs T
 |0,_,_=>none
 |n+1,σ,l=>eT (bQ aa Φ N (aW n)) σ l
end
section
variable {X:gJ}{af F F':Fz}{ae s s':VP}{env:Yq}{K:V4->Xi->Prop}{σ σ':az X.T}
structure cE (X:gJ)(af:Fz)(ae:VP)(env:Yq)(K:V4->Xi->Prop)(F:Fz)(σ:az X.T)(s:VP):Prop where
 t0:cV ae.heap
 g:aA af ae F s
 r:cW X ae.heap F env σ s.heap
 kk:∀a o,K a o->s.heap.get? a=some o/\F a=none/\ae.heap.get? a=none/\∃fs,o.data=.fields fs
theorem cE.grow (c:cE X af ae env K F σ s)(g:aA F s F' s'):cE X af ae env K F' σ s' where
 t0:=c.t0
 g:=c.g.trans g
 r:=c.r.grow g
 kk:=λa o q=>by obtain⟨h1,h2,h3,h4⟩:=c.kk a o q;exact⟨g.keep _ _ (c.t0.ne0 h3) h1,dh g h2 h1,h3,h4⟩
theorem cE.assign (c:cE X af ae env K F σ s){h':Wb}{tk:Nat}(kd:cq s.heap h')(fz:∀a o,F a=some o->h'.get? a=some o)(r:cW X ae.heap F env σ' h') :
  cE X af ae env K F σ' { s with heap:=h',toks:=tk } where
 t0:=c.t0
 g:=c.g.at r.base (kd.to c.r.tab) fz
 r:=r
 kk:=λa o q=>by
  obtain⟨h1,h2,h3,fs,h4⟩:=c.kk a o q;exact⟨kd.get _ _ (c.t0.ne0 h3) h1 (by rw[h4];exact id),h2,h3,fs,h4⟩
theorem cE.but (c:cE X af ae env K F σ s){b:V4}{ob:Xi}{fs:Array VQ}{h':Wb}{tk:Nat}(ed:s.heap.get? b=some ob)(hd:ob.data=.fields fs)(h0:ae.heap.get? b=none)(hF:F b=none)(hK:∀a o,K a o->a≠b)
  (e:WV b s.heap h'):cE X af ae env K F σ { s with heap:=h',toks:=tk } where
 t0:=c.t0
 g:=c.g.but h0 hF (c.t0.ne0 h0) e
 r:=c.r.but ed (by rw[hd];exact id) (by rw[hd];exact id) h0 hF (c.t0.ne0 h0) e (.inr ⟨fs,hd⟩)
 kk:=λa o q=>by obtain⟨h1,h2,h3,h4⟩:=c.kk a o q;exact⟨e _ _ (hK a o q) h1,h2,h3,h4⟩
theorem cE.less {K':V4->Xi->Prop}(c:cE X af ae env K F σ s)(h:∀a o,K' a o->K a o):cE X af ae env K' F σ s:=⟨c.t0,c.g,c.r,λa o q=>c.kk a o (h a o q)⟩
noncomputable def jM (vs:Array VQ)(n:Nat):Xi:={ cls:=.type "list",dict:=none,data:=.seq vs n,slots:=#[] }
theorem rT {o:Xi}{vs:Array VQ}{n:Nat}(hc:o.cls=.type "list")(hd:o.data=.seq vs n)(hz:o.dict=none/\o.slots=#[]):o=jM vs n:=by
 obtain⟨c,d,dt,sl⟩:=o;simp only at hc hd hz;obtain⟨h1,h2⟩:=hz;subst hc hd h1 h2;rfl
theorem cW.own {an h h':Wb}{x:Str}{l l':List D}{a:V4}{vs:Array VQ}{n:Nat}{o:Xi}{MA:Array VQ}{n0:Nat}(r:cW X an F env σ h)(hx:σ.get x=some (.own l))(va:aU env h x (.ref a))(ho:h.get? a=some o)(hd:o.data=.seq MA n0)
  (dM:h'.get? a=some (jM vs n)) (hl:al F vs.toList l') (hz:l'.length<=100000) (hs:Ws a h h'):cW X an F env (σ.up x (.own l')) h':=by
 revert r hx va ho hd dM hl hz hs;revert F env σ an h h' x l l' a vs n o MA n0;unfold X;exists F,env,σ,an,h,h',x,l,l',a,vs,n,o,MA,n0;intro r hx va ho hd dM hl hz hs;have nd:¬ dc o.data:=by rw[hd];exact id
 obtain⟨v0,Sa,a0,rfl,aF,Pu,_⟩:=r.vars x _ hx;have:=aU.unique va Sa;clear Sa;cases this;have vk:∀{y v},aU env h y v->aU env h' y v:=λq=>q.but ho nd hs.extBut
 have get:∀{y b},(σ.up x (.own l')).get y=some b->(y=x/\b=.own l')\/(y≠x/\σ.get y=some b):=λ{y b} q=>by
  rw[az.get_up]at q;by_cases e:y=x
  ·rw[if_pos e,hx]at q;clear r hx hl hz;cases q;exact .inl ⟨e,rfl⟩
  ·rw[if_neg e]at q;exact .inr ⟨e,q⟩
 exact{
  fe:=r.fe
  base:=λb p m q=>hs.extBut _ _ (by clear va ho dM hs aF;rintro rfl;exact bo Pu q) (r.base b p m q)
  tab:=r.tab.but hs.extBut (r.tab.neD ho (by rw[hd];intro fs q;clear hd;cases q))
  cd:=r.cd
  ns:=by
   obtain⟨m,n⟩:=r.ns;refine⟨m,n.sameBut hs ?_⟩;intro q;obtain⟨o',dM,eS⟩:=j_ n;rw[q,ho]at dM;clear ho hd;cases dM;exact nd eS
  lF:=r.lF
  l0:=r.l0
  glob:=r.glob
  cf:=r.cf
  cells:=λy c q=>by
   obtain⟨f,v,hc⟩:=r.cells y c q;have cS:c≠a:=by
    clear va aF Pu;rintro rfl;obtain⟨o',dM,eS⟩:=gX hc;obtain rfl:=cG ho dM;exact nd eS
   obtain⟨o',dM,eS⟩:=hc;exact⟨f,v,o',hs.extBut _ _ cS dM,eS⟩
  kx:=r.kx
  wr:=r.wr
  vars:=λy b q=>by
   rcases get q with⟨rfl,rfl⟩ |⟨cS,q⟩
   ·exact⟨_,vk va,a,rfl,aF,Pu,_,vs,n,dM,rfl,rfl,hl,hz,rfl,rfl⟩
   ·obtain⟨v,vy,rb⟩:=r.vars y b q
    refine⟨v,vk vy,?_⟩;induction b with
    |val d=>exact rb
    |dead=>trivial
    |app z =>
     obtain⟨b',a',o',e1,e2,e3,e4⟩:=rb;exact⟨b',a',o',e1,e2,e3,vk e4⟩
    |own l2 =>
     obtain⟨a2,e1,e2,e3,o2,ID,n2,nS,D4,D3,HH,Hz⟩:=rb;refine⟨a2,e1,e2,e3,o2,ID,n2,hs.extBut _ _ ?_ nS,D4,D3,HH,Hz⟩;clear ho dM hs aF Pu;rintro rfl;subst e1;exact cS (r.apart y x l2 l _ q hx vy va)
    |flg m t=>exact absurd hx (r.one y m t x l q)
  apart:=λy z l1 l2 b ey ez vy vz=>by
   have ER:∀{y l1},(σ.up x (.own l')).get y=some (.own l1)->∃l2,σ.get y=some (.own l2):=λ{y l1} q=>by
    clear va ey ez;rcases get q with⟨rfl,_⟩ |⟨_,q⟩
    ·exact⟨_,hx⟩
    ·exact⟨_,q⟩
   obtain⟨m1,e1⟩:=ER ey;obtain⟨m2,e2⟩:=ER ez;obtain⟨v1,w1,_⟩:=r.vars y _ e1;obtain⟨v2,w2,_⟩:=r.vars z _ e2;have q1:=aU.unique (vk w1) vy;have q2:=aU.unique (vk w2) vz;subst q1 q2;exact r.apart y z m1 m2 b e1 e2 w1 w2
  one:=λy m t z l2 ey ez=>by
   clear va ez;rcases get ey with⟨rfl,e⟩ |⟨_,ey⟩
   ·clear r hl hz hx get ey;cases e
   ·exact r.one y m t x l ey hx }
theorem cW.freeze {an h:Wb}{x:Str}{l:List D}(r:cW X an F env σ h)(hx:σ.get x=some (.own l)) :
  ∃a o vs n,F a=none/\an.get? a=none/\h.get? a=some o/\o.data=.seq vs n/\cW X an (F.set a o) env (σ.set x (.val (.lst l))) h:=by
 revert r hx;revert F env σ an h x l;unfold X;exists F,env,σ,an,h,x,l;intro r hx;obtain⟨v0,va,a,rfl,aF,a0,o,vs,n,ho,hc,hd,hl,hz,Hz⟩:=r.vars x _ hx;revert va aF a0 ho hc hd hl Hz;delta a o vs n;intro va aF a0 ho hc hd hl Hz;have nd:¬ dc o.data:=by rw[hd];exact id
 have le:F.le (F.set a o):=Fz.le_set (.inl aF);have ne:∀b,b≠a->F b=none->(F.set a o) b=none:=λb hb h=>by rw[F.set_ne _ hb];exact h
 refine⟨a,o,vs,n,aF,a0,ho,hd,?_⟩;exact{
  fe:=r.fe
  base:=r.base
  tab:=r.tab
  cd:=r.cd
  ns:=r.ns
  lF:=ne _ (by
   obtain⟨m,n⟩:=r.ns;intro q;obtain⟨o',dM,eS⟩:=j_ n;rw[q,ho]at dM;replace dM:=aJ dM;obtain rfl:=dM;exact nd eS) r.lF
  l0:=r.l0
  glob:=r.glob
  cf:=r.cf
  cells:=λy c q=>by
   obtain⟨f,v,hc⟩:=r.cells y c q;refine⟨ne _ ?_ f,v,hc⟩;clear va aF a0 le ne;rintro rfl;obtain⟨o',dM,eS⟩:=gX hc;replace dM:=cG ho dM;obtain rfl:=dM;exact nd eS
  kx:=r.kx
  wr:=r.wr
  vars:=λy b q=>by
   delta y b;intro q;rcases df q with⟨rfl,rfl⟩ |⟨cS,c,mo,rfl⟩
   ·exact⟨_,va,.lst (F.set_self _ _) hc hd (VX (by assumption) ⋯) (hl.mono le)⟩
   ·delta c;intro mo q;obtain⟨v,vy,rb⟩:1:=r.vars y c mo
    refine⟨v,vy,?_⟩;clear q;induction c with
    |val d=>exact aj.mono le rb
    |dead=>trivial
    |app z =>
     show jw X _ _ env _ _ _ (a_ .dead (.app z) (d4 z x))
     cases d4 z x with
     |true=>trivial
     |false =>
      obtain⟨b',a',o',n_⟩:=rb;exact⟨b',a',o',n_.1,le _ _ n_.2.1,n_.2.2.1,n_.2.2.2⟩
    |own l2 =>
     obtain⟨a2,e1,e2,e3,cC⟩:=rb;refine⟨a2,e1,ne _ ?_ e2,e3,?_⟩
     ·clear aF a0 ho le ne;rintro rfl
      subst e1;exact cS (r.apart y x l2 l _ mo hx vy va)
     ·obtain⟨o2,ID,n2,BQ⟩:=cC
      exact⟨o2,ID,n2,BQ.1,BQ.2.1,BQ.2.2.1,BQ.2.2.2.1.mono le,BQ.2.2.2.2⟩
    |flg m t=>exact absurd hx (r.one y m t x l mo)
  apart:=λy z l1 l2 b ey ez vy vz=>by
   rcases df ey with⟨_,e1⟩ |⟨_,c,hc,e1⟩
   ·clear r hx hz hl ey ez;cases e1
   ·rcases df ez with⟨_,e2⟩ |⟨_,c',mo,e2⟩
    ·clear r hx hz hl ey ez e1;cases e2
    ·have q1:=fV e1.symm
     have q2:=fV e2.symm;clear e1 e2;subst q1 q2;exact r.apart y z l1 l2 b hc mo vy vz
  one:=λy m t z l2 ey ez=>by
   rcases df ey with⟨_,e1⟩ |⟨_,c,hc,e1⟩
   ·clear r hx hz hl ey ez;cases e1
   ·have:=pW e1.symm
    clear e1;subst this;exact r.one y m t x l hc hx }
theorem cE.freeze {x:Str}{l:List D}(c:cE X af ae env K F σ s)(hx:σ.get x=some (.own l)):∃F',F.le F'/\cE X af ae env K F' (σ.set x (.val (.lst l))) s:=by
 revert c hx;revert af F ae s env K σ x l;unfold X;exists af,F,ae,s,env,K,σ,x,l;intro c hx;obtain⟨a,o,vs,n,aF,a0,ho,hd,r⟩:4:=c.r.freeze hx;refine⟨F.set a o,Fz.le_set (.inl aF),⟨c.t0,⟨Fz.le_trans c.g.fle (Fz.le_set (.inl aF)),c.g.keep,c.g.tab,λb p e=>?_,λb p e=>?_,c.g.gens,c.g.os⟩,r,λb p q=>?_⟩⟩
 ·by_cases q:b=a
  ·clear aF a0 r;subst q;rw[F.set_self]at e;replace e:=aJ e;obtain rfl:=e;exact ho
  ·rw[F.set_ne _ q]at e;exact c.g.fz _ _ e
 ·by_cases q:b=a
  ·clear aF ho r e;subst q;exact .inr a0
  ·rw[F.set_ne _ q]at e;exact c.g.fresh _ _ e
 ·obtain⟨h1,h2,h3,fs,h4⟩:=c.kk b p q
  refine⟨h1,?_,h3,fs,h4⟩;rw[F.set_ne _ ?_]
  ·exact h2
  ·clear aF a0 r;rintro rfl
   replace h1:=cG ho h1;clear q;obtain rfl:=h1;rw[h4]at hd;clear h4;cases hd
set_option tactic.hygienic true in
theorem cE.frz (x:Str)(c:cE X af ae env K F σ s):∃F',F.le F'/\cE X af ae env K F' (Pm σ x) s:=by
 show ∃F',F.le F'/\cE X af ae env K F' (Oc σ x (σ.get x)) s
 cases q:σ.get x with
 |none=>exact⟨F,F.le_refl,c⟩
 |some b =>
  cases b with
  |own l=>exact c.freeze q
  |_=>exact⟨F,F.le_refl,c⟩
theorem cE.frzAll (xs:List Str):∀(F:Fz) (σ:az X.T),cE X af ae env K F σ s->∃F',F.le F'/\cE X af ae env K F' (xJ σ xs) s:=by
 induction xs with
 |nil=>exact λF σ c=>⟨F,F.le_refl,c⟩
 |cons x r ih =>
  intro F σ c;obtain⟨F1,l1,c1⟩:=c.frz x;obtain⟨F2,l2,c2⟩:=ih F1 _ c1;exact⟨F2,Fz.le_trans l1 l2,c2⟩
theorem cE.tries (c:cE X af ae env K F σ s):∀σ'∈dW σ,∃F',F.le F'/\cE X af ae env K F' σ' s:=by
 revert c;revert af F ae s env K σ;unfold X;exists af,F,ae,s,env,K,σ;intro c;intro σ' hm;unfold Mine.dW at hm;rcases V2.mp hm with rfl |hm
 ·exact⟨F,F.le_refl,c⟩
 ·revert hm
  generalize lW σ.vs=l;intro hm
  cases l with
  |nil=>cases hm
  |cons x l =>
  cases l with
  |nil=>rw[WR.mp hm];exact c.frz _
  |cons y l =>
   rcases YK.mp hm with hm |hm
   ·obtain⟨x,_,rfl⟩:=Wz.mp hm;exact c.frz x
   ·rw[WR]at hm;subst hm;exact cE.frzAll _ F σ c
theorem vY {α:Type}{f:az X.T->Option α}{a:α}{l:List (az X.T)}(h:bA f l=some a):∃σ∈l,f σ=some a:=by
 induction l with
 |nil=>exact bg h
 |cons σ r ih =>
  have h:(match f σ with |some a=>some a |none=>bA f r)=some a:=h
  cases q:f σ with
  |some b=>rw[q]at h;exact⟨σ,VT,q.trans h⟩
  |none =>
   rw[q]at h;obtain⟨σ',hm,hf⟩:=ih h;exact⟨σ',VS _ hm,hf⟩
theorem cE.firstOf {α:Type}{f:az X.T->Option α}{a:α}(c:cE X af ae env K F σ s)(h:bA f (Mine.dW σ)=some a):∃F' σ',F.le F'/\cE X af ae env K F' σ' s/\f σ'=some a:=by
 obtain⟨σ',hm,hf⟩:=vY h;obtain⟨F',l,c'⟩:=c.tries σ' hm;exact⟨F',σ',l,c',hf⟩
theorem cE.push (c:cE X af ae env K F σ s)(o:Xi)(n:Nat)(hf:o.isFreed=false):cE X af ae env K (F.set s.heap.objs.size o) σ { s with heap:=s.heap.push o,toks:=n }:=c.grow (aA.push c.g.fz o n hf)
theorem As {vs:List (Str×aO X.T)}{y:Str}{m:Bool}{t:X.T}(h:u_ vs=true)(e:dD vs y=some (.flg m t)):False:=by
 induction vs with
 |nil=>exact bg e
 |cons p r ih =>
  obtain⟨h1,h2⟩:=VU.mp h;exact D8 e (λ_ q=>by rw[q]at h1;exact eV h1) (ih h2)
end
section
variable {ab:V8}{w:Wi}{X:gJ}{Φ:b_}{hb:Wb}{mg:Str->Option VQ}{k:Nat}{A:V7}{E:VQ->VP->Prop}{af F F':Fz}{ae s s':VP}{env:Yq}{K:V4->Xi->Prop}{σ σ':az X.T}{N:Nat}{Q:YF->VP->Prop}
noncomputable def jx (X:gJ)(af:Fz)(ae:VP)(env:Yq)(K:V4->Xi->Prop)(F:Fz)(σ':az X.T)(fl:Fl)(Q:YF->VP->Prop):Prop:=∀F' s' f,cE X af ae env K F' σ' s'->F.le F'->E7 F' fl f->Q f s'
theorem jx.mono {fl:Fl}(h:jx X af ae env K F σ' fl Q)(l:F.le F'):jx X af ae env K F' σ' fl Q:=λF2 s2 f c l2 o=>h F2 s2 f c (Fz.le_trans l l2) o
theorem FA {h:Wb}(r:cW X ae.heap F env σ h){x:Str}(hw:bW σ.nm x=true):(env.kindOf x==some Xn.local)=dB σ.nm x:=by
 rcases iE hw with q |q
 ·rw[(r.kx x).1 q];unfold dB;rw[q];rfl
 ·rw[(r.kx x).2 q];unfold dB;rw[q];rfl
theorem qN {h:Wb}(r:cW X ae.heap F env σ h):env.blockKind=.function:=by
 have:=r.fe.kind;unfold Yq.blockKind;simp[this,ScopeKind.isAnnotationScope]
theorem o4 {h:Wb}(r:cW X ae.heap F env σ h){x:Str}(hw:bW σ.nm x=true){elt:Expr}{gens:List V6}{sc:YB}{vp p:X7}{n:Nat}:swapsWith (.ListComp elt gens sc vp) (some (.Name x p)) n env=pure (sw σ.nm x p vp sc):=by
 unfold swapsWith sw;dsimp only;rw[FA r hw,qN r];rfl
theorem Am.at (am:Am A af ae)(c:cE X af ae env K F σ s):Am A F s:=am.grow c.g
theorem gN {x:Str}{v:VQ}{d:D}{Q:Unit->VP->Prop}(c:cE X af ae env K F σ s)(hw:bW σ.nm x=true)(hv:aj F v d)(h:∀s',cE X af ae env K F (σ.set x (.val d)) s'->Q () s'):wpAny (model ab w) A (storeName env x v) Q E s :=
 iw c.r hw hv λh' tk b ob gG ed oj hs b0 bF r'=>h _ (c.assign (cq.same ed oj hs) (λa o q=>hs.extBut a o (by clear gG ed hs b0;rintro rfl;exact bo bF q) (c.g.fz a o q)) r')
theorem rF (S:∀n,cR ab w X Φ hb k n/\eP ab w X Φ hb k n)(ag:Am A af ae)(lv:Lv A k)(ai:au hb af)(c:cE X af ae env K F σ s){x:Str}{p pos:X7}{v:Expr}{d:D}
  (AO:swapsWith v (some (.Name x p)) pos.line env=pure false) (hw:bW σ.nm x=true) (e:ev X.aa Φ N σ false v=some d) (h:jx X af ae env K F (σ.set x (.val d)) .next Q):wpAny (model ab w) A (exec (.Assign [.Name x p] v pos) env) Q E s:=by
 refine W2 ((S N).1 A E F s env ae.heap σ v d _ e (ag.at c) lv (ai.grow c.g.fle) c.r λvv F1 s1 g1 hv=>?_) AO;have c1:=c.grow g1;exact gN c1 hw hv λs' c'=>h F1 s' .next c' g1.fle .next
theorem FU (S:∀n,cR ab w X Φ hb k n/\eP ab w X Φ hb k n)(ag:Am A af ae)(lv:Lv A k)(ai:au hb af)(c:cE X af ae env K F σ s){x:Str}{p pos vp:X7}{elt:Expr}{g:V6}{gs:List V6}{sc:YB}{d:D}{its l:List D}
  (AO:sw σ.nm x p vp sc=true) (hw:bW σ.nm x=true) (Fj:oe σ.nm sc=true) (wG:jF (g::gs)=true) (e1:ev X.aa Φ N σ false g.iter=some d) (e2:cP d=some its)
  (e3:comp (λσ b e=>ev X.aa Φ N σ b e) elt (g::gs) (di sc σ) its=some l) (hz:l.length<=100000) (h:jx X af ae env K F (σ.set x (.val (.lst l))) .next Q) :
  wpAny (model ab w) A (exec (.Assign [.Name x p] (.ListComp elt (g::gs) sc vp) pos) env) Q E s:=by
 refine mT (S N).1 (S N).2 (by rw[o4 c.r hw,AO]) hw Fj wG e1 e2 e3 hz (ag.at c) lv (ai.grow c.g.fle) c.r λF' h' s' g fz hb kd r tk=>?_
 refine h F' _ .next ⟨c.t0,⟨Fz.le_trans c.g.fle g.fle,r.base,c.g.tab.trans (kd.to c.r.tab),fz,(c.g.trans g).fresh,g.gens.trans c.g.gens,g.os.trans c.g.os⟩,r,λa o q=>?_⟩ g.fle .next;obtain⟨h1,h2,h3,fs,h4⟩:=c.kk a o q;exact⟨kd.get _ _ (c.t0.ne0 h3) h1 (by rw[h4];exact id),dh g h2 h1,h3,fs,h4⟩
theorem JO (S:∀n,cR ab w X Φ hb k n/\eP ab w X Φ hb k n)(ag:Am A af ae)(lv:Lv A k)(ai:au hb af)(c:cE X af ae env K F σ s){x:Str}{p pos vp:X7}{es:List Expr}{ds:List D}
  (hw:bW σ.nm x=true) (hf:u_ σ.vs=true) (hz:es.length<=1000) (e:k5 (λσ b e=>ev X.aa Φ N σ b e) σ es=some ds) (h:jx X af ae env K F (σ.set x (.own ds)) .next Q) :
  wpAny (model ab w) A (exec (.Assign [.Name x p] (.List es vp) pos) env) Q E s:=by
 have dC:=lB e;refine W2 (wpAny_List (lS (S N).1 es ds F s vp _ e (ag.at c) lv (ai.grow c.g.fle) c.r λvs F1 s1 g1 fn=>⟨by rw[fn.length,du];lia,?_⟩)) (by rfl);have c1:=c.grow g1;have g2:aA F1 s1 F1 { s1 with heap:=s1.heap.push (jM vs.toArray 0),toks:=s1.toks }:=aA.push0 c1.g.fz _ _;have c2:=c1.grow g2;have aF:F1 s1.heap.objs.size=none:=nG c1.g.fz;have a0:ae.heap.get? s1.heap.objs.size=none:=c1.g.noneAt (bu _);refine fx (bd:=.own ds) c2.r hw ⟨s1.heap.objs.size,rfl,aF,a0,jM vs.toArray 0,vs.toArray,0,Wc _ rfl,rfl,rfl,by simpa using fn,by lia,rfl,rfl⟩ (λ_ q=>by clear S c hw hf e h dC fn c1 c2;cases q) (λl q=>⟨λm t y q'=>As hf q',λy l' a hy hq hv vy=>?_⟩) (λ_ _ q=>by clear S c hw hf e h dC fn c1 c2;cases q)
  λh' tk b ob gG ed oj hs b0 bF r'=>?_
 ·clear g1 c2 aF a0;cases hv
  obtain⟨u,vu,a',rfl,_,_,o,_,_,ho,_⟩:=c1.r.vars y _ hq;have:=aU.unique (vu.grow c1.r.tab g2.ext) vy;clear c1 g2 vy vu;cases this;exact absurd (Wy ho) (X4 _)
 ·exact h F1 _ .next (c2.assign (cq.same ed oj hs) (λa o q=>hs.extBut a o (by clear gG ed hs b0;rintro rfl;exact bo bF q) (c2.g.fz a o q)) r') g1.fle .next
theorem JQ (ag:Am A af ae)(c:cE X af ae env K F σ s){x y:Str}{p pos vp yp:X7}{m:Str}{l:List D}(hw:bW σ.nm x=true)(hm:si m=true)(cS:d4 x y=false)(hy:σ.get y=some (.own l))
  (h:jx X af ae env K F (σ.set x (.app y)) .next Q):wpAny (model ab w) A (exec (.Assign [.Name x p] (.Attribute (.Name y yp) m vp) pos) env) Q E s:=by
 revert ag c hw hm cS hy h;revert ab w A E af F ae s env K σ Q x y p pos vp yp m l;unfold X;exists ab,w,A,E,af,F,ae,s,env,K,σ,Q,x,y,p,pos,vp,yp,m,l;intro ag c hw hm cS hy h;have O8:m= "append" :=by
  have h1:=ce.mp hm;have h2:(VN "append").cps.toList=[97,112,112,101,110,100]:=by decide +kernel
  clear hm;induction m;show Str.mk _=VN "append";rw[<- h2]at h1;exact congrArg Str.mk (X6.mp h1)
 subst O8;obtain⟨v,va,a,rfl,aF,a0,o,vs,n,ho,hc,hd,hl,hz,Hz⟩:=c.r.vars y _ hy;revert va aF a0 ho hc hd hl Hz;delta a o vs n;intro va aF a0 ho hc hd hl Hz;have dM:=rT hc hd Hz;clear hc hd Hz;subst dM;refine W2 ?_ (by rfl);refine Attribute_name (bL c.r va (wx ho ?_));have c1:=c.push (hE a) (s.toks+1) rfl;have gg:=aA.push c.g.fz (hE a) (s.toks+1) rfl;refine fx (bd:=.app y) c1.r hw ⟨_,a,hE a,rfl,F.set_self _ _,rfl,va.grow c.r.tab gg.ext⟩ (λz q=>by
   clear c hw hy h va c1;cases q;intro e;subst e;rw[bl.mpr rfl]at cS;cases cS) (λ_ q=>by clear c hw cS hy h va c1;cases q) (λ_ _ q=>by clear c hw cS hy h va c1;cases q) λh' tk b ob gG ed oj hs b0 bF r'=>?_
 exact h _ _ .next (c1.assign (cq.same ed oj hs) (λa o q=>hs.extBut a o (by clear gG ed hs b0;rintro rfl;exact bo bF q) (c1.g.fz a o q)) r') gg.fle .next
end
theorem DJ {m:Str}(hm:si m=true):m= "append" :=by
 have h1:=ce.mp hm;have h2:(VN "append").cps.toList=[97,112,112,101,110,100]:=by decide +kernel
 induction m;show Str.mk _=VN "append";rw[<- h2]at h1;exact congrArg Str.mk (X6.mp h1)
theorem Cy {T:Type}(x:Str)(b b':aO T)(vs:List (Str×aO T)):oc (Fd vs x b') x b=oc vs x b:=by
 induction vs with
 |nil=>rfl
 |cons p r ih =>
  show oc (a_ ((p.1,b')::r) (p::Fd r x b') (d4 p.1 x)) x b=a_ ((p.1,b)::nO x r) ((p.1,jQ x p.2)::oc r x b) (d4 p.1 x)
  cases q:d4 p.1 x with
  |true=>exact congrArg (a_ _ _) q
  |false =>
   refine(congrArg (a_ ((p.1,b)::nO x (Fd r x b')) ((p.1,jQ x p.2)::oc (Fd r x b') x b)) q).trans ?_;exact congrArg _ ih
theorem Jz {T:Type}{σ:az T}{x:Str}{b b':aO T}:(σ.up x b').set x b=σ.set x b:=by
 show az.mk _ (oc (Fd σ.vs x b') x b)=az.mk _ (oc σ.vs x b);rw[Cy];rfl
section
variable {ab:V8}{w:Wi}{X:gJ}{Φ:b_}{hb:Wb}{mg:Str->Option VQ}{k:Nat}{A:V7}{E:VQ->VP->Prop}{af F F':Fz}{ae s s':VP}{env:Yq}{K:V4->Xi->Prop}{σ σ':az X.T}{N:Nat}{Q:YF->VP->Prop}
theorem dY {h:Wb}(r:cW X ae.heap F env σ h):interactive env=false:=by
 unfold interactive;rw[r.fe.kind];rfl
theorem cE.own {x:Str}{l l':List D}{a:V4}{vs MA:Array VQ}{n n0:Nat}{h':Wb}(c:cE X af ae env K F σ s)(hx:σ.get x=some (.own l))(va:aU env s.heap x (.ref a))(ho:s.heap.get? a=some (jM MA n0))(aF:F a=none)(a0:ae.heap.get? a=none)
  (dM:h'.get? a=some (jM vs n)) (hl:al F vs.toList l') (hz:l'.length<=100000) (hs:Ws a s.heap h'):cE X af ae env K F (σ.up x (.own l')) { s with heap:=h' } where
 t0:=c.t0
 g:=c.g.but a0 aF (c.t0.ne0 a0) hs.extBut
 r:=c.r.own hx va ho rfl dM hl hz hs
 kk:=λb o q=>by
  obtain⟨h1,h2,h3,fs,h4⟩:=c.kk b o q;refine⟨hs.extBut _ _ ?_ h1,h2,h3,fs,h4⟩;clear va aF a0 dM hs;rintro rfl;clear q;obtain rfl:=cG h1 ho;clear ho h1;cases h4
theorem tu (c:cE X af ae env K F σ s){x:Str}{l:List D}(hx:σ.get x=some (.own l)):∃a vs n,aU env s.heap x (.ref a)/\F a=none/\ae.heap.get? a=none/\s.heap.get? a=some (jM vs n)/\al F vs.toList l/\l.length<=100000:=by
 revert c hx;revert af F ae s env K σ x l;unfold X;exists af,F,ae,s,env,K,σ,x,l;intro c hx;obtain⟨v,va,a,rfl,aF,a0,o,vs,n,cn⟩:=c.r.vars x _ hx;have:=rT cn.2.1 cn.2.2.1 cn.2.2.2.2.2;subst this;exact⟨a,vs,n,va,aF,a0,cn.1,cn.2.2.2.1,cn.2.2.2.2.1⟩
theorem zD (S:∀n,cR ab w X Φ hb k n/\eP ab w X Φ hb k n)(ag:Am A af ae)(lv:Lv A k)(ai:au hb af)(c:cE X af ae env K F σ s){x m:Str}{xp aE g_ pos:X7}{e:Expr}{d:D}{l:List D}
  (hm:(si m&&VW aE.endLine g_.line)=true) (hx:σ.get x=some (.own l)) (he:ev X.aa Φ N σ false e=some d) (hz:l.length<100000) (h:jx X af ae env K F (σ.up x (.own (l++[d]))) .next Q) :
  wpAny (model ab w) A (exec (.Expr (.Call (.Attribute (.Name x xp) m aE) [e] [] g_) pos) env) Q E s:=by
 rw[V3]at hm;have xE:=DJ hm.1;subst xE;obtain⟨a,vs,n,va,aF,a0,ho,hl,Mb⟩:=tu c hx;have yV:k5 (λσ b e=>ev X.aa Φ N σ b e) σ [e]=some [d]:=Ev he;refine Y0 ?_ (dY c.r) (by rfl);refine iY (S N).1 rfl (by rw[hm.2];rfl) yV (ag.at c) lv (ai.grow c.g.fle) c.r (bL c.r va ⟨F,aA.refl c.g.fz,.builtin "list.append",[.ref a],λpl Q' hq=>Calls.getMethod_list_append ho rfl rfl hq,λh hh=>⟨.machine,.inr (.inl rfl),W0 rfl⟩,λTD F' s' g fn=>?_⟩)
 cases fn with
 |cons hv hn =>
  obtain rfl:=hn.nil_inv;have BE:=g.keep _ _ (c.t0.ne0 a0) ho;refine append_at (its:=vs) (n:=n) BE (λh' hs nS=>?_) (by
   have:=hl.length;simp only[WA]at this;rw[du];lia)
  refine h F' _ .next ((c.grow g).own hx (va.grow c.r.tab g.ext) BE (dh g aF ho) a0 (n:=n+1) nS ?_ ?_ hs) g.fle .next
  ·rw[YQ];exact(hl.mono g.fle).append (.cons hv .nil)
  ·simp only[V1,We];lia
theorem wM (S:∀n,cR ab w X Φ hb k n/\eP ab w X Φ hb k n)(ag:Am A af ae)(lv:Lv A k)(ai:au hb af)(c:cE X af ae env K F σ s){f y:Str}{fp g_ pos:X7}{e:Expr}{d:D}{l:List D}
  (hf:σ.get f=some (.app y)) (hy:σ.get y=some (.own l)) (he:ev X.aa Φ N σ false e=some d) (hz:l.length<100000) (h:jx X af ae env K F (σ.up y (.own (l++[d]))) .next Q) :
  wpAny (model ab w) A (exec (.Expr (.Call (.Name f fp) [e] [] g_) pos) env) Q E s:=by
 obtain⟨v,vf,b,a,o,rfl,fb,rfl,va⟩:=c.r.vars f _ hf;obtain⟨a',vs,n,II,aF,a0,ho,hl,Mb⟩:=tu c hy;have:=aU.unique va II;clear II;cases this;have yV:k5 (λσ b e=>ev X.aa Φ N σ b e) σ [e]=some [d]:=Ev he;refine Y0 ?_ (dY c.r) (by rfl);refine Ze (bL c.r vf ?_);refine gq (S N).1 (P:=λh=>h.get? b=some (hE a)) yV (ag.at c) lv (ai.grow c.g.fle) c.r (λh hq=>⟨.machine,.inr (.inl rfl),(Looks.ld (part:=none) hq).andThen (W0 rfl)⟩) λTD F' s' g fn=>⟨g.fz _ _ (g.fle _ _ fb),?_⟩
 clear he yV;cases fn with
 |cons hv hn =>
  obtain rfl:=hn.nil_inv;have BE:=g.keep _ _ (c.t0.ne0 a0) ho;show wpAny _ A (call (.ref b) [_]) _ E s';refine uo (items:=vs) (n:=n) (g.fz _ _ (g.fle _ _ fb)) BE (by
   have:=hl.length;simp only[WA]at this;rw[du];lia) (λh' n' nS hs=>?_)
  refine h F' _ .next ((c.grow g).own hy (va.grow c.r.tab g.ext) BE (dh g aF ho) a0 (n:=n') nS ?_ ?_ hs) g.fle .next
  ·rw[YQ];exact(hl.mono g.fle).append (.cons hv .nil)
  ·simp only[V1,We];lia
theorem FV (S:∀n,cR ab w X Φ hb k n/\eP ab w X Φ hb k n)(ag:Am A af ae)(lv:Lv A k)(ai:au hb af)(c:cE X af ae env K F σ s){x:Str}{xp pos:X7}{op:YW}{e:Expr}{old v d:D}
  (hw:bW σ.nm x=true) (hx:σ.get x=some (.val old)) (he:ev X.aa Φ N σ false e=some v) (ha:Ij op old v=some d) (h:jx X af ae env K F (σ.set x (.val d)) .next Q) :
  wpAny (model ab w) A (exec (.AugAssign (.Name x xp) op e pos) env) Q E s:=by
 revert S ag lv ai c hw hx he ha h;revert ab w Φ hb k A E af F ae s env K σ N Q x xp pos op e old v d;unfold X;exists ab,w,Φ,hb,k,A,E,af,F,ae,s,env,K,σ,N,Q,x,xp,pos,op,e,old,v,d;intro S ag lv ai c hw hx he ha h;obtain⟨v0,va,O2⟩:1:=c.r.vars x _ hx;delta v0;intro va O2;refine wpAny_AugAssign_Name (oG c.r.fe va ((S N).1 A E F s env ae.heap σ e v _ he (ag.at c) lv (ai.grow c.g.fle) c.r ?_));exists v1,F1,s1;intro g1 uz;have c1:=c.grow g1;have KS:=aj.mono g1.fle O2;refine ip ha λho za=>?_
 clear ha;obtain rfl:=AL ho
 cases old with
 |int a =>
  refine gt za λb eb zb=>?_
  obtain rfl:=dR eb;rw[<- zb]at h;clear va O2;obtain⟨_,rfl⟩:=KS.int_inv;obtain⟨_,rfl⟩:=uz.int_inv;refine PyProof.Rows.iadd_int ?_;exact gN (c1.grow (aA.toks c1.g.fz (s1.toks+1))) hw (.int _ _) λs' c'=>h F1 s' .next c' g1.fle .next
 |str x =>
  refine bt za λy eb zb=>ip zb λhz zc=>?_
  obtain rfl:=eH eb;have zd:=aJ zc;rw[<- zd]at h;have hz:=V0 hz;clear va O2;obtain⟨t1,rfl,k1,z1⟩:=KS.str3;clear he KS;cases uz with
  |str _ t2 k2 z2 =>
   refine SB.iadd (λt' kk=>?_) (by rw[du];lia);exact gN (c1.grow (aA.toks c1.g.fz kk)) hw (.str _ _ (eW k1 k2) (by rw[bK];exact hz)) λs' c'=>h F1 s' .next c' g1.fle .next
 |_=>exact bg za
set_option tactic.hygienic true in
theorem FW (S:∀n,cR ab w X Φ hb k n/\eP ab w X Φ hb k n)(ag:Am A af ae)(lv:Lv A k)(ai:au hb af)(c:cE X af ae env K F σ s){x:Str}{xp pos:X7}{e:Expr}{l l2:List D}
  (hw:bW σ.nm x=true) (hx:σ.get x=some (.own l)) (he:ev X.aa Φ N σ false e=some (.lst l2)) (hz:l.length+l2.length<=100000) (h:jx X af ae env K F (σ.set x (.own (l++l2))) .next Q) :
  wpAny (model ab w) A (exec (.AugAssign (.Name x xp) .Add e pos) env) Q E s:=by
 revert S ag lv ai c hw hx he hz h;revert ab w Φ hb k A E af F ae s env K σ N Q x xp pos e l l2;unfold X;exists ab,w,Φ,hb,k,A,E,af,F,ae,s,env,K,σ,N,Q,x,xp,pos,e,l,l2;intro S ag lv ai c hw hx he hz h;obtain⟨a,vs,n,va,aF,a0,ho,hl,Mb⟩:=tu c hx;delta a vs n;intro va aF a0 ho hl;refine wpAny_AugAssign_Name (oG c.r.fe va ((S N).1 A E F s env ae.heap σ e _ _ he (ag.at c) lv (ai.grow c.g.fle) c.r λv1 F1 s1 g1 uz=>?_));delta v1 F1 s1;intro g1 uz;have c1:=c.grow g1;obtain⟨_,_,_,_,rfl,b1,b2,b3,b4,b5⟩:=uz.lst_inv;rename_i b o2 ws n2;delta b o2 ws n2;intro uz b1 b2 b3 b5;obtain⟨cc,dd,dt,sl⟩:=o2;delta cc dd dt sl;intro b1 b2 b3;simp only at b2 b3;subst b2 b3;have BE:=g1.keep _ _ (c.t0.ne0 a0) ho;have L1:=hl.length;have L2:=b5.length;simp only[WA]at L1 L2;refine Az BE (c1.g.fz _ _ b1) (by lia) λh' n' nS hs=>?_
 delta h' n';intro nS hs;have NL:h'.get? a=some (jM (vs++ws) n'):=nS;have aY:=hs;have cr:=c1.own hx (va.grow c.r.tab g1.ext) BE (dh g1 aF ho) a0 (l':=l++l2) NL (by rw[Ys];exact(hl.mono g1.fle).append b5) (by rw[V1];exact hz) hs;have Ny:(σ.up x (.own (l++l2))).get x=some (.own (l++l2)):=by rw[az.get_up,if_pos rfl,hx];rfl
 obtain⟨a2,ID,Sk,qX⟩:=tu cr Ny;delta a2 ID Sk;intro qX;have Sx:aU env h' x (.ref a):=(va.grow c.r.tab g1.ext).but BE (by exact id) hs.extBut;have:=aU.unique Sx qX.1;clear va aF a0 ho BE nS hs NL aY Sx;cases this;rw[<- Jz (b':=.own (l++l2))]at h;refine fx (bd:=.own (l++l2)) cr.r hw ⟨a,rfl,qX.2.1,qX.2.2.1,_,ID,Sk,qX.2.2.2.1,rfl,rfl,qX.2.2.2.2.1,qX.2.2.2.2.2,rfl,rfl⟩ (λ_ q=>by clear S c hw hx he hz h hl Mb c1 uz b4 b5 L1 L2 cr Ny qX;cases q) (λl' q=>⟨λm t y q'=>cr.r.one y m t x _ q' |>λf=>f Ny,λy VD b hy hq hv vy=>?_⟩) (λ_ _ q=>by clear S c hw hx he hz h hl Mb c1 uz b4 b5 L1 L2 cr Ny qX;cases q)
  λLd tk b ob gG ed oj tV b0 bF r'=>?_
 ·cases hv
  exact hy (cr.r.apart y x _ _ _ hq Ny vy qX.1)
 ·exact h F1 _ .next (cr.assign (cq.same ed oj tV) (λp o q=>tV.extBut p o (by clear gG ed tV b0;rintro rfl;exact bo bF q) (cr.g.fz p o q)) r') g1.fle .next
end
set_option backward.match.sparseCases true
section
variable {ab:V8}{w:Wi}{X:gJ}{Φ:b_}{hb:Wb}{mg:Str->Option VQ}{k:Nat}{A:V7}{E:VQ->VP->Prop}{af F F':Fz}{ae s s':VP}{env:Yq}{K:V4->Xi->Prop}{σ σ':az X.T}{N:Nat}{Q:YF->VP->Prop}
theorem iW (ts:List Expr)(kk:Nat)(tp:X7)(v:Expr)(n:Nat)(env:Yq):swapsWithSole [.Tuple ts kk tp] v n env=pure false:=by
 cases v<;>rfl
theorem uP (S:∀n,cR ab w X Φ hb k n/\eP ab w X Φ hb k n)(ag:Am A af ae)(lv:Lv A k)(ai:au hb af)(c:cE X af ae env K F σ s){ts:List Expr}{kk:Nat}{tp pos:X7}{v:Expr}{d:D}
  (AO:swappedStores [.Tuple ts kk tp] v env=pure none) (he:wpAny (model ab w) A (eval v env) (λv aR=>∃nE,aA F s nE aR/\aj nE v d) E s) (gn:bB σ (.Tuple ts kk tp) d=some σ') (h:jx X af ae env K F σ' .next Q) :
  wpAny (model ab w) A (exec (.Assign [.Tuple ts kk tp] v pos) env) Q E s:=by
 refine Assign_Tuple (Wk he (λvv aR gh=>?_) λ_ _ x=>x) (iW ..) AO;obtain⟨nE,g,hv⟩:=gh;have c1:=c.grow g;exact k_ (ag.at c1) gn c1.r hv λh' tk kd fz r'=>h nE _ .next (c1.assign kd fz r') g.fle .next
theorem Oi (S:∀n,cR ab w X Φ hb k n/\eP ab w X Φ hb k n)(ag:Am A af ae)(lv:Lv A k)(ai:au hb af)(c:cE X af ae env K F σ s){v:Expr}{d:D}(e:ev X.aa Φ N σ false v=some d) :
  wpAny (model ab w) A (eval v env) (λv aR=>∃nE,aA F s nE aR/\aj nE v d) E s :=
 (S N).1 A E F s env ae.heap σ v d _ e (ag.at c) lv (ai.grow c.g.fle) c.r λvv F1 s1 g1 hv=>⟨F1,g1,hv⟩
noncomputable def xf:Expr->Bool
 | .Starred ..=>true
 |_=>false
noncomputable def TJ (a b:Str)(bk:ScopeKind)(st pa pb ff ca:Bool):Sem (Option (List Str)):=do
 if !((2:Nat)==2||(2:Nat)==3)||(2:Nat) !=2||bk !=.function then return none
 if st then return none
 let names:=match(if pa then some a else none)with
  |none=>(match(if pb then some b else none)with |none=>[] |some y=>[y])
  |some x=>x::(match(if pb then some b else none)with |none=>[] |some y=>[y])
 if names.length !=2||names.eraseDups.length !=names.length then return none
 if ff then return none
 if ca then unsupported "assign.tuple-of-constant-expressions:order-of-the-stores"
 return some names
theorem rB (env:Yq){a b:Str}{pa pb tp vp:X7}{kk k2:Nat}{v1 v2:Expr}:swappedStores [.Tuple [.Name a pa,.Name b pb] kk tp] (.Tuple [v1,v2] k2 vp) env =
  TJ a b env.blockKind (xf v1||(xf v2||false)) (env.kindOf a==some .local&&pa.line==pa.line) (env.kindOf b==some .local&&pb.line==pa.line) (foldedForSure 8 v1&&(foldedForSure 8 v2&&true)) (constantsAlone 8 v1&&(constantsAlone 8 v2&&true)):=by kernel_rfl
theorem nL (r:cW X ae.heap F env σ s.heap){a b:Str}{pa pb tp vp:X7}{kk k2:Nat}{v1 v2:Expr}(n1:xf v1=false)(n2:xf v2=false)
  (hc:(dB σ.nm a&&dB σ.nm b&&VW pb.line pa.line&&!(d4 a b)&&!(foldedForSure 8 v1&&foldedForSure 8 v2)&&!(constantsAlone 8 v1&&constantsAlone 8 v2))=true) :
  swappedStores [.Tuple [.Name a pa,.Name b pb] kk tp] (.Tuple [v1,v2] k2 vp) env=pure (some [a,b]):=by
 revert r n1 n2 hc;revert F ae s env σ a b pa pb tp vp kk k2 v1 v2;unfold X;exists F,ae,s,env,σ,a,b,pa,pb,tp,vp,kk,k2,v1,v2;intro r n1 n2 hc;simp only[V3,Wv]at hc;obtain⟨⟨⟨⟨⟨la,lb⟩,hl⟩,hab⟩,hf⟩,hk⟩:=hc;have ka:env.kindOf a=some .local:=by
  exact(r.kx a).1 (ng la)
 have kb:env.kindOf b=some .local:=by
  exact(r.kx b).1 (ng lb)
 have Rn:a≠b:=by clear lb;rintro rfl;rw[bl.mpr rfl]at hab;cases hab
 have UE:pb.line=pa.line:=V_ hl;have BI:([a,b]:List Str).eraseDups=[a,b]:=by
  have:(b==a)=false:=beq_eq_false_iff_ne.mpr (W6 Rn);simp[List.eraseDups_cons,this]
 rw[rB,qN r,n1,n2,ka,kb,UE,Y_,Y_,hf,hk];have e1:(some Xn.local==some Xn.local&&pa.line==pa.line)=true:=by simp
 rw[e1];show(if(([a,b]:List Str).length !=2||([a,b]:List Str).eraseDups.length !=([a,b]:List Str).length)=true then _ else _)=_;rw[BI];rfl
theorem lO (r:cW X ae.heap F env σ s.heap){a b:Str}{pa pb tp vp:X7}{kk k2:Nat}{v1 v2:Expr}(n1:xf v1=false)(n2:xf v2=false)
  (hc:(gT σ.nm a||gT σ.nm b)=true) :
  swappedStores [.Tuple [.Name a pa,.Name b pb] kk tp] (.Tuple [v1,v2] k2 vp) env=pure none:=by
 have hk:∀x,gT σ.nm x=true->env.kindOf x=some .cell:=λx hx=>by
  exact(r.kx x).2 (xr hx)
 rw[rB,qN r,n1,n2];rw[Wt]at hc;rcases hc with hc |hc
 ·rw[hk a hc]
  have e1:(some XH==some Xn.local&&pa.line==pa.line)=false:=rfl;rw[e1]
  cases(env.kindOf b==some Xn.local&&pb.line==pa.line)<;>rfl
 ·rw[hk b hc]
  have e1:(some XH==some Xn.local&&pb.line==pa.line)=false:=rfl;rw[e1]
  cases(env.kindOf a==some Xn.local&&pa.line==pa.line)<;>rfl
theorem dH {T:Type}{aa:T->Str->List D->Option D}{Φ:b_}{n:Nat}{σ:az T}{e:Expr}{d:D}(h:ev aa Φ n σ false e=some d):xf e=false:=by
 cases e<;>try rfl
 exfalso;induction n<;>cases h
set_option tactic.hygienic true in
theorem JM (S:∀n,cR ab w X Φ hb k n/\eP ab w X Φ hb k n)(ag:Am A af ae)(lv:Lv A k)(ai:au hb af)(c:cE X af ae env K F σ s){a b:Str}{pa pb tp vp pos:X7}{kk k2:Nat}{v1 v2:Expr}{d1 d2:D}
  (hc:(dB σ.nm a&&dB σ.nm b&&VW pb.line pa.line&&!(d4 a b)&&!(foldedForSure 8 v1&&foldedForSure 8 v2)&&!(constantsAlone 8 v1&&constantsAlone 8 v2))=true)
  (e1:ev X.aa Φ N σ false v1=some d1) (e2:ev X.aa Φ N σ false v2=some d2) (h:jx X af ae env K F ((σ.set b (.val d2)).set a (.val d1)) .next Q) :
  wpAny (model ab w) A (exec (.Assign [.Tuple [.Name a pa,.Name b pb] kk tp] (.Tuple [v1,v2] k2 vp) pos) env) Q E s:=by
 revert S ag lv ai c hc e1 e2 h;revert ab w Φ hb k A E af F ae s env K σ N Q a b pa pb tp vp pos kk k2 v1 v2 d1 d2;unfold X;exists ab,w,Φ,hb,k,A,E,af,F,ae,s,env,K,σ,N,Q,a,b,pa,pb,tp,vp,pos,kk,k2,v1,v2,d1,d2;intro S ag lv ai c hc e1 e2 h;have hL:=hc;simp only[V3]at hL;have wa:bW σ.nm a=true:=by
  have:=hL.1.1.1.1.1;exact mj this
 have wb:bW σ.nm b=true:=by
  have:=hL.1.1.1.1.2;exact mj this
 have yV:k5 (λσ b e=>ev X.aa Φ N σ b e) σ [v1,v2]=some [d1,d2]:=Bh e1 e2;refine Assign_Tuple_swapped (names:=[a,b]) ?_ (iW ..) (nL c.r (dH e1) (dH e2) hc);refine oF (S N).1 yV (by simp) (ag.at c) lv (ai.grow c.g.fle) c.r ?_;exists vv,F1,s1;intro g1 hv;have c1:=c.grow g1;obtain⟨t,vs,rfl,ht,hr,_,hsz⟩:=hv.isTup c1.g.fz;delta t vs;intro hv ht hr hsz;have KW:([a,b]:List Str).length=vs.size:=by rw[hsz];rfl
 rw[KW];refine unpackItems_tuple ag.hh ht ?_;exists h';intro he;have keep:∀b o,s1.heap.get? b=some o->h'.get? b=some o:=λb o eb=>he b o (XI (Wy eb)) eb
 have c2:=c1.grow (aA.keeps c1.g.fz keep s1.toks)
 cases HE:vs.toList with
 |nil=>rw[HE]at hr;cases hr
 |cons u1 us =>
  delta u1 us;intro HE;rw[HE]at hr
  cases hr with
  |cons h1 h2 =>
   cases h2 with
   |cons h2 h3 =>
    cases h3;rename_i u2;delta u2;intro h2 HE;show wpAny _ A (holding [u1] (bindName env b u2) >>=λ_=>assignInOrder [λv=>bindName env a v] [u1]) _ E _;refine VO (Wq (wpAny_bindName (gN c2 wb h2 λs3 c3=>?_)));show wpAny _ A (holding [] (bindName env a u1) >>=λ_=>assignInOrder [] []) _ E _;refine VO (Wq (wpAny_bindName (gN c3 wa h1 λs4 c4=>?_)));exact VR (h F1 s4 .next c4 g1.fle .next)
end
set_option backward.match.sparseCases false
section
variable {ab:V8}{w:Wi}{X:gJ}{Φ:b_}{hb:Wb}{mg:Str->Option VQ}{k:Nat}{A:V7}{E:VQ->VP->Prop}{af F F':Fz}{ae s s':VP}{env:Yq}{K:V4->Xi->Prop}{σ σ':az X.T}{N:Nat}{Q:YF->VP->Prop}
theorem uL {v:Expr}{x:Str}{p:X7}{n:Nat}{env:Yq}(h:mX v=true)(d:D){T:Type}{aa:T->Str->List D->Option D}{Φ:b_}{N:Nat}{σ:az T}(e:ev aa Φ N σ false v=some d) :
  swapsWith v (some (.Name x p)) n env=pure false:=by
 cases v<;>try rfl
 ·exact eV h
 ·induction N<;>exact bg e
 ·induction N<;>exact bg e
theorem zr {ts:List Expr}{kk:Nat}{tp:X7}{v:Expr}{env:Yq}(h:tA v=true):swappedStores [.Tuple ts kk tp] v env=pure none:=by
 cases v<;>try rfl
 exact eV h
theorem BW {d:D}{k:D->Rs X.T}{r:az X.T×Fl}(e:em d k=some r):k d=some r:=(bO d k).symm.trans e
theorem PB {d:List D}{k:List D->Rs X.T}{r:az X.T×Fl}(e:ij d k=some r):k d=some r:=(eM d k).symm.trans e
theorem Sb {d:List D}{k:List D->Rs X.T}{r:az X.T×Fl}(e:qu d k=some r):k d=some r:=(np d k).symm.trans e
theorem wQ (S:∀n,cR ab w X Φ hb k n/\eP ab w X Φ hb k n)(ag:Am A af ae)(lv:Lv A k)(ai:au hb af)(c:cE X af ae env K F σ s){st:V9}{fl:Fl}(e:bV X.aa Φ N σ st=some (σ',fl))(h:jx X af ae env K F σ' fl Q) :
  wpAny (model ab w) A (exec st env) Q E s:=by
 revert S ag lv ai c e h;revert ab w Φ hb k A E af F ae s env K σ σ' N Q st fl;unfold X;exists ab,w,Φ,hb,k,A,E,af,F,ae,s,env,K,σ,σ',N,Q,st,fl;intro S ag lv ai c e h;replace e:Sg X.aa Φ N σ (sv st)=some (σ',fl):=e;have hv:=T_ st;generalize sv st=q at e hv;revert e;induction hv with
 |own =>
  delta x p es q_1 r;intro e;refine ip e λhw e=>ip e λhc e=>bt e ?_
  exists ds;intro e1 e;obtain⟨rfl,rfl⟩:=cJ (PB e);have hc:=VU.mp hc;exact JO S ag lv ai c hw hc.2 (V0 hc.1) e1 h
 |@comp x p elt g gs sc vp r =>
  delta x p elt g gs sc vp r;intro e;refine ip e λhw e=>?_
  cases AO:sw σ.nm x p vp sc with
  |true =>
   rw[AO]at e;refine ip e λhc e=>bt e λd e1 e=>bt e λits e2 e=>bt e λl e3 e=>ip e λhz e=>?_
   obtain⟨rfl,rfl⟩:=cJ (PB e);have hc:=VU.mp hc;exact FU S ag lv ai c AO hw hc.1 hc.2 e1 e2 e3 (V0 hz) h
  |false =>
   rw[AO]at e;refine bt e ?_;exists d;intro e1 e;obtain⟨rfl,rfl⟩:=cJ (BW e);exact rF S ag lv ai c (by rw[o4 c.r hw,AO]) hw e1 h
 |app =>
  delta x p y a q_1 s_1 r;intro e;refine ip e λhw e=>ip e λhc e=>bt e λl hy e=>?_
  delta l;intro hy;obtain⟨rfl,rfl⟩:=cJ e;have hc:=VU.mp hc;exact JQ ag c hw hc.1 ((Wv _).mp hc.2) (pH hy) h
 |val hp =>
  delta x p v r;intro hp;intro e;refine ip e λhw e=>bt e ?_
  exists d;intro e1 e;obtain⟨rfl,rfl⟩:=cJ (BW e);exact rF S ag lv ai c (uL hp d e1) hw e1 h
 |@two a pa b pb kk tp v1 v2 k2 vp r =>
  delta a pa b pb kk tp v1 v2 k2 vp r;intro e;generalize hc:(dB σ.nm a&&dB σ.nm b&&VW pb.line pa.line&&!(d4 a b)&&!(foldedForSure 8 v1&&foldedForSure 8 v2)&&!(constantsAlone 8 v1&&constantsAlone 8 v2))=cc;delta cc;intro hc;have e:a_ _ _ (dB σ.nm a&&dB σ.nm b&&VW pb.line pa.line&&!(d4 a b)&&!(foldedForSure 8 v1&&foldedForSure 8 v2)&&!(constantsAlone 8 v1&&constantsAlone 8 v2))=_:=e;rw[hc]at e;induction cc with
  |true =>
   refine bt e λd1 e1 e=>bt e λd2 e2 e=>?_
   obtain⟨rfl,rfl⟩:=cJ (BW (BW e));exact JM S ag lv ai c hc e1 e2 h
  |false =>
   refine ip e λnU e=>bt e λd1 e1 e=>bt e λd2 e2 e=>?_
   refine gt (BW (BW e)) λiT e3 e=>?_
   delta iT;intro e3 e;obtain⟨rfl,rfl⟩:=Prod.mk.inj e;have yV:k5 (λσ b e=>ev X.aa Φ N σ b e) σ [v1,v2]=some [d1,d2]:=Bh e1 e2;refine uP S ag lv ai c (lO c.r (dH e1) (dH e2) nU) (d:=.tup [d1,d2]) ?_ e3 h;exact oF (S N).1 yV (show 2<=1000000 by decide) (ag.at c) lv (ai.grow c.g.fle) c.r λvv F1 s1 g1 hv=>⟨F1,g1,hv⟩
 |tup nt =>
  delta ts k_1 tp v r;intro nt;intro e;refine bt e λd e1 e=>gt (BW e) λiT e3 e=>?_
  obtain⟨rfl,rfl⟩:=Prod.mk.inj e;exact uP S ag lv ai c (zr nt) (Oi S ag lv ai c e1) e3 h
 |appd =>
  delta x q_1 m aE e g_ r;intro e;refine ip e λhm e=>bt e λl hx e=>bt e λd e1 e=>ip e λhz e=>?_
  obtain⟨rfl,rfl⟩:=cJ (Sb (BW e));exact zD S ag lv ai c hm (pH hx) e1 (V0 hz) h
 |appC =>
  delta f q_1 e g_ r;intro e;refine bt e λy hf e=>bt e λl hy e=>bt e λd e1 e=>ip e λhz e=>?_
  obtain⟨rfl,rfl⟩:=cJ (Sb (BW e));exact wM S ag lv ai c (EV hf) (pH hy) e1 (V0 hz) h
 |@aug x xq op ee r =>
  delta x xq op ee r;intro e;refine ip e λhw e=>?_
  generalize hx:σ.get x=o at e;delta o;intro hx e;induction o with
  |none=>exact bg e
  |some o =>
   delta o;intro hx e;induction o with
   |val old =>
    delta old;intro hx e;refine bt e λv e1 e=>bt e λd e2 e=>?_
    obtain⟨rfl,rfl⟩:=cJ (BW e);exact FV S ag lv ai c hw hx e1 e2 h
   |own l =>
    delta l;intro hx e;refine ip e λho e=>bt e λv e1 e=>bt e λl2 e2 e=>ip e λhz e9=>?_
    obtain rfl:=AK ho;obtain rfl:=um e2;obtain⟨rfl,rfl⟩:=cJ (PB e9);exact FW S ag lv ai c hw hx e1 (V0 hz) h
   |_=>exact bg e
 |ret =>
  delta e r;intro e;refine bt e ?_;exists d;intro e1 e;obtain⟨rfl,rfl⟩:=cJ (BW e);exact wpAny_Return_some ((S N).1 A E F s env ae.heap σ _ d _ e1 (ag.at c) lv (ai.grow c.g.fle) c.r λvv F1 s1 g1 hv=>h F1 s1 _ (c.grow g1) g1.fle (.ret hv))
 |brk =>
  intro e;obtain⟨rfl,rfl⟩:=cJ e;exact wpAny_Break (h F s _ c F.le_refl .brk)
 |cont =>
  delta r;intro e;obtain⟨rfl,rfl⟩:=cJ e;exact wpAny_Continue (h F s _ c F.le_refl .cont)
 |pass =>
  intro e;obtain⟨rfl,rfl⟩:=cJ e;exact wpAny_Pass (h F s _ c F.le_refl .next)
 |asrt =>
  delta t r;intro e;refine bt e λd e1 e=>bt e λb e2 e=>ip e λhb e=>?_
  obtain⟨rfl,rfl⟩:=cJ e;obtain rfl:=gx e2;clear e2;subst hb;exact wpAny_Assert_holds ((S N).2 A E F s env ae.heap σ _ true _ e1 (ag.at c) lv (ai.grow c.g.fle) c.r λF1 s1 g1=>⟨rfl,h F1 s1 _ (c.grow g1) g1.fle .next⟩)
 |no=>intro e;exact bg e
end
section
variable {ab:V8}{w:Wi}{X:gJ}{Φ:b_}{hb:Wb}{mg:Str->Option VQ}{k:Nat}{A:V7}{af F F':Fz}{ae s s':VP}{env:Yq}{K:V4->Xi->Prop}{σ σ':az X.T}{N:Nat}
noncomputable def ya (ab:V8)(w:Wi)(X:gJ)(A:V7)(af:Fz)(ae:VP)(env:Yq)(f:az X.T->List V9->Rs X.T):Prop :=
 ∀(E:VQ->VP->Prop) (K:V4->Xi->Prop) (F:Fz) (σ σ':az X.T) (s:VP) (l:List V9) (fl:Fl) (Q:YF->VP->Prop),f σ l=some (σ',fl)->cE X af ae env K F σ s->jx X af ae env K F σ' fl Q->wpAny (model ab w) A (execs l env) Q E s
noncomputable def OE (ab:V8)(w:Wi)(X:gJ)(A:V7)(af:Fz)(ae:VP)(env:Yq)(f:az X.T->V9->Rs X.T):Prop :=
 ∀(E:VQ->VP->Prop) (K:V4->Xi->Prop) (F:Fz) (σ σ':az X.T) (s:VP) (st:V9) (fl:Fl) (Q:YF->VP->Prop),f σ st=some (σ',fl)->cE X af ae env K F σ s->jx X af ae env K F σ' fl Q->wpAny (model ab w) A (exec st env) Q E s
theorem FH {σ:az X.T}{k:az X.T->Rs X.T}{r:az X.T×Fl}(e:kG σ k=some r):k σ=some r:=(gU σ k).symm.trans e
theorem ta {f:az X.T->V9->Rs X.T}(S:OE ab w X A af ae env f):ya ab w X A af ae env (eT f):=by
 revert S;revert ab w A af ae env f;unfold X;exists ab,w,A,af,ae,env,f;intro S;exists E,K,F,σ,σ',s,l;induction l generalizing F σ s with
 |nil =>
  intro fl Q e c h;replace e:=cJ e;obtain⟨rfl,rfl⟩:=e;exact Zb (h F s .next c F.le_refl .next)
 |cons st cC ih =>
  revert ih;delta st cC F σ s;intro ih;intro fl Q e c h;delta fl Q;intro e h;refine bt e ?_;exists p;intro e1 e2;obtain⟨σ1,S6⟩:=p;delta σ1 S6;intro e1 e2;refine wpAny_execs_cons (S E K F σ σ1 s st S6 _ e1 c ?_);exists F1,s1,f1;intro c1 l1 o1;clear e1;induction o1 with
  |next=>exact ih F1 σ1 s1 fl Q (FH (k:=λσ=>eT f σ cC) e2) c1 (h.mono l1)
  |brk=>replace e2:=cJ (FH (k:=λσ=>some (σ,Fl.brk)) e2);clear ih e;obtain⟨rfl,rfl⟩:=e2;exact h F1 s1 _ c1 l1 .brk
  |cont=>replace e2:=cJ (FH (k:=λσ=>some (σ,Fl.cont)) e2);clear ih e;obtain⟨rfl,rfl⟩:=e2;exact h F1 s1 _ c1 l1 .cont
  |ret hv=>replace e2:=cJ e2;clear ih e;obtain⟨rfl,rfl⟩:=e2;exact h F1 s1 _ c1 l1 (.ret hv)
theorem yi (S:∀n,cR ab w X Φ hb k n/\eP ab w X Φ hb k n)(ag:Am A af ae)(lv:Lv A k)(ai:au hb af){E:VQ->VP->Prop}{t:Expr}{b:Bool}{Q:Bool->VP->Prop}(c:cE X af ae env K F σ s)(e:JB X.aa Φ N t σ=some (σ',b))
  (h:∀F' s',cE X af ae env K F' σ' s'->F.le F'->Q b s'):wpAny (model ab w) A (isTrue t env (eval t env)) Q E s:=by
 obtain⟨F1,σ1,l1,c1,e1⟩:=c.firstOf e;refine gt e1 λb' e2 e1=>bt e2 λd e2 e3=>?_
 cases gx e3;clear c e e3;cases e1;exact(S N).2 A E F1 s env ae.heap _ t b _ e2 (ag.at c1) lv (ai.grow c1.g.fle) c1.r λF2 s2 g2=>h F2 s2 (c1.grow g2) (Fz.le_trans l1 g2.fle)
theorem zK (S:∀n,cR ab w X Φ hb k n/\eP ab w X Φ hb k n)(ag:Am A af ae)(lv:Lv A k)(ai:au hb af){rec:az X.T->List V9->Rs X.T}(R:ya ab w X A af ae env rec){t:Expr}{b:List V9} :
  ∀(m:Nat) (E:VQ->VP->Prop) (K:V4->Xi->Prop) (F:Fz) (σ σ':az X.T) (s:VP) (fl:Fl) (Q:YF->VP->Prop),de X.aa Φ N rec t b m σ=some (σ',fl)->cE X af ae env K F σ s->jx X af ae env K F σ' fl Q ->codeAny (model ab w) A (.whileLoop t b [] env) (λr s'=>match r with | .ok f=>Q f s' | .error e=>cameBackBy (model ab w) A env E e s') s:=by
 revert S ag lv ai R;revert ab w Φ hb k A af ae env N rec t b;unfold X;exists ab,w,Φ,hb,k,A,af,ae,env,N,rec,t,b;intro S ag lv ai R;exists m,E,K,F,σ,σ',s,fl,Q;intro e c h;refine codeAny_whileLoop (λm s=>∃F1 σ1,de X.aa Φ N rec t b m σ1=some (σ',fl)/\cE X af ae env K F1 σ1 s/\F.le F1) (λm s hI=>?_) m ⟨F,σ,e,c,F.le_refl⟩;delta m s;intro hI;obtain⟨F1,σ1,e1,c1,l1⟩:2:=hI
 cases m with
 |zero=>exact bg e1
 |succ m =>
  delta m;intro e1;refine bt e1 ?_;exists p;intro e2 e3;obtain⟨iT,bb⟩:=p;delta iT bb;intro e2 e3;refine yi S ag lv ai c1 e2 ?_;exists F3,s3;intro c3 l3;clear e2;induction bb with
  |false =>
   replace e3:=cJ e3;clear e e1;obtain⟨rfl,rfl⟩:=e3;exact Zb (h F3 s3 .next c3 (Fz.le_trans l1 l3) .next)
  |true =>
   refine bt e3 ?_;exists p;intro e4 e5;obtain⟨Fs,Jn⟩:=p;delta Fs Jn;intro e4 e5;refine R _ K F3 iT Fs s3 b Jn _ e4 c3 ?_;exists F5,s5,f5;intro c5 l5 o5;have ll:=Fz.le_trans (Fz.le_trans l1 l3) l5;clear e4 l5;induction o5 with
   |next=>exact⟨m,WE m,F5,Fs,e5,c5,ll⟩
   |cont=>exact⟨m,WE m,F5,Fs,e5,c5,ll⟩
   |brk=>replace e5:=cJ e5;clear e e1 e3;obtain⟨rfl,rfl⟩:=e5;exact h F5 s5 .next c5 ll .next
   |ret hv=>replace e5:=cJ e5;clear e e1 e3;obtain⟨rfl,rfl⟩:=e5;exact h F5 s5 _ c5 ll (.ret hv)
theorem Gd (ag:Am A af ae){rec:az X.T->List V9->Rs X.T}(R:ya ab w X A af ae env rec){tg:Expr}{b:List V9}{items:List D}{I:V4}
  (E:VQ->VP->Prop) (K:V4->Xi->Prop) (F:Fz) (σ σ':az X.T) (s:VP) (fl:Fl) (Q:YF->VP->Prop) (e:iH rec tg b σ items=some (σ',fl)) (c:cE X af ae env K F σ s) (it:f_ F s.heap I items 0) (fI:F I=none) (I0:ae.heap.get? I=none) (hK:∀a o,K a o->a≠I)
  (h:jx X af ae env K F σ' fl Q):codeAny (model ab w) A (.forLoop tg (.ref I) b [] env) (λr s'=>match r with | .ok f=>Q f s' | .error e=>cameBackBy (model ab w) A env E e s') s:=by
 revert ag R e c it fI I0 hK h;revert ab w A af ae env rec tg b items I E K F σ σ' s fl Q;unfold X;exists ab,w,A,af,ae,env,rec,tg,b,items,I,E,K,F,σ,σ',s,fl,Q;intro ag R e c it fI I0 hK h;refine codeAny_forLoop_any (λm s=>∃F1 σ1 i,m=items.length - i+1/\iH rec tg b σ1 (items.drop i)=some (σ',fl)/\cE X af ae env K F1 σ1 s/\F.le F1/\f_ F1 s.heap I items i/\F1 I=none) (λm s hI=>?_) (items.length+1) ⟨F,σ,0,rfl,e,c,F.le_refl,it,fI⟩;delta m s;intro hI;obtain⟨F1,σ1,i,rfl,e1,c1,l1,Qm,Og⟩:=hI;delta F1 σ1 i;intro e1 c1 l1 Qm Og;obtain⟨ob,fs,ed,qk⟩:2:=Qm.obj;refine lR (ag.at c1) Og Qm (λd v h' tk hd hv mJ hs=>?_) λh' hn he=>?_
 ·delta d v h' tk;intro hd hv mJ hs;have hi:=(Wd.mp hd).1
  have fX:items.drop i=d::items.drop (i+1):=by
   replace hd:=Wd.mp hd;obtain⟨hi,rfl⟩:=hd;exact WW hi
  rw[fX]at e1;delta v h' tk;intro hv mJ hs;refine bt e1 λiT e2 e3=>bt (FH e3) λp e4 e5=>?_
  revert e2 e3 e4 e5;delta iT p;intro e2 e3 e4 e5;obtain⟨Fs,Jn⟩:=p;delta Fs Jn;intro e4 e5;have c2:=c1.but (tk:=tk) ed qk I0 Og hK hs.extBut;refine rI mJ ?_;refine k_ (ag.at c2) e2 c2.r hv ?_;exists h2,oD;intro kd fz r';have c3:=c2.assign (tk:=oD) kd fz r';obtain⟨GJ,Pk,qj,BJ⟩:2:=mJ.obj;have DV:h2.get? I=some GJ:=kd.get _ _ (c.t0.ne0 I0) qj (by rw[BJ];exact id);have KA:f_ F1 h2 I items (i+1):=mJ.at (λo ho=>by replace ho:=cG qj ho;obtain rfl:=ho;exact DV) F1.le_refl;refine R _ (λa o=>K a o\/(a=I/\o=GJ)) F1 iT Fs _ b Jn _ e4 ⟨c3.t0,c3.g,c3.r,λa o q=>?_⟩ λF5 s5 f5 c5 l5 o5=>?_
  ·rcases q with q |⟨rfl,rfl⟩
   ·exact c3.kk a o q
   ·exact⟨DV,Og,I0,Pk,BJ⟩
  ·delta F5 s5 f5;intro c5 l5 o5;obtain⟨k1,k2,k3,k4⟩:=c5.kk I GJ (.inr ⟨rfl,rfl⟩)
   have Sp:f_ F5 s5.heap I items (i+1):=KA.at (λo ho=>by replace ho:=cG DV ho;obtain rfl:=ho;exact k1) l5;have Pp:=c5.less (K':=K) λa o q=>.inl q
   have ll:=Fz.le_trans l1 l5;clear e4 c5 l5;induction o5 with
   |next=>exact⟨_,by exact Nat.succ_lt_succ (Nat.sub_succ_lt_self _ _ ‹_›),F5,Fs,i+1,rfl,e5,Pp,ll,Sp,k2⟩
   |cont=>exact⟨_,by exact Nat.succ_lt_succ (Nat.sub_succ_lt_self _ _ ‹_›),F5,Fs,i+1,rfl,e5,Pp,ll,Sp,k2⟩
   |brk=>replace e5:=cJ e5;clear e e1 e3;obtain⟨rfl,rfl⟩:=e5;exact h F5 s5 .next Pp ll .next
   |ret hv=>replace e5:=cJ e5;clear e e1 e3;obtain⟨rfl,rfl⟩:=e5;exact h F5 s5 _ Pp ll (.ret hv)
 ·have:items.drop i=[]:=Xo.mpr (by simpa using hn)
  rw[this]at e1;replace e1:=cJ e1;clear e;obtain⟨rfl,rfl⟩:=e1;exact Zb (h F1 _ .next (c1.but (tk:=s.toks) ed qk I0 Og hK he) l1 .next)
theorem ko (S:∀n,cR ab w X Φ hb k n/\eP ab w X Φ hb k n)(ag:Am A af ae)(lv:Lv A k)(ai:au hb af){rec:az X.T->List V9->Rs X.T}(R:ya ab w X A af ae env rec):OE ab w X A af ae env (bQ X.aa Φ N rec):=by
 revert S ag lv ai R;revert ab w Φ hb k A af ae env N rec;unfold X;exists ab,w,Φ,hb,k,A,af,ae,env,N,rec;intro S ag lv ai R;exists E,K,F,σ,σ',s,st,fl,Q;intro e c h;replace e:S9 X.aa Φ N rec σ (xv st)=some (σ',fl):=e;have hv:=T9 st;generalize xv st=q at e hv;revert e
 cases hv with
 |@ite t b o p =>
  intro e;refine bt e λp e1 e2=>?_
  obtain⟨σ1,bb⟩:=p;refine wpAny_If (yi S ag lv ai c e1 λF1 s1 c1 l1=>?_);clear e1;induction bb with
  |true=>exact R E K F1 σ1 σ' s1 b fl Q e2 c1 (h.mono l1)
  |false=>exact R E K F1 σ1 σ' s1 o fl Q e2 c1 (h.mono l1)
 |wh=>intro e;exact wpAny_While (zK S ag lv ai R N E K F σ σ' s fl Q e c h)
 |@fo tg it b p =>
  delta tg it b p;intro e;refine bt e λp e1 e2=>bt e2 λits e3 e4=>?_
  revert e1 e2 e3 e4;delta p its;intro e1 e2 e3 e4;obtain⟨F1,Tl,Fa⟩:2:=c.firstOf e1;refine gt Fa.2.2 ?_;exists d';intro e6 e7;clear c e e1 e2;induction e7;refine wpAny_For ((S N).1 A E F1 s env ae.heap _ it _ _ e6 (ag.at Fa.2.1) lv (ai.grow Fa.2.1.g.fle) Fa.2.1.r λvv F2 s2 g2 hv=>?_) (kH e6 env);have c2:=Fa.2.1.grow g2;refine lT (ag.at c2) hv e3 λI s3 g3 fI I0 mJ=>?_
  have c3:=c2.grow g3;refine Gd ag R E K F2 _ σ' s3 fl Q e4 c3 mJ fI ?_ (λa o q=>?_) (h.mono (Fz.le_trans Fa.1 g2.fle))
  ·exact c2.g.noneAt I0
  ·clear fI mJ;rintro rfl
   exact bo I0 (c2.kk a o q).1
 |st =>
  intro e;obtain⟨F1,σ1,Fa⟩:=c.firstOf (f:=λσ=>bV X.aa Φ N σ st) e;exact wQ S ag lv ai Fa.2.1 Fa.2.2 (h.mono Fa.1)
theorem km (S:∀n,cR ab w X Φ hb k n/\eP ab w X Φ hb k n)(ag:Am A af ae)(lv:Lv A k)(ai:au hb af):∀n,ya ab w X A af ae env (aW X.aa Φ N n)
 |0=>λE K F σ σ' s l fl Q e=>(by exact bg e)
 |n+1=>ta (ko S ag lv ai (km S ag lv ai n))
end
set_option backward.match.sparseCases true
noncomputable def cz {T:Type}(xs:List Str)(ds:List D):List (Str×aO T):=match xs with
 |[]=>[]
 |x::xs=>match ds with |[]=>[] |d::ds=>(x,.val d)::cz xs ds
noncomputable def CV (x:Str):List Str->Bool
 |[]=>true
 |y::r=>!(d4 y x)&&CV x r
noncomputable def x9:List Str->Bool
 |[]=>true
 |x::r=>CV x r&&x9 r
noncomputable def vV (names:bc)(xs:List Str):Bool:=j9 names&&pC names&&m0 names&&xs.all (bW names)&&x9 xs
theorem rU {x:Str}{l:List Str}(h:CV x l=true):x∉l:=by
 induction l with
 |nil=>exact Wf
 |cons y r ih =>
  obtain⟨h1,h2⟩:=VU.mp h;intro hm;rcases V2.mp hm with e |e
  ·clear h hm;subst e;rw[bl.mpr rfl]at h1;exact eV h1
  ·exact ih h2 e
theorem pK {x:Str}{l:bc}(h:m0 l=true):(x,W_)∉l:=by
 induction l with
 |nil=>exact Wf
 |cons p r ih =>
  obtain⟨h1,h2⟩:=VU.mp h;intro hm;rcases V2.mp hm with e |e
  ·clear h hm;subst e;exact eV h1
  ·exact ih h2 e
theorem wl {kf:Str->Option Xn}{x:Str}(xs:List Str):∀(vs:List VQ) (m:Str->Option VQ),x∉xs->bindL kf (xs.zip vs) m x=m x:=by
 induction xs with
 |nil=>exact λ_ _ _=>rfl
 |cons y xs ih =>
  intro vs m h;induction vs with
  |nil=>rfl
  |cons v vs =>
   rw[Zg,bindL,ih vs _ λq=>h (VS _ q)];by_cases q:kf y=some .local
   ·rw[if_pos q];exact if_neg (show x≠y from λq=>h (q▸VT))
   ·rw[if_neg q]
theorem wm {kf:Str->Option Xn}{x:Str}(xs:List Str):∀(vs:List VQ) (m:Str->Option VQ),x∉xs->bindC kf (xs.zip vs) m x=m x:=by
 induction xs with
 |nil=>exact λ_ _ _=>rfl
 |cons y xs ih =>
  intro vs m h;induction vs with
  |nil=>rfl
  |cons v vs =>
   rw[Zg,bindC,ih vs _ λq=>h (VS _ q)];by_cases q:kf y=some .local
   ·rw[if_pos q]
   ·rw[if_neg q];exact if_neg (show x≠y from λq=>h (q▸VT))
theorem lh {T:Type}{F:Fz}{kf:Str->Option Xn}{x:Str}{b:aO T}(xs:List Str):∀(vs:List VQ) (ds:List D) (m cm:Str->Option VQ),x9 xs=true->al F vs ds->dD (cz xs ds) x=some b ->∃d v,b=.val d/\aj F v d/\x∈xs/\(kf x=some .local->bindL kf (xs.zip vs) m x=some v)/\(kf x≠some .local->bindC kf (xs.zip vs) cm x=some v):=by
 revert F kf x b xs;unfold T;exists F,kf,x,b,xs;induction xs with
 |nil=>exact λ_ _ _ _ _ _ e=>bg e
 |cons y xs ih =>
  delta y xs;intro ih;intro vs ds m cm ha hv e;delta vs ds m cm;intro hv e;cases ds with
  |nil=>exact bg e
  |cons d ds =>
   delta d ds;intro hv e;obtain⟨v,vs,rfl,hv,fn⟩:=hv.cons_inv;delta v vs;intro _ hv fn;obtain⟨ha,UT⟩:=VU.mp ha;refine D8 e (λp q=>?_) λe=>?_
   ·clear ih e;obtain rfl:y=x:=p
    refine⟨d,v,q.symm,hv,VT,λhk=>?_,λhk=>?_⟩
    ·rw[Zg,bindL,wl xs vs _ (rU ha),if_pos hk];exact if_pos rfl
    ·rw[Zg,bindC,wm xs vs _ (rU ha),if_neg hk];exact if_pos rfl
   ·obtain⟨d',v',h1,h2,h3,h4⟩:=ih vs ds (if kf y=some .local then λz=>if z=y then some v else m z else m) (if kf y=some .local then cm else λz=>if z=y then some v else cm z) UT fn e
    exact⟨d',v',h1,h2,VS _ h3,h4⟩
section
variable {ab:V8}{w:Wi}{X:gJ}{Φ:b_}{hb:Wb}{mg:Str->Option VQ}{k:Nat}{A:V7}{F F':Fz}{s s':VP}{env:Yq}{N:Nat}
theorem cW.entry {fd:Xp}{a:V4}{xs:List Str}{vs:List VQ}{ds:List D}{aR:VP}(Fo:∀a o,F a=some o->s.heap.get? a=some o)(KU:cV s.heap)(yW:fW fd.scope.names dy=true->fd.code=.ref CT)(Jb:vV fd.scope.names xs=true)(hk:fd.scope.kind=.function)(hg:fd.globals=mainGlobals)(Ri:fd.builtins=builtinsNs)
  (hv:al F vs ds)
  (x:InCallC s (callEnvC fd s.heap.objs.size a).locals (bindL (callEnvC fd s.heap.objs.size a).kindOf (xs.zip vs) λ_=>none) (callEnvC fd s.heap.objs.size a).cells (bindC (callEnvC fd s.heap.objs.size a).kindOf (xs.zip vs) λ_=>none) aR) :
  cW X s.heap F (callEnvC fd s.heap.objs.size a) ⟨fd.scope.names,cz xs ds⟩ aR.heap:=by
 revert Fo KU yW Jb hk hg Ri hv x;revert F s fd a xs vs ds aR;unfold X;exists F,s,fd,a,xs,vs,ds,aR;intro Fo KU yW Jb hk hg Ri hv x;unfold vV at Jb;simp only[V3]at Jb;obtain⟨⟨⟨⟨AU,kE⟩,hnf⟩,ju⟩,AX⟩:=Jb;have CN:=mF fd.scope.names (s.heap.push { cls:=.type "frame",data:=.dict #[] }) [] (λx c e=>by exact bg e) (λx y c ex ey=>by exact bg ex);rw[WM]at CN;have BG:∀y,(callEnvC fd s.heap.objs.size a).kindOf y=bv fd.scope.names y:=λy=>(fc y _).symm
 have new:∀y,bv fd.scope.names y=some .cell->∃c,(callEnvC fd s.heap.objs.size a).cells.lookup y=some c/\s.heap.objs.size+1<=c:=λy hy=>by
  obtain⟨c,a1,a2,_⟩:=CN.new y (gE hy);rw[WM]at a2;exact⟨c,a1,a2⟩
 have only:∀y c,(callEnvC fd s.heap.objs.size a).cells.lookup y=some c->s.heap.objs.size+1<=c:=λy c e=>by
  by_cases q:bv fd.scope.names y=some .cell
  ·obtain⟨c',sL⟩:=new y q
   obtain rfl:=cG e sL.1;exact sL.2
  ·have:=CN.old y λhm=>q (fO AU hm)
   rw[show(callEnvC fd s.heap.objs.size a).cells.lookup y=_ from this]at e;exact bg e
 have fresh:∀c,s.heap.objs.size<=c->F c=none/\s.heap.get? c=none:=λc hc=>by
  have h1:s.heap.get? c=none:=by
   cases e:s.heap.get? c with
   |none=>rfl
   |some o=>exact absurd (Wy e) (Nat.not_lt.mpr hc)
  refine⟨?_,h1⟩
  cases e:F c with
  |none=>rfl
  |some o=>rw[Fo _ _ e]at h1;exact JS h1
 exact{
  fe:={
   kind:=hk
   globals:=hg
   builtins:=Ri
   inj:=CN.inj
   dbg:=by rw[BG];exact ic kE (.inl (by decide +kernel))
   clsd:=by rw[BG];exact ic kE (.inr (by decide +kernel)) }
  base:=λa o _ e=>x.toInCall.keep a o e
  tab:=KU.keeps x.toInCall.keep
  cd:=yW
  ns:=⟨_,x.toInCall.ns⟩
  lF:=(fresh _ (WD _)).1
  l0:=(fresh _ (WD _)).2
  glob:=λy hy=>by
   rw[BG];exact sh hy
  cf:=λy hy=>by
   rw[BG];rcases(show bv fd.scope.names y=_\/bv fd.scope.names y=_ from vD hy)with q |q
   ·obtain⟨c,a1,_⟩:=new y q
    exact⟨.inl q,c,a1⟩
   ·exact absurd (gE q) (pK hnf)
  cells:=λy c e=>⟨(fresh c (YO (only y c e))).1,_,x.cell y c e⟩
  kx:=λy=>⟨λq=>by rw[BG];exact q,λq=>by rw[BG];exact q⟩
  wr:=λy hy=>by
   rw[BG];rcases(show bv fd.scope.names y=_\/bv fd.scope.names y=_ from iE hy)with q |q
   ·exact .inl q
   ·obtain⟨c,a1,a2⟩:=new y q
    exact .inr ⟨q,c,a1,(fresh c (YO a2)).2⟩
  vars:=λy b e=>by
   delta y b;intro e;obtain⟨d,v,rfl,Fv⟩:=lh (kf:=(callEnvC fd s.heap.objs.size a).kindOf) xs vs ds (λ_=>none) (λ_=>none) AX hv e;delta d v;intro Fv e;refine⟨v,?_,Fv.1⟩;have hw:=Wp.mp ju y Fv.2.1;rcases iE hw with q |q
   ·have q':(callEnvC fd s.heap.objs.size a).kindOf y=some .local:=by rw[BG];exact q
    exact .inl ⟨q',_,x.toInCall.ns,Fv.2.2.1 q'⟩
   ·have q':(callEnvC fd s.heap.objs.size a).kindOf y=some .cell:=by rw[BG];exact q
    obtain⟨c,a1,a2⟩:=new y q;refine .inr ⟨.inl q',c,a1,?_⟩;have:=x.cell y c a1;rw[Fv.2.2.2 (by rw[q'];simp)]at this;exact this
  apart:=λy z l l' b ey ez=>by
   obtain⟨d,v,q,_⟩:=lh (kf:=(callEnvC fd s.heap.objs.size a).kindOf) xs vs ds (λ_=>none) (λ_=>none) AX hv ey
   cases q
  one:=λy m t z l ey ez=>by
   obtain⟨d,v,q,_⟩:=lh (kf:=(callEnvC fd s.heap.objs.size a).kindOf) xs vs ds (λ_=>none) (λ_=>none) AX hv ez
   cases q }
structure il (hb:Wb)(mg:Str->Option VQ)(f:Str)(a:V4)(fd:Xp)(body:List V9)(xs:List Str):Prop where
 at_:mg f=some (.ref a)
 obj:∃o,hb.get? a=some o/\o.data=.func fd
 code:hb.CodeRec fd.code fd.qualname
 body:fd.body=.stmts body
 clo:fd.closure=[]
 glob:fd.globals=mainGlobals
 blt:fd.builtins=builtinsNs
 kind:fd.scope.kind=.function
 co:fd.scope.isCoroutine=false
 gen:fd.scope.isGenerator=false
 ok:vV fd.scope.names xs=true
 cd:fW fd.scope.names dy=true->fd.code=.ref CT
 bind:∀vs:List VQ,vs.length=xs.length->bindArgs fd ⟨vs,[]⟩=pure (xs.zip vs)
theorem iz {f:Str}{a:V4}{fd:Xp}{body:List V9}{xs:List Str}{ds:List D}(Df:il hb mg f a fd body xs)(B:dT hb mg)(dC:ds.length=xs.length)
  {A:V7} {E:VQ->VP->Prop} {F:Fz} {s:VP} {vs:List VQ} {Q:VQ->VP->Prop} (am:Am A F s) (lv:Lv A (k+1)) (bf:au hb F) (hv:al F vs ds)
  (h:∀(A':V7) (E':VQ->VP->Prop) (env:Yq) (aR:VP),Am A' F s->Lv A' k->cE X F s env (λ_ _=>False) F ⟨fd.scope.names,cz xs ds⟩ aR->wpAny (model ab w) A' (execs body env) (λf s'=>Q (match f with | .ret v=>v |_=>.none) s') E' aR) :
  wpAny (model ab w) A (call (.ref a) vs) Q E s:=by
 obtain⟨o,cn⟩:=Df.obj;have gG:=bf.keep am.fz;have Uf:vs.length=xs.length:=by rw[hv.length,dC]
 have qh:A.depth<recursionLimit:=by
  clear h;have:=lv.d;rw[show recursionLimit=1000 from rfl];lia
 refine XC (codeAny_call_cells qh (gG _ _ cn.1) cn.2 (B.nolimit.keeps gG) (Df.code.keeps gG) Df.body (Df.bind vs Uf) Df.clo (λx hx=>?_) (λaR x=>?_) Df.co Df.gen Df.kind)
 ·have tZ:=Df.ok
  unfold vV at tZ;simp only[V3]at tZ;have hm:=List.of_mem_zip (show(x.1,x.2)∈xs.zip vs from hx);have hw:=Wp.mp tZ.1.2 x.1 hm.1;rw[<- fc];rcases iE hw with q |q
  ·exact .inl q
  ·refine .inr ⟨q,?_⟩
   have CN:=mF fd.scope.names (s.heap.push { cls:=.type "frame",data:=.dict #[] }) [] (λx c e=>by exact bg e) (λx y c ex ey=>by exact bg ex);rw[WM]at CN;obtain⟨c,a1,_⟩:=CN.new x.1 (gE q);rw[a1];rfl
 ·have r:cW X s.heap F _ _ aR.heap:=cW.entry am.fz am.tab Df.cd Df.ok Df.kind Df.glob Df.blt hv x
  have g:aA F s F aR:=by
   obtain⟨h',tk,rfl⟩:=x.toInCall.same;exact(aA.refl am.fz).at (tk:=tk) (λa o _ e=>x.toInCall.keep a o e) (.of x.toInCall.keep) λa o e=>x.toInCall.keep _ _ (am.fz _ _ e)
  exact h _ _ _ aR ⟨am.fz,am.tab,am.pl,am.hh,by clear h;have:=lv.u;show A.units+3<=9000;lia⟩ ⟨by clear h;have:=lv.d;show A.depth+1+k<1000;lia,by clear h;have:=lv.u;show A.units+3+100*k<=9000;lia⟩ ⟨am.tab,g,r,λ_ _ q=>q.elim⟩
theorem Co {f:Str}{a:V4}{fd:Xp}{body:List V9}{xs:List Str}{ds:List D}{d:D}{n:Nat}{σ':az X.T}(Df:il hb mg f a fd body xs)(B:dT hb mg)(S:∀n,cR ab w X Φ hb k n/\eP ab w X Φ hb k n)(dC:ds.length=xs.length)
  (he:aW X.aa Φ N n ⟨fd.scope.names,cz xs ds⟩ body=some (σ',.ret d)) {A:V7} {E:VQ->VP->Prop} {F:Fz} {s:VP} {vs:List VQ} {Q:VQ->VP->Prop} (am:Am A F s) (lv:Lv A (k+1)) (bf:au hb F) (hv:al F vs ds) (h:Rt F s d Q) :
  wpAny (model ab w) A (call (.ref a) vs) Q E s :=
 iz Df B dC am lv bf hv λA' E' env aR kI re c=>km S kI re bf n E' _ F _ σ' aR body (.ret d) _ he c λF' s' fl c' l o=>by
  cases o with
  |ret HC=>exact h _ F' s' c'.g HC
end
set_option backward.match.sparseCases false
noncomputable def zE:Expr:=.Constant .none 0 ⟨0,0,0,0⟩
noncomputable def zS:V9:=.Pass ⟨0,0,0,0⟩
noncomputable def ak (l:List V9)(i:Nat):V9:=l.getD i zS
noncomputable def gF:V9->Expr | .If t _ _ _=>t |_=>zE
noncomputable def cQ:V9->List V9 | .If _ b _ _=>b |_=>[]
noncomputable def bT:V9->List V9 | .If _ _ o _=>o |_=>[]
inductive AG:V9->Prop |mk {t b o p}:AG (.If t b o p)
noncomputable def sf:V9->Bool | .If ..=>true |_=>false
noncomputable def iS:V9->Expr | .While t _ _ _=>t |_=>zE
noncomputable def cg:V9->List V9 | .While _ b _ _=>b |_=>[]
inductive Nn:V9->Prop |mk {t b p}:Nn (.While t b [] p)
noncomputable def ly:V9->Expr | .For t _ _ _ _=>t |_=>zE
noncomputable def rl:V9->Expr | .For _ i _ _ _=>i |_=>zE
noncomputable def cD:V9->List V9 | .For _ _ b _ _=>b |_=>[]
inductive KJ:V9->Prop |mk {t i b p}:KJ (.For t i b [] p)
noncomputable def rP:V9->Expr | .Return (some e) _=>e |_=>zE
inductive Dv:V9->Prop |mk {e p}:Dv (.Return (some e) p)
noncomputable def M2:Expr->Str | .Name x _=>x |_=>WT
noncomputable def Te:Expr->List Expr | .Call _ as _ _=>as |_=>[]
noncomputable def PD:Expr->List Expr | .Tuple vs _ _=>vs |_=>[]
noncomputable def rp:V9->Str | .Assign ts _ _=>M2 (ts.getD 0 zE) | .AugAssign t _ _ _=>M2 t |_=>WT
noncomputable def bR:V9->Expr | .Assign _ v _=>v | .AugAssign _ _ v _=>v | .Expr e _=>(Te e).getD 0 zE |_=>zE
inductive DI:V9->Prop |mk {x p v q}:mX v=true->DI (.Assign [.Name x p] v q)
inductive Hr:V9->Prop |mk {x p v q}:Hr (.AugAssign (.Name x p) .Add v q)
section
variable {T:Type}{aa:T->Str->List D->Option D}{Φ:b_}{N n:Nat}{σ σ1 iT:az T}{rec:az T->List V9->Rs T}{l:List V9}{i:Nat}{st:V9}
theorem oM (h:i<l.length):l.drop i=ak l i::l.drop (i+1):=by
 rw[WW h];simp[ak,List.getD,h]
theorem ah {f:az T->V9->Rs T}{r:Rs T}(h:i<l.length)(e:f σ (ak l i)=some (σ1,.next))(k:eT f σ1 (l.drop (i+1))=r):eT f σ (l.drop i)=r:=by
 rw[oM h];exact(dS (f:=yt λσ=>eT f σ _) e).trans ((gU σ1 λσ=>eT f σ (l.drop (i+1))).trans k)
theorem bS {f:az T->V9->Rs T}{d:D}(h:i<l.length)(e:f σ (ak l i)=some (σ1,.ret d)):eT f σ (l.drop i)=some (σ1,.ret d):=by
 rw[oM h];exact dS (f:=yt λσ=>eT f σ _) e
theorem yk {f:az T->V9->Rs T}(h:i<l.length)(e:f σ (ak l i)=some (σ1,.brk)):eT f σ (l.drop i)=some (σ1,.brk):=by
 rw[oM h];exact(dS (f:=yt λσ=>eT f σ _) e).trans (gU σ1 λσ=>some (σ,Fl.brk))
theorem aD {f:az T->V9->Rs T}(h:l.length<=i):eT f σ (l.drop i)=some (σ,.next):=by
 rw[Xb h];rfl
theorem aC:aW aa Φ N (n+1) σ l=eT (bQ aa Φ N (aW aa Φ N n)) σ (l.drop 0):=rfl
theorem bE {α:Type}{f:az T->Option α}{a:α}(h:f σ=some a):bA f (dW σ)=some a:=by
 show(match f σ with |some a=>some a |none=>bA f _)=_;rw[h]
theorem sQ {t:Expr}{c:Bool}(h:ev aa Φ N σ true t=some (.bool c)):JB aa Φ N t σ=some (σ,c):=bE (by rw[h];rfl)
set_option tactic.hygienic true in
theorem bj {c:Bool}(hs:AG st)(h:ev aa Φ N σ true (gF st)=some (.bool c)):bQ aa Φ N rec σ st=(match c with |true=>rec σ (cQ st) |false=>rec σ (bT st)):=by
 induction hs;rename_i t b o p;have h:ev aa Φ N σ true t=_:=h;show(JB aa Φ N t σ).bind _=_;rw[sQ h];induction c<;>rfl
set_option tactic.hygienic true in
theorem j1 {d:D}(hs:Dv st)(h:ev aa Φ N σ false (rP st)=some d):bQ aa Φ N rec σ st=some (σ,.ret d):=by
 induction hs;rename_i e p;have h:ev aa Φ N σ false e=some d:=h;refine bE (f:=λσ=>bV aa Φ N σ (.Return (some e) p)) ?_;exact(dS (f:=λd=>em d λd=>some (σ,Fl.ret d)) h).trans (bO _ _)
theorem uM {x:Str}{p q:X7}{v:Expr}(hv:mX v=true):sv (.Assign [.Name x p] v q)=.val x v:=by
 cases v<;>first |rfl |exact eV hv
theorem k8 {x:Str}{p q:X7}{v:Expr}{d:D}(hv:mX v=true)(hw:bW σ.nm x=true)(h:ev aa Φ N σ false v=some d):bV aa Φ N σ (.Assign [.Name x p] v q)=some (σ.set x (.val d),.next):=by
 unfold bV;rw[uM hv];exact lx hw ((dS h).trans (bO _ _))
theorem mS {x:Str}{p q:X7}{v:Expr}(hv:mX v=true)(h:ev aa Φ N σ false v=none):bV aa Φ N σ (.Assign [.Name x p] v q)=none:=by
 unfold bV;rw[uM hv];exact S2 (LH h)
set_option tactic.hygienic true in
theorem fY {d:D}(hs:DI st)(hw:bW σ.nm (rp st)=true)(h:ev aa Φ N σ false (bR st)=some d):bQ aa Φ N rec σ st=some (σ.set (rp st) (.val d),.next):=by
 obtain⟨hv⟩:=hs;rename_i x p v q;exact bE (f:=λσ=>bV aa Φ N σ (.Assign [.Name x p] v q)) (k8 hv hw h)
set_option tactic.hygienic true in
theorem ji {old v d:D}(hs:Hr st)(hw:bW σ.nm (rp st)=true)(hx:σ.get (rp st)=some (.val old))(h:ev aa Φ N σ false (bR st)=some v)(ha:Ij .Add old v=some d):bQ aa Φ N rec σ st=some (σ.set (rp st) (.val d),.next):=by
 induction hs;rename_i x p e q;have hw:bW σ.nm x=true:=hw;have hx:σ.get x=some (.val old):=hx;have h:ev aa Φ N σ false e=some v:=h;refine bE (f:=λσ=>bV aa Φ N σ (.AugAssign (.Name x p) .Add e q)) ?_;refine lx hw ?_;rw[hx];exact(dS h).trans ((dS ha).trans (bO _ _))
set_option tactic.hygienic true in
theorem my {d:D}{its:List D}(hs:KJ st)(h:ev aa Φ N σ false (rl st)=some d)(hi:cP d=some its):bQ aa Φ N rec σ st=iH rec (ly st) (cD st) σ its:=by
 induction hs;rename_i t it b p;have h:ev aa Φ N σ false it=some d:=h;show((bA (λσ=>(ev aa Φ N σ false it).map λd=>(σ,d)) (dW σ)).bind λr=>(cP r.2).bind λits=>iH rec t b r.1 its)=_;rw[bE (f:=λσ=>(ev aa Φ N σ false it).map λd=>(σ,d)) (a:=(σ,d)) (by rw[h];rfl),Wg,hi,Wg];rfl
theorem kY (hs:Nn st):bQ aa Φ N rec σ st=de aa Φ N rec (iS st) (cg st) N σ:=by
 induction hs;rfl
theorem fG {t:Expr}{b:List V9}{m:Nat}{r:Rs T}(h:ev aa Φ N σ true t=some (.bool true))(e:rec σ b=some (σ1,.next))(k:de aa Φ N rec t b m σ1=r):de aa Φ N rec t b (m+1) σ=r :=
 (dS (sQ h)).trans ((dS (f:=A1 λσ=>de aa Φ N rec t b m σ) e).trans k)
theorem dx {t:Expr}{b:List V9}{m:Nat}(h:ev aa Φ N σ true t=some (.bool false)):de aa Φ N rec t b (m+1) σ=some (σ,.next):=dS (sQ h)
theorem fN {t:Expr}{b:List V9}{x:D}{r:List D}{q:Rs T}(hb:bB σ t x=some σ1)(e:rec σ1 b=some (iT,.next))(k:iH rec t b iT r=q):iH rec t b σ (x::r)=q :=
 (dS hb).trans ((gU _ _).trans ((dS (f:=A1 λσ=>iH rec t b σ r) e).trans k))
theorem Lp {t:Expr}{b:List V9}{x d:D}{r:List D}(hb:bB σ t x=some σ1)(e:rec σ1 b=some (iT,.ret d)):iH rec t b σ (x::r)=some (iT,.ret d) :=
 (dS hb).trans ((gU _ _).trans (dS (f:=A1 λσ=>iH rec t b σ r) e))
end
noncomputable def aZ (i:Nat):List V9:=(aS i).body
noncomputable def dZ (i:Nat):bc:=(aS i).scope.names
noncomputable abbrev gz:=Bool×List Nat
noncomputable def cH (s:gz):D:=.tup [.bool s.1,.str ⟨⟨s.2⟩⟩]
noncomputable def lz (signs:List gz)(name:List Nat)(p:Nat):Bool:=match signs with
 |[]=>true
 |s::r=>match name[p]? with
  |none=>false
  |some c=>((et c s.2) !=s.1)&&lz r name (p+1)
noncomputable def eD (signs:List gz)(name:List Nat)(p:Nat):Bool:=Wm (p+signs.length) name.length&&lz signs name p
section
variable {T:Type}{aa:T->Str->List D->Option D}{Φ:b_}
noncomputable def fq (S:List D)(x:Str)(p:Int)(ks:List (Str×aO T)):az T:=⟨dZ 16,(VN "signs",.val (.lst S))::(VN "name",.val (.str x))::(VN "place",.val (.int p))::ks⟩
theorem Bc (S:List D)(x:Str)(p:Int)(ks):ev aa Φ 30 (fq S x p ks) true (gF (ak (aZ 16) 0))=some (.bool (decide ((x.length:Int)<p+S.length))):=by kernel_rfl
theorem Be (S:List D)(x:Str)(p:Int)(ks):ev aa Φ 30 (fq S x p ks) false (rl (ak (aZ 16) 1))=BL .range [.int S.length]:=by kernel_rfl
noncomputable def sG (a b:Option D)(f:D->D->Option D):Option D:=a.bind λa=>b.bind λb=>f a b
theorem Bb (S:List D)(x:Str)(p k:Int):ev aa Φ 30 (fq S x p [(VN "k",.val (.int k))]) true (gF (ak (cD (ak (aZ 16) 1)) 0)) =
  (sG (sG (bh (.str x) (.int (p+k))) (sG (bh (.lst S) (.int k)) (some (.int 1)) bh) (bZ .In)) (sG (bh (.lst S) (.int k)) (some (.int 0)) bh) (bZ .Eq)).bind λd=>(gK d).map .bool:=by kernel_rfl
end
theorem iG {α:Type}(l:List α)(n:Nat):qr l (n:Int)=l[n]?:=by show IN l n=_;rw[mZ]
section
variable {T:Type}{aa:T->Str->List D->Option D}{Φ:b_}
theorem t_ (S:List gz)(x:Str)(p k:Nat)(s:gz)(c:Nat)(hs:S[k]?=some s)(hc:x.cps.toList[p+k]?=some c) :
  ev aa Φ 30 (fq (S.map cH) x p [(VN "k",.val (.int k))]) true (gF (ak (cD (ak (aZ 16) 1)) 0))=some (.bool (et c s.2==s.1)):=by
 rw[Bb];have h1:bh (.str x) (.int ((p:Int)+k))=some (.str ⟨⟨[c]⟩⟩):=by
  show(qr x.cps.toList ((p:Int)+k)).map _=_;rw[show(p:Int)+k=((p+k:Nat):Int) by lia,iG,hc];rfl
 have h2:bh (.lst (S.map cH)) (.int k)=some (cH s):=by
  show qr _ (k:Int)=_;rw[iG,W3,hs];rfl
 have h3:sG (some (cH s)) (some (.int 1)) bh=some (.str ⟨⟨s.2⟩⟩):=rfl;have h4:sG (some (cH s)) (some (.int 0)) bh=some (.bool s.1):=rfl;rw[h1,h2,h3,h4];show(((bZ .In (.str ⟨⟨[c]⟩⟩) (.str ⟨⟨s.2⟩⟩)).bind λa=>(some (D.bool s.1)).bind λb=>bZ .Eq a b).bind λd=>(gK d).map D.bool)=_;rfl
theorem Bd (aa:T->Str->List D->Option D)(Φ:b_)(n:Nat)(S:List gz)(x:Str)(p:Nat):∀(m k:Nat) (ks:List (Str×aO T)),(ks=[]\/∃v,ks=[(VN "k",.val v)])->k+m=S.length->p+S.length<=x.cps.toList.length ->(∃σ',iH (aW aa Φ 30 (n+2)) (ly (ak (aZ 16) 1)) (cD (ak (aZ 16) 1)) (fq (S.map cH) x p ks) (bX k m)=some (σ',if lz (S.drop k) x.cps.toList (p+k)then .next else .ret (.bool false))):=by
 revert aa Φ n S x p;unfold T;exists aa,Φ,n,S,x,p;exists m;induction m with
 |zero =>
  intro k ks hk hm hl;refine⟨fq (S.map cH) x p ks,?_⟩;rw[Xb (by lia)];rfl
 |succ m ih =>
  delta m;intro ih;intro k ks hk hm hl;delta k ks;intro hk hm;have Q1:k<S.length:=by lia
  obtain⟨s,hs⟩:∃s,S[k]?=some s:=⟨_,Wr Q1⟩;delta s;intro hs;obtain⟨c,hc⟩:∃c,x.cps.toList[p+k]?=some c:=⟨_,Wr (by lia)⟩;delta c;intro hc;have hb:bB (fq (T:=T) (S.map cH) x p ks) (ly (ak (aZ 16) 1)) (.int k)=some (fq (S.map cH) x p [(VN "k",.val (.int k))]):=by
   rcases hk with rfl |⟨v,rfl⟩<;>kernel_rfl
  have ht:=t_ (aa:=aa) (Φ:=Φ) S x p k s c hs hc;have Pd:AG (ak (cD (ak (aZ 16) 1)) 0):=by exact .mk
  have dC:(cD (ak (aZ 16) 1)).length=1:=by kernel_rfl
  have fX:S.drop k=s::S.drop (k+1):=by
   rw[WW Q1];rw[Wr Q1]at hs;replace hs:=aJ hs;obtain rfl:=hs;rfl
  rw[fX,show lz (s::S.drop (k+1)) x.cps.toList (p+k)=(match x.cps.toList[p+k]? with |none=>false |some c=>((et c s.2) !=s.1)&&lz (S.drop (k+1)) x.cps.toList (p+k+1))from rfl,hc];dsimp only;have SK:(cQ (ak (cD (ak (aZ 16) 1)) 0)).length=1:=by kernel_rfl
  have NQ:(bT (ak (cD (ak (aZ 16) 1)) 0))=[]:=by kernel_rfl
  cases q:(et c s.2==s.1)with
  |true =>
   rw[q]at ht;refine⟨fq (S.map cH) x p [(VN "k",.val (.int k))],?_⟩;have e1:aW aa Φ 30 (n+2) (fq (S.map cH) x p [(VN "k",.val (.int k))]) (cD (ak (aZ 16) 1))=some (fq (S.map cH) x p [(VN "k",.val (.int k))],.ret (.bool false)):=by
    rw[aC];refine bS ⋯ ?_;rw[bj Pd ht];show aW aa Φ 30 (n+1) _ (cQ _)=_;rw[aC];exact bS ⋯ (j1 ∅ nofun)
   have:((et c s.2) !=s.1)=false:=by rw[bne,q];rfl
   simp only[this,X8,WY,if_false];exact Lp hb e1
  |false =>
   rw[q]at ht;obtain⟨σ',ih⟩:=ih (k+1) _ (.inr ⟨_,rfl⟩) (by lia) hl;refine⟨σ',?_⟩;have e1:aW aa Φ 30 (n+2) (fq (S.map cH) x p [(VN "k",.val (.int k))]) (cD (ak (aZ 16) 1))=some (fq (S.map cH) x p [(VN "k",.val (.int k))],.next):=by
    rw[aC];refine ah ⋯ ?_ (aD ⋯);rw[bj Pd ht];show aW aa Φ 30 (n+1) _ (bT _)=_;rw[NQ];rfl
   have:((et c s.2) !=s.1)=true:=by rw[bne,q];rfl
   simp only[this,X5];exact fN hb e1 ih
theorem El (aa:T->Str->List D->Option D)(Φ:b_)(S:List gz)(x:Str)(p:Nat)(hz:S.length<=1000000):∃σ',aW aa Φ 30 5 (fq (S.map cH) x p []) (aZ 16)=some (σ',.ret (.bool (eD S x.cps.toList p))):=by
 revert hz;revert aa Φ S x p;unfold T;exists aa,Φ,S,x,p;intro hz;have dC:(aZ 16).length=3:=by kernel_rfl
 have ht:=Bc (aa:=aa) (Φ:=Φ) (S.map cH) x p [];rw[VZ]at ht;rw[aC];unfold eD;have Sw:x.length=x.cps.toList.length:=rfl;by_cases h:p+S.length<=x.cps.toList.length
 ·rw[decide_eq_false (by lia)]at ht
  obtain⟨σ',hl⟩:1:=Bd aa Φ 2 S x p S.length 0 [] (.inl rfl) (by lia) h;have e0:bQ aa Φ 30 (aW aa Φ 30 4) (fq (S.map cH) x p []) (ak (aZ 16) 0)=some (fq (S.map cH) x p [],.next):=by
   rw[bj ∅ ht];show aW aa Φ 30 4 _ (bT _)=_;rw[show bT (ak (aZ 16) 0)=[] by kernel_rfl];rfl
  have hi:=Be (aa:=aa) (Φ:=Φ) (S.map cH) x p [];have hr:BL .range [.int ((S.map cH).length:Int)]=some (.rng 0 S.length):=by
   rw[VZ];show(if cN S.length=true then _ else _)=_;rw[if_pos (by unfold cN;simp;lia)]
  rw[hr]at hi;have e1:=my (rec:=aW aa Φ 30 4) (st:=ak (aZ 16) 1) ∅ hi (its:=bX 0 S.length) (by show some (bX 0 ((S.length:Int) - 0).toNat)=_;rw[show((S.length:Int) - 0).toNat=S.length by lia]);have hl:iH (aW aa Φ 30 4) (ly (ak (aZ 16) 1)) (cD (ak (aZ 16) 1)) (fq (S.map cH) x p []) (bX 0 S.length)=some (σ',if lz S x.cps.toList p=true then Fl.next else Fl.ret (D.bool false)):=hl;rw[Wh h,X5]
  cases q:lz S x.cps.toList p with
  |true =>
   rw[if_pos q]at hl;refine⟨σ',ah ⋯ e0 (ah (σ1:=σ') ⋯ (e1.trans hl) (bS ⋯ (j1 ∅ nofun)))⟩
  |false =>
   rw[if_neg (by rw[q];decide)]at hl;exact⟨σ',ah ⋯ e0 (bS ⋯ (e1.trans hl))⟩
 ·rw[decide_eq_true (by lia)]at ht
  have hb:Wm (p+S.length) x.cps.toList.length=false:=by
   cases q:Wm (p+S.length) x.cps.toList.length with
   |false=>rfl
   |true=>exact absurd (V0 q) h
  rw[hb,X8];refine⟨fq (S.map cH) x p [],bS ⋯ ?_⟩;rw[bj ∅ ht];show aW aa Φ 30 4 _ (cQ _)=_;rw[aC];exact bS (by rw[show(cQ (ak (aZ 16) 0)).length=1 by kernel_rfl];lia) (j1 ∅ nofun)
end
noncomputable def fg (e:Expr)(i:Nat):Expr:=match e with | .BoolOp _ es _=>es.getD i zE |_=>zE
inductive IW:Expr->Prop |mk {a b p}:IW (.BoolOp .Or [a,b] p)
inductive tR:Expr->Prop |mk {a b p}:tR (.BoolOp .And [a,b] p)
inductive DK:Expr->Prop |mk {a b c p}:DK (.BoolOp .And [a,b,c] p)
noncomputable def PC:Expr->Expr | .UnaryOp _ x _=>x |_=>zE
inductive IX:Expr->Prop |mk {a p}:IX (.UnaryOp .Not a p)
noncomputable def LG:Expr->Expr | .Compare l _ _ _=>l |_=>zE
noncomputable def RD:Expr->Expr | .Compare _ _ [r] _=>r |_=>zE
noncomputable def RE:Expr->CmpOp | .Compare _ [o] _ _=>o |_=>.Eq
inductive I2:Expr->Prop |mk {l o r p}:I2 (.Compare l [o] [r] p)
noncomputable def wi (e:Expr)(i:Nat):Expr:=(Te e).getD i zE
noncomputable def oO:Expr->Str | .Call f _ _ _=>M2 f |_=>WT
inductive xt (n:Nat):Expr->Prop |mk {f p as q}:as.length=n->xt n (.Call (.Name f p) as [] q)
noncomputable def KN:Expr->Expr | .IfExp t _ _ _=>t |_=>zE
noncomputable def Uc:Expr->Expr | .IfExp _ b _ _=>b |_=>zE
noncomputable def Ub:Expr->Expr | .IfExp _ _ o _=>o |_=>zE
inductive KH:Expr->Prop |mk {t b o p}:KH (.IfExp t b o p)
noncomputable def se:Expr->Bool | .UnaryOp .Not _ _=>false | .BoolOp ..=>false | .IfExp ..=>false | .Name ..=>false |_=>true
section
variable {T:Type}{aa:T->Str->List D->Option D}{Φ:b_}{n:Nat}{σ:az T}{e:Expr}{a b c:Bool}{d x y:D}
theorem Sc {f:Fn T}{es:List Expr}(h:f σ true e=some (.bool true)):gM f σ (e::es)=some true:=Pq h
theorem Sd {f:Fn T}{es:List Expr}(h:f σ true e=some (.bool false)):gM f σ (e::es)=gM f σ es:=Pq h
theorem OP {f:Fn T}{es:List Expr}(h:f σ true e=some (.bool true)):bq f σ (e::es)=bq f σ es:=Pq h
theorem OQ {f:Fn T}{es:List Expr}(h:f σ true e=some (.bool false)):bq f σ (e::es)=some false:=Pq h
theorem TF {f:Fn T}(h:f σ true e=some (.bool b)):gM f σ [e]=some b:=by induction b<;>first |exact Sc h |exact Sd h
theorem PN {f:Fn T}(h:f σ true e=some (.bool b)):bq f σ [e]=some b:=by induction b<;>first |exact OP h |exact OQ h
theorem j6 (hs:IW e)(h1:ev aa Φ n σ true (fg e 0)=some (.bool a))(h2:a=false->ev aa Φ n σ true (fg e 1)=some (.bool b)):ev aa Φ (n+1) σ true e=some (.bool (a||b)):=by
 induction hs;refine w6 ?_;induction a with
 |true=>exact Sc h1
 |false=>exact(Sd h1).trans (TF (h2 rfl))
theorem dv (hs:tR e)(h1:ev aa Φ n σ true (fg e 0)=some (.bool a))(h2:a=true->ev aa Φ n σ true (fg e 1)=some (.bool b)):ev aa Φ (n+1) σ true e=some (.bool (a&&b)):=by
 induction hs;refine w6 ?_;induction a with
 |false=>exact OQ h1
 |true=>exact(OP h1).trans (PN (h2 rfl))
theorem HZ (hs:DK e)(h1:ev aa Φ n σ true (fg e 0)=some (.bool a))(h2:a=true->ev aa Φ n σ true (fg e 1)=some (.bool b))(h3:a=true->b=true->ev aa Φ n σ true (fg e 2)=some (.bool c)) :
  ev aa Φ (n+1) σ true e=some (.bool (a&&(b&&c))):=by
 induction hs;refine w6 ?_;induction a with
 |false=>exact OQ h1
 |true =>
  refine(OP h1).trans ?_;induction b with
  |false=>exact OQ (h2 rfl)
  |true=>exact(OP (h2 rfl)).trans (PN (h3 rfl rfl))
theorem y9 (hs:IX e)(h:ev aa Φ n σ true (PC e)=some (.bool a)):ev aa Φ (n+1) σ true e=some (.bool (!a)):=by
 induction hs;exact dS h
theorem aH (hs:se e=true)(h:ev aa Φ n σ false e=some d)(ht:gK d=some a):ev aa Φ (n+1) σ true e=some (.bool a):=by
 have k:((ev aa Φ n σ false e).bind λd=>(gK d).map D.bool)=some (.bool a):=(dS h).trans (w6 ht);have:Rw (λσ b e=>ev aa Φ n σ b e) σ e (vv e)=some (.bool a):=by
  have hv:=Qr e;generalize vv e=q at hv;clear h;induction hv<;>first |exact k |exact eV hs
 exact this
theorem nx (hs:I2 e)(h1:ev aa Φ n σ false (LG e)=some x)(h2:ev aa Φ n σ false (RD e)=some y)(h:bZ (RE e) x y=some d):ev aa Φ (n+1) σ false e=some d:=by
 induction hs;exact(dS h1).trans ((dS h2).trans h)
theorem GV {α:Type}{l:List α}(h:l.length=2):∃a b,l=[a,b]:=by
 cases l with
 |nil=>cases h
 |cons a l =>
  cases l with
  |nil=>cases h
  |cons b l =>
   cases l with
   |nil=>exact⟨a,b,rfl⟩
   |cons _ _=>cases h
theorem Kj {α:Type}{l:List α}(h:l.length=3):∃a b c,l=[a,b,c]:=by
 cases l with
 |nil=>cases h
 |cons a l =>
  obtain⟨b,c,e⟩:=GV (Nat.succ.inj h);exact⟨a,b,c,by rw[e]⟩
theorem jS {k:Nat}(hs:xt k e):∃f p as pos,e=.Call (.Name f p) as [] pos/\as.length=k:=by
 induction hs;exact⟨_,_,_,_,rfl,by assumption⟩
theorem Ry {f:Fn T}{u v w:Expr}{z:D}(h1:f σ false u=some x)(h2:f σ false v=some y)(h3:f σ false w=some z):k5 f σ [u,v,w]=some [x,y,z]:=(dS h1).trans (w6 (Bh h2 h3))
theorem j7 {f:Str}{p q:X7}{as:List Expr}{ds:List D}(hg:js σ.nm f=true)(h:k5 (λσ b e=>ev aa Φ n σ b e) σ as=some ds)(hd:Lm Φ f ds (jv f)=some d):ev aa Φ (n+1) σ false (.Call (.Name f p) as [] q)=some d :=
 lx hg ((dS h).trans hd)
theorem mz {z:D}(hs:xt 3 e)(hg:js σ.nm (oO e)=true)(hb:jv (oO e)=none)(h1:ev aa Φ n σ false (wi e 0)=some x)(h2:ev aa Φ n σ false (wi e 1)=some y)(h3:ev aa Φ n σ false (wi e 2)=some z)(h:Φ (oO e) [x,y,z]=some d) :
  ev aa Φ (n+1) σ false e=some d:=by
 obtain⟨f,p,as,pos,rfl,hl⟩:=jS hs;clear hs;obtain⟨u,v,w,rfl⟩:=Kj hl;exact j7 hg (Ry h1 h2 h3) (by rw[show jv f=none from hb];exact h)
theorem mA (hs:xt 2 e)(hg:js σ.nm (oO e)=true)(hb:jv (oO e)=none)(h1:ev aa Φ n σ false (wi e 0)=some x)(h2:ev aa Φ n σ false (wi e 1)=some y)(h:Φ (oO e) [x,y]=some d) :
  ev aa Φ (n+1) σ false e=some d:=by
 obtain⟨f,p,as,pos,rfl,hl⟩:=jS hs;clear hs;obtain⟨u,v,rfl⟩:=GV hl;exact j7 hg (Bh h1 h2) (by rw[show jv f=none from hb];exact h)
theorem mB (hs:xt 1 e)(hg:js σ.nm (oO e)=true)(hb:jv (oO e)=none)(h1:ev aa Φ n σ false (wi e 0)=some x)(h:Φ (oO e) [x]=some d) :
  ev aa Φ (n+1) σ false e=some d:=by
 obtain⟨f,p,as,pos,rfl,hl⟩:=jS hs;clear hs;obtain⟨u,rfl⟩:=YG.mp hl;exact j7 hg (Ev h1) (by rw[show jv f=none from hb];exact h)
theorem ud (hs:KH e)(h:ev aa Φ n σ true (KN e)=some (.bool true)):ev aa Φ (n+1) σ false e=ev aa Φ n σ false (Uc e):=by
 induction hs;exact dS h
theorem LB (hs:KH e)(h:ev aa Φ n σ true (KN e)=some (.bool false)):ev aa Φ (n+1) σ false e=ev aa Φ n σ false (Ub e):=by
 induction hs;exact dS h
end
noncomputable def kP (signs:List gz)(name:List Nat):Nat->Nat->Nat
 |0,p=>p
 |m+1,p=>match Wm p name.length&&!(eD signs name p)with
  |true=>kP signs name m (p+1)
  |false=>p
noncomputable def w8 (name:List Nat):List (List gz)->Nat->Nat
 |[],p=>p
 |s::r,p=>w8 name r (kP s name 29 p+s.length)
noncomputable def gm:List gz->List (List gz)->List gz
 |t,[]=>t
 |_,u::r=>gm u r
noncomputable def nR:List gz->List (List gz)->List (List gz)
 |_,[]=>[]
 |t,u::r=>t::nR u r
noncomputable def ga (runs:List (List gz))(name:List Nat):Bool:=match runs with
 |[]=>false
 |[s]=>eD s name 0&&VW s.length name.length
 |s::t::r=>eD s name 0&&eD (gm t r) name (max (w8 name (nR t r) s.length) (name.length - (gm t r).length))
theorem qf:∀(t:List gz) (r:List (List gz)),(t::r).take r.length=nR t r
 |t,[]=>rfl
 |t,u::r=>by rw[VY,List.take_succ_cons,qf u r];rfl
theorem rZ:∀(t:List gz) (r:List (List gz)),(t::r)[r.length]?=some (gm t r)
 |t,[]=>rfl
 |t,u::r=>by rw[VY,List.getElem?_cons_succ,rZ u r];rfl
noncomputable abbrev kh:=List gz
noncomputable def aG (r:kh):D:=.lst (r.map cH)
theorem jO {α β γ:Type}{f:β->Option γ}{g:α->β}{h:α->γ}(e:∀x,f (g x)=some (h x))(l:List α):(l.map g).mapM f=some (l.map h):=by
 induction l with
 |nil =>
  exact rfl
 |cons x r ih =>
  rw[Wu,List.mapM_cons,e,ih];rfl
noncomputable def PX (s:gz):Xu:=.tuple [.bool s.1,.str ⟨⟨s.2⟩⟩]
theorem JG (n:Nat)(s:gz):(cH s).toPy (n+2)=some (PX s):=rfl
theorem JH (n:Nat)(r:kh):(aG r).toPy (n+3)=some (.list (r.map PX)):=by
 show((r.map cH).mapM (D.toPy (n+2))).map Xu.list=_;rw[jO (JG n)];rfl
theorem LC (R:List kh):bZ .Eq (.lst (R.map aG)) (.lst [])=some (.bool R.isEmpty):=by
 show(Bj (.lst (R.map aG)) (.lst [])).map D.bool=_;have h1:(D.lst (R.map aG)).toPy pz=some (.list (R.map λr=>.list (r.map PX))):=by
  show((R.map aG).mapM (D.toPy 7)).map Xu.list=_;rw[jO (JH 4)];rfl
 unfold Bj;rw[h1];clear h1;induction R<;>rfl
section
variable {T:Type}{aa:T->Str->List D->Option D}{Φ:b_}
noncomputable def cI (R:List D)(x:Str)(ks:List (Str×aO T)):az T:=⟨dZ 17,(VN "runs",.val (.lst R))::(VN "name",.val (.str x))::ks⟩
noncomputable def qC:Str:=VN "_law_fits"
noncomputable def ik (Φ:b_):Prop:=∀(S:kh) (x:Str) (p:Nat),S.length<=1000->Φ qC [.lst (S.map cH),.str x,.int p]=some (.bool (eD S x.cps.toList p))
theorem tak_0 (eg:ik Φ)(R:List kh)(hR:∀r∈R,r.length<=1000)(x:Str)(ks:List (Str×aO T)):ev aa Φ 30 (cI (R.map aG) x ks) true (gF (ak (aZ 17) 0))=some (.bool (match R with |[]=>true |r::_=>!(eD r x.cps.toList 0))):=by
 have h1:ev aa Φ 29 (cI (R.map aG) x ks) true (fg (gF (ak (aZ 17) 0)) 0)=some (.bool R.isEmpty):=by
  refine aH (d:=.bool R.isEmpty) nofun (nx (x:=.lst (R.map aG)) (y:=.lst []) ∅ nofun nofun ?_) rfl;rw[show RE (fg (gF (ak (aZ 17) 0)) 0)=.Eq by kernel_rfl];exact LC R
 induction R with
 |nil=>exact j6 (a:=true) (b:=true) ∅ h1 (λh=>by exact oY h)
 |cons r rs =>
  refine j6 (a:=false) (b:=!(eD r x.cps.toList 0)) ∅ h1 λ_=>?_
  refine y9 ∅ (aH (d:=.bool (eD r x.cps.toList 0)) nofun ?_ rfl);refine mz (x:=aG r) (y:=.str x) (z:=.int 0) (by exact .mk rfl) nofun nofun nofun nofun nofun ?_;rw[show oO (PC (fg (gF (ak (aZ 17) 0)) 1))=qC by kernel_rfl];exact eg r x 0 (hR r VT)
theorem tak_1 (r:kh)(rs:List D)(x:Str)(ks:List (Str×aO T)):ev aa Φ 30 (cI (aG r::rs) x ks) false (bR (ak (aZ 17) 1))=some (.int r.length):=by
 have:ev aa Φ 30 (cI (aG r::rs) x ks) false (bR (ak (aZ 17) 1))=some (.int (r.map cH).length):=by kernel_rfl
 rw[this,VZ]
theorem tak_2 (R:List D)(x:Str)(ks:List (Str×aO T)):ev aa Φ 30 (cI R x ks) true (gF (ak (aZ 17) 2))=some (.bool (decide ((R.length:Int)=1))):=by kernel_rfl
noncomputable def dJ (R:List D)(x:Str)(p:Nat)(S:kh):az T:=cI R x [(VN "place",.val (.int p)),(VN "signs",.val (aG S))]
noncomputable def qZ:V9:=ak (cD (ak (aZ 17) 3)) 0
theorem zV (eg:ik Φ)(R:List D)(x:Str)(p:Nat)(S:kh)(hS:S.length<=1000):ev aa Φ 30 (dJ R x p S) true (iS qZ)=some (.bool (Wm p x.cps.toList.length&&!(eD S x.cps.toList p))):=by
 refine dv (a:=Wm p x.cps.toList.length) (b:=!(eD S x.cps.toList p)) ∅ ?_ λ_=>?_
 ·have:ev aa Φ 29 (dJ R x p S) true (fg (iS qZ) 0)=some (.bool (decide ((p:Int)<=(x.length:Int)))):=by kernel_rfl
  rw[this];congr 2;have hl:x.length=x.cps.toList.length:=rfl
  cases q:Wm p x.cps.toList.length with
  |true=>have:=V0 q;exact decide_eq_true (by lia)
  |false =>
   refine decide_eq_false λh=>?_
   rw[Wh (by lia)]at q;exact oY q
 ·refine y9 ∅ (aH (d:=.bool (eD S x.cps.toList p)) nofun ?_ rfl)
  refine mz (x:=aG S) (y:=.str x) (z:=.int p) (by exact .mk rfl) nofun nofun nofun nofun nofun ?_;rw[show oO (PC (fg (iS qZ) 1))=qC by kernel_rfl];exact eg S x p hS
theorem zW (n:Nat)(R:List D)(x:Str)(p:Nat)(S:kh):aW aa Φ 30 (n+1) (dJ R x p S) (cg qZ)=some (dJ (T:=T) R x (p+1) S,.next):=by
 have hl:(cg qZ).length=1:=by kernel_rfl
 rw[aC];refine ah ⋯ ?_ (aD ⋯);have:=ji (aa:=aa) (Φ:=Φ) (N:=30) (rec:=aW aa Φ 30 n) (σ:=dJ R x p S) (st:=ak (cg qZ) 0) (old:=.int p) (v:=.int 1) (d:=.int (p+1)) ∅ nofun nofun nofun rfl;rw[this];show some ((dJ R x p S).set (rp (ak (cg qZ) 0)) (.val (.int ((p:Int)+1))),Fl.next)=some (dJ R x (p+1) S,Fl.next);kernel_rfl
theorem Cz (eg:ik Φ)(n:Nat)(R:List D)(x:Str)(S:kh)(hS:S.length<=1000):∀(m p:Nat),0<m->x.cps.toList.length+1<p+m->de aa Φ 30 (aW aa Φ 30 (n+1)) (iS qZ) (cg qZ) m (dJ R x p S)=some (dJ (T:=T) R x (kP S x.cps.toList (m - 1) p) S,.next):=by
 revert eg hS;revert aa Φ n R x S;unfold T;exists aa,Φ,n,R,x,S;intro eg hS;intro m;induction m with
 |zero=>intro p h1 h2;omega
 |succ m ih =>
  intro p h1 h2;have ht:=zV (aa:=aa) eg R x p S hS (T:=T);rw[Nat.add_sub_cancel];induction m with
  |zero =>
   have:Wm p x.cps.toList.length=false:=by
    cases q:Wm p x.cps.toList.length with
    |false=>rfl
    |true=>have:=V0 q;lia
   rw[this,X8]at ht;exact dx ht
  |succ m =>
   rw[show kP S x.cps.toList (m+1) p=(match Wm p x.cps.toList.length&&!(eD S x.cps.toList p)with |true=>kP S x.cps.toList m (p+1) |false=>p)from rfl]
   cases q:(Wm p x.cps.toList.length&&!(eD S x.cps.toList p))with
   |false =>
    rw[q]at ht;exact dx ht
   |true =>
    rw[q]at ht;have hp:p<=x.cps.toList.length:=by
     rw[V3]at q;exact V0 q.1
    exact fG ht (zW n R x p S) (ih (p+1) (Xh _) (by lia))
theorem C4 (eg:ik Φ)(n:Nat)(R:List D)(x:Str)(p:Nat)(S:kh)(hS:S.length<=1000)(hx:x.cps.toList.length<=20) :
  aW aa Φ 30 (n+2) (dJ R x p S) (cD (ak (aZ 17) 3))=some (dJ (T:=T) R x (kP S x.cps.toList 29 p+S.length) S,.next):=by
 have hl:(cD (ak (aZ 17) 3)).length=2:=by kernel_rfl
 rw[aC];have e0:bQ aa Φ 30 (aW aa Φ 30 (n+1)) (dJ R x p S) qZ=some (dJ (T:=T) R x (kP S x.cps.toList 29 p) S,.next):=by
  rw[kY ∅];exact Cz eg n R x S hS 30 p (Xh _) (by lia)
 refine ah ⋯ e0 (ah (σ1:=dJ R x (kP S x.cps.toList 29 p+S.length) S) ⋯ ?_ (aD ⋯));rw[(ji (aa:=aa) (Φ:=Φ) (N:=30) (rec:=aW aa Φ 30 (n+1)) (σ:=dJ R x (kP S x.cps.toList 29 p) S) (st:=ak (cD (ak (aZ 17) 3)) 1) (old:=.int (kP S x.cps.toList 29 p)) (v:=.int (S.map cH).length) (d:=.int (kP S x.cps.toList 29 p+(S.map cH).length)) ∅ nofun nofun nofun rfl),VZ];show some ((dJ R x (kP S x.cps.toList 29 p) S).set (rp (ak (cD (ak (aZ 17) 3)) 1)) (.val (.int ((kP S x.cps.toList 29 p:Nat)+(S.length:Int)))),Fl.next)=some (dJ R x (kP S x.cps.toList 29 p+S.length) S,Fl.next);kernel_rfl
theorem GP (eg:ik Φ)(n:Nat)(R:List D)(x:Str)(hx:x.cps.toList.length<=20):∀(L:List kh) (p:Nat) (ks:List (Str×aO T)),(∀r∈L,r.length<=1000)->(ks=[]\/∃S,ks=[(VN "signs",.val (aG S))]) ->∃c_,(c_=[]\/∃S,c_=[(VN "signs",.val (aG S))])/\iH (aW aa Φ 30 (n+2)) (ly (ak (aZ 17) 3)) (cD (ak (aZ 17) 3)) (cI R x ((VN "place",.val (.int p))::ks)) (L.map aG)=some (cI (T:=T) R x ((VN "place",.val (.int (w8 x.cps.toList L p:Nat)))::c_),.next):=by
 revert eg hx;revert aa Φ n R x;unfold T;exists aa,Φ,n,R,x;intro eg hx;intro L;induction L with
 |nil=>intro p ks hL hk;exact⟨ks,hk,rfl⟩
 |cons S L ih =>
  intro p ks hL hk;have hb:bB (cI (T:=T) R x ((VN "place",.val (.int p))::ks)) (ly (ak (aZ 17) 3)) (aG S)=some (dJ R x p S):=by
   rcases hk with rfl |⟨S0,rfl⟩<;>kernel_rfl
  obtain⟨c_,jl⟩:=ih (kP S x.cps.toList 29 p+S.length) [(VN "signs",.val (aG S))] (λr hr=>hL r (VS _ hr)) (.inr ⟨S,rfl⟩);refine⟨c_,jl.1,?_⟩;rw[Wu,show w8 x.cps.toList (S::L) p=w8 x.cps.toList L (kP S x.cps.toList 29 p+S.length)from rfl];exact fN hb (C4 eg n R x p S (hL S VT) hx) jl.2
theorem C3 (s t:kh)(r:List kh)(x:Str)(ks:List (Str×aO T)):ev aa Φ 30 (cI ((s::t::r).map aG) x ks) false (rl (ak (aZ 17) 3))=some (.lst ((nR t r).map aG)):=by
 have h:ev aa Φ 30 (cI ((s::t::r).map aG) x ks) false (rl (ak (aZ 17) 3))=some (.lst (xV (some 1) (some (-1)) ((s::t::r).map aG))):=by kernel_rfl
 rw[h,oN];unfold eo;have h1:l9 ((s::t::r).map aG).length (some 1)=1:=by
  rw[VZ];show hB _ (.ofNat 1)=1;rw[iJ];simp
 have h2:rk ((s::t::r).map aG).length (some (-1))=r.length+1:=by
  rw[VZ];show hB _ (-1)=_;unfold hB;rw[if_pos ⋯];simp only[VY];lia
 rw[h1,h2,Nat.add_sub_cancel,<- qf];rw[List.map_take];rfl
theorem AB (s t:kh)(r:List kh):bh (.lst ((s::t::r).map aG)) (.int (-1))=some (aG (gm t r)):=by
 show xI ((s::t::r).map aG) (Int.negSucc 0)=_;show(match Wm (0+1) ((s::t::r).map aG).length with |true=>IN ((s::t::r).map aG) (((s::t::r).map aG).length - (0+1)) |false=>none)=_;have:Wm (0+1) ((s::t::r).map aG).length=true:=Wh (by simp);rw[this];simp only[mZ];rw[VZ,W3,VY,VY,show r.length+1+1 - (0+1)=r.length+1 by lia,List.getElem?_cons_succ,rZ];rfl
theorem FP (eg:ik Φ)(s t:kh)(r:List kh)(hR:(gm t r).length<=1000)(x:Str)(p:Nat)(ks:List (Str×aO T)) :
  ev aa Φ 30 (cI ((s::t::r).map aG) x ((VN "place",.val (.int p))::ks)) false (rP (ak (aZ 17) 4))=some (.bool (eD (gm t r) x.cps.toList (max p (x.cps.toList.length - (gm t r).length)))):=by
 have a0:ev aa Φ 29 (cI ((s::t::r).map aG) x ((VN "place",.val (.int p))::ks)) false (wi (rP (ak (aZ 17) 4)) 0)=bh (.lst ((s::t::r).map aG)) (.int (-1)):=by kernel_rfl
 have a2:ev aa Φ 29 (cI ((s::t::r).map aG) x ((VN "place",.val (.int p))::ks)) false (wi (rP (ak (aZ 17) 4)) 2) =
   ((((((bh (.lst ((s::t::r).map aG)) (.int (-1))).bind λd=>some [d]).bind λds=>BL .len ds).bind λb=>LI .Sub (.int x.length) b).bind λd=>some [d]).map (D.int p::·)).bind λds=>BL .max ds:=by kernel_rfl
 rw[(AB s t r)]at a0 a2;have Vr:ev aa Φ 29 (cI ((s::t::r).map aG) x ((VN "place",.val (.int p))::ks)) false (wi (rP (ak (aZ 17) 4)) 2)=some (.int (max p (x.cps.toList.length - (gm t r).length):Nat)):=by
  rw[a2];show some (D.int (if(x.length:Int) - ((gm t r).map cH).length>(p:Int)then(x.length:Int) - ((gm t r).map cH).length else(p:Int)))=_;rw[VZ];congr 2;have Sw:x.length=x.cps.toList.length:=rfl;split;· exact z4 ‹_›
  ·exact z5 ‹_›
 refine mz (by exact .mk rfl) nofun nofun a0 (y:=.str x) nofun Vr ?_;rw[show oO (rP (ak (aZ 17) 4))=qC by kernel_rfl];exact eg _ x _ hR
theorem r8:∀(t:kh) (r:List kh),gm t r∈t::r
 |t,[]=>VT
 |t,u::r=>VS _ (r8 u r)
theorem sk:∀(t:kh) (r:List kh),∀x∈nR t r,x∈t::r
 |t,[],x,h=>nomatch h
 |t,u::r,x,h=>(V2.mp h).elim (λe=>e▸VT) λh=>VS _ (sk u r x h)
theorem FO (eg:ik Φ)(R:List kh)(Jh:∀r∈R,r.length<=1000)(x:Str)(hx:x.cps.toList.length<=20):∃σ',aW aa Φ 30 6 (cI (T:=T) (R.map aG) x []) (aZ 17)=some (σ',.ret (.bool (ga R x.cps.toList))):=by
 revert eg Jh hx;revert aa Φ R x;unfold T;exists aa,Φ,R,x;intro eg Jh hx;have dC:(aZ 17).length=5:=by kernel_rfl
 have h0:=tak_0 (aa:=aa) (T:=T) eg R Jh x [];have no:∀R:List kh,ga R x.cps.toList=false->ev aa Φ 30 (cI (T:=T) (R.map aG) x []) true (gF (ak (aZ 17) 0))=some (.bool true)->∃σ',aW aa Φ 30 6 (cI (T:=T) (R.map aG) x []) (aZ 17)=some (σ',.ret (.bool (ga R x.cps.toList))):=λR hR h=>by
  rw[hR,aC];refine⟨cI (R.map aG) x [],bS ⋯ ?_⟩;rw[bj ∅ h];show aW aa Φ 30 5 _ (cQ _)=_;rw[aC];exact bS (by rw[show(cQ (ak (aZ 17) 0)).length=1 by kernel_rfl];omega) (j1 ∅ nofun)
 cases R with
 |nil=>exact no [] rfl h0
 |cons s rs =>
  delta s rs;intro Jh h0;cases q:eD s x.cps.toList 0 with
  |false =>
   simp only[q,Bool.not_false]at h0;exact no (s::rs) (by clear Jh h0;induction rs with |nil=>exact(congrArg (·&&VW s.length x.cps.toList.length) q:_) |cons t r _=>exact(congrArg (·&&eD (gm t r) x.cps.toList (max (w8 x.cps.toList (nR t r) s.length) (x.cps.toList.length - (gm t r).length))) q:_)) h0
  |true =>
   simp only[q,Bool.not_true]at h0;rw[aC];have e0:bQ aa Φ 30 (aW aa Φ 30 5) (cI (T:=T) ((s::rs).map aG) x []) (ak (aZ 17) 0)=some (cI ((s::rs).map aG) x [],.next):=by
    rw[bj ∅ h0];show aW aa Φ 30 5 _ (bT _)=_;rw[show bT (ak (aZ 17) 0)=[] by kernel_rfl];rfl
   have e1:=fY (aa:=aa) (Φ:=Φ) (N:=30) (rec:=aW aa Φ 30 5) (σ:=cI (T:=T) ((s::rs).map aG) x []) (st:=ak (aZ 17) 1) (d:=.int s.length) (by exact .mk rfl) nofun (tak_1 s (rs.map aG) x []);have Mn:(cI (T:=T) ((s::rs).map aG) x []).set (rp (ak (aZ 17) 1)) (.val (.int s.length))=cI ((s::rs).map aG) x [(VN "place",.val (.int s.length))]:=by kernel_rfl
   rw[Mn]at e1;have h2:=tak_2 (aa:=aa) (Φ:=Φ) ((s::rs).map aG) x [(VN "place",aO.val (T:=T) (.int s.length))];rw[VZ]at h2;induction rs with
   |nil =>
    have h2:ev aa Φ 30 (cI (T:=T) ([s].map aG) x [(VN "place",.val (.int s.length))]) true (gF (ak (aZ 17) 2))=some (.bool true):=h2;refine⟨cI ([s].map aG) x [(VN "place",.val (.int s.length))],ah ⋯ e0 (ah ⋯ e1 (bS ⋯ ?_))⟩;rw[bj ∅ h2];show aW aa Φ 30 5 _ (cQ _)=_;rw[aC];refine bS (by rw[show(cQ (ak (aZ 17) 2)).length=1 by kernel_rfl];omega) (j1 ∅ ?_);have:ev aa Φ 30 (cI (T:=T) ([s].map aG) x [(VN "place",.val (.int s.length))]) false (rP (ak (cQ (ak (aZ 17) 2)) 0))=some (.bool (decide ((s.length:Int)=(x.length:Int)))):=by kernel_rfl
    rw[this];congr 2;rw[show ga [s] x.cps.toList=(eD s x.cps.toList 0&&VW s.length x.cps.toList.length)from rfl,q,X5];have Sw:x.length=x.cps.toList.length:=rfl
    cases z:VW s.length x.cps.toList.length with
    |true=>have:=V_ z;exact decide_eq_true (by lia)
    |false =>
     refine decide_eq_false λh=>?_
     have:s.length=x.cps.toList.length:=by lia
     rw[this,Nat.beq_refl]at z;exact oY z
   |cons t r =>
    delta t r;intro _ Jh h0 e0 Mn e1 h2;rw[decide_eq_false (by simp only[VY];lia)]at h2;have e2:bQ aa Φ 30 (aW aa Φ 30 5) (cI (T:=T) ((s::t::r).map aG) x [(VN "place",.val (.int s.length))]) (ak (aZ 17) 2)=some (cI ((s::t::r).map aG) x [(VN "place",.val (.int s.length))],.next):=by
     rw[bj ∅ h2];show aW aa Φ 30 5 _ (bT _)=_;rw[show bT (ak (aZ 17) 2)=[] by kernel_rfl];rfl
    obtain⟨c_,jl⟩:1:=GP (aa:=aa) (T:=T) eg 3 ((s::t::r).map aG) x hx (nR t r) s.length [] (λy hy=>Jh y (VS _ (sk t r y hy))) (.inl rfl);have U4:=my (rec:=aW aa Φ 30 5) (st:=ak (aZ 17) 3) ∅ (C3 (aa:=aa) (Φ:=Φ) s t r x [(VN "place",aO.val (T:=T) (.int s.length))]) rfl;refine⟨_,ah ⋯ e0 (ah ⋯ e1 (ah ⋯ e2 (ah ⋯ (U4.trans jl.2) (bS ⋯ (j1 ∅ ?_)))))⟩;rw[FP eg _ _ _ (Jh _ (VS _ (r8 t r)))];rw[show ga (s::t::r) x.cps.toList=(eD s x.cps.toList 0&&eD (gm t r) x.cps.toList (max (w8 x.cps.toList (nR t r) s.length) (x.cps.toList.length - (gm t r).length)))from rfl,q,X5]
end
theorem vr (a b:Nat):gu [a] [b]=VW a b:=Y_ _
section
variable {T:Type}{aa:T->Str->List D->Option D}{Φ:b_}
noncomputable def aQ (t:List Nat)(n:Nat)(S:List D)(ks:List (Str×aO T)):az T:=⟨dZ 14,(VN "text",.val (.str (ao t)))::(VN "at",.val (.int n))::(VN "signs",.own S)::ks⟩
noncomputable def b8 (m:List Nat)(b:Bool):List (Str×aO T):=[(VN "members",.val (.str (ao m))),(VN "barred",.val (.bool b))]
noncomputable def h_:V9:=ak (aZ 14) 1
noncomputable def kT (t:List Nat)(n:Nat)(c:Nat):Bool:=VW c 41||gu ((t.drop n).take 2) [46,42]||gu ((t.drop n).take 2) [40,63]
theorem RC (t:List Nat)(n:Nat):cx (some (n:Int)) (some ((n:Int)+2)) (.str (ao t))=some (.str (ao ((t.drop n).take 2))):=by
 show some (D.str ⟨⟨xV (some (.ofNat n)) (some (.ofNat (n+2))) t⟩⟩)=_;show some (D.str ⟨⟨(t.drop n).take (n+2 - n)⟩⟩)=_;rw[Nat.add_sub_cancel_left];rfl
theorem ec {t:List Nat}{n c:Nat}(h:t[n]?=some c):bh (.str (ao t)) (.int n)=some (.str (ao [c])):=by
 show(qr t (n:Int)).map _=_;rw[iG,h];rfl
theorem uY {t:List Nat}{n c:Nat}(h:t[n]?=some c)(S:List D)(ks:List (Str×aO T)):ev aa Φ 30 (aQ t n S ks) true (iS h_)=some (.bool (!(kT t n c))):=by
 revert h;revert aa Φ t n c S ks;unfold T;exists aa,Φ,t,n,c,S,ks;intro h;have h0:ev aa Φ 28 (aQ t n S ks) false (fg (iS h_) 0)=(bh (.str (ao t)) (.int n)).bind λa=>bZ .NotEq a (.str (VN ")")):=by kernel_rfl
 have h1:ev aa Φ 28 (aQ t n S ks) false (fg (iS h_) 1)=(cx (some (n:Int)) (some ((n:Int)+2)) (.str (ao t))).bind λa=>bZ .NotEq a (.str (VN ".*")):=by kernel_rfl
 have h2:ev aa Φ 28 (aQ t n S ks) false (fg (iS h_) 2)=(cx (some (n:Int)) (some ((n:Int)+2)) (.str (ao t))).bind λa=>bZ .NotEq a (.str (VN "(?")):=by kernel_rfl
 rw[ec h]at h0;rw[RC]at h1 h2;have e0:(VN ")").cps.toList=[41]:=by decide +kernel
 have e1:(VN ".*").cps.toList=[46,42]:=by decide +kernel
 have e2:(VN "(?").cps.toList=[40,63]:=by decide +kernel
 have g0:ev aa Φ 28 (aQ t n S ks) false (fg (iS h_) 0)=some (.bool (!(VW c 41))):=by
  rw[h0];show some (D.bool (!(gu [c] (VN ")").cps.toList)))=_
  rw[e0];rw[vr]
 have g1:ev aa Φ 28 (aQ t n S ks) false (fg (iS h_) 1)=some (.bool (!(gu ((t.drop n).take 2) [46,42]))):=by
  rw[h1];show some (D.bool (!(gu ((t.drop n).take 2) (VN ".*").cps.toList)))=_;rw[e1]
 have g2:ev aa Φ 28 (aQ t n S ks) false (fg (iS h_) 2)=some (.bool (!(gu ((t.drop n).take 2) [40,63]))):=by
  rw[h2];show some (D.bool (!(gu ((t.drop n).take 2) (VN "(?").cps.toList)))=_
  rw[e2]
 have:=HZ (aa:=aa) (Φ:=Φ) (n:=29) (σ:=aQ t n S ks) (e:=iS h_) ∅ (aH nofun g0 rfl) (λ_=>aH nofun g1 rfl) (λ_ _=>aH nofun g2 rfl);rw[this];unfold kT;simp only[Bool.not_or,Bool.and_assoc]
end
noncomputable def L4 (st:V9)(i:Nat):Str:=match st with | .Assign ts _ _=>M2 ((PD (ts.getD 0 zE)).getD i zE) |_=>WT
noncomputable def wF (st:V9)(i:Nat):Expr:=(PD (bR st)).getD i zE
inductive Dt (nm:bc):V9->Prop
 |mk {a pa b pb kk tp v1 v2 k2 vp q}:(dB nm a&&dB nm b&&VW pb.line pa.line&&!(d4 a b)&&!(foldedForSure 8 v1&&foldedForSure 8 v2)&&!(constantsAlone 8 v1&&constantsAlone 8 v2))=true->Dt nm (.Assign [.Tuple [.Name a pa,.Name b pb] kk tp] (.Tuple [v1,v2] k2 vp) q)
inductive Nw:V9->Prop |mk {x p m ap e cp q}:(si m&&VW ap.endLine cp.line)=true->Nw (.Expr (.Call (.Attribute (.Name x p) m ap) [e] [] cp) q)
noncomputable def Vo:Expr->Str | .Attribute e _ _=>M2 e | .Name f _=>f |_=>WT
noncomputable def Vp:Expr->Str | .Call f _ _ _=>Vo f |_=>WT
noncomputable def Ow:V9->Str | .Expr e _=>Vp e |_=>WT
inductive Hs:V9->Prop |mk {f p e cp q}:Hs (.Expr (.Call (.Name f p) [e] [] cp) q)
inductive Nu (nm:bc):V9->Prop |mk {x p es vp q}:(bW nm x&&Wm es.length 1000)=true->Nu nm (.Assign [.Name x p] (.List es vp) q)
noncomputable def T4:Expr->List Expr | .List es _=>es |_=>[]
noncomputable def U6 (st:V9):List Expr:=T4 (bR st)
section
variable {T:Type}{aa:T->Str->List D->Option D}{Φ:b_}{N n:Nat}{σ σ1 iT:az T}{rec:az T->List V9->Rs T}{st:V9}{d d1 d2:D}{l:List D}
set_option tactic.hygienic true in
theorem xO (hs:Dt σ.nm st)(h1:ev aa Φ N σ false (wF st 0)=some d1)(h2:ev aa Φ N σ false (wF st 1)=some d2):bQ aa Φ N rec σ st=some ((σ.set (L4 st 1) (.val d2)).set (L4 st 0) (.val d1),.next):=by
 obtain⟨hs⟩:=hs;rename_i a pa b pb kk tp v1 v2 k2 vp pos;have h1:ev aa Φ N σ false v1=_:=h1;have h2:ev aa Φ N σ false v2=_:=h2;show bA (λσ=>bV aa Φ N σ (.Assign [.Tuple [.Name a pa,.Name b pb] kk tp] (.Tuple [v1,v2] k2 vp) pos)) (dW σ)=_;refine bE ?_;show a_ _ _ (dB σ.nm a&&dB σ.nm b&&VW pb.line pa.line&&!(d4 a b)&&!(foldedForSure 8 v1&&foldedForSure 8 v2)&&!(constantsAlone 8 v1&&constantsAlone 8 v2))=_;rw[hs];exact(dS h1).trans ((dS h2).trans ((bO _ _).trans (bO _ _)))
set_option tactic.hygienic true in
theorem v8 (hs:Nw st)(hx:σ.get (Ow st)=some (.own l))(h:ev aa Φ N σ false (bR st)=some d)(hz:l.length<100000):bQ aa Φ N rec σ st=some (σ.up (Ow st) (.own (l++[d])),.next):=by
 obtain⟨hs⟩:=hs;rename_i x xp m aE e g_ pos;have hx:σ.get x=_:=hx;have h:ev aa Φ N σ false e=_:=h;show bA (λσ=>bV aa Φ N σ (.Expr (.Call (.Attribute (.Name x xp) m aE) [e] [] g_) pos)) (dW σ)=_;refine bE ?_;have hb:XW l.length 100000=true:=Wh hz;exact lx hs ((dS (f:=λl=>_) (a:=l) (by rw[hx];rfl)).trans ((dS h).trans (lx hb ((bO _ _).trans (np _ _)))))
set_option tactic.hygienic true in
theorem y8 {y:Str}(hs:Hs st)(hf:σ.get (Ow st)=some (.app y))(hx:σ.get y=some (.own l))(h:ev aa Φ N σ false (bR st)=some d)(hz:l.length<100000):bQ aa Φ N rec σ st=some (σ.up y (.own (l++[d])),.next):=by
 induction hs;rename_i f fp e g_ pos;have hf:σ.get f=_:=hf;have h:ev aa Φ N σ false e=_:=h;show bA (λσ=>bV aa Φ N σ (.Expr (.Call (.Name f fp) [e] [] g_) pos)) (dW σ)=_;refine bE ?_;have hb:XW l.length 100000=true:=Wh hz;exact(dS (a:=y) (by rw[hf];rfl)).trans ((dS (a:=l) (by rw[hx];rfl)).trans ((dS h).trans (lx hb ((bO _ _).trans (np _ _)))))
set_option tactic.hygienic true in
theorem sx (hs:Nu σ.nm st)(hf:u_ σ.vs=true)(h:k5 (λσ b e=>ev aa Φ N σ b e) σ (U6 st)=some l):bQ aa Φ N rec σ st=some (σ.set (rp st) (.own l),.next):=by
 obtain⟨hs⟩:=hs;rename_i x p es vp pos;rw[V3]at hs;have h:k5 (λσ b e=>ev aa Φ N σ b e) σ es=_:=h;show bA (λσ=>bV aa Φ N σ (.Assign [.Name x p] (.List es vp) pos)) (dW σ)=_;refine bE ?_;exact lx hs.1 (lx (by rw[hs.2,hf];rfl) ((dS h).trans (eM _ _)))
end
section
variable {T:Type}{aa:T->Str->List D->Option D}{Φ:b_}
theorem run_0 {t:List Nat}{n c:Nat}(h:t[n]?=some c)(S:List D)(ks:List (Str×aO T))(hk:ks=[]\/∃m b,ks=b8 m b)(rec:az T->List V9->Rs T) :
  bQ aa Φ 30 rec (aQ t n S ks) (ak (cg h_) 0)=some (aQ t n S (b8 [] (VW c 46)),.next):=by
 revert h hk;revert aa Φ t n c S ks rec;unfold T;exists aa,Φ,t,n,c,S,ks,rec;intro h hk;have h0:ev aa Φ 30 (aQ t n S ks) false (wF (ak (cg h_) 0) 0)=(bh (.str (ao t)) (.int n)).bind λa=>bZ .Eq a (.str (VN ".")):=by kernel_rfl
 rw[ec h]at h0;have e0:(VN ".").cps.toList=[46]:=by decide +kernel
 have g0:ev aa Φ 30 (aQ t n S ks) false (wF (ak (cg h_) 0) 0)=some (.bool (VW c 46)):=by
  rw[h0];show some (D.bool (gu [c] (VN ".").cps.toList))=_;rw[e0];rw[vr]
 have g1:ev aa Φ 30 (aQ t n S ks) false (wF (ak (cg h_) 0) 1)=some (.str (ao [])):=by kernel_rfl
 rw[xO (by exact .mk nofun) g0 g1];clear h0 g0 g1;rcases hk with rfl |⟨m,b,rfl⟩<;>kernel_rfl
noncomputable def dL:V9:=ak (cg h_) 1
theorem tf {t:List Nat}{n c:Nat}(h:t[n]?=some c)(S:List D)(m:List Nat)(b:Bool):ev aa Φ 30 (aQ t n S (b8 m b)) true (gF dL)=some (.bool (VW c 91)):=by
 have h0:ev aa Φ 29 (aQ t n S (b8 m b)) false (gF dL)=(bh (.str (ao t)) (.int n)).bind λa=>bZ .Eq a (.str (VN "[")):=by kernel_rfl
 rw[ec h]at h0;have e0:(VN "[").cps.toList=[91]:=by decide +kernel
 refine aH (d:=.bool (VW c 91)) nofun ?_ rfl;rw[h0];show some (D.bool (gu [c] (VN "[").cps.toList))=_
 rw[e0];rw[vr]
theorem Go (n0:Nat){t:List Nat}{n:Nat}(h:t[n]?=some 46)(S:List D):bQ aa Φ 30 (aW aa Φ 30 (n0+2)) (aQ (T:=T) t n S (b8 [] true)) dL=some (aQ t n S (b8 [] true),.next):=by
 rw[bj (c:=false) ∅ (tf h S [] true)];show aW aa Φ 30 (n0+2) _ (bT dL)=_;have hl:(bT dL).length=1:=by kernel_rfl
 rw[aC];refine ah ⋯ ?_ (aD ⋯);rw[bj (c:=false) ∅ nofun];show aW aa Φ 30 (n0+1) _ (bT (ak (bT dL) 0))=_;rw[show bT (ak (bT dL) 0)=[] by kernel_rfl];rfl
theorem zZ (n0:Nat){t:List Nat}{n c:Nat}(h:t[n]?=some c)(h1:VW c 91=false)(h2:VW c 92=false)(S:List D):bQ aa Φ 30 (aW aa Φ 30 (n0+3)) (aQ (T:=T) t n S (b8 [] false)) dL=some (aQ t n S (b8 [c] false),.next):=by
 revert h h1 h2;revert aa Φ n0 t n c S;unfold T;exists aa,Φ,n0,t,n,c,S;intro h h1 h2;have hi:=tf (aa:=aa) (Φ:=Φ) (T:=T) h S [] false;rw[h1]at hi;rw[bj (c:=false) ∅ hi];show aW aa Φ 30 (n0+3) _ (bT dL)=_;have hl:(bT dL).length=1:=by kernel_rfl
 have HH:(cQ (ak (bT dL) 0)).length=2:=by kernel_rfl
 rw[aC];refine ah ⋯ ?_ (aD ⋯);rw[bj (c:=true) ∅ nofun];show aW aa Φ 30 (n0+2) _ (cQ (ak (bT dL) 0))=_;rw[aC];have hb:ev aa Φ 30 (aQ (T:=T) t n S (b8 [] false)) true (gF (ak (cQ (ak (bT dL) 0)) 0))=some (.bool (VW c 92)):=by
  have h0:ev aa Φ 29 (aQ (T:=T) t n S (b8 [] false)) false (gF (ak (cQ (ak (bT dL) 0)) 0))=(bh (.str (ao t)) (.int n)).bind λa=>bZ .Eq a (.str (VN "\\")):=by kernel_rfl
  rw[ec h]at h0;have e0:(VN "\\").cps.toList=[92]:=by decide +kernel
  refine aH (d:=.bool (VW c 92)) nofun ?_ rfl;rw[h0];show some (D.bool (gu [c] (VN "\\").cps.toList))=_;rw[e0];rw[vr]
 rw[h2]at hb;refine ah (σ1:=aQ t n S (b8 [] false)) ⋯ ?_ (ah (σ1:=aQ t n S (b8 [c] false)) ⋯ ?_ (aD ⋯))
 ·rw[bj (c:=false) ∅ hb]
  show aW aa Φ 30 (n0+1) _ (bT _)=_;rw[show bT (ak (cQ (ak (bT dL) 0)) 0)=[] by kernel_rfl];rfl
 ·have hm:ev aa Φ 30 (aQ (T:=T) t n S (b8 [] false)) false (bR (ak (cQ (ak (bT dL) 0)) 1))=bh (.str (ao t)) (.int n):=by kernel_rfl
  rw[ec h]at hm;rw[fY (by exact .mk rfl) nofun hm];kernel_rfl
theorem Gn (n0:Nat){t:List Nat}{n c:Nat}(h:t[n]?=some 92)(hc:t[n+1]?=some c)(S:List D):bQ aa Φ 30 (aW aa Φ 30 (n0+4)) (aQ (T:=T) t n S (b8 [] false)) dL=some (aQ t (n+1) S (b8 [c] false),.next):=by
 revert h hc;revert aa Φ n0 t n c S;unfold T;exists aa,Φ,n0,t,n,c,S;intro h hc;have hi:=tf (aa:=aa) (Φ:=Φ) (T:=T) h S [] false;rw[bj (c:=false) ∅ hi];show aW aa Φ 30 (n0+4) _ (bT dL)=_;have hl:(bT dL).length=1:=by kernel_rfl
 have HH:(cQ (ak (bT dL) 0)).length=2:=by kernel_rfl
 have O_:(cQ (ak (cQ (ak (bT dL) 0)) 0)).length=1:=by kernel_rfl
 rw[aC];refine ah ⋯ ?_ (aD ⋯);rw[bj (c:=true) ∅ nofun];show aW aa Φ 30 (n0+3) _ (cQ (ak (bT dL) 0))=_;rw[aC];have hb:ev aa Φ 30 (aQ (T:=T) t n S (b8 [] false)) true (gF (ak (cQ (ak (bT dL) 0)) 0))=some (.bool true):=by
  have h0:ev aa Φ 29 (aQ (T:=T) t n S (b8 [] false)) false (gF (ak (cQ (ak (bT dL) 0)) 0))=(bh (.str (ao t)) (.int n)).bind λa=>bZ .Eq a (.str (VN "\\")):=by kernel_rfl
  rw[ec h]at h0;have e0:(VN "\\").cps.toList=[92]:=by decide +kernel
  refine aH (d:=.bool true) nofun ?_ rfl;rw[h0];show some (D.bool (gu [92] (VN "\\").cps.toList))=_;rw[e0];rfl
 refine ah (σ1:=aQ t (n+1) S (b8 [] false)) ⋯ ?_ (ah (σ1:=aQ t (n+1) S (b8 [c] false)) ⋯ ?_ (aD ⋯))
 ·rw[bj (c:=true) ∅ hb]
  show aW aa Φ 30 (n0+2) _ (cQ _)=_;rw[aC];refine ah ⋯ ?_ (aD ⋯);rw[ji (old:=.int n) (v:=.int 1) (d:=.int (n+1)) ∅ nofun nofun nofun rfl];kernel_rfl
 ·have hm:ev aa Φ 30 (aQ (T:=T) t (n+1) S (b8 [] false)) false (bR (ak (cQ (ak (bT dL) 0)) 1))=bh (.str (ao t)) (.int (n+1:Nat)):=by kernel_rfl
  rw[ec hc]at hm;rw[fY (by exact .mk rfl) nofun hm];kernel_rfl
theorem CG (n0:Nat)(t:List Nat)(n:Nat)(S:List D)(m:List Nat)(b:Bool)(hz:S.length<100000):eT (bQ aa Φ 30 (aW aa Φ 30 n0)) (aQ (T:=T) t n S (b8 m b)) ((cg h_).drop 2)=some (aQ t (n+1) (S++[cH (b,m)]) (b8 m b),.next):=by
 have hl:(cg h_).length=4:=by kernel_rfl
 refine ah (σ1:=aQ t (n+1) S (b8 m b)) ⋯ ?_ (ah (σ1:=aQ t (n+1) (S++[cH (b,m)]) (b8 m b)) ⋯ ?_ (aD ⋯))
 ·rw[ji (old:=.int n) (v:=.int 1) (d:=.int (n+1)) ∅ nofun nofun nofun rfl]
  kernel_rfl
 ·rw[v8 (l:=S) (d:=cH (b,m)) (by exact .mk nofun) nofun nofun hz]
  kernel_rfl
noncomputable def wj:V9:=ak (cQ dL) 2
theorem zk {t:List Nat}{n c:Nat}(h:t[n]?=some c)(S:List D)(m:List Nat)(b:Bool):ev aa Φ 30 (aQ (T:=T) t n S (b8 m b)) true (iS wj)=some (.bool (!(VW c 93)||m.isEmpty)):=by
 have e0:(VN "]").cps.toList=[93]:=by decide +kernel
 have e1:(VN "").cps.toList=[]:=by decide +kernel
 refine j6 (a:=!(VW c 93)) (b:=m.isEmpty) ∅ (aH (d:=.bool (!(VW c 93))) nofun ?_ rfl) λ_=>aH (d:=.bool m.isEmpty) nofun ?_ rfl
 ·have h0:ev aa Φ 28 (aQ (T:=T) t n S (b8 m b)) false (fg (iS wj) 0)=(bh (.str (ao t)) (.int n)).bind λa=>bZ .NotEq a (.str (VN "]")):=by kernel_rfl
  rw[h0,ec h];show some (D.bool (!(gu [c] (VN "]").cps.toList)))=_
  rw[e0];rw[vr]
 ·have h0:ev aa Φ 28 (aQ (T:=T) t n S (b8 m b)) false (fg (iS wj) 1)=bZ .Eq (.str (ao m)) (.str (VN "")):=by kernel_rfl
  rw[h0];show some (D.bool (gu m (VN "").cps.toList))=_;rw[e1];clear h0;induction m<;>rfl
theorem Ia (n0:Nat){t:List Nat}{n c:Nat}(h:t[n]?=some c)(S:List D)(m:List Nat)(b:Bool)(hm:m.length<=1000):aW aa Φ 30 (n0+1) (aQ (T:=T) t n S (b8 m b)) (cg wj)=some (aQ t (n+1) S (b8 (m++[c]) b),.next):=by
 have hl:(cg wj).length=2:=by kernel_rfl
 rw[aC];refine ah (σ1:=aQ t n S (b8 (m++[c]) b)) ⋯ ?_ (ah (σ1:=aQ t (n+1) S (b8 (m++[c]) b)) ⋯ ?_ (aD ⋯))
 ·have hv:ev aa Φ 30 (aQ (T:=T) t n S (b8 m b)) false (bR (ak (cg wj) 0))=bh (.str (ao t)) (.int n):=by kernel_rfl
  rw[ec h]at hv;have ha:Ij .Add (.str (ao m)) (.str (ao [c]))=some (.str (ao (m++[c]))):=by
   have hz:(ao m).length+(ao [c]).length<=1000000:=by show m.length+1<=_;lia
   refine(lx rfl rfl).trans (lx (x:=some (D.str (ao m++ao [c]))) (Wh hz) (congrArg some (congrArg D.str (dE ?_))));show((⟨m⟩:Array Nat)++(⟨[c]⟩:Array Nat)).toList=m++[c];simp
  rw[ji (old:=.str (ao m)) ∅ nofun nofun hv ha];kernel_rfl
 ·rw[ji (old:=.int n) (v:=.int 1) (d:=.int (n+1)) ∅ nofun nofun nofun rfl]
  kernel_rfl
theorem bM {t aK:List Nat}{n c:Nat}(h:t.drop n=c::aK):t[n]?=some c:=by
 have:=congrArg (·[0]?) h;simpa using this
theorem zl (n0:Nat)(t:List Nat)(S:List D)(b:Bool)(aK:List Nat):∀(ms:List Nat) (n:Nat) (m:List Nat) (ba:Nat),(∀c∈ms,VW c 93=false)->t.drop n=ms++93::aK->(ms=[]->m≠[])->m.length+ms.length<=900->ms.length<ba ->de aa Φ 30 (aW aa Φ 30 (n0+1)) (iS wj) (cg wj) ba (aQ (T:=T) t n S (b8 m b))=some (aQ t (n+ms.length) S (b8 (m++ms) b),.next):=by
 revert aa Φ n0 t S b aK;unfold T;exists aa,Φ,n0,t,S,b,aK;intro ms;induction ms with
 |nil =>
  intro n m ba hc ht hm hz hf;obtain⟨f,rfl⟩:=uD hf;have h:=zk (aa:=aa) (Φ:=Φ) (T:=T) (bM ht) S m b;have he:m.isEmpty=false:=by clear hz;induction m with |nil=>exact absurd rfl (hm rfl) |cons _ _=>rfl
  rw[he]at h;rw[dx h];simp
 |cons c ms ih =>
  intro n m ba hc ht hm hz hf;obtain⟨f,rfl⟩:=uD hf;have hn:=bM ht;have h:=zk (aa:=aa) (Φ:=Φ) (T:=T) hn S m b;rw[hc c VT]at h;simp only[VY]at hz hf;refine fG h (Ia n0 hn S m b (by lia)) ?_;have:=ih (n+1) (m++[c]) f (λx hx=>hc x (VS _ hx)) (by rw[<- Wl,ht];rfl) (λ_=>by simp) (by simp only[V1,We];lia) (WB (by assumption));rw[this];simp only[VY,Ww,List.singleton_append,show n+1+ms.length=n+(ms.length+1) by lia]
theorem EN {t:List Nat}{n c:Nat}(h:t[n]?=some c)(S:List D)(m:List Nat)(b:Bool):ev aa Φ 30 (aQ (T:=T) t n S (b8 m b)) true (gF (ak (cQ dL) 1))=some (.bool (VW c 94)):=by
 have h0:ev aa Φ 29 (aQ (T:=T) t n S (b8 m b)) false (gF (ak (cQ dL) 1))=(bh (.str (ao t)) (.int n)).bind λa=>bZ .Eq a (.str (VN "^")):=by kernel_rfl
 rw[ec h]at h0;have e0:(VN "^").cps.toList=[94]:=by decide +kernel
 refine aH (d:=.bool (VW c 94)) nofun ?_ rfl;rw[h0];show some (D.bool (gu [c] (VN "^").cps.toList))=_;rw[e0];rw[vr]
noncomputable def ro (neg:Bool)(ms:List Nat):List Nat:=match neg with |true=>94::ms |false=>ms
theorem J1 (n0:Nat){t aK ms:List Nat}{n:Nat}{neg:Bool}(ht:t.drop n=91::(ro neg ms++93::aK))(KZ:ms≠[])(hc:∀c∈ms,VW c 93=false)(Jj:neg=false->∀c,ms.head?=some c->VW c 94=false)(hz:ms.length<=20)(S:List D) :
  bQ aa Φ 30 (aW aa Φ 30 (n0+4)) (aQ (T:=T) t n S (b8 [] false)) dL=some (aQ t (n+1+(ro neg ms).length) S (b8 ms neg),.next):=by
 revert ht KZ hc Jj hz;revert aa Φ n0 t aK ms n neg S;unfold T;exists aa,Φ,n0,t,aK,ms,n,neg,S;intro ht KZ hc Jj hz;have hi:=tf (aa:=aa) (Φ:=Φ) (T:=T) (bM ht) S [] false;rw[bj (c:=true) ∅ hi];show aW aa Φ 30 (n0+4) _ (cQ dL)=_;have hl:(cQ dL).length=3:=by kernel_rfl
 have HH:(cQ (ak (cQ dL) 1)).length=2:=by kernel_rfl
 have xz:t.drop (n+1)=ro neg ms++93::aK:=by rw[<- Wl,ht];rfl
 rw[aC];have e0:bQ aa Φ 30 (aW aa Φ 30 (n0+3)) (aQ (T:=T) t n S (b8 [] false)) (ak (cQ dL) 0)=some (aQ t (n+1) S (b8 [] false),.next):=by
  rw[ji (old:=.int n) (v:=.int 1) (d:=.int (n+1)) ∅ nofun nofun nofun rfl];kernel_rfl
 induction neg with
 |false =>
  obtain⟨c,r,rfl⟩:∃c r,ms=c::r:=by clear hc hz ht Jj xz;induction ms with |nil=>exact absurd rfl KZ |cons c r=>exact⟨c,r,rfl⟩
  have hb:=EN (aa:=aa) (Φ:=Φ) (T:=T) (bM xz) S [] false;rw[Jj rfl c rfl]at hb;have e1:bQ aa Φ 30 (aW aa Φ 30 (n0+3)) (aQ (T:=T) t (n+1) S (b8 [] false)) (ak (cQ dL) 1)=some (aQ t (n+1) S (b8 [] false),.next):=by
   rw[bj (c:=false) ∅ hb];show aW aa Φ 30 (n0+3) _ (bT _)=_;rw[show bT (ak (cQ dL) 1)=[] by kernel_rfl];rfl
  refine ah ⋯ e0 (ah ⋯ e1 (ah ⋯ ?_ (aD ⋯)));rw[kY ∅];exact zl (n0+2) t S false aK (c::r) (n+1) [] 30 hc xz (λq=>by clear KZ hc hz ht Jj xz;cases q) (by simp only[WI,VY]at *;lia) (Wn (by assumption) ⋯)
 |true =>
  have hb:=EN (aa:=aa) (Φ:=Φ) (T:=T) (bM (show t.drop (n+1)=94::(ms++93::aK)from xz)) S [] false;have KV:t.drop (n+1+1)=ms++93::aK:=by rw[<- Wl,xz];rfl
  have e1:bQ aa Φ 30 (aW aa Φ 30 (n0+3)) (aQ (T:=T) t (n+1) S (b8 [] false)) (ak (cQ dL) 1)=some (aQ t (n+1+1) S (b8 [] true),.next):=by
   rw[bj (c:=true) ∅ hb];show aW aa Φ 30 (n0+3) _ (cQ _)=_;rw[aC];refine ah (σ1:=aQ t (n+1) S (b8 [] true)) ⋯ ?_ (ah ⋯ ?_ (aD ⋯))
   ·rw[fY (d:=.bool true) (by exact .mk rfl) nofun nofun]
    kernel_rfl
   ·rw[ji (old:=.int (n+1:Nat)) (v:=.int 1) (d:=.int ((n+1:Nat)+1)) ∅ nofun nofun nofun rfl]
    kernel_rfl
  refine ah ⋯ e0 (ah ⋯ e1 (ah ⋯ ?_ (aD ⋯)));rw[kY ∅];have:=zl (aa:=aa) (Φ:=Φ) (T:=T) (n0+2) t S true aK ms (n+1+1) [] 30 hc KV (λq=>absurd q KZ) (by simp only[WI];lia) (Wn (by assumption) ⋯);have e:n+1+1+ms.length=n+1+(ro true ms).length:=by simp only[ro,VY];lia
  rw[e]at this;exact this
end
inductive Tk where
 |any
 |pl (c:Nat)
 |es (c:Nat)
 |br (neg:Bool) (ms:List Nat)
 deriving Nonempty
noncomputable def Tk.txt:Tk->List Nat
 | .any=>[46]
 | .pl c=>[c]
 | .es c=>[92,c]
 | .br neg ms=>91::(ro neg ms++[93])
noncomputable def Tk.sg:Tk->gz
 | .any=>(true,[])
 | .pl c=>(false,[c])
 | .es c=>(false,[c])
 | .br neg ms=>(neg,ms)
noncomputable def Jj (l:List Nat):Bool:=match l with |[]=>false |c::_=>VW c 94
noncomputable def Tk.ok:Tk->Bool
 | .any=>true
 | .pl c=>!(VW c 41)&&!(VW c 40)&&!(VW c 42)&&!(VW c 46)&&!(VW c 91)&&!(VW c 92)
 | .es c=>true
 | .br neg ms=>!ms.isEmpty&&ms.all (λc=>!(VW c 93))&&(neg||!(Jj ms))&&Wm ms.length 20
noncomputable def bp (ts:List Tk):List Nat:=(ts.map Tk.txt).flatten
noncomputable def dX (ts:List Tk):kh:=ts.map Tk.sg
inductive oy:List Nat->Prop
 |par (r):oy (41::r)
 |star (r):oy (46::42::r)
 |grp (r):oy (40::63::r)
noncomputable def first (l:List Nat):Nat:=match l with |c::_=>c |[]=>0
theorem oy.first {l:List Nat}(h:oy l):l≠[]/\first l≠42:=by
 cases h<;>exact⟨by simp,by simp[Mine.first]⟩
theorem B4 {ts:List Tk}{aK:List Nat}(h:∀t∈ts,t.ok=true)(hp:oy aK):(bp ts++aK)≠[]/\first (bp ts++aK)≠42:=by
 induction ts with
 |nil=>exact hp.first
 |cons t ts =>
  have:=h t VT;induction t with
  |any=>exact⟨XD _ _,show(46:Nat)≠42 by decide⟩
  |pl c =>
   refine⟨XD _ _,?_⟩;rintro rfl;exact oY this.symm
  |es c=>exact⟨XD _ _,show(92:Nat)≠42 by decide⟩
  |br n m=>exact⟨XD _ _,show(91:Nat)≠42 by decide⟩
section
variable {T:Type}{aa:T->Str->List D->Option D}{Φ:b_}
theorem w3 {t aK:List Nat}{n:Nat}(ht:t.drop n=46::aK)(hp:first aK≠42):kT t n 46=false:=by
 unfold kT;rw[ht];clear ht;induction aK with
 |nil=>rfl
 |cons c r =>
  have hc:VW c 42=false:=by
   cases q:VW c 42 with
   |false=>rfl
   |true=>exact absurd (V_ q) hp
  show(VW 46 41||(VW 46 46&&(VW c 42&&true))||gu [46,c] [40,63])=false;rw[hc];rfl
theorem li {t aK:List Nat}{n c:Nat}(ht:t.drop n=c::aK)(h1:VW c 41=false)(h2:VW c 46=false)(h3:VW c 40=false):kT t n c=false:=by
 unfold kT;rw[ht,h1];clear ht;induction aK with
 |nil =>
  show(false||(VW c 46&&false)||(VW c 40&&false))=false;rw[h2,h3];rfl
 |cons d r =>
  show(false||(VW c 46&&(VW d 42&&true))||(VW c 40&&(VW d 63&&true)))=false;rw[h2,h3];rfl
theorem KD {t aK:List Nat}{n:Nat}(ht:t.drop n=aK)(h:oy aK):∃c,t[n]?=some c/\kT t n c=true:=by
 induction h with
 |par r=>exact⟨41,bM ht,rfl⟩
 |star r=>exact⟨46,bM ht,by unfold kT;rw[ht];rfl⟩
 |grp r=>exact⟨40,bM ht,by unfold kT;rw[ht];rfl⟩
theorem CF (n0:Nat){t aK:List Nat}{n:Nat}{k:Tk}(hk:k.ok=true)(ht:t.drop n=k.txt++aK)(hp:first aK≠42)(S:List D)(ks:List (Str×aO T))(jA:ks=[]\/∃m b,ks=b8 m b)(hz:S.length<100000) :
  ∃m b,ev aa Φ 30 (aQ t n S ks) true (iS h_)=some (.bool true)/\aW aa Φ 30 (n0+5) (aQ t n S ks) (cg h_)=some (aQ t (n+k.txt.length) (S++[cH k.sg]) (b8 m b),.next):=by
 revert hk ht hp jA hz;revert aa Φ n0 t aK n k S ks;unfold T;exists aa,Φ,n0,t,aK,n,k,S,ks;intro hk ht hp jA hz;have hl:(cg h_).length=4:=by kernel_rfl
 have fin:∀{c m2 b2 n2},t[n]?=some c->kT t n c=false->n2+1=n+k.txt.length->(b2,m2)=k.sg->bQ aa Φ 30 (aW aa Φ 30 (n0+4)) (aQ (T:=T) t n S (b8 [] (VW c 46))) dL=some (aQ t n2 S (b8 m2 b2),.next) ->∃m b,ev aa Φ 30 (aQ t n S ks) true (iS h_)=some (.bool true)/\aW aa Φ 30 (n0+5) (aQ t n S ks) (cg h_)=some (aQ t (n+k.txt.length) (S++[cH k.sg]) (b8 m b),.next):=λ{c m2 b2 n2} hc hs hn hsg e=>by
  refine⟨m2,b2,?_,?_⟩
  ·rw[uY hc,hs];rfl
  ·skip
   refine ah ⋯ (run_0 hc S ks jA _) (ah ⋯ e ?_);rw[CG _ t n2 S m2 b2 hz,hn,hsg]
 induction k with
 |any =>
  have hc:=bM (show t.drop n=46::aK from ht);exact fin (n2:=n) hc (w3 ht hp) rfl rfl (Go (n0+2) hc S)
 |pl c =>
  delta c;intro hk ht fin;replace hk:(!(VW c 41)&&!(VW c 40)&&!(VW c 42)&&!(VW c 46)&&!(VW c 91)&&!(VW c 92))=true:=hk;simp only[V3,Wv]at hk;obtain⟨⟨⟨⟨⟨h1,h2⟩,h3⟩,h4⟩,h5⟩,h6⟩:=hk;have hd:t.drop n=c::aK:=ht;have hc:=bM hd;refine fin (n2:=n) hc (li hd h1 h4 h2) rfl rfl ?_;rw[h4];exact zZ (n0+1) hc h5 h6 S
 |es c =>
  have hd:t.drop n=92::(c::aK):=ht;have NV:t.drop (n+1)=c::aK:=by rw[<- Wl,hd];rfl
  exact fin (n2:=n+1) (bM hd) (li hd rfl rfl rfl) rfl rfl (Gn n0 (bM hd) (bM NV) S)
 |br neg ms =>
  delta neg ms;intro hk ht fin;replace hk:(!ms.isEmpty&&ms.all (λc=>!(VW c 93))&&(neg||!(Jj ms))&&Wm ms.length 20)=true:=hk;simp only[V3,Wv]at hk;obtain⟨⟨⟨h1,h2⟩,h3⟩,h4⟩:=hk;have hd:t.drop n=91::(ro neg ms++93::aK):=by
   rw[ht];show 91::(ro neg ms++[93])++aK=_;rw[Yx,Ww];rfl
  refine fin (n2:=n+1+(ro neg ms).length) (bM hd) (li hd rfl rfl rfl) ?_ rfl (J1 n0 hd ?_ ?_ ?_ (V0 h4) S)
  ·show _=n+(91::(ro neg ms++[93])).length;simp only[VY,V1,WI];lia
  ·clear ht fin h4 h3 h2 hd;rintro rfl;exact oY h1
  ·intro c hc
   have:=Wp.mp h2 c hc;simpa using this
  ·clear ht fin hd;rintro rfl c hc
   clear h4 h1 h2;cases ms with
   |nil=>exact bg hc
   |cons d r =>
    replace hc:=aJ hc;obtain rfl:=hc;exact(Wv _).mp h3
theorem CH (n0:Nat)(t aK:List Nat)(hp:oy aK):∀(ts:List Tk) (n:Nat) (S:List D) (ks:List (Str×aO T)) (ba:Nat),(∀k∈ts,k.ok=true)->t.drop n=bp ts++aK->(ks=[]\/∃m b,ks=b8 m b)->S.length+ts.length<=1000->ts.length<ba ->∃c_,(c_=[]\/∃m b,c_=b8 m b)/\de aa Φ 30 (aW aa Φ 30 (n0+5)) (iS h_) (cg h_) ba (aQ (T:=T) t n S ks)=some (aQ t (n+(bp ts).length) (S++ts.map λk=>cH k.sg) c_,.next):=by
 revert hp;revert aa Φ n0 t aK;unfold T;exists aa,Φ,n0,t,aK;intro hp;intro ts;induction ts with
 |nil =>
  intro n S ks ba hk ht jA hz hf;obtain⟨f,rfl⟩:=uD hf;obtain⟨c,Mx⟩:=KD ht hp;refine⟨ks,jA,?_⟩;have h:=uY (aa:=aa) (Φ:=Φ) Mx.1 S ks;rw[Mx.2]at h;rw[dx h];simp[bp]
 |cons k ts ih =>
  intro n S ks ba hk ht jA hz hf;obtain⟨f,rfl⟩:=uD hf;simp only[VY]at hz hf;have O3:∀k∈ts,k.ok=true:=λx hx=>hk x (VS _ hx)
  have xA:t.drop n=k.txt++(bp ts++aK):=by rw[ht];simp[bp]
  obtain⟨m,b,e1,e2⟩:=CF (aa:=aa) (Φ:=Φ) n0 (hk k VT) xA (B4 O3 hp).2 S ks jA (by lia);have KV:t.drop (n+k.txt.length)=bp ts++aK:=by rw[<- Wl,xA,XQ]
  obtain⟨c_,jl⟩:=ih (n+k.txt.length) (S++[cH k.sg]) _ f O3 KV (.inr ⟨m,b,rfl⟩) (by simp only[V1,We];lia) (WB (by assumption));refine⟨c_,jl.1,?_⟩;rw[fG e1 e2 jl.2];simp only[bp,Wu,YR,V1,Ww,List.singleton_append,Nat.add_assoc]
set_option tactic.hygienic true in
theorem lA {N:Nat}{σ σ1:az T}{rec:az T->List V9->Rs T}{st:V9}{d:D}(hs:Dv st)(ht:dW σ=[σ,σ1])(h0:ev aa Φ N σ false (rP st)=none)(h:ev aa Φ N σ1 false (rP st)=some d):bQ aa Φ N rec σ st=some (σ1,.ret d):=by
 induction hs;rename_i e p;have h:ev aa Φ N σ1 false e=some d:=h;have h0:ev aa Φ N σ false e=none:=h0;show bA (λσ=>(ev aa Φ N σ false e).bind (λd=>em d λd=>some (σ,Fl.ret d))) (dW σ)=_;rw[ht];exact(Mm (LH h0) _).trans (Of ((dS h).trans (bO _ _)) _)
theorem Gm (t aK:List Nat)(hp:oy aK)(ts:List Tk)(n:Nat)(hk:∀k∈ts,k.ok=true)(ht:t.drop n=bp ts++aK)(hz:ts.length<=20) :
  ∃σ',aW aa Φ 30 7 ⟨dZ 14,[(VN "text",.val (.str (ao t))),(VN "at",.val (.int n))]⟩ (aZ 14)=some (σ' ,.ret (.tup [.int (n+(bp ts).length:Nat),aG (dX ts)])):=by
 revert hp hk ht hz;revert aa Φ t aK ts n;unfold T;exists aa,Φ,t,aK,ts,n;intro hp hk ht hz;have dC:(aZ 14).length=3:=by kernel_rfl
 obtain⟨c_,BH,e⟩:=CH (aa:=aa) (Φ:=Φ) (T:=T) 1 t aK hp ts n [] [] 30 hk ht (.inl rfl) (by simp only[WI];lia) (Wn (by assumption) ⋯);delta c_;intro BH e;skip;have e0:bQ aa Φ 30 (aW aa Φ 30 6) ⟨dZ 14,[(VN "text",.val (.str (ao t))),(VN "at",.val (.int n))]⟩ (ak (aZ 14) 0)=some (aQ (T:=T) t n [] [],.next):=by
  kernel_rfl
 have hS:(ts.map λk=>cH k.sg)=(dX ts).map cH:=by simp[dX,XJ,Function.comp_def]
 rw[hS]at e;have e1:bQ aa Φ 30 (aW aa Φ 30 6) (aQ (T:=T) t n [] []) (ak (aZ 14) 1)=some (aQ t (n+(bp ts).length) ((dX ts).map cH) c_,.next):=by
  skip;exact e
 refine⟨(aQ t (n+(bp ts).length) ((dX ts).map cH) c_).set (VN "signs") (.val (aG (dX ts))),ah ⋯ e0 (ah ⋯ e1 (bS ⋯ ?_))⟩
 ·clear e e1;rcases BH with rfl |⟨m,b,rfl⟩
  ·exact lA ∅ nofun nofun nofun
  ·exact lA ∅ nofun nofun nofun
end
noncomputable def wU:Str:=(aS 14).name
noncomputable def nC (Φ:b_):Prop:=∀(t aK:List Nat) (ts:List Tk) (n:Nat),oy aK->(∀k∈ts,k.ok=true)->t.drop n=bp ts++aK->ts.length<=20 ->Φ wU [.str (ao t),.int n]=some (.tup [.int (n+(bp ts).length:Nat),aG (dX ts)])
noncomputable def Vn:V9->Expr | .Assign [t] _ _=>t |_=>zE
inductive Np:V9->Prop |mk {es k p v q}:tA v=true->Np (.Assign [.Tuple es k p] v q)
section
variable {T:Type}{aa:T->Str->List D->Option D}{Φ:b_}
theorem JI {es:List Expr}{k:Nat}{p q:X7}{v:Expr}(hv:tA v=true):sv (.Assign [.Tuple es k p] v q)=.tup es k p v:=by
 cases v<;>first |rfl |exact eV hv
set_option tactic.hygienic true in
theorem y7 {N:Nat}{σ σ1:az T}{rec:az T->List V9->Rs T}{st:V9}{d:D}(hs:Np st)(h:ev aa Φ N σ false (bR st)=some d)(hb:bB σ (Vn st) d=some σ1):bQ aa Φ N rec σ st=some (σ1,.next):=by
 obtain⟨hv⟩:=hs;rename_i es k p v q;have h:ev aa Φ N σ false v=some d:=h;have hb:bB σ (.Tuple es k p) d=some σ1:=hb;refine bE (f:=λσ=>bV aa Φ N σ (.Assign [.Tuple es k p] v q)) ?_;unfold bV;rw[JI hv];exact(dS h).trans ((bO _ _).trans (w6 hb))
theorem LF (t:List Nat)(n k:Nat):cx (some (n:Int)) (some ((n:Int)+(k:Nat))) (.str (ao t))=some (.str (ao ((t.drop n).take k))):=by
 show some (D.str ⟨⟨xV (some (.ofNat n)) (some (.ofNat (n+k))) t⟩⟩)=_;show some (D.str ⟨⟨(t.drop n).take (n+k - n)⟩⟩)=_;rw[Nat.add_sub_cancel_left];rfl
theorem ke (x:List Nat)(s:Str){y:List Nat}(h:s.cps.toList=y):bZ .Eq (.str (ao x)) (.str s)=some (.bool (gu x y)):=by
 subst h;rfl
noncomputable def P6:List Nat:=[40,63,62,46,42,63]
noncomputable def P4:List Nat:=[40,63,115,58]
noncomputable def P3:List Nat:=[41,92,90]
noncomputable def ia (t:List Nat)(n:Nat)(sg:D)(R:List D):az T:=⟨dZ 15,[(VN "text",.val (.str (ao t))),(VN "at",.val (.int n)),(VN "signs",.val sg),(VN "runs",.own R)]⟩
theorem th (t:List Nat)(n:Nat)(sg:D)(R:List D):ev aa Φ 30 (ia (T:=T) t n sg R) true (iS (ak (aZ 15) 2))=some (.bool (gu ((t.drop n).take 6) P6)):=by
 have h0:ev aa Φ 29 (ia (T:=T) t n sg R) false (iS (ak (aZ 15) 2))=(cx (some (n:Int)) (some ((n:Int)+(6:Nat))) (.str (ao t))).bind λa=>bZ .Eq a (.str (VN "(?>.*?")):=by kernel_rfl
 rw[LF,Wg,ke _ _ (show _=P6 by decide +kernel)]at h0;exact aH nofun h0 rfl
theorem IL (t:List Nat)(n:Nat)(sg:D)(R:List D):ev aa Φ 30 (ia (T:=T) t n sg R) true (gF (ak (aZ 15) 3))=some (.bool (gu ((t.drop n).take 2) [46,42])):=by
 have h0:ev aa Φ 29 (ia (T:=T) t n sg R) false (gF (ak (aZ 15) 3))=(cx (some (n:Int)) (some ((n:Int)+(2:Nat))) (.str (ao t))).bind λa=>bZ .Eq a (.str (VN ".*")):=by kernel_rfl
 rw[LF,Wg,ke _ _ (show _=[46,42] by decide +kernel)]at h0;exact aH nofun h0 rfl
theorem Gr (eg:nC Φ)(n0:Nat){t aK:List Nat}{n:Nat}{ts:List Tk}(hk:∀k∈ts,k.ok=true)(hz:ts.length<=20)(ht:t.drop n=P6++bp ts++41::aK)(sg:D)(R:List D)(hR:R.length<100000) :
  ev aa Φ 30 (ia (T:=T) t n sg R) true (iS (ak (aZ 15) 2))=some (.bool true)/\aW aa Φ 30 (n0+1) (ia (T:=T) t n sg R) (cg (ak (aZ 15) 2))=some (ia t (n+(P6++bp ts++[41]).length) (aG (dX ts)) (R++[aG (dX ts)]),.next):=by
 constructor
 ·rw[th,ht];rfl
 ·have hl:(cg (ak (aZ 15) 2)).length=3:=by kernel_rfl
  have Uk:t.drop (n+6)=bp ts++41::aK:=by rw[<- Wl,ht,Ww];rfl
  rw[aC];have hc:ev aa Φ 30 (ia (T:=T) t n sg R) false (bR (ak (cg (ak (aZ 15) 2)) 0))=Φ wU [.str (ao t),.int (n+6:Nat)]:=by kernel_rfl
  rw[eg t (41::aK) ts (n+6) (.par _) hk Uk hz]at hc;refine ah (σ1:=ia t (n+6+(bp ts).length) (aG (dX ts)) R) ⋯ (y7 (by exact .mk rfl) hc nofun) (ah (σ1:=ia t (n+6+(bp ts).length+1) (aG (dX ts)) R) ⋯ ?_ (ah (σ1:=ia t (n+(P6++bp ts++[41]).length) (aG (dX ts)) (R++[aG (dX ts)])) ⋯ ?_ (aD ⋯)))
  ·rw[ji (old:=.int (n+6+(bp ts).length:Nat)) (v:=.int 1) (d:=.int ((n+6+(bp ts).length:Nat)+1)) ∅ nofun nofun nofun rfl]
   kernel_rfl
  ·rw[v8 (l:=R) (d:=aG (dX ts)) (by exact .mk nofun) nofun nofun hR]
   have:n+(P6++bp ts++[41]).length=n+6+(bp ts).length+1:=by simp only[V1,P6,VY,WI];lia
   rw[this];kernel_rfl
noncomputable def fU (ms:List (List Tk)):List Nat:=(ms.map λts=>P6++bp ts++[41]).flatten
theorem ym (eg:nC Φ)(n0:Nat)(t aK:List Nat)(hp:gu (aK.take 6) P6=false):∀(ms:List (List Tk)) (n:Nat) (sg:D) (R:List D) (ba:Nat),(∀ts∈ms,(∀k∈ts,k.ok=true)/\ts.length<=20)->t.drop n=fU ms++aK->R.length+ms.length<=1000->ms.length<ba ->∃JW,de aa Φ 30 (aW aa Φ 30 (n0+1)) (iS (ak (aZ 15) 2)) (cg (ak (aZ 15) 2)) ba (ia (T:=T) t n sg R)=some (ia t (n+(fU ms).length) JW (R++ms.map λts=>aG (dX ts)),.next):=by
 intro ms;induction ms with
 |nil =>
  intro n sg R ba hk ht hz hf;obtain⟨f,rfl⟩:=uD hf;have h:=th (aa:=aa) (Φ:=Φ) (T:=T) t n sg R;rw[show t.drop n=aK from ht,hp]at h;refine⟨sg,?_⟩;rw[dx h];simp[fU]
 |cons ts ms ih =>
  intro n sg R ba hk ht hz hf;obtain⟨f,rfl⟩:=uD hf;simp only[VY]at hz hf;have xA:t.drop n=P6++bp ts++41::(fU ms++aK):=by rw[ht];simp[fU]
  have n_:=Gr (aa:=aa) eg n0 (hk ts VT).1 (hk ts VT).2 xA sg R (by lia) (T:=T);have KV:t.drop (n+(P6++bp ts++[41]).length)=fU ms++aK:=by
   rw[<- Wl,xA,show P6++bp ts++41::(fU ms++aK)=(P6++bp ts++[41])++(fU ms++aK) by simp,XQ]
  obtain⟨JW,e3⟩:=ih _ (aG (dX ts)) (R++[aG (dX ts)]) f (λx hx=>hk x (VS _ hx)) KV (by simp only[V1,We];lia) (WB (by assumption));refine⟨JW,?_⟩;have hl:n+(P6++bp ts++[41]).length+(fU ms).length=n+(fU (ts::ms)).length:=by
   simp only[fU,Wu,YR,V1];lia
  rw[fG n_.1 n_.2 e3,hl,Ww];rfl
theorem u0 (eg:nC Φ)(n0:Nat){t aK:List Nat}{ts:List Tk}(hk:∀k∈ts,k.ok=true)(hz:ts.length<=20)(hp:oy aK)(ht:t=P4++(bp ts++aK)){r:Rs T}
  (k:eT (bQ aa Φ 30 (aW aa Φ 30 n0)) (ia t (4+(bp ts).length) (aG (dX ts)) [aG (dX ts)]) ((aZ 15).drop 2)=r):aW aa Φ 30 (n0+1) ⟨dZ 15,[(VN "text",.val (.str (ao t)))]⟩ (aZ 15)=r:=by
 have dC:(aZ 15).length=5:=by kernel_rfl
 rw[aC];have hc:ev aa Φ 30 (⟨dZ 15,[(VN "text",.val (.str (ao t)))]⟩:az T) false (bR (ak (aZ 15) 0))=Φ wU [.str (ao t),.int (4:Nat)]:=by kernel_rfl
 rw[eg t aK ts 4 hp hk (by rw[ht];rfl) hz]at hc;refine ah (σ1:=⟨dZ 15,[(VN "text",.val (.str (ao t))),(VN "at",.val (.int (4+(bp ts).length:Nat))),(VN "signs",.val (aG (dX ts)))]⟩) ⋯ (y7 (by exact .mk rfl) hc nofun) (ah ⋯ ?_ k);rw[sx (l:=[aG (dX ts)]) (by exact .mk nofun) nofun nofun];kernel_rfl
theorem MC {N:Nat}{σ σ1:az T}{t:Expr}{c:Bool}(ht:dW σ=[σ,σ1])(h0:ev aa Φ N σ true t=none)(h:ev aa Φ N σ1 true t=some (.bool c)):JB aa Φ N t σ=some (σ1,c):=by
 show bA (λσ=>((ev aa Φ N σ true t).bind BN).map λc=>(σ,c)) (dW σ)=_;rw[ht];exact(Mm (by rw[h0];rfl) _).trans (Of (by rw[h];rfl) _)
set_option tactic.hygienic true in
theorem Lx {N:Nat}{σ σ1:az T}{rec:az T->List V9->Rs T}{st:V9}{c:Bool}(hs:AG st)(ht:dW σ=[σ,σ1])(h0:ev aa Φ N σ true (gF st)=none)(h:ev aa Φ N σ1 true (gF st)=some (.bool c)):bQ aa Φ N rec σ st=(match c with |true=>rec σ1 (cQ st) |false=>rec σ1 (bT st)):=by
 induction hs;rename_i t b o p;have h:ev aa Φ N σ1 true t=_:=h;have h0:ev aa Φ N σ true t=none:=h0;show(JB aa Φ N t σ).bind _=_;rw[MC ht h0 h];induction c<;>rfl
theorem wW {t Fg:List Nat}{n:Nat}(sg:D)(ht:t=P4++Fg)(hn:t.drop n=P3)(b:aO T):ev aa Φ 29 ⟨dZ 15,[(VN "text",.val (.str (ao t))),(VN "at",.val (.int n)),(VN "signs",.val sg),(VN "runs",b)]⟩ true (KN (rP (ak (aZ 15) 4)))=some (.bool true):=by
 have VF:n<=t.length:=by
  refine Yu λq=>?_
  rw[Xb (XZ q)]at hn
  cases hn
 have h0:ev aa Φ 27 ⟨dZ 15,[(VN "text",.val (.str (ao t))),(VN "at",.val (.int n)),(VN "signs",.val sg),(VN "runs",b)]⟩ false (fg (KN (rP (ak (aZ 15) 4))) 0)=(cx none (some 4) (.str (ao t))).bind λa=>bZ .Eq a (.str (VN "(?s:")):=by kernel_rfl
 have h1:ev aa Φ 27 ⟨dZ 15,[(VN "text",.val (.str (ao t))),(VN "at",.val (.int n)),(VN "signs",.val sg),(VN "runs",b)]⟩ false (fg (KN (rP (ak (aZ 15) 4))) 1)=(cx (some (n:Int)) none (.str (ao t))).bind λa=>bZ .Eq a (.str (VN ")\\Z")):=by kernel_rfl
 have c0:cx none (some 4) (.str (ao t))=some (.str (ao P4)):=by
  rw[gA,ht];show some (D.str (jj none (some 4) (ao (P4++Fg))))=_;rfl
 have c1:cx (some (n:Int)) none (.str (ao t))=some (.str (ao P3)):=by
  rw[gA];show some (D.str (jj (some (n:Int)) none (ao t)))=_;congr 2;have:eo (some (n:Int)) none t=P3:=by
   unfold eo;have h1:l9 t.length (some (n:Int))=n:=by
    show hB _ (.ofNat n)=n;rw[iJ];lia
   have h2:rk t.length none=t.length:=rfl;rw[h1,h2,hn];have:t.length - n=3:=by
    have:=congrArg Xq hn;rw[WK]at this;exact this
   rw[this];rfl
  rw[show jj (some (n:Int)) none (ao t)=(⟨(eo (some (n:Int)) none t).toArray⟩:Str)from rfl,this];rfl
 rw[c0,Wg,ke _ _ (show _=P4 by decide +kernel)]at h0;rw[c1,Wg,ke _ _ (show _=P3 by decide +kernel)]at h1;exact dv (a:=true) (b:=true) ∅ (aH nofun h0 rfl) λ_=>aH nofun h1 rfl
noncomputable def J4 (t:List Nat)(n:Nat)(sg:D)(R:List D):az T:=⟨dZ 15,[(VN "text",.val (.str (ao t))),(VN "at",.val (.int n)),(VN "signs",.val sg),(VN "runs",.val (.lst R))]⟩
theorem J3 (n0:Nat){t Fg:List Nat}{n:Nat}(sg:D)(R:List D)(ht:t=P4++Fg)(hn:t.drop n=P3):eT (bQ aa Φ 30 (aW aa Φ 30 n0)) (ia (T:=T) t n sg R) ((aZ 15).drop 4)=some (J4 t n sg R,.ret (.lst R)):=by
 have dC:(aZ 15).length=5:=by kernel_rfl
 refine bS ⋯ ?_;refine lA ∅ nofun ?_ ?_
 ·refine(ud ∅ (wW sg ht hn (.own R))).trans ?_
  kernel_rfl
 ·refine(ud ∅ (wW sg ht hn (.val (.lst R)))).trans ?_
  kernel_rfl
theorem Gs (n0:Nat){t Fg:List Nat}{n:Nat}(sg:D)(R:List D)(ht:t=P4++Fg)(hn:t.drop n=P3):eT (bQ aa Φ 30 (aW aa Φ 30 n0)) (J4 (T:=T) t n sg R) ((aZ 15).drop 4)=some (J4 t n sg R,.ret (.lst R)):=by
 have dC:(aZ 15).length=5:=by kernel_rfl
 refine bS ⋯ (j1 ∅ ?_);refine(ud ∅ (wW sg ht hn (.val (.lst R)))).trans ?_;kernel_rfl
theorem CD (eg:nC Φ)(ts:List Tk)(hk:∀k∈ts,k.ok=true)(hz:ts.length<=20) :
  ∃σ',aW aa Φ 30 6 (⟨dZ 15,[(VN "text",.val (.str (ao (P4++(bp ts++P3)))))]⟩:az T) (aZ 15)=some (σ',.ret (.lst [aG (dX ts)])):=by
 have dC:(aZ 15).length=5:=by kernel_rfl
 have hd:(P4++(bp ts++P3)).drop (4+(bp ts).length)=P3:=by
  rw[<- Wl,show(P4++(bp ts++P3)).drop 4=bp ts++P3 from rfl,XQ]
 have go:∀t n,t=P4++(bp ts++P3)->t.drop n=P3->eT (bQ aa Φ 30 (aW aa Φ 30 5)) (ia (T:=T) t n (aG (dX ts)) [aG (dX ts)]) ((aZ 15).drop 2)=some (J4 t n (aG (dX ts)) [aG (dX ts)],.ret (.lst [aG (dX ts)])):=by
  intro t n ht hd;have Tm:=ym (aa:=aa) (T:=T) eg 4 t P3 rfl [] n (aG (dX ts)) [aG (dX ts)] 30 (λx hx=>by cases hx) hd (by simp) (by simp);have h1:=th (aa:=aa) (Φ:=Φ) (T:=T) t n (aG (dX ts)) [aG (dX ts)];have h2:=IL (aa:=aa) (Φ:=Φ) (T:=T) t n (aG (dX ts)) [aG (dX ts)];rw[hd]at h1 h2;have O_:(bT (ak (aZ 15) 3)).length=1:=by kernel_rfl
  refine ah (σ1:=ia t n (aG (dX ts)) [aG (dX ts)]) ⋯ ?_ (ah (σ1:=J4 t n (aG (dX ts)) [aG (dX ts)]) ⋯ ?_ (Gs 5 _ _ ht hd))
  ·rw[kY ∅]
   exact dx h1
  ·rw[bj (c:=false) ∅ h2]
   show aW aa Φ 30 5 _ (bT (ak (aZ 15) 3))=_;rw[aC];refine ah (σ1:=J4 t n (aG (dX ts)) [aG (dX ts)]) ⋯ ?_ (aD ⋯);rw[Lx (c:=false) (σ1:=J4 t n (aG (dX ts)) [aG (dX ts)]) ∅ nofun nofun nofun];show aW aa Φ 30 4 _ (bT (ak (bT (ak (aZ 15) 3)) 0))=_;rw[show bT (ak (bT (ak (aZ 15) 3)) 0)=[] by kernel_rfl];rfl
 exact⟨_,u0 eg 5 hk hz (.par _) rfl (go _ _ rfl hd)⟩
theorem zY (eg:nC Φ)(ts:List Tk)(ms:List (List Tk))(us:List Tk)(hk:∀k∈ts,k.ok=true)(hz:ts.length<=20)(hm:∀ts∈ms,(∀k∈ts,k.ok=true)/\ts.length<=20)(NM:ms.length<=20)(hu:∀k∈us,k.ok=true)(NB:us.length<=20) :
  ∃σ',aW aa Φ 30 6 (⟨dZ 15,[(VN "text",.val (.str (ao (P4++(bp ts++(fU ms++(46::42::(bp us++P3))))))))]⟩:az T) (aZ 15)=some (σ',.ret (.lst ((dX ts::ms.map dX++[dX us]).map aG))):=by
 revert eg hk hz hm NM hu NB;revert aa Φ ts ms us;unfold T;exists aa,Φ,ts,ms,us;intro eg hk hz hm NM hu NB;have dC:(aZ 15).length=5:=by kernel_rfl
 have hd:(P4++(bp ts++(fU ms++(46::42::(bp us++P3))))).drop (4+(bp ts).length)=fU ms++(46::42::(bp us++P3)):=by
  rw[<- Wl,show(P4++(bp ts++(fU ms++(46::42::(bp us++P3))))).drop 4=bp ts++(fU ms++(46::42::(bp us++P3)))from rfl,XQ]
 have ND:oy (fU ms++(46::42::(bp us++P3))):=by
  clear NM;induction ms with
  |nil=>exact .star _
  |cons a r=>exact .grp _
 have go:∀t n,t=P4++(bp ts++(fU ms++(46::42::(bp us++P3))))->t.drop n=fU ms++(46::42::(bp us++P3))->∃σ',eT (bQ aa Φ 30 (aW aa Φ 30 5)) (ia (T:=T) t n (aG (dX ts)) [aG (dX ts)]) ((aZ 15).drop 2)=some (σ',.ret (.lst ((dX ts::ms.map dX++[dX us]).map aG))):=by
  intro t n ht hd;obtain⟨JW,e1⟩:=ym (aa:=aa) (T:=T) eg 4 t (46::42::(bp us++P3)) rfl ms n (aG (dX ts)) [aG (dX ts)] 30 hm hd (by simp;lia) (Wn (by assumption) ⋯);have D3:t.drop (n+(fU ms).length)=46::42::(bp us++P3):=by rw[<- Wl,hd,XQ]
  have BJ:t.drop (n+(fU ms).length+2)=bp us++P3:=by rw[<- Wl,D3];rfl
  have Jd:t.drop (n+(fU ms).length+2+(bp us).length)=P3:=by rw[<- Wl,BJ,XQ]
  generalize n+(fU ms).length=n2 at e1 D3 BJ Jd;generalize hR:[aG (dX ts)]++ms.map (λts=>aG (dX ts))=R at e1;have VL:R.length<=1000:=by rw[<- hR];simp;lia
  have h2:=IL (aa:=aa) (Φ:=Φ) (T:=T) t n2 JW R;rw[D3]at h2;have O_:(cQ (ak (aZ 15) 3)).length=2:=by kernel_rfl
  have hc:ev aa Φ 30 (ia (T:=T) t n2 JW R) false (bR (ak (cQ (ak (aZ 15) 3)) 0))=Φ wU [.str (ao t),.int (n2+2:Nat)]:=by kernel_rfl
  rw[eg t P3 us (n2+2) (.par _) hu BJ NB]at hc;have Ra:R++[aG (dX us)]=(dX ts::ms.map dX++[dX us]).map aG:=by
   rw[<- hR];simp[XJ,Function.comp_def]
  rw[<- Ra];refine⟨_,ah (σ1:=ia t n2 JW R) ⋯ ?_ (ah (σ1:=ia t (n2+2+(bp us).length) (aG (dX us)) (R++[aG (dX us)])) ⋯ ?_ (J3 5 _ _ ht Jd))⟩
  ·rw[kY ∅]
   exact e1
  ·rw[bj (c:=true) ∅ h2]
   show aW aa Φ 30 5 _ (cQ (ak (aZ 15) 3))=_;rw[aC];refine ah (σ1:=ia t (n2+2+(bp us).length) (aG (dX us)) R) ⋯ (y7 (by exact .mk rfl) hc nofun) (ah ⋯ ?_ (aD ⋯));rw[v8 (l:=R) (d:=aG (dX us)) (by exact .mk nofun) nofun nofun (Wn (by assumption) ⋯)];kernel_rfl
 obtain⟨σ',e⟩:=go _ _ rfl hd;exact⟨σ',u0 eg 5 hk hz ND rfl e⟩
end
noncomputable def uf:Str:=(aS 6).name
structure n9 (Φ:b_):Prop where
 a:Φ uf [.str (ao [97])]=some (.str (ao [97]))
 dot:Φ uf [.str (ao [46])]=some (.str (ao [92,46]))
 s0:Φ dy [.str (ao [42])]=some (.str (ao [42]))
 s1:Φ dy [.str (ao [33,97])]=some (.str (ao [33,97]))
 s2:Φ dy [.str (ao [33,46])]=some (.str (ao [33,46]))
 s3:Φ dy [.str (ao [97,42])]=some (.str (ao [97,42]))
section
variable {T:Type}{aa:T->Str->List D->Option D}{Φ:b_}
noncomputable def cB (c:Nat):Str×aO T:=(VN "c",.val (.str (ao [c])))
noncomputable def jB (j:Nat):Str×aO T:=(VN "j",.val (.int j))
noncomputable def sB (s:List Nat):Str×aO T:=(VN "stuff",.val (.str (ao s)))
noncomputable def dm (t:List Nat)(a:V4)(R:List D)(i:Nat)(ks:List (Str×aO T)):az T :=
 ⟨dZ 8,(VN "pat",.val (.str (ao t)))::(VN "STAR",.val (.opq (.ref a)))::(VN "QUESTION_MARK",.val (.str (ao [46])))::(VN "res",.own R)::(VN "add",.app (VN "res"))::(VN "n",.val (.int t.length))::(VN "i",.val (.int i))::ks⟩
noncomputable def It (tl:List (Str×aO T)):Prop:=tl=[]\/∃j s,tl=[jB j,sB s]
noncomputable def qS (ks tl:List (Str×aO T)):Prop:=(ks=[]/\tl=[])\/∃c,ks=cB c::tl/\It tl
noncomputable def jD:V9:=ak (aZ 8) 3
theorem qS.tl {ks tl:List (Str×aO T)}(h:qS ks tl):It tl:=by
 rcases h with⟨_,rfl⟩ |⟨c,_,h⟩
 ·exact .inl rfl
 ·exact h
theorem oC {f:az T->V9->Rs T}(hf:f=bQ aa Φ 30 (aW aa Φ 30 20)){t:List Nat}{a:V4}{R:List D}{i c:Nat}{ks tl:List (Str×aO T)}{r:Rs T}(h:t[i]?=some c)(hk:qS ks tl)
  (k:f (dm t a R (i+1) (cB c::tl)) (ak (cg jD) 2)=r) (hr:∃σ',r=some (σ',.next)):eT f (dm t a R i ks) ((cg jD).drop 0)=r:=by
 revert hf h hk k hr;revert aa Φ f t a R i c ks tl r;unfold T;exists aa,Φ,f,t,a,R,i,c,ks,tl,r;intro hf h hk k hr;subst hf;have hl:(cg jD).length=3:=by kernel_rfl
 have e0:bQ aa Φ 30 (aW aa Φ 30 20) (dm t a R i ks) (ak (cg jD) 0)=some (dm t a R i (cB c::tl),.next):=by
  have hc:∀ks,ev aa Φ 30 (dm (T:=T) t a R i ks) false (bR (ak (cg jD) 0))=bh (.str (ao t)) (.int i):=λks=>by kernel_rfl
  rw[fY (by exact .mk rfl) nofun ((hc ks).trans (ec h))];rcases hk with⟨rfl,rfl⟩ |⟨c0,rfl,rfl |⟨j,s,rfl⟩⟩<;>kernel_rfl
 have e1:bQ aa Φ 30 (aW aa Φ 30 20) (dm t a R i (cB c::tl)) (ak (cg jD) 1)=some (dm t a R (i+1) (cB c::tl),.next):=by
  rcases hk.tl with z |⟨j,s,z⟩<;>rw[z]<;>kernel_rfl
 obtain⟨σ',rfl⟩:=hr;exact ah ⋯ e0 (ah ⋯ e1 (ah ⋯ k (aD ⋯)))
theorem wK {n0:Nat}{t:List Nat}{a:V4}{R:List D}{i c:Nat}{tl:List (Str×aO T)}{st:V9}{d:D}(hs:Hs st)(hn:Ow st=VN "add")(dU:It tl)
  (h:ev aa Φ 30 (dm t a R i (cB c::tl)) false (bR st)=some d) (hz:R.length<100000):bQ aa Φ 30 (aW aa Φ 30 n0) (dm t a R i (cB c::tl)) st=some (dm t a (R++[d]) i (cB c::tl),.next):=by
 rw[y8 (y:=VN "res") (l:=R) hs (by rw[hn];kernel_rfl) nofun h hz];exact BB (t:=tl) dU nofun λ_ _=>by kernel_rfl
theorem PF {t:List Nat}{a:V4}{R:List D}{i:Nat}{ks tl:List (Str×aO T)}(h:t[i]?=some 63)(hk:qS ks tl)(hz:R.length<100000) :
  aW aa Φ 30 21 (dm t a R i ks) (cg jD)=some (dm t a (R++[.str (ao [46])]) (i+1) (cB 63::tl),.next):=by
 refine oC rfl h hk ?_ ⟨_,rfl⟩;rw[bj (c:=false) ∅ nofun];show aW aa Φ 30 20 _ (bT (ak (cg jD) 2))=_;have hl:(bT (ak (cg jD) 2)).length=1:=by kernel_rfl
 rw[aC];refine ah ⋯ ?_ (aD ⋯);rw[bj (c:=true) ∅ nofun];show aW aa Φ 30 19 _ (cQ (ak (bT (ak (cg jD) 2)) 0))=_;have hl:(cQ (ak (bT (ak (cg jD) 2)) 0)).length=1:=by kernel_rfl
 rw[aC];refine ah ⋯ ?_ (aD ⋯);exact wK ∅ nofun hk.tl nofun hz
theorem PG {t:List Nat}{a:V4}{R:List D}{i c:Nat}{d:D}{ks tl:List (Str×aO T)}(h:t[i]?=some c)(hc:c=97\/c=46)(hd:Φ uf [.str (ao [c])]=some d)(hk:qS ks tl)(hz:R.length<100000) :
  aW aa Φ 30 21 (dm t a R i ks) (cg jD)=some (dm t a (R++[d]) (i+1) (cB c::tl),.next):=by
 refine oC rfl h hk ?_ ⟨_,rfl⟩;rw[bj (c:=false) ∅ (by rcases hc with z |z<;>rw[z]<;>kernel_rfl)];show aW aa Φ 30 20 _ (bT (ak (cg jD) 2))=_;have hl:(bT (ak (cg jD) 2)).length=1:=by kernel_rfl
 rw[aC];refine ah ⋯ ?_ (aD ⋯);rw[bj (c:=false) ∅ (by rcases hc with z |z<;>rw[z]<;>kernel_rfl)];show aW aa Φ 30 19 _ (bT (ak (bT (ak (cg jD) 2)) 0))=_;have hl:(bT (ak (bT (ak (cg jD) 2)) 0)).length=1:=by kernel_rfl
 rw[aC];refine ah ⋯ ?_ (aD ⋯);rw[bj (c:=false) ∅ (by rcases hc with z |z<;>rw[z]<;>kernel_rfl)];show aW aa Φ 30 18 _ (bT (ak (bT (ak (bT (ak (cg jD) 2)) 0)) 0))=_;have hl:(bT (ak (bT (ak (bT (ak (cg jD) 2)) 0)) 0)).length=1:=by kernel_rfl
 rw[aC];refine ah ⋯ ?_ (aD ⋯);refine wK ∅ nofun hk.tl ?_ hz;exact mB (by exact .mk rfl) nofun nofun (x:=.str (ao [c])) nofun hd
noncomputable abbrev gk:=Option (List Nat)
noncomputable def bz (a:V4):gk->D
 |none=>.opq (.ref a)
 |some x=>.str (ao x)
noncomputable def nb (P:List gk):Bool:=match P.getLast? with |some none=>true |_=>false
noncomputable def wz (P:List gk):List gk:=match nb P with |true=>P |false=>P++[none]
theorem vq (P:List gk)(p:gk):nb (P++[p])=p.isNone:=by
 unfold nb;rw[List.getLast?_append];induction p<;>rfl
theorem A6 (l:List D)(x:D):xI (l++[x]) (-1)=some x:=by
 show(match Wm (0+1) (l++[x]).length with |true=>IN (l++[x]) ((l++[x]).length - (0+1)) |false=>none)=_;have:Wm (0+1) (l++[x]).length=true:=Wh (by simp);rw[this];simp only[mZ];simp
theorem vC (a:V4):Hq (.opq (.ref a)) (.opq (.ref a))=some true:=if_pos rfl
theorem B1 {t:List Nat}{a:V4}{P:List gk}{i:Nat}{tl:List (Str×aO T)}:ev aa Φ 30 (dm (T:=T) t a (P.map (bz a)) i (cB 42::tl)) true (gF (ak (cQ (ak (cg jD) 2)) 0))=some (.bool (!(nb P))):=by
 revert aa Φ t a P i tl;unfold T;exists aa,Φ,t,a,P,i,tl;have h0:ev aa Φ 29 (dm (T:=T) t a (P.map (bz a)) i (cB 42::tl)) true (fg (gF (ak (cQ (ak (cg jD) 2)) 0)) 0)=some (.bool (!(!(P.map (bz a)).isEmpty))):=by kernel_rfl
 rcases List.eq_nil_or_concat P with rfl |⟨Q,p,rfl⟩
 ·exact j6 (a:=true) (b:=true) ∅ h0 (λh=>by exact oY h)
 ·delta Q p;intro h0;rw[List.concat_eq_append]at *
  have he:(!(!((Q++[p]).map (bz a)).isEmpty))=false:=by simp
  rw[he]at h0;have h1:ev aa Φ 28 (dm (T:=T) t a ((Q++[p]).map (bz a)) i (cB 42::tl)) false (fg (gF (ak (cQ (ak (cg jD) 2)) 0)) 1)=(xI ((Q++[p]).map (bz a)) (-1)).bind λd=>(Hq d (.opq (.ref a))).map λx=>.bool (!x):=by kernel_rfl
  rw[WZ,List.map_singleton,A6,Wg]at h1;rw[WZ,List.map_singleton]at h0;rw[vq];clear he;induction p with
  |none =>
   rw[show bz a none=.opq (.ref a)from rfl,vC]at h1;refine j6 (a:=false) (b:=false) ∅ (by rw[WZ];exact h0) (λ_=>aH nofun (by rw[WZ];exact h1) rfl)
  |some x =>
   refine j6 (a:=false) (b:=true) ∅ (by rw[WZ];exact h0) (λ_=>aH nofun (by rw[WZ];exact h1) rfl)
theorem PE {t:List Nat}{a:V4}{P:List gk}{i:Nat}{ks tl:List (Str×aO T)}(h:t[i]?=some 42)(hk:qS ks tl)(hz:P.length<100000) :
  aW aa Φ 30 21 (dm t a (P.map (bz a)) i ks) (cg jD)=some (dm t a ((wz P).map (bz a)) (i+1) (cB 42::tl),.next):=by
 refine oC rfl h hk ?_ ⟨_,rfl⟩;rw[bj (c:=true) ∅ nofun];show aW aa Φ 30 20 _ (cQ (ak (cg jD) 2))=_;have hl:(cQ (ak (cg jD) 2)).length=1:=by kernel_rfl
 have HH:(cQ (ak (cQ (ak (cg jD) 2)) 0)).length=1:=by kernel_rfl
 rw[aC];have ht:=B1 (aa:=aa) (Φ:=Φ) (T:=T) (t:=t) (a:=a) (P:=P) (i:=i+1) (tl:=tl);refine ah ⋯ ?_ (aD ⋯);unfold wz
 cases q:nb P<;>rw[q]at ht<;>rw[bj ∅ ht]
 rotate_left
 ·skip
  skip;rfl
 ·show aW aa Φ 30 19 _ (cQ (ak (cQ (ak (cg jD) 2)) 0))=_
  rw[aC,WZ];refine ah ⋯ ?_ (aD ⋯);exact wK ∅ nofun hk.tl nofun (by rw[VZ];exact hz)
noncomputable def Qz:V9:=ak (cg jD) 2
noncomputable def Qy:V9:=ak (bT Qz) 0
noncomputable def Ud:V9:=ak (bT Qy) 0
noncomputable def qV:List V9:=cQ Ud
noncomputable def fD (t:List Nat)(a:V4)(R:List D)(i j:Nat)(tl:List (Str×aO T)):az T:=dm t a R i (cB 91::jB j::tl)
noncomputable def E3 (tl:List (Str×aO T)):Prop:=tl=[]\/∃s,tl=[sB s]
theorem C7 {t:List Nat}{j c:Nat}(h:t[j]?=some c):j<t.length:=(Wd.mp h).1
theorem ul (e:Expr)(x:Nat)(X:Str)(hX:X.cps.toList=[x]){t:List Nat}{a:V4}{R:List D}{i j c:Nat}{tl:List (Str×aO T)}(h:t[j]?=some c)(he:tR e)(o:CmpOp)(ho:o=.Eq\/o=.NotEq)
  (h0:ev aa Φ 28 (fD (T:=T) t a R i j tl) false (fg e 0)=some (.bool (decide ((j:Int)<(t.length:Int))))) (v0:se (fg e 0)=true) (v1:se (fg e 1)=true)
  (h1:ev aa Φ 28 (fD (T:=T) t a R i j tl) false (fg e 1)=(bh (.str (ao t)) (.int j)).bind λd=>bZ o d (.str X)) :
  ev aa Φ 30 (fD (T:=T) t a R i j tl) true e=some (.bool (if o=.Eq then VW c x else !(VW c x))):=by
 rw[ec h,Wg]at h1;have lK:=C7 h;rw[decide_eq_true (by lia)]at h0;rcases ho with rfl |rfl
 ·rw[ke _ _ hX]at h1
  have:=dv (a:=true) he (aH v0 h0 rfl) λ_=>aH v1 h1 rfl
  rw[this,vr,if_pos rfl];rfl
 ·have Lc:bZ .NotEq (.str (ao [c])) (.str X)=some (.bool (!(gu [c] [x]))):=by rw[<- hX];rfl
  rw[Lc]at h1;have:=dv (a:=true) he (aH v0 h0 rfl) λ_=>aH v1 h1 rfl
  rw[this,vr,if_neg ⋯];rfl
theorem b8_1 {t:List Nat}{a:V4}{R:List D}{i j c:Nat}{tl:List (Str×aO T)}(h:t[j]?=some c):ev aa Φ 30 (fD (T:=T) t a R i j tl) true (gF (ak qV 1))=some (.bool (VW c 33)) :=
 ul _ 33 (VN "!") (by decide +kernel) h ∅ .Eq (.inl rfl) nofun nofun nofun nofun
theorem b8_2 {t:List Nat}{a:V4}{R:List D}{i j c:Nat}{tl:List (Str×aO T)}(h:t[j]?=some c):ev aa Φ 30 (fD (T:=T) t a R i j tl) true (gF (ak qV 2))=some (.bool (VW c 93)) :=
 ul _ 93 (VN "]") (by decide +kernel) h ∅ .Eq (.inl rfl) nofun nofun nofun nofun
theorem b8_3 {t:List Nat}{a:V4}{R:List D}{i j c:Nat}{tl:List (Str×aO T)}(h:t[j]?=some c):ev aa Φ 30 (fD (T:=T) t a R i j tl) true (iS (ak qV 3))=some (.bool (!(VW c 93))) :=
 ul _ 93 (VN "]") (by decide +kernel) h ∅ .NotEq (.inr rfl) nofun nofun nofun nofun
theorem Op {t:List Nat}{a:V4}{R:List D}{i j:Nat}{tl:List (Str×aO T)}(dU:E3 tl)(rec:az T->List V9->Rs T)(st:V9)(hs:DI st)(hn:rp st=VN "j")
  (h:ev aa Φ 30 (fD (T:=T) t a R i j tl) false (bR st)=some (.int ((j:Int)+1))):bQ aa Φ 30 rec (fD (T:=T) t a R i j tl) st=some (fD t a R i (j+1) tl,.next):=by
 rw[fY hs (by rw[hn];kernel_rfl) h,hn];exact Ar (t:=tl) dU nofun λ_=>by kernel_rfl
theorem Ih (n0:Nat)(t:List Nat)(a:V4)(R:List D)(i:Nat)(tl:List (Str×aO T))(dU:E3 tl)(aK:List Nat):∀(ms:List Nat) (j ba:Nat),(∀c∈ms,VW c 93=false)->t.drop j=ms++93::aK->ms.length<ba ->de aa Φ 30 (aW aa Φ 30 (n0+1)) (iS (ak qV 3)) (cg (ak qV 3)) ba (fD (T:=T) t a R i j tl)=some (fD t a R i (j+ms.length) tl,.next):=by
 intro ms;induction ms with
 |nil =>
  intro j ba hc ht hf;obtain⟨f,rfl⟩:=uD hf;exact dx (b8_3 (bM ht))
 |cons c ms ih =>
  intro j ba hc ht hf;obtain⟨f,rfl⟩:=uD hf;have h:=b8_3 (aa:=aa) (Φ:=Φ) (T:=T) (a:=a) (R:=R) (i:=i) (tl:=tl) (bM ht);rw[hc c VT]at h;have hl:(cg (ak qV 3)).length=1:=by kernel_rfl
  have eb:aW aa Φ 30 (n0+1) (fD (T:=T) t a R i j tl) (cg (ak qV 3))=some (fD t a R i (j+1) tl,.next):=by
   rw[aC];exact ah ⋯ (Op dU _ _ (by exact .mk rfl) nofun nofun) (aD ⋯)
  refine(fG h eb (ih (j+1) f (λx hx=>hc x (VS _ hx)) (by rw[<- Wl,ht];rfl) (WB (by assumption)))).trans ?_;rw[VY,show j+1+ms.length=j+(ms.length+1) by lia]
noncomputable def dI:List (List Nat×List Nat):=[([42],[42]),([33,97],[94,97]),([33,46],[94,46]),([97,42],[97,42])]
theorem OV {P:Nat->Prop}(h0:P 0)(h1:P 1)(h2:P 2)(h3:P 3){k:Nat}(h:k<4):P k :=
 XR (motive:=λk=>k<4->P k) k (λ_=>h0) (λk=>XR (motive:=λk=>k+1<4->P (k+1)) k (λ_=>h1) λk=>XR (motive:=λk=>k+2<4->P (k+2)) k (λ_=>h2) λk=>XR (motive:=λk=>k+3<4->P (k+3)) k (λ_=>h3) λk h=>absurd h (Nat.not_lt_of_le (Nat.le_add_left 4 k))) h
theorem eI {P:List Nat->List Nat->Prop}(h0:P [42] [42])(h1:P [33,97] [94,97])(h2:P [33,46] [94,46])(h3:P [97,42] [97,42]){st out:List Nat}(h:(st,out)∈dI):P st out:=by
 have key:∀q∈dI,P q.1 q.2:=λq h=>by
  have h:q∈[(([42]:List Nat),([42]:List Nat)),([33,97],[94,97]),([33,46],[94,46]),([97,42],[97,42])]:=h;exact(V2.mp h).elim (λe=>e▸h0) λh=>(V2.mp h).elim (λe=>e▸h1) λh=>(V2.mp h).elim (λe=>e▸h2) λh=>WR.mp h▸h3
 exact key _ h
theorem Ii {t aK st out:List Nat}{a:V4}{R:List D}{i:Nat}{tl:List (Str×aO T)}(dU:It tl)(fj:(st,out)∈dI)(ht:t.drop i=st++93::aK){r:Rs T}
  (k:∀fH,E3 fH->eT (bQ aa Φ 30 (aW aa Φ 30 17)) (fD t a R i (i+st.length) fH) (qV.drop 4)=r):eT (bQ aa Φ 30 (aW aa Φ 30 17)) (dm t a R i (cB 91::tl)) (qV.drop 0)=r:=by
 revert dU fj ht k;revert aa Φ t aK st out a R i tl r;unfold T;exists aa,Φ,t,aK,st,out,a,R,i,tl,r;intro dU fj ht k;have hl:qV.length=5:=by kernel_rfl
 obtain⟨fH,vH,e0⟩:∃fH,E3 fH/\bQ aa Φ 30 (aW aa Φ 30 17) (dm (T:=T) t a R i (cB 91::tl)) (ak qV 0)=some (fD t a R i i fH,.next):=by
  rcases dU with rfl |⟨j,s,rfl⟩
  ·refine⟨[],.inl rfl,?_⟩
   rw[fY (d:=.int i) (by exact .mk rfl) nofun nofun];kernel_rfl
  ·refine⟨[sB s],.inr ⟨s,rfl⟩,?_⟩
   rw[fY (d:=.int i) (by exact .mk rfl) nofun nofun];kernel_rfl
 have US:(cQ (ak qV 1)).length=1:=by kernel_rfl
 refine ah ⋯ e0 ?_;have key:∀(j:Nat) (c:Nat) (ms:List Nat),t.drop j=(c::ms)++93::aK->(∀x∈c::ms,VW x 93=false)->j+(c::ms).length=i+st.length->ms.length<20 ->eT (bQ aa Φ 30 (aW aa Φ 30 17)) (fD t a R i j fH) (qV.drop 2)=r:=by
  intro j c ms hj hc he hz;have h2:=b8_2 (aa:=aa) (Φ:=Φ) (T:=T) (a:=a) (R:=R) (i:=i) (tl:=fH) (bM hj);rw[hc c VT]at h2;refine ah (σ1:=fD t a R i j fH) ⋯ ?_ (ah (σ1:=fD t a R i (i+st.length) fH) ⋯ ?_ (k fH vH))
  ·rw[bj (c:=false) ∅ h2]
   skip;rfl
  ·rw[kY ∅,<- he]
   exact Ih 16 t a R i fH vH aK (c::ms) j 30 hc hj (by simp only[VY];lia)
 have neg:∀x,st=[33,x]->VW x 93=false->eT (bQ aa Φ 30 (aW aa Φ 30 17)) (fD t a R i i fH) (qV.drop 1)=r:=by
  clear k;rintro x rfl hx;have h1:=b8_1 (aa:=aa) (Φ:=Φ) (T:=T) (a:=a) (R:=R) (i:=i) (tl:=fH) (bM (show t.drop i=33::(x::93::aK)from ht));refine ah (σ1:=fD t a R i (i+1) fH) ⋯ ?_ (key (i+1) x [] (by rw[<- Wl,ht];rfl) (λy hy=>?_) rfl (by simp))
  ·rw[bj (c:=true) ∅ h1]
   show aW aa Φ 30 17 _ (cQ (ak qV 1))=_;rw[aC];exact ah ⋯ (Op vH _ _ (by exact .mk rfl) nofun nofun) (aD ⋯)
  ·rw[WR]at hy;rw[hy];exact hx
 have pos:∀c ms,st=c::ms->VW c 33=false->(∀x∈c::ms,VW x 93=false)->ms.length<20->eT (bQ aa Φ 30 (aW aa Φ 30 17)) (fD t a R i i fH) (qV.drop 1)=r:=by
  rintro c ms rfl hc hx hz;have h1:=b8_1 (aa:=aa) (Φ:=Φ) (T:=T) (a:=a) (R:=R) (i:=i) (tl:=fH) (bM (show t.drop i=c::(ms++93::aK)from ht));rw[hc]at h1;refine ah (σ1:=fD t a R i i fH) ⋯ ?_ (key i c ms ht hx rfl hz);rw[bj (c:=false) ∅ h1];skip;rfl
 simp only[dI,V2,Yo,Wf,or_false]at fj;clear ht key;rcases fj with⟨rfl,rfl⟩ |⟨rfl,rfl⟩ |⟨rfl,rfl⟩ |⟨rfl,rfl⟩
 ·exact pos 42 [] rfl rfl ⋯ ⋯
 ·exact neg 97 rfl rfl
 ·exact neg 46 rfl rfl
 ·exact pos 97 [42] rfl rfl ⋯ ⋯
noncomputable def pI:List V9:=bT (ak qV 4)
noncomputable def L8:V9:=ak (bT (ak pI 4)) 0
noncomputable def fE (t:List Nat)(a:V4)(R:List D)(i j:Nat)(s:List Nat):az T:=dm t a R i [cB 91,jB j,sB s]
theorem n9.sub (eg:n9 Φ){st out:List Nat}(h:(st,out)∈dI):Φ dy [.str (ao st)]=some (.str (ao st)):=by
 exact eI (P:=λst _=>Φ dy [.str (ao st)]=some (.str (ao st))) eg.s0 eg.s1 eg.s2 eg.s3 h
theorem LL {t:List Nat}{a:V4}{R:List D}{i j:Nat}{s:List Nat}{x:D}(n0:Nat)(h:ev aa Φ 30 (fE (T:=T) t a R i j s) false (bR (ak (bT L8) 1))=some x)(hz:R.length<100000) :
  bQ aa Φ 30 (aW aa Φ 30 n0) (fE (T:=T) t a R i j s) (ak (bT L8) 1)=some (fE t a (R++[x]) i j s,.next):=by
 rw[y8 (y:=VN "res") (l:=R) ∅ nofun nofun h hz];kernel_rfl
theorem LK (eg:n9 Φ){t aK st out:List Nat}{a:V4}{R:List D}{i:Nat}{tl:List (Str×aO T)}(dU:E3 tl)(fj:(st,out)∈dI)(ht:t.drop i=st++93::aK)(hz:R.length<100000) :
  bQ aa Φ 30 (aW aa Φ 30 17) (fD (T:=T) t a R i (i+st.length) tl) (ak qV 4)=some (fE t a (R++[.str (ao (91::(out++[93])))]) (i+st.length+1) (i+st.length) out,.next):=by
 revert eg dU fj ht hz;revert aa Φ t aK st out a R i tl;unfold T;exists aa,Φ,t,aK,st,out,a,R,i,tl;intro eg dU fj ht hz;have lK:i+st.length<t.length:=by
  have:=congrArg Xq ht;rw[WK,V1,VY]at this;exact TB this
 have h4:ev aa Φ 30 (fD (T:=T) t a R i (i+st.length) tl) true (gF (ak qV 4))=some (.bool false):=by
  have h0:ev aa Φ 29 (fD (T:=T) t a R i (i+st.length) tl) false (gF (ak qV 4))=some (.bool (decide ((t.length:Int)<=(i+st.length:Nat)))):=by kernel_rfl
  rw[decide_eq_false (by lia)]at h0;exact aH nofun h0 rfl
 rw[bj (c:=false) ∅ h4];show aW aa Φ 30 17 _ pI=_;have hl:pI.length=5:=by kernel_rfl
 rw[aC];have e0:bQ aa Φ 30 (aW aa Φ 30 16) (fD (T:=T) t a R i (i+st.length) tl) (ak pI 0)=some (fE t a R i (i+st.length) st,.next):=by
  have hv:ev aa Φ 30 (fD (T:=T) t a R i (i+st.length) tl) false (bR (ak pI 0))=cx (some (i:Int)) (some ((i+st.length:Nat):Int)) (.str (ao t)):=by kernel_rfl
  have hc:cx (some (i:Int)) (some ((i+st.length:Nat):Int)) (.str (ao t))=some (.str (ao st)):=by
   rw[show((i+st.length:Nat):Int)=(i:Int)+(st.length:Nat) by lia,LF,ht,List.take_left]
  rw[fY (by exact .mk rfl) nofun (hv.trans hc)];clear h4 hv;rcases dU with rfl |⟨s,rfl⟩<;>kernel_rfl
 have US:(cQ (ak pI 1)).length=1:=by kernel_rfl
 have e1:bQ aa Φ 30 (aW aa Φ 30 16) (fE (T:=T) t a R i (i+st.length) st) (ak pI 1)=some (fE t a R i (i+st.length) st,.next):=by
  have xz:ev aa Φ 30 (fE (T:=T) t a R i (i+st.length) st) true (gF (ak pI 1))=some (.bool true):=eI (P:=λst out=>ev aa Φ 30 (fE (T:=T) t a R i (i+st.length) st) true (gF (ak pI 1))=some (.bool true)) nofun nofun nofun nofun fj;rw[bj (c:=true) ∅ xz];show aW aa Φ 30 16 _ (cQ (ak pI 1))=_;rw[aC];refine ah ⋯ ?_ (aD ⋯);have hr:ev aa Φ 30 (fE (T:=T) t a R i (i+st.length) st) false (bR (ak (cQ (ak pI 1)) 0))=some (.str (ao st)):=eI (P:=λst out=>ev aa Φ 30 (fE (T:=T) t a R i (i+st.length) st) false (bR (ak (cQ (ak pI 1)) 0))=some (.str (ao st))) nofun nofun nofun nofun fj;rw[fY (by exact .mk rfl) nofun hr];kernel_rfl
 have e2:bQ aa Φ 30 (aW aa Φ 30 16) (fE (T:=T) t a R i (i+st.length) st) (ak pI 2)=some (fE t a R i (i+st.length) st,.next):=by
  have hr:ev aa Φ 30 (fE (T:=T) t a R i (i+st.length) st) false (bR (ak pI 2))=Φ dy [.str (ao st)]:=by kernel_rfl
  rw[fY (by exact .mk rfl) nofun (hr.trans (eg.sub fj))];kernel_rfl
 have e3:bQ aa Φ 30 (aW aa Φ 30 16) (fE (T:=T) t a R i (i+st.length) st) (ak pI 3)=some (fE t a R (i+st.length+1) (i+st.length) st,.next):=by
  rw[fY (d:=.int ((i+st.length:Nat)+1)) (by exact .mk rfl) nofun nofun];kernel_rfl
 refine ah ⋯ e0 (ah ⋯ e1 (ah ⋯ e2 (ah ⋯ e3 (ah ⋯ ?_ (aD ⋯)))));generalize i+st.length+1=i2;generalize i+st.length=j;have t0:ev aa Φ 30 (fE (T:=T) t a R i2 j st) true (gF (ak pI 4))=some (.bool false):=eI (P:=λst out=>ev aa Φ 30 (fE (T:=T) t a R i2 j st) true (gF (ak pI 4))=some (.bool false)) nofun nofun nofun nofun fj;rw[bj (c:=false) ∅ t0];show aW aa Φ 30 16 _ (bT (ak pI 4))=_;have Pa:(bT (ak pI 4)).length=1:=by kernel_rfl
 have HH:(bT (ak (bT (ak pI 4)) 0)).length=2:=by kernel_rfl
 have t1:ev aa Φ 30 (fE (T:=T) t a R i2 j st) true (gF (ak (bT (ak pI 4)) 0))=some (.bool false):=eI (P:=λst out=>ev aa Φ 30 (fE (T:=T) t a R i2 j st) true (gF (ak (bT (ak pI 4)) 0))=some (.bool false)) nofun nofun nofun nofun fj;rw[aC];refine ah ⋯ ?_ (aD ⋯);rw[bj (c:=false) ∅ t1];show aW aa Φ 30 15 _ (bT (ak (bT (ak pI 4)) 0))=_;rw[aC];have e4:bQ aa Φ 30 (aW aa Φ 30 14) (fE (T:=T) t a R i2 j st) (ak (bT L8) 0)=some (fE t a R i2 j out,.next):=eI (P:=λst out=>bQ aa Φ 30 (aW aa Φ 30 14) (fE (T:=T) t a R i2 j st) (ak (bT L8) 0)=some (fE t a R i2 j out,.next)) nofun nofun nofun nofun fj;have e5:ev aa Φ 30 (fE (T:=T) t a R i2 j out) false (bR (ak (bT L8) 1))=some (.str (ao (91::(out++[93])))):=eI (P:=λst out=>ev aa Φ 30 (fE (T:=T) t a R i2 j out) false (bR (ak (bT L8) 1))=some (.str (ao (91::(out++[93]))))) nofun nofun nofun nofun fj;exact ah ⋯ e4 (ah ⋯ (LL 14 e5 hz) (aD ⋯))
theorem PH (eg:n9 Φ){t aK st out:List Nat}{a:V4}{R:List D}{i:Nat}{ks tl:List (Str×aO T)}(fj:(st,out)∈dI)(ht:t.drop i=91::(st++93::aK))(hk:qS ks tl)(hz:R.length<100000) :
  aW aa Φ 30 21 (dm t a R i ks) (cg jD)=some (fE t a (R++[.str (ao (91::(out++[93])))]) (i+1+st.length+1) (i+1+st.length) out,.next):=by
 rw[aC];have xz:t.drop (i+1)=st++93::aK:=by rw[<- Wl,ht];rfl
 refine oC rfl (bM ht) hk ?_ ⟨_,rfl⟩;rw[bj (c:=false) ∅ nofun];show aW aa Φ 30 20 _ (bT Qz)=_;have hl:(bT Qz).length=1:=by kernel_rfl
 rw[aC];refine ah ⋯ ?_ (aD ⋯);rw[bj (c:=false) ∅ nofun];show aW aa Φ 30 19 _ (bT Qy)=_;have hl:(bT Qy).length=1:=by kernel_rfl
 rw[aC];refine ah ⋯ ?_ (aD ⋯);rw[bj (c:=true) ∅ nofun];show aW aa Φ 30 18 _ qV=_;have hl:qV.length=5:=by kernel_rfl
 rw[aC];refine Ii hk.tl fj xz λfH vH=>ah ⋯ (LK eg vH fj xz hz) (aD ⋯)
inductive Pc where
 |star
 |q
 |ch (c:Nat)
 |br (k:Nat)
 deriving Nonempty
noncomputable def d7 (k:Nat):List Nat×List Nat:=dI.getD k ([42],[42])
noncomputable def Pc.txt:Pc->List Nat
 | .star=>[42]
 | .q=>[63]
 | .ch c=>[c]
 | .br k=>91::((d7 k).1++[93])
noncomputable def Pc.ok:Pc->Prop
 | .ch c=>c=97\/c=46
 | .br k=>k<4
 |_=>True
noncomputable def H0 (c:Nat):List Nat:=match c with |46=>[92,46] |c=>[c]
noncomputable def Pc.put:Pc->List gk->List gk
 | .star,P=>wz P
 | .q,P=>P++[some [46]]
 | .ch c,P=>P++[some (H0 c)]
 | .br k,P=>P++[some (91::((d7 k).2++[93]))]
noncomputable def d9:List Pc->List gk->List gk
 |[],P=>P
 |p::r,P=>d9 r (p.put P)
noncomputable def ib (l:List Pc):List Nat:=(l.map Pc.txt).flatten
theorem Bv (P:List gk):(wz P).length<=P.length+1:=by
 unfold wz
 cases nb P<;>simp
theorem Pc.put_len (p:Pc)(P:List gk):(p.put P).length<=P.length+1:=by
 induction p with
 |star=>exact Bv P
 |q=>exact WO (V1 (as:=P))
 |ch c=>exact WO (V1 (as:=P))
 |br k=>exact WO (V1 (as:=P))
theorem FI (eg:n9 Φ){t aK:List Nat}{a:V4}{P:List gk}{i:Nat}{ks tl:List (Str×aO T)}{p:Pc}(hp:p.ok)(ht:t.drop i=p.txt++aK)(hk:qS ks tl)(hz:P.length<100000) :
  ∃c_ fH,qS c_ fH/\ev aa Φ 30 (dm t a (P.map (bz a)) i ks) true (iS jD)=some (.bool true)/\aW aa Φ 30 21 (dm t a (P.map (bz a)) i ks) (cg jD)=some (dm t a ((p.put P).map (bz a)) (i+p.txt.length) c_,.next):=by
 revert eg hp ht hk hz;revert aa Φ t aK a P i ks tl p;unfold T;exists aa,Φ,t,aK,a,P,i,ks,tl,p;intro eg hp ht hk hz;have lK:i<t.length:=by
  have:=congrArg Xq ht;rw[WK,V1]at this;exact Nat.lt_of_sub_pos (by rw[this];exact Nat.add_pos_left (by induction p<;>exact Nat.zero_lt_succ _) _)
 have HD:ev aa Φ 30 (dm t a (P.map (bz a)) i ks) true (iS jD)=some (.bool true):=by
  have:ev aa Φ 29 (dm t a (P.map (bz a)) i ks) false (iS jD)=some (.bool (decide ((i:Int)<(t.length:Int)))):=by kernel_rfl
  rw[decide_eq_true (by lia)]at this;exact aH nofun this rfl
 have QC:(P.map (bz a)).length<100000:=by rw[VZ];exact hz
 induction p with
 |star=>exact⟨_,tl,.inr ⟨42,rfl,hk.tl⟩,HD,PE (bM ht) hk hz⟩
 |q =>
  refine⟨_,tl,.inr ⟨63,rfl,hk.tl⟩,HD,?_⟩;rw[PF (bM ht) hk QC,show(Pc.q.put P).map (bz a)=P.map (bz a)++[bz a (some [46])]from WZ];rfl
 |ch c =>
  refine⟨_,tl,.inr ⟨c,rfl,hk.tl⟩,HD,?_⟩;have hd:Φ uf [.str (ao [c])]=some (.str (ao (H0 c))):=by
   rcases hp with rfl |rfl
   ·exact eg.a
   ·exact eg.dot
  rw[PG (bM ht) hp hd hk QC,show((Pc.ch c).put P).map (bz a)=P.map (bz a)++[bz a (some (H0 c))]from WZ];rfl
 |br k =>
  delta k;intro hp ht;have hm:((d7 k).1,(d7 k).2)∈dI:=OV (P:=λk=>((d7 k).1,(d7 k).2)∈dI) (.head _) (.tail _ (.head _)) (.tail _ (.tail _ (.head _))) (.tail _ (.tail _ (.tail _ (.head _)))) hp;have xA:t.drop i=91::((d7 k).1++93::aK):=by rw[ht];exact congrArg (91::·) (Ww (d7 k).1 [93] aK)
  refine⟨_,[jB (i+1+(d7 k).1.length),sB (d7 k).2],.inr ⟨91,rfl,.inr ⟨_,_,rfl⟩⟩,HD,?_⟩;rw[PH eg hm xA hk QC];have hl:i+1+(d7 k).1.length+1=i+(Pc.br k).txt.length:=by show _=i+(91::((d7 k).1++[93])).length;simp only[VY,V1,WI];lia
  rw[hl,show((Pc.br k).put P).map (bz a)=P.map (bz a)++[bz a (some (91::((d7 k).2++[93])))]from WZ];rfl
theorem FL (eg:n9 Φ)(t:List Nat)(a:V4):∀(l:List Pc) (P:List gk) (i:Nat) (ks tl:List (Str×aO T)) (ba:Nat),(∀p∈l,p.ok)->t.drop i=ib l->qS ks tl->P.length+l.length<=1000->l.length<ba ->∃c_ fH,qS c_ fH/\de aa Φ 30 (aW aa Φ 30 21) (iS jD) (cg jD) ba (dm t a (P.map (bz a)) i ks)=some (dm t a ((d9 l P).map (bz a)) (i+(ib l).length) c_,.next):=by
 revert eg;revert aa Φ t a;unfold T;exists aa,Φ,t,a;intro eg;exists l;induction l with
 |nil =>
  intro P i ks tl ba hp ht hk hz hf;delta P i ks tl ba;intro ht hk hz hf;obtain⟨f,rfl⟩:=uD hf;delta f;intro hf;refine⟨ks,tl,hk,?_⟩;have Pe:t.length<=i:=Xo.mp ht;have:ev aa Φ 29 (dm t a (P.map (bz a)) i ks) false (iS jD)=some (.bool (decide ((i:Int)<(t.length:Int)))):=by kernel_rfl
  rw[decide_eq_false (by lia)]at this;rw[dx (aH nofun this rfl)];rfl
 |cons p l ih =>
  delta p l;intro ih;intro P i ks tl ba hp ht hk hz hf;delta P i ks tl ba;intro ht hk hz hf;obtain⟨f,rfl⟩:=uD hf;delta f;intro hf;simp only[VY]at hz hf;have xA:t.drop i=p.txt++ib l:=by rw[ht];simp[ib]
  obtain⟨Dk,B3,Jv⟩:2:=FI (aa:=aa) eg (a:=a) (hp p VT) xA hk (by lia:P.length<100000);have:=p.put_len P;obtain⟨Kx,ME,Q2,e3⟩:2:=ih (p.put P) (i+p.txt.length) Dk B3 f (λx hx=>hp x (VS _ hx)) (by rw[<- Wl,xA,XQ]) Jv.1 (by lia) (WB (by assumption));refine⟨Kx,ME,Q2,?_⟩;rw[fG Jv.2.1 Jv.2.2 e3,Nat.add_assoc,<- V1];rfl
end
inductive I3:V9->Prop |mk {t p}:I3 (.Assert t none p)
noncomputable def ES:V9->Expr | .Assert t _ _=>t |_=>zE
section
variable {T:Type}{aa:T->Str->List D->Option D}{Φ:b_}
set_option tactic.hygienic true in
theorem uc {N:Nat}{σ:az T}{rec:az T->List V9->Rs T}{st:V9}(hs:I3 st)(h:ev aa Φ N σ true (ES st)=some (.bool true)):bQ aa Φ N rec σ st=some (σ,.next):=by
 induction hs;rename_i t p;have h:ev aa Φ N σ true t=some (.bool true):=h;refine bE (f:=λσ=>bV aa Φ N σ (.Assert t none p)) ?_;exact dS h
noncomputable def zw (t:List Nat)(a:V4)(ks:List (Str×aO T)):az T:=⟨dZ 8,(VN "pat",.val (.str (ao t)))::(VN "STAR",.val (.opq (.ref a)))::(VN "QUESTION_MARK",.val (.str (ao [46])))::ks⟩
theorem JD (eg:n9 Φ)(a:V4)(l:List Pc)(hp:∀p∈l,p.ok)(hz:l.length<=20) :
  ∃σ',aW aa Φ 30 22 (zw (T:=T) (ib l) a []) (aZ 8)=some (σ',.ret (.lst ((d9 l []).map (bz a)))):=by
 revert eg hp hz;revert aa Φ a l;unfold T;exists aa,Φ,a,l;intro eg hp hz;have dC:(aZ 8).length=6:=by kernel_rfl
 rw[aC];have e0:bQ aa Φ 30 (aW aa Φ 30 21) (zw (T:=T) (ib l) a []) (ak (aZ 8) 0)=some (zw (ib l) a [(VN "res",.own [])],.next):=by
  rw[sx (l:=[]) (by exact .mk nofun) nofun nofun];kernel_rfl
 have e1:bQ aa Φ 30 (aW aa Φ 30 21) (zw (T:=T) (ib l) a [(VN "res",.own [])]) (ak (aZ 8) 1)=some (zw (ib l) a [(VN "res",.own []),(VN "add",.app (VN "res"))],.next):=by kernel_rfl
 have e2:bQ aa Φ 30 (aW aa Φ 30 21) (zw (T:=T) (ib l) a [(VN "res",.own []),(VN "add",.app (VN "res"))]) (ak (aZ 8) 2)=some (dm (ib l) a (([]:List gk).map (bz a)) 0 [],.next):=by
  rw[xO (d1:=.int (0:Nat)) (d2:=.int (ib l).length) (by exact .mk nofun) nofun nofun];kernel_rfl
 obtain⟨c_,fH,hk,e⟩:=FL (aa:=aa) (T:=T) eg (ib l) a l [] 0 [] [] 30 hp rfl (.inl ⟨rfl,rfl⟩) (by simp only[WI];lia) (Wn (by assumption) ⋯);delta c_ fH;intro hk e;rw[Nat.zero_add]at e;have e3:bQ aa Φ 30 (aW aa Φ 30 21) (dm (ib l) a (([]:List gk).map (bz a)) 0 []) (ak (aZ 8) 3)=some (dm (ib l) a ((d9 l []).map (bz a)) (ib l).length c_,.next):=by
  rw[kY ∅];exact e
 have e4:bQ aa Φ 30 (aW aa Φ 30 21) (dm (ib l) a ((d9 l []).map (bz a)) (ib l).length c_) (ak (aZ 8) 4)=some (dm (ib l) a ((d9 l []).map (bz a)) (ib l).length c_,.next):=by
  refine uc ∅ ?_;have:ev aa Φ 29 (dm (ib l) a ((d9 l []).map (bz a)) (ib l).length c_) false (ES (ak (aZ 8) 4))=some (.bool (decide (((ib l).length:Int)=((ib l).length:Int)))):=by kernel_rfl
  rw[decide_eq_true rfl]at this;exact aH nofun this rfl
 refine⟨(dm (ib l) a ((d9 l []).map (bz a)) (ib l).length c_).set (VN "res") (.val (.lst ((d9 l []).map (bz a)))),ah ⋯ e0 (ah ⋯ e1 (ah ⋯ e2 (ah ⋯ e3 (ah ⋯ e4 (bS ⋯ ?_)))))⟩;clear e e3 e4;rcases hk with⟨rfl,rfl⟩ |⟨c,rfl,rfl |⟨j,s,rfl⟩⟩
 all_goals exact lA ∅ nofun nofun nofun
end
theorem Do (xs:List (List Nat)):Yi (VN "") (xs.map ao)=ao xs.flatten:=by
 have e0:VN "" = ao []:=by decide +kernel
 rw[e0];have app:∀x y:List Nat,ao x++ao y=ao (x++y):=λx y=>dE (by show((⟨x⟩:Array Nat)++(⟨y⟩:Array Nat)).toList=x++y;simp)
 induction xs with
 |nil=>rfl
 |cons x r ih =>
  induction r with
  |nil=>simp[Yi]
  |cons y r =>
   simp only[Wu,Yi]at ih ⊢
   rw[ih,app,app];simp
theorem iV:∀xs:List (List Nat),mO (xs.map λx=>D.str (ao x))=some (xs.map ao)
 |[]=>rfl
 |x::r=>by
  show(mO (r.map λx=>D.str (ao x))).map (ao x::·)=_;rw[iV r];rfl
theorem rY {xs:List (List Nat)}(h1:∀x∈xs,x.length<=100)(h2:xs.length<=1000):iD (VN "join") (.str (VN "")) [.lst (xs.map λx=>.str (ao x))]=some (.str (ao xs.flatten)):=by
 have hs:∀l:List (List Nat),(∀x∈l,x.length<=100)->((l.map ao).map (·.length)).sum<=100*l.length:=by
  intro l;induction l with
  |nil=>intro _;simp
  |cons x r ih =>
   intro h;have:=ih λy hy=>h y (VS _ hy)
   have hx:(ao x).length<=100:=h x VT;simp only[Wu,List.sum_cons,VY];lia
 have:=hs xs h1;show nQ (VN "join") (VN "") (xs.map λx=>D.str (ao x))=_;unfold nQ;rw[if_pos ⟨by decide +kernel,by decide +kernel⟩,iV,Wg,if_pos (by simp only[VZ]at *;lia),Do]
section
variable {T:Type}{aa:T->Str->List D->Option D}{Φ:b_}
theorem Jy {N:Nat}{σ σ1:az T}{rec:az T->List V9->Rs T}{t:Expr}{b:List V9}{m:Nat}(h:ev aa Φ N σ true t=some (.bool true))(e:rec σ b=some (σ1,.brk)):de aa Φ N rec t b (m+1) σ=some (σ1,.next):=by
 exact(dS (sQ h)).trans (dS (f:=A1 λσ=>de aa Φ N rec t b m σ) e)
set_option tactic.hygienic true in
theorem Lz {N:Nat}{σ σa σb σc:az T}{rec:az T->List V9->Rs T}{st:V9}{d:D}(hs:DI st)(hw:bW σb.nm (rp st)=true)(ht:dW σ=[σ,σa,σb,σc])(h0:ev aa Φ N σ false (bR st)=none)(ha:ev aa Φ N σa false (bR st)=none)
  (h:ev aa Φ N σb false (bR st)=some d) (hn:σ.nm=σb.nm) (VG:σa.nm=σb.nm):bQ aa Φ N rec σ st=some (σb.set (rp st) (.val d),.next):=by
 obtain⟨hv⟩:=hs;rename_i x p v q;have hw:bW σb.nm x=true:=hw;have h:ev aa Φ N σb false v=some d:=h;show bA (λσ=>bV aa Φ N σ (.Assign [.Name x p] v q)) (dW σ)=_;rw[ht];exact(Mm (mS hv h0) _).trans ((Mm (mS hv ha) _).trans (Of (k8 hv hw h) _))
set_option tactic.hygienic true in
theorem Es {N:Nat}{σ σb:az T}{rec:az T->List V9->Rs T}{st:V9}{d:D}(hs:DI st)(hw:bW σb.nm (rp st)=true)(ht:dW σ=[σ,σb])(h0:ev aa Φ N σ false (bR st)=none)
  (h:ev aa Φ N σb false (bR st)=some d) (hn:σ.nm=σb.nm):bQ aa Φ N rec σ st=some (σb.set (rp st) (.val d),.next):=by
 obtain⟨hv⟩:=hs;rename_i x p v q;have hw:bW σb.nm x=true:=hw;have h:ev aa Φ N σb false v=some d:=h;show bA (λσ=>bV aa Φ N σ (.Assign [.Name x p] v q)) (dW σ)=_;rw[ht];rw[Mm (mS hv h0),Of (k8 hv hw h)];rfl
noncomputable def ef (P:List gk)(a:V4)(R:List D)(i:Nat)(ks:List (Str×aO T)):az T :=
 ⟨dZ 9,(VN "inp",.val (.lst (P.map (bz a))))::(VN "STAR",.val (.opq (.ref a)))::(VN "res",.own R)::(VN "add",.app (VN "res"))::(VN "n",.val (.int P.length))::(VN "i",.val (.int i))::ks⟩
noncomputable def A7 (x:List Nat):Str×aO T:=(VN "fixed",.val (.str (ao x)))
noncomputable def mw (S:List D):Str×aO T:=(VN "fixed",.own S)
noncomputable def wC (ks:List (Str×aO T)):Prop:=ks=[]\/∃x,ks=[A7 x]
theorem pG {P:List gk}{a:V4}{i:Nat}{p:gk}(h:P[i]?=some p):bh (.lst (P.map (bz a))) (.int i)=some (bz a p):=by
 show qr _ (i:Int)=_;rw[iG,W3,h];rfl
theorem tO (a:V4)(p:gk):Hq (bz a p) (.opq (.ref a))=some p.isNone:=by
 induction p with
 |none=>exact vC a
 |some x=>rfl
noncomputable def Sh (o:Option gk):Bool:=(o.bind λp=>p).isSome
theorem yF (e:Expr)(he:tR e){P:List gk}{a:V4}{R:List D}{i:Nat}{ks:List (Str×aO T)}(v0:se (fg e 0)=true)(v1:se (fg e 1)=true)
  (h0:ev aa Φ 28 (ef (T:=T) P a R i ks) false (fg e 0)=some (.bool (decide ((i:Int)<(((P.map (bz a)).length:Nat):Int))))\/ev aa Φ 28 (ef (T:=T) P a R i ks) false (fg e 0)=some (.bool (decide ((i:Int)<(P.length:Int)))))
  (h1:ev aa Φ 28 (ef (T:=T) P a R i ks) false (fg e 1)=(bh (.lst (P.map (bz a))) (.int i)).bind λd=>(Hq d (.opq (.ref a))).map λx=>.bool (!x)) :
  ev aa Φ 30 (ef (T:=T) P a R i ks) true e=some (.bool (Sh P[i]?)):=by
 have h0:ev aa Φ 28 (ef (T:=T) P a R i ks) false (fg e 0)=some (.bool (decide ((i:Int)<(P.length:Int)))):=by
  rcases h0 with h |h
  ·rw[VZ]at h;exact h
  ·exact h
 cases q:P[i]? with
 |none =>
  have:P.length<=i:=Xc.mp q;rw[decide_eq_false (by omega)]at h0;exact dv (a:=false) (b:=false) he (aH v0 h0 rfl) (λh=>by exact eV h)
 |some p =>
  have:=(Wd.mp q).1;rw[decide_eq_true (by omega)]at h0;rw[pG q,Wg,tO]at h1;clear q;induction p with
  |none=>exact dv (a:=true) (b:=false) he (aH v0 h0 rfl) λ_=>aH v1 h1 rfl
  |some x=>exact dv (a:=true) (b:=true) he (aH v0 h0 rfl) λ_=>aH v1 h1 rfl
noncomputable def j3:V9:=ak (aZ 9) 3
noncomputable def j4:V9:=ak (aZ 9) 4
noncomputable def j5:V9:=ak (cg j4) 5
theorem nk {P Q:List gk}{p:gk}{n:Nat}(h:P.drop n=p::Q):P[n]?=some p:=by
 have:=congrArg (·[0]?) h;simpa using this
theorem Cd {P aK:List gk}{i:Nat}(ht:P.drop i=aK)(hp:∀x r,aK≠some x::r):Sh P[i]?=false:=by
 cases hx:P[i]? with
 |none=>rfl
 |some p =>
  cases p with
  |none=>rfl
  |some x =>
   exfalso
   cases aK with
   |nil=>exact Nat.not_le_of_lt (Wd.mp hx).1 (Xo.mp ht)
   |cons p r =>
    have:=nk ht;replace this:=cG this hx;obtain rfl:=this;exact hp x r rfl
set_option tactic.hygienic true in
theorem Hi (n0:Nat)(P:List gk)(a:V4)(aK:List gk)(hp:∀x r,aK≠some x::r):∀(xs:List (List Nat)) (R:List D) (i ba:Nat),P.drop i=xs.map some++aK->R.length+xs.length<=1000->xs.length<ba ->de aa Φ 30 (aW aa Φ 30 (n0+1)) (iS j3) (cg j3) ba (ef (T:=T) P a R i [])=some (ef P a (R++xs.map λx=>.str (ao x)) (i+xs.length) [],.next):=by
 intro xs;induction xs with
 |nil =>
  intro R i ba ht hz hf;obtain⟨f,rfl⟩:=uD hf;have h:=yF (aa:=aa) (Φ:=Φ) (T:=T) (iS j3) ∅ (P:=P) (a:=a) (R:=R) (i:=i) (ks:=[]) nofun nofun (.inr nofun) nofun;have ht:P.drop i=aK:=ht;rw[Cd ht hp]at h;rw[dx h];simp
 |cons x xs ih =>
  intro R i ba ht hz hf;obtain⟨f,rfl⟩:=uD hf;simp only[VY]at hz hf;have hx:P[i]?=some (some x):=nk ht;have h:=yF (aa:=aa) (Φ:=Φ) (T:=T) (iS j3) ∅ (P:=P) (a:=a) (R:=R) (i:=i) (ks:=[]) nofun nofun (.inr nofun) nofun;rw[hx]at h;have hl:(cg j3).length=2:=by kernel_rfl
  have eb:aW aa Φ 30 (n0+1) (ef (T:=T) P a R i []) (cg j3)=some (ef P a (R++[.str (ao x)]) (i+1) [],.next):=by
   rw[aC];have hv:ev aa Φ 30 (ef (T:=T) P a R i []) false (bR (ak (cg j3) 0))=bh (.lst (P.map (bz a))) (.int i):=by kernel_rfl
   refine ah (σ1:=ef P a (R++[.str (ao x)]) i []) ⋯ ?_ (ah ⋯ ?_ (aD ⋯))
   ·rw[y8 (y:=VN "res") (l:=R) ∅ nofun nofun (hv.trans (pG hx)) (by lia)]
    kernel_rfl
   ·rw[ji (old:=.int i) (v:=.int 1) (d:=.int (i+1)) ∅ nofun nofun nofun rfl]
    kernel_rfl
  refine(fG h eb (ih (R++[.str (ao x)]) (i+1) f (by rw[<- Wl,ht];rfl) (by simp only[V1,We];lia) (WB (by assumption)))).trans ?_;rw[VY,show i+1+xs.length=i+(xs.length+1) by lia];simp
set_option tactic.hygienic true in
theorem He (n0:Nat)(P:List gk)(a:V4)(R:List D)(aK:List gk)(hp:∀x r,aK≠some x::r):∀(xs:List (List Nat)) (S:List D) (i ba:Nat),P.drop i=xs.map some++aK->S.length+xs.length<=1000->xs.length<ba ->de aa Φ 30 (aW aa Φ 30 (n0+1)) (iS j5) (cg j5) ba (ef (T:=T) P a R i [mw S])=some (ef P a R (i+xs.length) [mw (S++xs.map λx=>.str (ao x))],.next):=by
 intro xs;induction xs with
 |nil =>
  intro S i ba ht hz hf;obtain⟨f,rfl⟩:=uD hf;have h:=yF (aa:=aa) (Φ:=Φ) (T:=T) (iS j5) ∅ (P:=P) (a:=a) (R:=R) (i:=i) (ks:=[mw S]) nofun nofun (.inr nofun) nofun;have ht:P.drop i=aK:=ht;rw[Cd ht hp]at h;rw[dx h];simp
 |cons x xs ih =>
  intro S i ba ht hz hf;obtain⟨f,rfl⟩:=uD hf;simp only[VY]at hz hf;have hx:P[i]?=some (some x):=nk ht;have h:=yF (aa:=aa) (Φ:=Φ) (T:=T) (iS j5) ∅ (P:=P) (a:=a) (R:=R) (i:=i) (ks:=[mw S]) nofun nofun (.inr nofun) nofun;rw[hx]at h;have hl:(cg j5).length=2:=by kernel_rfl
  have eb:aW aa Φ 30 (n0+1) (ef (T:=T) P a R i [mw S]) (cg j5)=some (ef P a R (i+1) [mw (S++[.str (ao x)])],.next):=by
   rw[aC];have hv:ev aa Φ 30 (ef (T:=T) P a R i [mw S]) false (bR (ak (cg j5) 0))=bh (.lst (P.map (bz a))) (.int i):=by kernel_rfl
   refine ah (σ1:=ef P a R i [mw (S++[.str (ao x)])]) ⋯ ?_ (ah ⋯ ?_ (aD ⋯))
   ·rw[v8 (l:=S) (by exact .mk nofun) nofun (hv.trans (pG hx)) (by lia)]
    kernel_rfl
   ·rw[ji (old:=.int i) (v:=.int 1) (d:=.int (i+1)) ∅ nofun nofun nofun rfl]
    kernel_rfl
  refine(fG h eb (ih (S++[.str (ao x)]) (i+1) f (by rw[<- Wl,ht];rfl) (by simp only[V1,We];lia) (WB (by assumption)))).trans ?_;rw[VY,show i+1+xs.length=i+(xs.length+1) by lia];simp
end
theorem ku (x y:List Nat):ao x++ao y=ao (x++y):=dE (by show((⟨x⟩:Array Nat)++(⟨y⟩:Array Nat)).toList=x++y;simp)
theorem m_ {s:Str}{l:List Nat}(h:s.cps.toList=l):s=ao l:=dE h
theorem Jk {p q:Str}{P Q f:List Nat}(hp:p.cps.toList=P)(hq:q.cps.toList=Q)(hz:P.length+f.length+Q.length<=1000000) :
  (match Wm (p++(ao f++(q++WT))).length 1000000 with |true=>some (D.str (p++(ao f++(q++WT)))) |false=>none)=some (.str (ao (P++f++Q))):=by
 have e:p++(ao f++(q++WT))=ao (P++f++Q):=by
  rw[show q++WT=q from Str.append_empty q,m_ hp,m_ hq,ku,ku,Ww]
 rw[e];have:Wm (ao (P++f++Q)).length 1000000=true:=Wh (by show(P++f++Q).length<=_;simp only[V1];exact hz);rw[this]
noncomputable def i6 (gs:List (List (List Nat))):List gk:=(gs.map λg=>none::g.map some).flatten
noncomputable def gv:List (List (List Nat))->List (List Nat)
 |[]=>[]
 |[[]]=>[[46,42]]
 |[x::g]=>[[46,42],(x::g).flatten]
 |g::h::r=>(P6++g.flatten++[41])::gv (h::r)
noncomputable def M1:List (List (List Nat))->Prop
 |[]=>True
 |[g]=>True
 |g::h::r=>g≠[]/\M1 (h::r)
section
variable {T:Type}{aa:T->Str->List D->Option D}{Φ:b_}
theorem Nl (n0:Nat){P:List gk}{a:V4}{R:List D}{i:Nat}{ks:List (Str×aO T)}(hk:wC ks)(st:V9)(hs:Hr st)(hn:rp st=VN "i")(hv:ev aa Φ 30 (ef P a R i ks) false (bR st)=some (.int 1)) :
  bQ aa Φ 30 (aW aa Φ 30 n0) (ef P a R i ks) st=some (ef P a R (i+1) ks,.next):=by
 rw[ji (old:=.int i) (v:=.int 1) (d:=.int (i+1)) hs (by rw[hn];kernel_rfl) (by rw[hn];kernel_rfl) hv rfl,hn];exact Ar (t:=ks) hk nofun λ_=>by kernel_rfl
theorem yG (n0:Nat){P:List gk}{a:V4}{R:List D}{i:Nat}{ks:List (Str×aO T)}(hk:wC ks)(st:V9)(hs:Hs st)(hn:Ow st=VN "add"){d:D}(hv:ev aa Φ 30 (ef P a R i ks) false (bR st)=some d)(hz:R.length<100000) :
  bQ aa Φ 30 (aW aa Φ 30 n0) (ef P a R i ks) st=some (ef P a (R++[d]) i ks,.next):=by
 rw[y8 (y:=VN "res") (l:=R) hs (by rw[hn];kernel_rfl) nofun hv hz];exact Ar (t:=ks) hk nofun λ_=>by kernel_rfl
theorem tE {P:List gk}{a:V4}{R:List D}{i:Nat}{ks:List (Str×aO T)}:ev aa Φ 30 (ef P a R i ks) true (iS j4)=some (.bool (decide ((i:Int)<(P.length:Int)))) :=
 aH nofun (show ev aa Φ 29 (ef P a R i ks) false (iS j4)=some (.bool (decide ((i:Int)<(P.length:Int)))) by kernel_rfl) rfl
theorem tG (st:V9){P:List gk}{a:V4}{R:List D}{i:Nat}{ks:List (Str×aO T)}(v:se (gF st)=true)(h:ev aa Φ 29 (ef P a R i ks) false (gF st)=some (.bool (decide ((i:Int)=(P.length:Int))))):ev aa Φ 30 (ef P a R i ks) true (gF st)=some (.bool (decide ((i:Int)=(P.length:Int)))) :=
 aH v h rfl
theorem IU (n0:Nat){P:List gk}{a:V4}{R:List D}{i:Nat}{ks:List (Str×aO T)}(h:P[i]?=some none):bQ aa Φ 30 (aW aa Φ 30 n0) (ef P a R i ks) (ak (cg j4) 0)=some (ef P a R i ks,.next):=by
 refine uc ∅ ?_;have:ev aa Φ 29 (ef P a R i ks) false (ES (ak (cg j4) 0))=(bh (.lst (P.map (bz a))) (.int i)).bind λd=>(Hq d (.opq (.ref a))).map D.bool:=by kernel_rfl
 rw[pG h,Wg,tO]at this;exact aH nofun this rfl
theorem Hh (n0:Nat){P:List gk}{a:V4}{R:List D}{i:Nat}{x:List Nat}{ks:List (Str×aO T)}(h:P[i]?=some (some x)):bQ aa Φ 30 (aW aa Φ 30 n0) (ef P a R i ks) (ak (cg j4) 3)=some (ef P a R i ks,.next):=by
 refine uc ∅ ?_;have:ev aa Φ 29 (ef P a R i ks) false (ES (ak (cg j4) 3))=(bh (.lst (P.map (bz a))) (.int i)).bind λd=>(Hq d (.opq (.ref a))).map λx=>.bool (!x):=by kernel_rfl
 rw[pG h,Wg,tO]at this;exact aH nofun this rfl
theorem Dp (n0:Nat){P:List gk}{a:V4}{R:List D}{i:Nat}{ks:List (Str×aO T)}(hk:wC ks)(ht:P.drop i=[none])(hz:R.length<1000) :
  aW aa Φ 30 (n0+3) (ef P a R i ks) (cg j4)=some (ef P a (R++[.str (ao [46,42])]) (i+1) ks,.brk):=by
 have hl:(cg j4).length=8:=by kernel_rfl
 have HH:(cQ (ak (cg j4) 2)).length=2:=by kernel_rfl
 have hi:P.length=i+1:=by
  have:=congrArg Xq ht;rw[WK]at this;simp at this;lia
 rw[aC];refine ah ⋯ (IU _ (nk ht)) (ah ⋯ (Nl _ hk _ ∅ nofun nofun) (yk ⋯ ?_));have h2:=tG (aa:=aa) (Φ:=Φ) (ak (cg j4) 2) (P:=P) (a:=a) (R:=R) (i:=i+1) (ks:=ks) nofun nofun;rw[decide_eq_true (by lia)]at h2;rw[bj (c:=true) ∅ h2];show aW aa Φ 30 (n0+2) _ (cQ (ak (cg j4) 2))=_;rw[aC];have hv:ev aa Φ 30 (ef P a R (i+1) ks) false (bR (ak (cQ (ak (cg j4) 2)) 0))=some (.str (ao [46,42])):=by kernel_rfl
 refine ah ⋯ (yG _ hk _ ∅ nofun hv (W8 (by assumption) ⋯)) (yk ⋯ ?_);exact Ar (t:=ks) hk nofun λ_=>by kernel_rfl
theorem Dq (n0:Nat){P:List gk}{a:V4}{R:List D}{i:Nat}{x:List Nat}{g:List (List Nat)}{aK:List gk}{ks:List (Str×aO T)}(hk:wC ks)(ht:P.drop i=none::((x::g).map some++aK))(hp:∀x r,aK≠some x::r)
  (hg:∀y∈x::g,y.length<=100) (Fm:g.length<20) {r:Rs T}
  (k:eT (bQ aa Φ 30 (aW aa Φ 30 (n0+2))) (ef P a R (i+1+(x::g).length) [A7 (x::g).flatten]) ((cg j4).drop 7)=r) :
  aW aa Φ 30 (n0+3) (ef P a R i ks) (cg j4)=r:=by
 have hl:(cg j4).length=8:=by kernel_rfl
 have xz:P.drop (i+1)=(x::g).map some++aK:=by rw[<- Wl,ht];rfl
 have lK:i+1<P.length:=by
  have:=congrArg Xq xz;rw[WK]at this;simp at this;exact Nat.lt_of_sub_eq_succ this
 rw[aC];have h2:=tG (aa:=aa) (Φ:=Φ) (ak (cg j4) 2) (P:=P) (a:=a) (R:=R) (i:=i+1) (ks:=ks) nofun nofun;rw[decide_eq_false (by lia)]at h2;have e2:bQ aa Φ 30 (aW aa Φ 30 (n0+2)) (ef P a R (i+1) ks) (ak (cg j4) 2)=some (ef P a R (i+1) ks,.next):=by
  rw[bj (c:=false) ∅ h2];show aW aa Φ 30 (n0+2) _ (bT (ak (cg j4) 2))=_;rw[show bT (ak (cg j4) 2)=[] by kernel_rfl];rfl
 have e4:bQ aa Φ 30 (aW aa Φ 30 (n0+2)) (ef P a R (i+1) ks) (ak (cg j4) 4)=some (ef P a R (i+1) [mw []],.next):=by
  clear h2;rcases hk with rfl |⟨y,rfl⟩
  ·rw[sx (l:=[]) (by exact .mk nofun) nofun nofun]
   kernel_rfl
  ·rw[sx (l:=[]) (by exact .mk nofun) nofun nofun]
   kernel_rfl
 have e5:bQ aa Φ 30 (aW aa Φ 30 (n0+2)) (ef (T:=T) P a R (i+1) [mw []]) (ak (cg j4) 5)=some (ef P a R (i+1+(x::g).length) [mw ((x::g).map λx=>.str (ao x))],.next):=by
  rw[kY ∅];exact He (n0+1) P a R aK hp (x::g) [] (i+1) 30 xz (by simp only[WI,VY];lia) (by simp only[VY];lia)
 have e6:bQ aa Φ 30 (aW aa Φ 30 (n0+2)) (ef (T:=T) P a R (i+1+(x::g).length) [mw ((x::g).map λx=>.str (ao x))]) (ak (cg j4) 6)=some (ef P a R (i+1+(x::g).length) [A7 (x::g).flatten],.next):=by
  have hv:∀R i ks,ev aa Φ 30 (⟨dZ 9,(VN "inp",.val (.lst (P.map (bz a))))::(VN "STAR",.val (.opq (.ref a)))::(VN "res",.own R)::(VN "add",.app (VN "res"))::(VN "n",.val (.int P.length))::(VN "i",.val (.int i))::[(VN "fixed",.val (.lst ks))]⟩:az T) false (bR (ak (cg j4) 6))=iD (VN "join") (.str (VN "")) [.lst ks]:=λR i ks=>by kernel_rfl
  refine(Lz (N:=30) (rec:=aW aa Φ 30 (n0+2)) (σ:=ef (T:=T) P a R (i+1+(x::g).length) [mw ((x::g).map λx=>.str (ao x))]) (st:=ak (cg j4) 6) (σb:=⟨dZ 9,(VN "inp",.val (.lst (P.map (bz a))))::(VN "STAR",.val (.opq (.ref a)))::(VN "res",.own R)::(VN "add",.app (VN "res"))::(VN "n",.val (.int P.length))::(VN "i",.val (.int (i+1+(x::g).length:Nat)))::[(VN "fixed",.val (.lst ((x::g).map λx=>.str (ao x))))]⟩)
   (σa:=⟨dZ 9,(VN "inp",.val (.lst (P.map (bz a))))::(VN "STAR",.val (.opq (.ref a)))::(VN "res",.val (.lst R))::(VN "add",.dead)::(VN "n",.val (.int P.length))::(VN "i",.val (.int (i+1+(x::g).length:Nat)))::[mw ((x::g).map λx=>.str (ao x))]⟩)
   (σc:=⟨dZ 9,(VN "inp",.val (.lst (P.map (bz a))))::(VN "STAR",.val (.opq (.ref a)))::(VN "res",.val (.lst R))::(VN "add",.dead)::(VN "n",.val (.int P.length))::(VN "i",.val (.int (i+1+(x::g).length:Nat)))::[(VN "fixed",.val (.lst ((x::g).map λx=>.str (ao x))))]⟩)
   (by exact .mk rfl) nofun nofun nofun nofun ((hv _ _ _).trans (rY hg (by simp only[VY];lia))) rfl rfl).trans ?_
  kernel_rfl
 exact ah ⋯ (IU _ (nk ht)) (ah ⋯ (Nl _ hk _ ∅ nofun nofun) (ah ⋯ e2 (ah ⋯ (Hh _ (nk xz)) (ah ⋯ e4 (ah ⋯ e5 (ah ⋯ e6 k))))))
theorem Hg (n0:Nat){P:List gk}{a:V4}{R:List D}{i:Nat}{x:List Nat}{g:List (List Nat)}{ks:List (Str×aO T)}(hk:wC ks)(ht:P.drop i=none::((x::g).map some++[]))(hg:∀y∈x::g,y.length<=100)(Fm:g.length<20)(hz:R.length<1000) :
  aW aa Φ 30 (n0+3) (ef P a R i ks) (cg j4)=some (ef P a (R++[.str (ao [46,42]),.str (ao (x::g).flatten)]) P.length [A7 (x::g).flatten],.next):=by
 have hl:(cg j4).length=8:=by kernel_rfl
 have QZ:(cQ (ak (cg j4) 7)).length=2:=by kernel_rfl
 have hi:P.length=i+1+(x::g).length:=by
  have:=congrArg Xq ht;rw[WK]at this;simp at this ⊢;exact z9 this
 refine Dq n0 hk ht (λx r=>by simp) hg Fm ?_;rw[<- hi];have h2:=tG (aa:=aa) (Φ:=Φ) (T:=T) (ak (cg j4) 7) (P:=P) (a:=a) (R:=R) (i:=P.length) (ks:=[A7 (x::g).flatten]) nofun nofun;rw[decide_eq_true rfl]at h2;refine ah ⋯ ?_ (aD ⋯);rw[bj (c:=true) ∅ h2];show aW aa Φ 30 (n0+2) _ (cQ (ak (cg j4) 7))=_;rw[aC];have uz:ev aa Φ 30 (ef P a R P.length [A7 (T:=T) (x::g).flatten]) false (bR (ak (cQ (ak (cg j4) 7)) 0))=some (.str (ao [46,42])):=by kernel_rfl
 have hZ:ev aa Φ 30 (ef P a (R++[.str (ao [46,42])]) P.length [A7 (T:=T) (x::g).flatten]) false (bR (ak (cQ (ak (cg j4) 7)) 1))=some (.str (ao (x::g).flatten)):=by kernel_rfl
 refine ah ⋯ (yG _ (.inr ⟨_,rfl⟩) _ ∅ nofun uz (W8 (by assumption) ⋯)) (ah ⋯ (yG _ (.inr ⟨_,rfl⟩) _ ∅ nofun hZ (by simp;lia)) ?_);rw[aD ⋯];simp
theorem Ky (n0:Nat){P:List gk}{a:V4}{R:List D}{i:Nat}{x:List Nat}{g:List (List Nat)}{aK:List gk}{ks:List (Str×aO T)}(hk:wC ks)(ht:P.drop i=none::((x::g).map some++none::aK))(hg:∀y∈x::g,y.length<=100)(Fm:g.length<20)(hz:R.length<1000)(Fo:(x::g).flatten.length<=10000) :
  aW aa Φ 30 (n0+3) (ef P a R i ks) (cg j4)=some (ef P a (R++[.str (ao (P6++(x::g).flatten++[41]))]) (i+1+(x::g).length) [A7 (x::g).flatten],.next):=by
 have hl:(cg j4).length=8:=by kernel_rfl
 have QZ:(bT (ak (cg j4) 7)).length=1:=by kernel_rfl
 have hi:i+1+(x::g).length<P.length:=by
  have:=congrArg Xq ht;rw[WK]at this;simp at this ⊢;exact z7 this
 refine Dq n0 hk ht (λx r=>by simp) hg Fm ?_;have h2:=tG (aa:=aa) (Φ:=Φ) (T:=T) (ak (cg j4) 7) (P:=P) (a:=a) (R:=R) (i:=i+1+(x::g).length) (ks:=[A7 (x::g).flatten]) nofun nofun;rw[decide_eq_false (by lia)]at h2;refine ah ⋯ ?_ (aD ⋯);rw[bj (c:=false) ∅ h2];show aW aa Φ 30 (n0+2) _ (bT (ak (cg j4) 7))=_;rw[aC];generalize i+1+(x::g).length=i2;generalize hF:(x::g).flatten=Fx at *;have hv:ev aa Φ 30 (ef P a R i2 [A7 (T:=T) Fx]) false (bR (ak (bT (ak (cg j4) 7)) 0)) =
   (match Wm (VN "(?>.*?" ++(ao Fx++(VN ")" ++WT))).length 1000000 with |true=>some (D.str (VN "(?>.*?" ++(ao Fx++(VN ")" ++WT)))) |false=>none):=by kernel_rfl
 rw[Jk (P:=P6) (Q:=[41]) (by decide +kernel) (by decide +kernel) (by simp[P6];lia)]at hv;exact ah ⋯ (yG _ (.inr ⟨_,rfl⟩) _ ∅ nofun hv (W8 (by assumption) ⋯)) (aD ⋯)
end
noncomputable def gl (l:List (List Nat)):List D:=l.map λx=>.str (ao x)
theorem kq (g:List (List Nat))(r:List (List (List Nat))):i6 (g::r)=none::(g.map some++i6 r):=by simp[i6]
section
variable {T:Type}{aa:T->Str->List D->Option D}{Φ:b_}
theorem Hf (n0:Nat)(P:List gk)(a:V4):∀(gs:List (List (List Nat))) (R:List D) (i:Nat) (ks:List (Str×aO T)) (ba:Nat),M1 gs->wC ks->P.drop i=i6 gs->i<=P.length->R.length+2*gs.length<=900->gs.length<ba ->(∀g∈gs,(∀y∈g,y.length<=100)/\g.length<=20/\g.flatten.length<=10000) ->∃c_,wC c_/\de aa Φ 30 (aW aa Φ 30 (n0+3)) (iS j4) (cg j4) ba (ef P a R i ks)=some (ef P a (R++gl (gv gs)) P.length c_,.next):=by
 revert aa Φ n0 P a;unfold T;exists aa,Φ,n0,P,a;intro gs;delta gs;induction gs with
 |nil =>
  intro R i ks ba ho hk ht hi hz hf hs;delta R i ks ba;intro hk ht hi hz hf;obtain⟨f,rfl⟩:=uD hf;have:P.length<=i:=Xo.mp ht;have hi:i=P.length:=by lia
  subst hi;have h:=tE (aa:=aa) (Φ:=Φ) (P:=P) (a:=a) (R:=R) (i:=P.length) (ks:=ks);rw[decide_eq_false (by lia)]at h;refine⟨ks,hk,?_⟩;rw[dx h,show R++gl (gv [])=R from WH R]
 |cons g r ih =>
  delta g r;intro ih;intro R i ks ba ho hk ht hi hz hf hs;delta R i ks ba;intro hk ht hi hz hf;obtain⟨f,rfl⟩:=uD hf;delta f;intro hf;simp only[VY]at hz hf;rw[kq]at ht;delta f;intro hf;have lK:i<P.length:=by
   have:=congrArg Xq ht;rw[WK]at this;simp at this;exact Nat.lt_of_sub_eq_succ this
  have h:=tE (aa:=aa) (Φ:=Φ) (P:=P) (a:=a) (R:=R) (i:=i) (ks:=ks);rw[decide_eq_true (by omega)]at h;obtain⟨h1,h2,h3⟩:=hs g VT
  cases r with
  |nil =>
   rw[show i6 []=[]from rfl]at ht;clear ho hs;induction g with
   |nil =>
    have hi:i+1=P.length:=by
     have:=congrArg Xq ht;rw[WK]at this;simp at this;lia
    have e:=Dp (aa:=aa) (Φ:=Φ) n0 (a:=a) (R:=R) hk ht (by lia);rw[hi]at e;exact⟨ks,hk,Jy h e⟩
   |cons x g =>
    delta x g;intro iU h1 h2 h3 ht;have e:=Hg (aa:=aa) (Φ:=Φ) n0 (a:=a) (R:=R) hk ht h1 (by simp only[VY]at h2;lia) (by lia);obtain⟨f,rfl⟩:=uD (WB hf);have hh:=tE (aa:=aa) (Φ:=Φ) (T:=T) (P:=P) (a:=a) (R:=R++[.str (ao [46,42]),.str (ao (x::g).flatten)]) (i:=P.length) (ks:=[A7 (x::g).flatten]);rw[decide_eq_false (by lia)]at hh;exact⟨_,.inr ⟨_,rfl⟩,fG h e (dx hh)⟩
  |cons g2 r =>
   obtain⟨hg,ho⟩:=ho;obtain⟨x,g,rfl⟩:∃x g',g=x::g':=by clear h1 h2 h3 ht hs;induction g with |nil=>exact absurd rfl hg |cons x g'=>exact⟨x,g',rfl⟩
   have xA:=ht;rw[kq]at xA;have e:=Ky (aa:=aa) (Φ:=Φ) n0 (a:=a) (R:=R) hk xA h1 (by simp only[VY]at h2;lia) (by lia) h3;have KV:P.drop (i+1+(x::g).length)=i6 (g2::r):=by
    rw[Nat.add_assoc,<- Wl,ht,Nat.add_comm 1,<- Wl];have:(none::((x::g).map some++i6 (g2::r))).drop ((x::g).length+1)=i6 (g2::r):=by
     rw[List.drop_succ_cons];have:(x::g).length=((x::g).map (some:List Nat->gk)).length:=by simp
     rw[this,XQ]
    rw[Wl];exact this
   have Ja:i+1+(x::g).length<=P.length:=by
    have:=congrArg Xq ht;rw[WK]at this;simp at this ⊢;exact z8 this
   obtain⟨c_,jl⟩:=ih (R++[.str (ao (P6++(x::g).flatten++[41]))]) _ _ f ho (.inr ⟨_,rfl⟩) KV Ja (by simp only[V1,WI,VY]at *;lia) (by simp only[VY]at *;lia) (λy hy=>hs y (VS _ hy));refine⟨c_,jl.1,?_⟩;rw[fG h e jl.2,Ww];rfl
noncomputable def xd (P:List gk)(a:V4)(ks:List (Str×aO T)):az T:=⟨dZ 9,(VN "inp",.val (.lst (P.map (bz a))))::(VN "STAR",.val (.opq (.ref a)))::ks⟩
theorem Nk (a:V4)(xs:List (List Nat))(gs:List (List (List Nat)))(ho:M1 gs)(O0:xs.length<=20)(Fm:gs.length<=20)(hs:∀g∈gs,(∀y∈g,y.length<=100)/\g.length<=20/\g.flatten.length<=10000)
  (hj:∀y∈xs++gv gs,y.length<=100) (Mh:(xs++gv gs).length<=1000) (Fo:(xs++gv gs).flatten.length<=100000) :
  ∃σ',aW aa Φ 30 6 (xd (T:=T) (xs.map some++i6 gs) a []) (aZ 9)=some (σ',.ret (.str (ao (P4++(xs++gv gs).flatten++P3)))):=by
 revert ho O0 Fm hs hj Mh Fo;revert aa Φ a xs gs;unfold T;exists aa,Φ,a,xs,gs;intro ho O0 Fm hs hj Mh Fo;have dC:(aZ 9).length=8:=by kernel_rfl
 generalize hP:xs.map some++i6 gs=P;rw[aC];have e0:bQ aa Φ 30 (aW aa Φ 30 5) (xd (T:=T) P a []) (ak (aZ 9) 0)=some (xd P a [(VN "res",.own [])],.next):=by
  rw[sx (l:=[]) (by exact .mk nofun) nofun nofun];kernel_rfl
 have e1:bQ aa Φ 30 (aW aa Φ 30 5) (xd (T:=T) P a [(VN "res",.own [])]) (ak (aZ 9) 1)=some (xd P a [(VN "res",.own []),(VN "add",.app (VN "res"))],.next):=by kernel_rfl
 have e2:bQ aa Φ 30 (aW aa Φ 30 5) (xd (T:=T) P a [(VN "res",.own []),(VN "add",.app (VN "res"))]) (ak (aZ 9) 2)=some (ef P a [] 0 [],.next):=by
  have hv:ev aa Φ 30 (xd (T:=T) P a [(VN "res",.own []),(VN "add",.app (VN "res"))]) false (wF (ak (aZ 9) 2) 1)=some (.int (P.map (bz a)).length):=by kernel_rfl
  rw[VZ]at hv;rw[xO (d1:=.int (0:Nat)) (d2:=.int P.length) (by exact .mk nofun) nofun hv];kernel_rfl
 have NG:∀x r,i6 gs≠some x::r:=by
  clear Fm Fo;induction gs with
  |nil=>intro x r h;cases h
  |cons g r=>intro x r' h;rw[kq]at h;clear ho hs hj Mh hP;cases h
 have e3:bQ aa Φ 30 (aW aa Φ 30 5) (ef (T:=T) P a [] 0 []) (ak (aZ 9) 3)=some (ef P a (gl xs) xs.length [],.next):=by
  rw[kY ∅];have:=Hi (aa:=aa) (Φ:=Φ) (T:=T) 4 P a (i6 gs) NG xs [] 0 30 (by rw[<- hP];rfl) (by simp only[WI];lia) (Wn (by assumption) ⋯);rw[Nat.zero_add,YL]at this;exact this
 have fX:P.drop xs.length=i6 gs:=by
  rw[<- hP];have:xs.length=(xs.map (some:List Nat->gk)).length:=by simp
  rw[this,XQ]
 obtain⟨c_,jl⟩:=Hf (aa:=aa) (Φ:=Φ) (T:=T) 2 P a gs (gl xs) xs.length [] 30 ho (.inl rfl) fX (by rw[<- hP];simp) (by simp only[gl,VZ];lia) (Wn (by assumption) ⋯) hs;have S_:bQ aa Φ 30 (aW aa Φ 30 5) (ef (T:=T) P a (gl xs) xs.length []) (ak (aZ 9) 4)=some (ef P a (gl (xs++gv gs)) P.length c_,.next):=by
  rw[kY ∅];refine jl.2.trans ?_;simp[gl]
 have e5:bQ aa Φ 30 (aW aa Φ 30 5) (ef (T:=T) P a (gl (xs++gv gs)) P.length c_) (ak (aZ 9) 5)=some (ef P a (gl (xs++gv gs)) P.length c_,.next):=by
  refine uc ∅ ?_;have:ev aa Φ 29 (ef (T:=T) P a (gl (xs++gv gs)) P.length c_) false (ES (ak (aZ 9) 5))=some (.bool (decide ((P.length:Int)=(P.length:Int)))):=by kernel_rfl
  rw[decide_eq_true rfl]at this;exact aH nofun this rfl
 have hm:=rY hj Mh;obtain⟨OM,e6,Hy⟩:∃OM,bQ aa Φ 30 (aW aa Φ 30 5) (ef (T:=T) P a (gl (xs++gv gs)) P.length c_) (ak (aZ 9) 6)=some (OM,.next)/\ev aa Φ 30 OM false (rP (ak (aZ 9) 7)) =
   (match Wm (VN "(?s:" ++(ao (xs++gv gs).flatten++(VN ")\\Z" ++WT))).length 1000000 with |true=>some (D.str (VN "(?s:" ++(ao (xs++gv gs).flatten++(VN ")\\Z" ++WT)))) |false=>none):=by
  generalize(xs++gv gs)=L at *;clear S_ e5;rcases jl.1 with rfl |⟨x,rfl⟩
  ·refine⟨_,Es (N:=30) (σ:=ef P a (gl L) P.length []) (σb:=⟨dZ 9,[(VN "inp",.val (.lst (P.map (bz a)))),(VN "STAR",.val (.opq (.ref a))),(VN "res",.val (.lst (gl L))),(VN "add",.dead),(VN "n",.val (.int P.length)),(VN "i",.val (.int P.length))]⟩) (d:=.str (ao L.flatten)) (by exact .mk rfl) nofun nofun nofun (Eq.trans (b:=iD (VN "join") (.str (VN "")) [.lst (gl L)]) nofun hm) rfl,?_⟩
   kernel_rfl
  ·refine⟨_,Es (N:=30) (σ:=ef P a (gl L) P.length [A7 x]) (σb:=⟨dZ 9,[(VN "inp",.val (.lst (P.map (bz a)))),(VN "STAR",.val (.opq (.ref a))),(VN "res",.val (.lst (gl L))),(VN "add",.dead),(VN "n",.val (.int P.length)),(VN "i",.val (.int P.length)),A7 x]⟩) (d:=.str (ao L.flatten)) (by exact .mk rfl) nofun nofun nofun (Eq.trans (b:=iD (VN "join") (.str (VN "")) [.lst (gl L)]) nofun hm) rfl,?_⟩
   kernel_rfl
 have KQ:=Hy.trans (Jk (P:=P4) (Q:=P3) (by decide +kernel) (by decide +kernel) (by clear Hy;show 4+(xs++gv gs).flatten.length+3<=_;lia));exact⟨OM,ah ⋯ e0 (ah ⋯ e1 (ah ⋯ e2 (ah ⋯ e3 (ah ⋯ S_ (ah ⋯ e5 (ah ⋯ e6 (bS ⋯ (j1 ∅ KQ))))))))⟩
end
noncomputable def zG:V6:=⟨zE,zE,[],0⟩
noncomputable def To:YB:=(aS 14).scope
noncomputable def uy:Expr->Expr | .ListComp e _ _ _=>e |_=>zE
noncomputable def eU:Expr->V6 | .ListComp _ (g::_) _ _=>g |_=>zG
noncomputable def Ha:Expr->V6 | .ListComp _ (_::g::_) _ _=>g |_=>zG
noncomputable def ln:Expr->YB | .ListComp _ _ sc _=>sc |_=>To
inductive yK (nm:bc):Expr->Prop |mk {e g sc p}:(oe nm sc&&jF [g])=true->yK nm (.ListComp e [g] sc p)
inductive IZ (nm:bc):Expr->Prop |mk {e g h sc p}:(oe nm sc&&jF [g,h])=true->IZ nm (.ListComp e [g,h] sc p)
inductive DD (nm:bc):V9->Prop |mk {x p e g gs sc vp q}:(bW nm x&&!(sw nm x p vp sc))=true->DD nm (.Assign [.Name x p] (.ListComp e (g::gs) sc vp) q)
inductive IY (nm:bc):V9->Prop |mk {x p e g sc vp q}:(bW nm x&&sw nm x p vp sc&&(oe nm sc&&jF [g]))=true->IY nm (.Assign [.Name x p] (.ListComp e [g] sc vp) q)
noncomputable def gf (g:V6)(i:Nat):Expr:=g.ifs.getD i zE
section
variable {T:Type}{aa:T->Str->List D->Option D}{Φ:b_}{n N:Nat}{σ σ1:az T}{e:Expr}{d:D}{its l:List D}{rec:az T->List V9->Rs T}{st:V9}
set_option tactic.hygienic true in
theorem kZ (hs:yK σ.nm e)(h1:ev aa Φ n σ false (eU e).iter=some d)(h2:cP d=some its)(h3:comp (λσ b e=>ev aa Φ n σ b e) (uy e) [eU e] (di (ln e) σ) its=some l)(hz:l.length<=100000):ev aa Φ (n+1) σ false e=some (.lst l):=by
 obtain⟨hs⟩:=hs;rename_i elt g sc pos;have h1:ev aa Φ n σ false g.iter=some d:=h1;have h3:comp (λσ b e=>ev aa Φ n σ b e) elt [g] (di sc σ) its=some l:=h3;have hb:Wm l.length 100000=true:=Wh hz;exact lx hs ((dS h1).trans ((dS h2).trans ((dS h3).trans (lx hb rfl))))
set_option tactic.hygienic true in
theorem LA (hs:IZ σ.nm e)(h1:ev aa Φ n σ false (eU e).iter=some d)(h2:cP d=some its)(h3:comp (λσ b e=>ev aa Φ n σ b e) (uy e) [eU e,Ha e] (di (ln e) σ) its=some l)(hz:l.length<=100000):ev aa Φ (n+1) σ false e=some (.lst l):=by
 obtain⟨hs⟩:=hs;rename_i elt g g2 sc pos;have h1:ev aa Φ n σ false g.iter=some d:=h1;have h3:comp (λσ b e=>ev aa Φ n σ b e) elt [g,g2] (di sc σ) its=some l:=h3;have hb:Wm l.length 100000=true:=Wh hz;exact lx hs ((dS h1).trans ((dS h2).trans ((dS h3).trans (lx hb rfl))))
set_option tactic.hygienic true in
theorem xP (hs:yK σ.nm e)(h1:ev aa Φ n σ false (eU e).iter=some d)(h2:cP d=some its)(h3:comp (λσ b e=>ev aa Φ n σ b e) (uy e) [eU e] (di (ln e) σ) its=none):ev aa Φ (n+1) σ false e=none:=by
 obtain⟨hs⟩:=hs;rename_i elt g sc pos;have h1:ev aa Φ n σ false g.iter=some d:=h1;have h3:comp (λσ b e=>ev aa Φ n σ b e) elt [g] (di sc σ) its=none:=h3;exact lx hs ((dS h1).trans ((dS h2).trans (LH h3)))
set_option tactic.hygienic true in
theorem xQ (hs:yK σ.nm e)(h1:ev aa Φ n σ false (eU e).iter=none):ev aa Φ (n+1) σ false e=none:=by
 obtain⟨hs⟩:=hs;rename_i elt g sc pos;have h1:ev aa Φ n σ false g.iter=none:=h1;exact lx hs (LH h1)
set_option tactic.hygienic true in
theorem v7 (hs:DD σ.nm st)(h:ev aa Φ N σ false (bR st)=some d):bQ aa Φ N rec σ st=some (σ.set (rp st) (.val d),.next):=by
 obtain⟨hs⟩:=hs;rename_i x p elt g gs sc vp pos;rw[V3,Wv]at hs;have h:ev aa Φ N σ false (.ListComp elt (g::gs) sc vp)=some d:=h;show bA (λσ=>bV aa Φ N σ (.Assign [.Name x p] (.ListComp elt (g::gs) sc vp) pos)) (dW σ)=_;refine bE ?_;refine lx hs.1 ?_;rw[hs.2];exact(dS h).trans (bO _ _)
set_option tactic.hygienic true in
theorem Er (hs:DD σ.nm st)(ht:dW σ=[σ,σ1])(hn:σ1.nm=σ.nm)(h0:ev aa Φ N σ false (bR st)=none)(h:ev aa Φ N σ1 false (bR st)=some d):bQ aa Φ N rec σ st=some (σ1.set (rp st) (.val d),.next):=by
 obtain⟨hs⟩:=hs;rename_i x p elt g gs sc vp pos;rw[V3,Wv]at hs;have h:ev aa Φ N σ1 false (.ListComp elt (g::gs) sc vp)=some d:=h;have h0:ev aa Φ N σ false (.ListComp elt (g::gs) sc vp)=none:=h0;show bA (λσ=>bV aa Φ N σ (.Assign [.Name x p] (.ListComp elt (g::gs) sc vp) pos)) (dW σ)=_;rw[ht];have e0:bV aa Φ N σ (.Assign [.Name x p] (.ListComp elt (g::gs) sc vp) pos)=none:=by
  refine lx hs.1 ?_;rw[hs.2];exact LH h0
 have e1:bV aa Φ N σ1 (.Assign [.Name x p] (.ListComp elt (g::gs) sc vp) pos)=some (σ1.set x (.val d),.next):=by
  refine lx (by rw[hn];exact hs.1) ?_;rw[hn,hs.2];exact(dS h).trans (bO _ _)
 exact(Mm e0 _).trans (Of e1 _)
set_option tactic.hygienic true in
theorem Ep (hs:IY σ.nm st)(h1:ev aa Φ N σ false (eU (bR st)).iter=some d)(h2:cP d=some its)(h3:comp (λσ b e=>ev aa Φ N σ b e) (uy (bR st)) [eU (bR st)] (di (ln (bR st)) σ) its=some l)(hz:l.length<=100000) :
  bQ aa Φ N rec σ st=some (σ.set (rp st) (.val (.lst l)),.next):=by
 obtain⟨hs⟩:=hs;rename_i x p elt g sc vp pos;rw[V3,V3]at hs;have h1:ev aa Φ N σ false g.iter=some d:=h1;have h3:comp (λσ b e=>ev aa Φ N σ b e) elt [g] (di sc σ) its=some l:=h3;have hb:Wm l.length 100000=true:=Wh hz;show bA (λσ=>bV aa Φ N σ (.Assign [.Name x p] (.ListComp elt [g] sc vp) pos)) (dW σ)=_;refine bE ?_;refine lx hs.1.1 ?_;rw[hs.1.2];exact lx hs.2 ((dS h1).trans ((dS h2).trans ((dS h3).trans (lx hb (eM _ _)))))
theorem ue {b:Bi}{x:D}(hs:xt 1 e)(hg:js σ.nm (oO e)=true)(hb:jv (oO e)=some b)(h1:ev aa Φ n σ false (wi e 0)=some x)(h:BL b [x]=some d) :
  ev aa Φ (n+1) σ false e=some d:=by
 obtain⟨f,p,as,pos,rfl,hl⟩:=jS hs;clear hs;obtain⟨u,rfl⟩:=YG.mp hl;exact j7 hg (Ev h1) (by rw[show jv f=some b from hb];exact h)
theorem Eu {b:Bi}{x y:D}(hs:xt 2 e)(hg:js σ.nm (oO e)=true)(hb:jv (oO e)=some b)(h1:ev aa Φ n σ false (wi e 0)=some x)(h2:ev aa Φ n σ false (wi e 1)=some y)(h:BL b [x,y]=some d) :
  ev aa Φ (n+1) σ false e=some d:=by
 obtain⟨f,p,as,pos,rfl,hl⟩:=jS hs;clear hs;obtain⟨u,v,rfl⟩:=GV hl;exact j7 hg (Bh h1 h2) (by rw[show jv f=some b from hb];exact h)
theorem C6 {α β:Type}{g:α->Option β}{F:α->β}{l:List α}(h:∀x∈l,g x=some (F x)):pR g l=some (l.map F):=by
 induction l with
 |nil=>rfl
 |cons x r ih=>exact(dS (h x VT)).trans (w6 (ih λy hy=>h y (VS _ hy)))
theorem zg {f:Fn T}{elt:Expr}{g:V6}{gs:List V6}{σi:az T}{F:D->List D}(kX:ja σi g.target=true)
  (h:∀x∈its,∃σ',bB σi g.target x=some σ'/\((bq f σ' g.ifs=some false/\F x=[])\/(bq f σ' g.ifs=some true/\xZ f elt σ' gs=some (F x)))):comp f elt (g::gs) σi its=some (its.flatMap F):=by
 rw[iI];refine lx kX (w6 (C6 (F:=F) λx hx=>?_));obtain⟨σ',e1,⟨e2,e3⟩ |⟨e2,e3⟩⟩:=h x hx
 ·exact(dS e1).trans ((dS e2).trans (congrArg some e3.symm))
 ·exact(dS e1).trans ((dS e2).trans e3)
theorem qJ {f:Fn T}{elt:Expr}{g:V6}{σi:az T}{F:D->List D}(kX:ja σi g.target=true)
  (h:∀x∈its,∃σ',bB σi g.target x=some σ'/\((bq f σ' g.ifs=some false/\F x=[])\/(bq f σ' g.ifs=some true/\∃y,f σ' false elt=some y/\F x=[y]))):comp f elt [g] σi its=some (its.flatMap F) :=
 zg kX λx hx=>by
  obtain⟨σ',e1,e2 |⟨e2,y,e3,e4⟩⟩:=h x hx
  ·exact⟨σ',e1,.inl e2⟩
  ·exact⟨σ',e1,.inr ⟨e2,(w6 e3).trans (congrArg some e4.symm)⟩⟩
theorem Bm {f:Fn T}{elt:Expr}{g:V6}{σi σ':az T}{x:D}{r:List D}(e1:bB σi g.target x=some σ')(e2:bq f σ' g.ifs=none):comp f elt [g] σi (x::r)=none:=by
 rw[iI];refine S2 ?_;have:pR (sP f elt σi g []) (x::r)=none:=LH ((dS e1).trans (LH e2));rw[this];rfl
theorem EH {f:Fn T}{elt:Expr}{g h:V6}{σi:az T}{F:D->List D}(kX:ja σi g.target=true)
  (H:∀x∈its,∃σ',bB σi g.target x=some σ'/\((bq f σ' g.ifs=some false/\F x=[])\/(bq f σ' g.ifs=some true/\∃d Kz,f σ' false h.iter=some d/\cP d=some Kz/\comp f elt [h] σ' Kz=some (F x)))):comp f elt [g,h] σi its=some (its.flatMap F) :=
 zg kX λx hx=>by
  obtain⟨σ',e1,e2 |⟨e2,d,Kz,e3,e4,e5⟩⟩:=H x hx
  ·exact⟨σ',e1,.inl e2⟩
  ·exact⟨σ',e1,.inr ⟨e2,(dS e3).trans ((dS e4).trans e5)⟩⟩
theorem eR {f:Fn T}{g:V6}{b:Bool}(h:g.ifs=[gf g 0])(he:f σ true (gf g 0)=some (.bool b)):bq f σ g.ifs=some b:=by
 rw[h];exact PN he
theorem iv {f:Fn T}{g:V6}(h:g.ifs=[]):bq f σ g.ifs=some true:=by rw[h];rfl
end
theorem i_ (a:Int):∀n:Nat,bX a n=(Wo n).map λ(k:Nat)=>D.int (a+(k:Int))
 |0=>rfl
 |n+1=>by
  rw[show bX a (n+1)=.int a::bX (a+1) n from rfl,i_ (a+1) n,List.range_succ_eq_map,Wu,XJ];congr 1
  ·simp
  ·refine List.map_congr_left λk _=>?_
   simp only[Function.comp_apply];congr 1;omega
noncomputable def aq (l:List Nat):List D:=l.map λ(p:Nat)=>D.int (p:Int)
theorem rh (n:Nat):bX 0 n=aq (Wo n):=by
 rw[i_];refine List.map_congr_left λk _=>?_
 congr 1;lia
theorem jY {α β:Type}(p:α->Bool)(g:α->β)(l:List α):(l.flatMap λx=>if p x then[g x]else[])=(l.filter p).map g:=by
 induction l with
 |nil =>
  exact rfl
 |cons x r ih =>
  rw[W4,ih,Xr]
  cases p x<;>simp
noncomputable def w7:Nat->List Nat->Nat
 |m,[]=>m
 |m,a::r=>w7 (match XW a m with |true=>a |false=>m) r
theorem C2 (l:List Nat):∀(m:Nat),jp (m:Int) (l.map λ(p:Nat)=>(p:Int))=(w7 m l:Nat):=by
 delta l;induction l with
 |nil =>
  intro m;exact rfl
 |cons a r ih =>
  delta a r;intro ih;exists m;rw[Wu,show jp (m:Int) ((a:Int)::r.map λ(p:Nat)=>(p:Int))=jp (if(a:Int)<m then a else m) (r.map λ(p:Nat)=>(p:Int))from rfl,show w7 m (a::r)=w7 (match XW a m with |true=>a |false=>m) r from rfl]
  cases q:XW a m with
  |true=>rw[if_pos (by have:=V0 q;omega)];exact ih a
  |false =>
   rw[if_neg ?_];exact ih m;intro h;have:XW a m=true:=Wh (by omega);exact dw this q
theorem vF (l:List Nat):ls (aq l)=some (l.map λ(p:Nat)=>(p:Int)):=by
 induction l with
 |nil =>
  exact rfl
 |cons a r ih =>
  show(ls (aq r)).map _=_;rw[ih];rfl
noncomputable def kW (pl:List Nat)(p:Nat):Bool:=match pl with |[]=>false |a::r=>Wm (w7 a r) p
noncomputable def rD (n:Nat)(pl:List Nat):List Nat:=(Wo (n+1)).filter (kW pl)
noncomputable def Cv (k:Nat):List Nat:=([[97],[],[46],[42],[],[97],[46],[],[97,42]]:List (List Nat)).getD k []
noncomputable def Dy (k:Nat):Bool:=VW k 4||(VW k 5||VW k 6)
noncomputable def tz (k:Nat)(x:List Nat)(p:Nat):Bool:=match IN x p with |none=>false |some c=>et c (Cv k)==!(Dy k)
noncomputable def rL (k:Nat)(x:List Nat)(pl:List Nat):List Nat:=(pl.filter (tz k x)).map (·+1)
noncomputable def tK (k:Nat):Bool:=VW k 1||VW k 7
noncomputable def jf (k:Nat)(x:List Nat)(pl:List Nat):List Nat:=match tK k with |true=>rD x.length pl |false=>rL k x pl
noncomputable def pQ (items:List Nat)(x:List Nat):Bool:=et x.length (items.foldl (λpl k=>jf k x pl) [0])
section
variable {T:Type}{aa:T->Str->List D->Option D}{Φ:b_}
noncomputable def OR (b:aO T):Str×aO T:=(VN "places",b)
noncomputable def sd (k:Nat):Str×aO T:=(VN "item",.val (.int k))
noncomputable def zT (s:List Nat):Str×aO T:=(VN "signs",.val (.str (ao s)))
noncomputable def nN (I:List D)(x:List Nat)(b:aO T)(ks:List (Str×aO T)):az T:=⟨dZ 19,(VN "items",.val (.lst I))::(VN "name",.val (.str (ao x)))::OR b::ks⟩
noncomputable def vU:V9:=ak (aZ 19) 1
noncomputable def rj:V9:=ak (cD vU) 0
noncomputable def eY:V9:=ak (cQ rj) 0
noncomputable def fQ:V9:=ak (bT rj) 1
theorem zt (n:Nat)(l:List Nat):(D.lst (aq l)).toPy (n+1)=some (.list (l.map λ(p:Nat)=>Xu.int (p:Int))):=by
 show((aq l).mapM (D.toPy n)).map Xu.list=_;unfold aq;rw[jO (h:=λ(p:Nat)=>Xu.int (p:Int)) (λx=>by induction n<;>rfl)];rfl
theorem GL (l:List Nat):bZ .NotEq (.lst (aq l)) (.lst [])=some (.bool (!l.isEmpty)):=by
 show(Bj (.lst (aq l)) (.lst [])).map (λx=>D.bool (!x))=_;have h2:(D.lst []).toPy pz=some (.list []):=rfl;have h1:(D.lst (aq l)).toPy pz=some (.list (l.map λ(p:Nat)=>Xu.int (p:Int))):=zt 7 l;unfold Bj;rw[h1,h2];clear h1;induction l<;>rfl
theorem kr (n:Nat)(h:n<=900000):BL .range [.int (n:Int)]=some (.rng 0 (n:Int)):=by
 show(if cN (n:Int)=true then some (D.rng 0 (n:Int))else none)=_;rw[if_pos (by unfold cN;simp;lia)]
theorem mV (n:Nat):cP (.rng 0 (n:Int))=some (aq (Wo n)):=by
 show some (bX 0 ((n:Int) - 0).toNat)=_;rw[show((n:Int) - 0).toNat=n by lia,rh]
theorem Li (p m:Nat):bZ .GtE (.int (p:Int)) (.int (m:Int))=some (.bool (Wm m p)):=by
 delta p m;show some (D.bool (decide ((m:Int)<=(p:Int))))=_;congr 2
 cases q:Wm m p with
 |true=>have:=V0 q;exact decide_eq_true (by lia)
 |false =>
  refine decide_eq_false λh=>?_
  rw[Wh (by lia)]at q;cases q
theorem B8 (I:List D)(x:List Nat)(pl:List Nat)(ks:List (Str×aO T))(p:Nat) :
  ∃σ',bB (di (ln (bR eY)) (nN I x (.val (.lst (aq pl))) ks)) (eU (bR eY)).target (.int p)=some σ'/\bq (λσ b e=>ev aa Φ 29 σ b e) σ' (eU (bR eY)).ifs=some (kW pl p)/\ev aa Φ 29 σ' false (uy (bR eY))=some (.int p):=by
 refine⟨⟨(ln (bR eY)).names,[OR (.val (.lst (aq pl))),(VN "p",.val (.int p))]⟩,by kernel_rfl,eR nofun ?_,by kernel_rfl⟩;have h0:ev aa Φ 27 (⟨(ln (bR eY)).names,[OR (.val (.lst (aq pl))),(VN "p",.val (.int p))]⟩:az T) false (fg (gf (eU (bR eY)) 0) 0)=bZ .NotEq (.lst (aq pl)) (.lst []):=by kernel_rfl
 rw[GL]at h0;have h1:ev aa Φ 27 (⟨(ln (bR eY)).names,[OR (.val (.lst (aq pl))),(VN "p",.val (.int p))]⟩:az T) false (fg (gf (eU (bR eY)) 0) 1)=(BL .min [.lst (aq pl)]).bind λd=>bZ .GtE (.int p) d:=by kernel_rfl
 induction pl with
 |nil=>exact dv (a:=false) (b:=false) ∅ (aH nofun h0 rfl) (λh=>by exact eV h)
 |cons a r =>
  have hm:BL .min [.lst (aq (a::r))]=some (.int (w7 a r:Nat)):=by
   show(ls (aq r)).map (λns=>D.int (jp (a:Int) ns))=_;rw[vF,Xz,C2]
  rw[hm,Wg]at h1;have Lc:bZ .GtE (.int p) (.int (w7 a r:Nat))=some (.bool (kW (a::r) p)):=Li p _;rw[Lc]at h1;exact dv (a:=true) (b:=kW (a::r) p) ∅ (aH nofun h0 rfl) λ_=>aH nofun h1 rfl
noncomputable def yv (f:Nat->List D)(d:D):List D:=match d with | .int x=>(match x with | .ofNat k=>f k | .negSucc _=>[]) |_=>[]
theorem uO (I:List D)(x:List Nat)(hx:x.length<=50)(pl:List Nat)(ks:List (Str×aO T)) :
  ev aa Φ 30 (nN I x (.val (.lst (aq pl))) ks) false (bR eY)=some (.lst (aq (rD x.length pl))):=by
 revert hx;revert aa Φ I x pl ks;unfold T;exists aa,Φ,I,x,pl,ks;intro hx;have hi:ev aa Φ 29 (nN I x (.val (.lst (aq pl))) ks) false (eU (bR eY)).iter=some (.rng 0 ((x.length+1:Nat):Int)) :=
  ue (x:=.int ((x.length+1:Nat):Int)) (by exact .mk rfl) nofun nofun nofun (kr _ (Wn (by assumption) ⋯))
 have K4:=mV (x.length+1);have hc:comp (λσ b e=>ev aa Φ 29 σ b e) (uy (bR eY)) [eU (bR eY)] (di (ln (bR eY)) (nN I x (.val (.lst (aq pl))) ks)) (aq (Wo (x.length+1))) =
   some ((aq (Wo (x.length+1))).flatMap (yv λp=>if kW pl p then[.int p]else[])):=by
  refine qJ nofun ?_;exists y;intro hy;obtain⟨p,_,rfl⟩:=Wz.mp hy;delta p;intro left hy;obtain⟨σ',e1,e2,e3⟩:1:=B8 (aa:=aa) (Φ:=Φ) I x pl ks p;refine⟨σ',e1,?_⟩
  cases q:kW pl p with
  |false=>exact .inl ⟨by rw[e2,q],by show(if kW pl p=true then _ else _)=_;rw[q];rfl⟩
  |true=>exact .inr ⟨by rw[e2,q],_,e3,by show(if kW pl p=true then _ else _)=_;rw[q];rfl⟩
 have HL:((aq (Wo (x.length+1))).flatMap (yv λp=>if kW pl p then[D.int p]else[]))=aq (rD x.length pl):=by
  unfold aq rD;rw[List.flatMap_map];exact jY (kW pl) (λ(p:Nat)=>D.int (p:Int)) _
 rw[HL]at hc;refine kZ (by exact .mk nofun) hi K4 hc ?_;unfold aq rD;rw[VZ];refine VX (Wj _ _) ?_;rw[WU];omega
theorem zA (I:List D)(x:List Nat)(hx:x.length<=50)(L:List D)(ks:List (Str×aO T)):ev aa Φ 30 (nN I x (.own L) ks) false (bR eY)=none:=by
 have hi:ev aa Φ 29 (nN I x (.own L) ks) false (eU (bR eY)).iter=some (.rng 0 ((x.length+1:Nat):Int)) :=
  ue (x:=.int ((x.length+1:Nat):Int)) (by exact .mk rfl) nofun nofun nofun (kr _ (Wn (by assumption) ⋯))
 have K4:cP (.rng 0 ((x.length+1:Nat):Int))=some (.int 0::bX 1 x.length):=by
  show some (bX 0 (((x.length+1:Nat):Int) - 0).toNat)=_;rw[show(((x.length+1:Nat):Int) - 0).toNat=x.length+1 by lia];rfl
 exact xP (by exact .mk nofun) hi K4 (Bm (σ':=⟨(ln (bR eY)).names,[(VN "p",.val (.int 0))]⟩) nofun nofun)
end
theorem EB (a b:Nat):decide ((a:Int)=(b:Int))=VW a b:=by
 cases q:VW a b with
 |true=>have:=V_ q;exact decide_eq_true (by lia)
 |false =>
  refine decide_eq_false λh=>?_
  have:a=b:=by lia
  rw[this,Nat.beq_refl]at q;exact oY q
theorem yP (n:Nat)(l:List Nat):DO (.int (n:Int)) (aq l)=some (et n l):=by
 induction l with
 |nil =>
  exact rfl
 |cons p r ih =>
  show(H1 (.int (p:Int)) (.int (n:Int))).bind (λb=>(DO (.int (n:Int)) (aq r)).map λc=>b||c)=_;rw[ih];show some (decide ((p:Int)=(n:Int))||et n r)=_;rw[EB];rfl
theorem wf (n:Nat)(l:List Nat):bZ .In (.int (n:Int)) (.lst (aq l))=some (.bool (et n l)):=by
 show(DO (.int (n:Int)) (aq l)).map D.bool=_;rw[yP];rfl
theorem C8 (p m:Nat):bZ .Lt (.int (p:Int)) (.int (m:Int))=some (.bool (XW p m)):=by
 delta p m;show some (D.bool (decide ((p:Int)<(m:Int))))=_;congr 2
 cases q:XW p m with
 |true=>have:=V0 q;exact decide_eq_true (by lia)
 |false =>
  refine decide_eq_false λh=>?_
  have:XW p m=true:=Wh (by lia);exact dw this q
section
variable {T:Type}{aa:T->Str->List D->Option D}{Φ:b_}
noncomputable def zJ (k:Nat)(x s:List Nat)(p:Nat):az T:=⟨(ln (bR fQ)).names,[sd k,(VN "name",.val (.str (ao x))),zT s,(VN "p",.val (.int p))]⟩
theorem Cu (I:List D)(x s:List Nat)(k:Nat)(hk:k<9)(hs:s=Cv k)(pl:List Nat)(p:Nat) :
  ∃σ',bB (di (ln (bR fQ)) (nN (T:=T) I x (.val (.lst (aq pl))) [sd k,zT s])) (eU (bR fQ)).target (.int p)=some σ'/\bq (λσ b e=>ev aa Φ 29 σ b e) σ' (eU (bR fQ)).ifs=some (tz k x p)/\ev aa Φ 29 σ' false (uy (bR fQ))=some (.int ((p+1:Nat):Int)):=by
 refine⟨zJ k x s p,by kernel_rfl,eR nofun ?_,by kernel_rfl⟩;have h0:ev aa Φ 27 (zJ (T:=T) k x s p) false (fg (gf (eU (bR fQ)) 0) 0)=bZ .Lt (.int (p:Int)) (.int (x.length:Int)):=by kernel_rfl
 rw[C8]at h0;unfold tz;rw[mZ]
 cases q:x[p]? with
 |none =>
  have:x.length<=p:=Xc.mp q;have hb:XW p x.length=false:=by
   cases q:XW p x.length with
   |false=>rfl
   |true=>have:=V0 q;lia
  rw[hb]at h0;exact dv (a:=false) (b:=false) ∅ (aH nofun h0 rfl) (λh=>by exact eV h)
 |some c =>
  have:=(Wd.mp q).1;have hb:XW p x.length=true:=Wh (by assumption);rw[hb]at h0;have hc:ev aa Φ 25 (zJ (T:=T) k x s p) false (LG (LG (fg (gf (eU (bR fQ)) 0) 1)))=bh (.str (ao x)) (.int p):=by kernel_rfl
  rw[ec q]at hc;have h1:ev aa Φ 26 (zJ (T:=T) k x s p) false (LG (fg (gf (eU (bR fQ)) 0) 1))=some (.bool (et c s)):=by
   refine nx (y:=.str (ao s)) ∅ hc nofun ?_;rfl
  have h2:ev aa Φ 26 (zJ (T:=T) k x s p) false (RD (fg (gf (eU (bR fQ)) 0) 1))=some (.bool (!(Dy k))):=by
   exact Bt nofun nofun nofun nofun nofun nofun nofun nofun nofun k hk
  have h3:ev aa Φ 27 (zJ (T:=T) k x s p) false (fg (gf (eU (bR fQ)) 0) 1)=some (.bool (et c s==!(Dy k))):=by
   refine nx ∅ h1 h2 ?_;rfl
  dsimp only;rw[<- hs];exact dv (a:=true) ∅ (aH nofun h0 rfl) λ_=>aH nofun h3 rfl
theorem uW (I:List D)(x s:List Nat)(k:Nat)(hk:k<9)(hs:s=Cv k)(pl:List Nat)(kE:pl.length<=1000) :
  ev aa Φ 30 (nN (T:=T) I x (.val (.lst (aq pl))) [sd k,zT s]) false (bR fQ)=some (.lst (aq (rL k x pl))):=by
 revert hk hs kE;revert aa Φ I x s k pl;unfold T;exists aa,Φ,I,x,s,k,pl;intro hk hs kE;have hi:ev aa Φ 29 (nN (T:=T) I x (.val (.lst (aq pl))) [sd k,zT s]) false (eU (bR fQ)).iter=some (.lst (aq pl)):=by kernel_rfl
 have hc:comp (λσ b e=>ev aa Φ 29 σ b e) (uy (bR fQ)) [eU (bR fQ)] (di (ln (bR fQ)) (nN (T:=T) I x (.val (.lst (aq pl))) [sd k,zT s])) (aq pl) =
   some ((aq pl).flatMap λd=>match d with | .int (.ofNat p)=>(if tz k x p then[.int ((p+1:Nat):Int)]else[]) |_=>[]):=by
  refine qJ nofun ?_;exists y;intro hy;obtain⟨p,_,rfl⟩:=Wz.mp hy;delta p;intro left hy;obtain⟨σ',n_⟩:1:=Cu (aa:=aa) (Φ:=Φ) (T:=T) I x s k hk hs pl p;refine⟨σ',n_.1,?_⟩
  cases q:tz k x p with
  |false=>exact .inl ⟨by rw[n_.2.1,q],by show(if tz k x p=true then _ else _)=_;rw[q];rfl⟩
  |true=>exact .inr ⟨by rw[n_.2.1,q],_,n_.2.2,by show(if tz k x p=true then _ else _)=_;rw[q];rfl⟩
 have HL:((aq pl).flatMap λd=>match d with | .int (.ofNat p)=>(if tz k x p then[D.int ((p+1:Nat):Int)]else[]) |_=>[])=aq (rL k x pl):=by
  unfold aq rL;rw[List.flatMap_map,XJ];exact jY (tz k x) (λ(p:Nat)=>D.int ((p+1:Nat):Int)) _
 rw[HL]at hc;refine kZ (by exact .mk nofun) hi rfl hc ?_;unfold aq rL;rw[VZ,VZ];exact VX (Wj _ _) (VX (by assumption) ⋯)
noncomputable def OF (b:aO T)(pl:List Nat):Prop:=b=.val (.lst (aq pl))\/b=.own (aq pl)
noncomputable def Ix (ks tl:List (Str×aO T)):Prop:=((ks=[]\/∃k,ks=[sd k])/\tl=[])\/∃k s,ks=[sd k,zT s]/\tl=[zT s]
theorem Ke (n0:Nat)(I:List D)(x:List Nat)(hx:x.length<=50)(b:aO T)(pl:List Nat)(hb:OF b pl)(kE:pl.length<=1000)(k:Nat)(hk:k<9)(ks tl:List (Str×aO T))(jA:Ix ks tl) :
  ∃σ1,bB (nN I x b ks) (ly vU) (.int k)=some σ1/\∃c_ fH,Ix c_ fH/\aW aa Φ 30 (n0+2) σ1 (cD vU)=some (nN I x (.val (.lst (aq (jf k x pl)))) c_,.next):=by
 revert hx hb kE hk jA;revert aa Φ n0 I x b pl k ks tl;unfold T;exists aa,Φ,n0,I,x,b,pl,k,ks,tl;intro hx hb kE hk jA;have hl:(cD vU).length=1:=by kernel_rfl
 have QZ:(cQ rj).length=1:=by kernel_rfl
 have O9:(bT rj).length=2:=by kernel_rfl
 have e0:bB (nN I x b ks) (ly vU) (.int k)=some (nN I x b (sd k::tl)):=by
  rcases hb with rfl |rfl<;>rcases jA with⟨rfl |⟨k0,rfl⟩,rfl⟩ |⟨k0,s0,rfl,rfl⟩<;>kernel_rfl
 have dU:tl=[]\/∃s,tl=[zT s]:=by
  rcases jA with⟨_,rfl⟩ |⟨_,s,_,rfl⟩
  ·exact .inl rfl
  ·exact .inr ⟨s,rfl⟩
 refine⟨_,e0,?_⟩;have ht:ev aa Φ 30 (nN I x b (sd k::tl)) true (gF rj)=some (.bool (tK k)):=by
  exact Bt nofun nofun nofun nofun nofun nofun nofun nofun nofun k hk
 cases q:tK k with
 |true =>
  rw[q]at ht;refine⟨sd k::tl,tl,?_,?_⟩
  ·clear jA e0 ht;rcases dU with rfl |⟨s,rfl⟩
   ·exact .inl ⟨.inr ⟨k,rfl⟩,rfl⟩
   ·exact .inr ⟨k,s,rfl,rfl⟩
  ·rw[aC]
   refine ah ⋯ ?_ (aD ⋯);refine(bj (st:=rj) (c:=true) ∅ ht).trans ?_;show aW aa Φ 30 (n0+1) _ (cQ rj)=_;rw[aC];refine ah ⋯ ?_ (aD ⋯);rw[show jf k x pl=rD x.length pl by unfold jf;rw[q]];clear e0 ht;rcases hb with rfl |rfl
   ·refine(v7 (st:=eY) (by exact .mk nofun) (uO I x hx pl (sd k::tl))).trans ?_
    exact Ar (t:=tl) dU nofun λ_=>by kernel_rfl
   ·refine(Er (st:=eY) (σ:=nN I x (.own (aq pl)) (sd k::tl)) (σ1:=nN I x (.val (.lst (aq pl))) (sd k::tl)) (by exact .mk nofun) (by exact Ar (t:=tl) dU nofun λ_=>by kernel_rfl) nofun (zA I x hx _ _) (uO I x hx pl (sd k::tl))).trans ?_
    exact Ar (t:=tl) dU nofun λ_=>by kernel_rfl
 |false =>
  rw[q]at ht;refine⟨[sd k,zT (Cv k)],[zT (Cv k)],.inr ⟨k,_,rfl,rfl⟩,?_⟩;rw[aC];refine ah ⋯ ?_ (aD ⋯);refine(bj (st:=rj) (c:=false) ∅ ht).trans ?_;have hs:ev aa Φ 30 (nN I x b (sd k::tl)) false (bR (ak (bT rj) 0))=some (.str (ao (Cv k))):=by
   exact Bt nofun nofun nofun nofun nofun nofun nofun nofun nofun k hk
  have e1:bQ aa Φ 30 (aW aa Φ 30 n0) (nN I x b (sd k::tl)) (ak (bT rj) 0)=some (nN I x b [sd k,zT (Cv k)],.next):=by
   rw[fY (by exact .mk rfl) nofun hs];clear e0 ht hs;rcases hb with rfl |rfl<;>exact Ar (t:=tl) dU nofun λ_=>by kernel_rfl
  refine ah ⋯ e1 (ah ⋯ ?_ (aD ⋯));rw[show jf k x pl=rL k x pl by unfold jf;rw[q]];clear e1;rcases hb with rfl |rfl
  ·refine(v7 (st:=fQ) (by exact .mk nofun) (uW I x (Cv k) k hk rfl pl kE)).trans ?_
   kernel_rfl
  ·refine(Er (st:=fQ) (σ:=nN I x (.own (aq pl)) [sd k,zT (Cv k)]) (σ1:=nN I x (.val (.lst (aq pl))) [sd k,zT (Cv k)]) (by exact .mk nofun) nofun nofun (xQ (by exact .mk nofun) nofun) (uW I x (Cv k) k hk rfl pl kE)).trans ?_
   kernel_rfl
theorem zy (k:Nat)(x pl:List Nat)(h:pl.length<=1000)(hx:x.length<=50):(jf k x pl).length<=1000:=by
 unfold jf
 cases tK k with
 |true =>
  refine VX (Wj _ _) ?_;rw[WU];lia
 |false =>
  show((pl.filter _).map _).length<=_;rw[VZ];exact VX (Wj _ _) h
theorem Kf (n0:Nat)(I:List D)(x:List Nat)(hx:x.length<=50):∀(items:List Nat) (b:aO T) (pl:List Nat) (ks tl:List (Str×aO T)),OF b pl->pl.length<=1000->(∀k∈items,k<9)->Ix ks tl ->∃b' c_ fH,Ix c_ fH/\(items≠[]->b'=.val (.lst (aq (items.foldl (λpl k=>jf k x pl) pl))))/\iH (aW aa Φ 30 (n0+2)) (ly vU) (cD vU) (nN I x b ks) (aq items)=some (nN I x b' c_,.next):=by
 revert hx;revert aa Φ n0 I x;unfold T;exists aa,Φ,n0,I,x;intro hx;exists items;induction items with
 |nil=>intro b pl ks tl hb kE hi jA;exact⟨b,ks,tl,jA,λh=>absurd rfl h,rfl⟩
 |cons k r ih =>
  delta k r;intro ih;intro b pl ks tl hb kE hi jA;delta b pl ks tl;intro hb kE jA;obtain⟨σ1,e0,Dk,B3,yU,e1⟩:=Ke (aa:=aa) (Φ:=Φ) n0 I x hx b pl hb kE k (hi k VT) ks tl jA;revert e0 yU e1;delta σ1 Dk B3;intro e0 yU e1;obtain⟨b',c_,fH,jl⟩:3:=ih _ (jf k x pl) Dk B3 (.inl rfl) (zy k x pl kE hx) (λy hy=>hi y (VS _ hy)) yU;clear ih hi;induction r with
  |nil =>
   refine⟨.val (.lst (aq (jf k x pl))),Dk,B3,yU,λ_=>rfl,?_⟩;exact fN e0 e1 rfl
  |cons k2 r =>
   delta k2 r;intro iU jl;refine⟨b',c_,fH,jl.1,λ_=>jl.2.1 (by simp),?_⟩;exact fN e0 e1 jl.2.2
theorem Aw (items:List Nat)(x:List Nat)(hx:x.length<=50)(cS:items≠[])(hi:∀k∈items,k<9) :
  ∃σ',aW aa Φ 30 5 (⟨dZ 19,[(VN "items",.val (.lst (aq items))),(VN "name",.val (.str (ao x)))]⟩:az T) (aZ 19)=some (σ',.ret (.bool (pQ items x))):=by
 revert hx cS hi;revert aa Φ items x;unfold T;exists aa,Φ,items,x;intro hx cS hi;have hl:(aZ 19).length=3:=by kernel_rfl
 have e0:bQ aa Φ 30 (aW aa Φ 30 4) (⟨dZ 19,[(VN "items",.val (.lst (aq items))),(VN "name",.val (.str (ao x)))]⟩:az T) (ak (aZ 19) 0)=some (nN (aq items) x (.own (aq [0])) [],.next):=by
  kernel_rfl
 obtain⟨b',c_,fH,BH,gn,e⟩:3:=Kf (aa:=aa) (Φ:=Φ) (T:=T) 2 (aq items) x hx items (.own (aq [0])) [0] [] [] (.inr rfl) (by simp) hi (.inl ⟨.inl rfl,rfl⟩);rw[gn cS]at e;refine⟨_,ah ⋯ e0 (ah ⋯ ((my (aa:=aa) (Φ:=Φ) (N:=30) (rec:=aW aa Φ 30 4) (σ:=nN (T:=T) (aq items) x (.own (aq [0])) []) (st:=vU) (d:=.lst (aq items)) (its:=aq items) ∅ nofun rfl).trans e) (bS ⋯ (j1 ∅ ?_)))⟩;refine nx (x:=.int (x.length:Int)) (y:=.lst (aq (items.foldl (λpl k=>jf k x pl) [0]))) ∅ nofun nofun ?_;exact wf _ _
end
set_option genCtorIdx false in
structure Rl where
 kind:Nat
 flag:Nat
 items:List Nat
 deriving Nonempty
noncomputable def dQ (r:Rl):D:=.tup [.int r.kind,.int r.flag,.lst (aq r.items)]
noncomputable def og (x:Int):Nat:=(x.fmod 1000000).toNat
noncomputable def tI (r k:Nat):Nat:=(r / 3 / 9 ^ k+k) % 9
noncomputable def eG (r:Nat):List Nat:=(Wo (1+r % 3)).map (tI r)
noncomputable def jH (x:Int):Rl:=⟨og x % 5,og x / 5 % 2,eG (og x / 10)⟩
noncomputable def eK (ns:List Int):List Rl:=((match ns with |[]=>[1,75,52] |ns=>ns).take 5).map jH
theorem ti (x:Int):x.fmod 1000000=(og x:Int):=by
 unfold og;have:0<=x.fmod 1000000:=Int.fmod_nonneg_of_pos x ⋯;exact(Int.toNat_of_nonneg this).symm
theorem Gu (x:Int):og x<1000000:=by
 have:=ti x;have h:x.fmod 1000000<1000000:=Int.fmod_lt_of_pos x ⋯;omega
theorem y6 (a b:Nat):(a:Int).fdiv (b:Int)=((a / b:Nat):Int):=(Int.ofNat_fdiv a b).symm
theorem y4 (a b:Nat):(a:Int).fmod (b:Int)=((a % b:Nat):Int):=(Int.ofNat_fmod a b).symm
section
variable {T:Type}{aa:T->Str->List D->Option D}{Φ:b_}
noncomputable def xB (x:Int):Str×aO T:=(VN "x",.val (.int x))
noncomputable def yl (r:Nat):Str×aO T:=(VN "rest",.val (.int r))
noncomputable def Fi (l:List Nat):Str×aO T:=(VN "items",.val (.lst (aq l)))
noncomputable def io (S:List D)(R:List D)(ks:List (Str×aO T)):az T:=⟨dZ 13,(VN "script",.val (.lst S))::(VN "rules",.own R)::ks⟩
noncomputable def gj:V9:=ak (aZ 13) 1
noncomputable def Iw (ks tl:List (Str×aO T)):Prop:=(ks=[]/\tl=[])\/∃x r l,ks=[xB x,yl r,Fi l]/\tl=[yl r,Fi l]
theorem Gp (n0:Nat)(S R:List D)(hR:R.length<1000)(x:Int)(ks tl:List (Str×aO T))(jA:Iw ks tl) :
  ∃σ1,bB (io S R ks) (ly gj) (.int x)=some σ1/\∃c_ fH,Iw c_ fH/\aW aa Φ 30 (n0+1) σ1 (cD gj)=some (io S (R++[dQ (jH x)]) c_,.next):=by
 revert hR jA;revert aa Φ n0 S R x ks tl;unfold T;exists aa,Φ,n0,S,R,x,ks,tl;intro hR jA;have hl:(cD gj).length=3:=by kernel_rfl
 have e0:bB (io S R ks) (ly gj) (.int x)=some (io S R (xB x::tl)):=by
  rcases jA with⟨rfl,rfl⟩ |⟨x0,r,l,rfl,rfl⟩<;>kernel_rfl
 have dU:tl=[]\/∃r l,tl=[yl r,Fi l]:=by
  rcases jA with⟨_,rfl⟩ |⟨_,r,l,_,rfl⟩
  ·exact .inl rfl
  ·exact .inr ⟨r,l,rfl⟩
 refine⟨_,e0,[xB x,yl (og x / 10),Fi (eG (og x / 10))],_,.inr ⟨x,_,_,rfl,rfl⟩,?_⟩;rw[aC];have h0:ev aa Φ 30 (io S R (xB x::tl)) false (bR (ak (cD gj) 0))=some (.int ((x.fmod 1000000).fdiv 10)):=by kernel_rfl
 have UY:(x.fmod 1000000).fdiv 10=((og x / 10:Nat):Int):=by rw[ti];exact y6 _ 10
 rw[UY]at h0;have f0:bQ aa Φ 30 (aW aa Φ 30 n0) (io S R (xB x::tl)) (ak (cD gj) 0)=some (io S R (xB x::yl (og x / 10)::tl.tail),.next):=by
  rw[fY (by exact .mk rfl) nofun h0];exact BB (t:=tl) dU nofun λ_ _=>by kernel_rfl
 have I6:tl.tail=[]\/∃l,tl.tail=[Fi l]:=by
  rcases dU with rfl |⟨r,l,rfl⟩
  ·exact .inl rfl
  ·exact .inr ⟨l,rfl⟩
 generalize tl.tail=tt at f0 I6;generalize hr:og x / 10=r at *;have ml:r<100000:=by have:=Gu x;lia
 have hi:ev aa Φ 30 (io S R (xB x::yl r::tt)) false (eU (bR (ak (cD gj) 1))).iter=some (.rng 0 ((1+r % 3:Nat):Int)):=by
  refine ue (x:=.int ((1+r % 3:Nat):Int)) (by exact .mk rfl) nofun nofun ?_ (kr _ (by lia));have:ev aa Φ 29 (io S R (xB x::yl r::tt)) false (wi (eU (bR (ak (cD gj) 1))).iter 0)=some (.int (1+(r:Int).fmod 3)):=by kernel_rfl
  rw[this,show(3:Int)=((3:Nat):Int)from rfl,y4];congr 2
 have hc:comp (λσ b e=>ev aa Φ 30 σ b e) (uy (bR (ak (cD gj) 1))) [eU (bR (ak (cD gj) 1))] (di (ln (bR (ak (cD gj) 1))) (io S R (xB x::yl r::tt))) (aq (Wo (1+r % 3))) =
   some ((aq (Wo (1+r % 3))).flatMap (yv λk=>[.int ((tI r k:Nat):Int)])):=by
  refine qJ nofun λy hy=>?_
  replace hy:=Wz.mp hy;obtain⟨k,hk,rfl⟩:=hy;have UF:k<3:=by have:=WN.mp hk;lia
  refine⟨⟨(ln (bR (ak (cD gj) 1))).names,[yl r,(VN "k",.val (.int k))]⟩,by kernel_rfl,.inr ⟨iv nofun,.int ((tI r k:Nat):Int),?_,rfl⟩⟩;show ev aa Φ 30 _ false _=_;have hv:ev aa Φ 30 (⟨(ln (bR (ak (cD gj) 1))).names,[yl r,(VN "k",.val (.int k))]⟩:az T) false (uy (bR (ak (cD gj) 1)))=some (.int ((((r:Int).fdiv 3).fdiv ((9 ^ k:Nat):Int)+(k:Nat)).fmod 9)):=by
   exact OV (P:=λk=>ev aa Φ 30 (⟨(ln (bR (ak (cD gj) 1))).names,[yl r,(VN "k",.val (.int k))]⟩:az T) false (uy (bR (ak (cD gj) 1)))=some (.int ((((r:Int).fdiv 3).fdiv ((9 ^ k:Nat):Int)+(k:Nat)).fmod 9))) nofun nofun nofun nofun (Nat.lt_succ_of_lt UF)
  rw[hv,show(3:Int)=((3:Nat):Int)from rfl,y6,y6,<- Int.natCast_add,show(9:Int)=((9:Nat):Int)from rfl,y4];rfl
 have HL:((aq (Wo (1+r % 3))).flatMap (yv λk=>[D.int ((tI r k:Nat):Int)]))=aq (eG r):=by
  unfold aq eG;rw[List.flatMap_map,XJ];generalize Wo (1+r % 3)=L;induction L with
  |nil=>rfl
  |cons a b ih=>rw[W4,ih];rfl
 rw[HL]at hc;have f1:bQ aa Φ 30 (aW aa Φ 30 n0) (io S R (xB x::yl r::tt)) (ak (cD gj) 1)=some (io S R [xB x,yl r,Fi (eG r)],.next):=by
  rw[Ep (by exact .mk nofun) hi (mV _) hc (by unfold aq eG;simp;lia)];clear hi hc;rcases I6 with rfl |⟨l,rfl⟩<;>kernel_rfl
 have h2:ev aa Φ 30 (io S R [xB (T:=T) x,yl r,Fi (eG r)]) false (bR (ak (cD gj) 2))=some (.tup [.int ((x.fmod 1000000).fmod 5),.int (((x.fmod 1000000).fdiv 5).fmod 2),.lst (aq (eG r))]):=by kernel_rfl
 have N4:(D.tup [.int ((x.fmod 1000000).fmod 5),.int (((x.fmod 1000000).fdiv 5).fmod 2),.lst (aq (eG r))])=dQ (jH x):=by
  rw[ti,show(5:Int)=((5:Nat):Int)from rfl,y4,y6,show(2:Int)=((2:Nat):Int)from rfl,y4,<- hr];rfl
 rw[N4]at h2;refine ah ⋯ f0 (ah ⋯ f1 (ah ⋯ ?_ (aD ⋯)));rw[v8 (l:=R) (by exact .mk nofun) nofun h2 (W8 (by assumption) ⋯)];kernel_rfl
theorem Gq (n0:Nat)(S:List D):∀(xs:List Int) (R:List D) (ks tl:List (Str×aO T)),R.length+xs.length<900->Iw ks tl ->∃c_ fH,Iw c_ fH/\iH (aW aa Φ 30 (n0+1)) (ly gj) (cD gj) (io S R ks) (xs.map D.int)=some (io S (R++xs.map λx=>dQ (jH x)) c_,.next):=by
 revert aa Φ n0 S;unfold T;exists aa,Φ,n0,S;intro xs;delta xs;induction xs with
 |nil=>intro R ks tl hz hk;exact⟨ks,tl,hk,by rw[YH,YH,WH];rfl⟩
 |cons x xs ih =>
  delta x xs;intro ih;intro R ks tl hz hk;delta R ks tl;intro hz hk;simp only[VY]at hz;obtain⟨σ1,e0,Dk,B3,yU,e1⟩:=Gp (aa:=aa) (Φ:=Φ) n0 S R (by lia) x ks tl hk;obtain⟨Kx,ME,Mu⟩:=ih (R++[dQ (jH x)]) Dk B3 (by simp only[V1,VY,WI];lia) yU;refine⟨Kx,ME,Mu.1,?_⟩;rw[Wu];refine(fN e0 e1 Mu.2).trans ?_;simp
theorem zu (n:Nat)(l:List Int):(D.lst (l.map D.int)).toPy (n+1)=some (.list (l.map Xu.int)):=by
 show((l.map D.int).mapM (D.toPy n)).map Xu.list=_;rw[jO (h:=Xu.int) (λx=>by induction n<;>rfl)];rfl
theorem GN (l:List Int):bZ .NotEq (.lst (l.map D.int)) (.lst [])=some (.bool (!l.isEmpty)):=by
 show(Bj (.lst (l.map D.int)) (.lst [])).map (λx=>D.bool (!x))=_;have h2:(D.lst []).toPy pz=some (.list []):=rfl;have h1:(D.lst (l.map D.int)).toPy pz=some (.list (l.map Xu.int)):=zu 7 l;unfold Bj;rw[h1,h2];clear h1;induction l<;>rfl
noncomputable def JK:Expr->Expr | .Subscript v _ _=>v |_=>zE
inductive DG:Expr->Prop |mk {t b o p k q p2 pos}:DG (.Subscript (.IfExp t b o p) (.Slice none (some (.Constant (.int 5) k q)) none p2) pos)
set_option tactic.hygienic true in
theorem HX {n:Nat}{σ:az T}{e:Expr}{l:List D}(hs:DG e)(h:ev aa Φ (n+1) σ false (JK e)=some (.lst l)):ev aa Φ (n+2) σ false e=some (.lst (l.take 5)):=by
 induction hs;rename_i t b o p k q p2 pos;have h:ev aa Φ (n+1) σ false (.IfExp t b o p)=_:=h;refine(dS (f:=λo=>_) h).trans ?_;show(cx none (some 5) (.lst l))=_;rw[gA];show some (D.lst (eo none (some 5) l))=_;congr 2;unfold eo;have h2:rk l.length (some 5)=min 5 l.length:=iJ l.length 5;have h1:l9 l.length none=0:=rfl;rw[h1,h2,YY,Nat.sub_zero];by_cases q:l.length<=5
 ·rw[WX q,WX (by lia)]
 ·rw[show min 5 l.length=5 by lia]
theorem z_ (ns:List Int):∃σ',aW aa Φ 30 4 (⟨dZ 13,[(VN "script",.val (.lst (ns.map D.int)))]⟩:az T) (aZ 13)=some (σ',.ret (.lst ((eK ns).map dQ))):=by
 revert aa Φ ns;unfold T;exists aa,Φ,ns;have hl:(aZ 13).length=3:=by kernel_rfl
 rw[aC];have e0:bQ aa Φ 30 (aW aa Φ 30 3) (⟨dZ 13,[(VN "script",.val (.lst (ns.map D.int)))]⟩:az T) (ak (aZ 13) 0)=some (io (ns.map D.int) [] [],.next):=by
  rw[sx (l:=[]) (by exact .mk nofun) nofun nofun];kernel_rfl
 have ht:ev aa Φ 28 (io (T:=T) (ns.map D.int) [] []) true (KN (JK (rl gj)))=some (.bool (!ns.isEmpty)):=by
  have h0:ev aa Φ 27 (io (T:=T) (ns.map D.int) [] []) false (KN (JK (rl gj)))=bZ .NotEq (.lst (ns.map D.int)) (.lst []):=by kernel_rfl
  rw[GN]at h0;exact aH nofun h0 rfl
 have hv:ev aa Φ 29 (io (T:=T) (ns.map D.int) [] []) false (JK (rl gj))=some (.lst ((match ns with |[]=>[1,75,52] |ns=>ns).map D.int)):=by
  induction ns with
  |nil=>exact(LB ∅ ht).trans nofun
  |cons a r=>exact(ud ∅ ht).trans nofun
 have hi:=HX (n:=28) (e:=rl gj) ∅ hv;rw[<- List.map_take]at hi;obtain⟨c_,fH,BH,e⟩:=Gq (aa:=aa) (Φ:=Φ) (T:=T) 2 (ns.map D.int) ((match ns with |[]=>[1,75,52] |ns=>ns).take 5) [] [] [] (by rw[Yw];exact Wn (Yr (Za 5 _) _) ⋯) (.inl ⟨rfl,rfl⟩);delta c_ fH;intro BH e;refine⟨(io (ns.map D.int) ([]++((match ns with |[]=>[1,75,52] |ns=>ns).take 5).map λx=>dQ (jH x)) c_).set (VN "rules") (.val (.lst ((eK ns).map dQ))),ah ⋯ e0 (ah ⋯ ((my (aa:=aa) (Φ:=Φ) (N:=30) (rec:=aW aa Φ 30 3) (σ:=io (T:=T) (ns.map D.int) [] []) (st:=gj) ∅ hi rfl).trans e) (bS ⋯ ?_))⟩;have:(eK ns).map dQ=[]++((match ns with |[]=>[1,75,52] |ns=>ns).take 5).map λx=>dQ (jH x):=by
  unfold eK;rw[XJ];rfl
 rw[this];generalize[]++((match ns with |[]=>[1,75,52] |ns=>ns).take 5).map (λx=>dQ (jH x))=L;clear e;rcases BH with⟨rfl,rfl⟩ |⟨x,r,l,rfl,rfl⟩
 ·exact lA ∅ nofun nofun nofun
 ·exact lA ∅ nofun nofun nofun
end
noncomputable abbrev aw:=List (List Nat)
noncomputable def aM (w:aw):D:=.tup (gl w)
noncomputable def lM (x y:aw):Bool:=match x with
 |[]=>match y with |[]=>true |_::_=>false
 |a::x=>match y with |[]=>false |b::y=>gu a b&&lM x y
theorem cZ {x y:aw}:lM x y=true↔x=y:=by
 induction x generalizing y with
 |nil =>
  cases y with
  |nil=>exact⟨λ_=>rfl,λ_=>rfl⟩
  |cons=>exact⟨eV,λh=>absurd h.symm (XD _ _)⟩
 |cons a x ih =>
  cases y with
  |nil=>exact⟨eV,λh=>absurd h (XD _ _)⟩
  |cons b y =>
   constructor
   ·intro h
    have h:=VU.mp h;rw[ce.mp h.1,ih.mp h.2]
   ·intro h
    replace h:=List.cons.inj h;obtain⟨rfl,rfl⟩:=h;exact VU.mpr ⟨ce.mpr rfl,ih.mpr rfl⟩
noncomputable def uq (w:aw):List aw->Bool
 |[]=>false
 |v::r=>lM v w||uq w r
theorem lN (n:Nat)(w:aw):(aM w).toPy (n+1)=some (.tuple (w.map λx=>Y1 (ao x))):=by
 show((gl w).mapM (D.toPy n)).map Xu.tuple=_;unfold gl;rw[jO (h:=λx=>Y1 (ao x)) (λx=>by induction n<;>rfl)];rfl
theorem ug:∀a b:aw,Xu.eqvAll (a.map λx=>Y1 (ao x)) (b.map λx=>Y1 (ao x))=lM a b
 |[],[]=>rfl
 |a::x,b::y=>by
  show(YC (.str (ao a)) (.str (ao b))&&Xu.eqvAll (x.map λx=>Y1 (ao x)) (y.map λx=>Y1 (ao x)))=(gu a b&&lM x y);rw[ug x y];congr 1;show(ao a==ao b)=gu a b
  cases q:gu a b with
  |true=>rw[ce.mp q];simp
  |false =>
   rw[beq_eq_false_iff_ne];intro h;have:a=b:=congrArg (λs:Str=>s.cps.toList) h;clear h;subst this;rw[ce.mpr rfl]at q;cases q
 |[],_::_=>rfl
 |_::_,[]=>rfl
theorem Ex (a b:aw):H1 (aM a) (aM b)=some (lM a b):=by
 show Bj (aM a) (aM b)=_;unfold Bj;rw[show(aM a).toPy pz=_ from lN 7 a,show(aM b).toPy pz=_ from lN 7 b];show some (YC (.tuple _) (.tuple _))=_;simp only[YC,ug]
theorem Hv (w:aw)(l:List aw):DO (aM w) (l.map aM)=some (uq w l):=by
 induction l with
 |nil =>
  exact rfl
 |cons v r ih =>
  rw[Wu,show DO (aM w) (aM v::r.map aM)=(H1 (aM v) (aM w)).bind λb=>(DO (aM w) (r.map aM)).map λc=>b||c from rfl,Ex,Wg,ih];rfl
theorem pJ (w:aw)(l:List aw):bZ .NotIn (aM w) (.lst (l.map aM))=some (.bool (!(uq w l))):=by
 show(((aM w).toPy pz).bind λ_=>DO (aM w) (l.map aM)).map (λx=>D.bool (!x))=_;rw[show(aM w).toPy pz=_ from lN 7 w,Wg,Hv];rfl
theorem ny (a b:Nat):bZ .Eq (.int (a:Int)) (.int (b:Int))=some (.bool (VW a b)):=by
 show some (D.bool (decide ((a:Int)=(b:Int))))=_;rw[EB]
noncomputable def d5:aw->List Nat
 |[]=>[]
 |[a]=>a
 |a::b::r=>a++46::d5 (b::r)
theorem Dn (w:aw):Yi (VN ".") (w.map ao)=ao (d5 w):=by
 have e0:VN "." = ao [46]:=by decide +kernel
 rw[e0];induction w with
 |nil=>rfl
 |cons x r ih =>
  induction r with
  |nil=>rfl
  |cons y r =>
   simp only[Wu,Yi]at ih ⊢
   rw[ih,ku,ku];exact congrArg ao (Ww x [46] _)
noncomputable def Fc (w:aw):Bool:=Wm w.length 3&&w.all λx=>Wm x.length 3
theorem ve {w:aw}(h:Fc w=true):iD (VN "join") (.str (VN ".")) [aM w]=some (.str (ao (d5 w))):=by
 unfold Fc at h;rw[V3]at h;have h1:=V0 h.1;have hs:∀l:aw,(∀x∈l,x.length<=3)->((l.map ao).map (·.length)).sum<=3*l.length:=by
  intro l;induction l with
  |nil=>intro _;simp
  |cons x r ih =>
   intro h;have:=ih λy hy=>h y (VS _ hy)
   have hx:(ao x).length<=3:=h x VT;simp only[Wu,List.sum_cons,VY];lia
 have:=hs w λx hx=>V0 (Wp.mp h.2 x hx)
 show nQ (VN "join") (VN ".") (gl w)=_;unfold nQ;rw[if_pos ⟨by decide +kernel,by decide +kernel⟩];unfold gl;rw[iV,Wg,if_pos (by simp only[VZ]at *;lia),Dn]
theorem r_:∀{w:aw},(∀x∈w,x.length<=3)->(d5 w).length<=4*w.length
 |[],_=>W7 _
 |[a],h=>Xf (h a VT)
 |a::b::r,h=>by
  have:=r_ (w:=b::r) λx hx=>h x (VS _ hx)
  have:=h a VT;rw[show d5 (a::b::r)=a++46::d5 (b::r)from rfl,V1,VY];simp only[VY]at *;exact Tw ‹_› ‹_›
theorem yc {w:aw}(h:Fc w=true):(d5 w).length<=12:=by
 unfold Fc at h;rw[V3]at h;have h1:=V0 h.1;have:=r_ (w:=w) λx hx=>V0 (Wp.mp h.2 x hx)
 lia
section
variable {T:Type}{aa:T->Str->List D->Option D}{Φ:b_}
theorem vg {α:Type}{β:Type}{enc:α->D}{p:α->Bool}{g:α->β}{h:D->Option (List β)}{L:List α}:(∀a∈L,h (enc a)=some (if p a then[g a]else[]))->(pR h (L.map enc)).map List.flatten=some ((L.filter p).map g):=by
 induction L with
 |nil =>
  intro _;exact rfl
 |cons a r ih =>
  intro H;have ih:=ih λx hx=>H x (VS _ hx)
  obtain⟨l,e1,e2⟩:=YE.mp ih;rw[Wu,Kd,H a VT,Wg,e1];show some (List.flatten (_::l))=_;rw[YR,e2,Xr]
  cases p a<;>rfl
theorem cM {α:Type}{f:Fn T}{elt:Expr}{gg:V6}{σi:az T}{L:List α}{enc:α->D}{p:α->Bool}{g:α->D}(kX:ja σi gg.target=true)
  (h:∀a∈L,∃σ',bB σi gg.target (enc a)=some σ'/\bq f σ' gg.ifs=some (p a)/\(p a=true->f σ' false elt=some (g a))):comp f elt [gg] σi (L.map enc)=some ((L.filter p).map g):=by
 rw[iI];refine lx kX (vg λa ha=>?_);obtain⟨σ',e1,e2,e3⟩:=h a ha;refine(dS e1).trans ((dS e2).trans ?_)
 cases q:p a with
 |false=>rfl
 |true=>exact w6 (e3 q)
inductive I1 (m:Nat):Expr->Prop |mk {v i k q p2 pos}:decide (i=(m:Int))=true->I1 m (.Subscript v (.Slice none (some (.Constant (.int i) k q)) none p2) pos)
theorem B6 {l:List D}(m:Nat):cx none (some (m:Int)) (.lst l)=some (.lst (l.take m)):=by
 rw[gA];show some (D.lst (eo none (some (m:Int)) l))=_;congr 2;unfold eo;have h2:rk l.length (some (m:Int))=min m l.length:=iJ l.length m;have h1:l9 l.length none=0:=rfl;rw[h1,h2,YY,Nat.sub_zero];by_cases q:l.length<=m
 ·rw[WX (i:=m) q,WX (by lia)]
 ·rw[show min m l.length=m by lia]
theorem rA {l:List D}(m:Nat):cx none (some (m:Int)) (.tup l)=some (.tup (l.take m)):=by
 rw[gA];show some (D.tup (eo none (some (m:Int)) l))=_;congr 2;unfold eo;have h2:rk l.length (some (m:Int))=min m l.length:=iJ l.length m;have h1:l9 l.length none=0:=rfl;rw[h1,h2,YY,Nat.sub_zero];by_cases q:l.length<=m
 ·rw[WX (i:=m) q,WX (by lia)]
 ·rw[show min m l.length=m by lia]
set_option tactic.hygienic true in
theorem Et {n m:Nat}{σ:az T}{e:Expr}{d:D}(hs:I1 m e)(h:ev aa Φ (n+1) σ false (JK e)=some d):ev aa Φ (n+2) σ false e=cx none (some (m:Int)) d:=by
 obtain⟨hs⟩:=hs;rename_i v i k q p2 pos;have hs:=of_decide_eq_true hs;subst hs;have h:ev aa Φ (n+1) σ false v=_:=h;exact dS (f:=λo=>_) h
set_option tactic.hygienic true in
theorem Ly {N:Nat}{σ:az T}{rec:az T->List V9->Rs T}{st:V9}{l l2:List D}(hs:Hr st)(hw:bW σ.nm (rp st)=true)(hx:σ.get (rp st)=some (.own l))(h:ev aa Φ N σ false (bR st)=some (.lst l2))(hz:l.length+l2.length<=100000):bQ aa Φ N rec σ st=some (σ.set (rp st) (.own (l++l2)),.next):=by
 induction hs;rename_i x p e q;have hw:bW σ.nm x=true:=hw;have hx:σ.get x=some (.own l):=hx;have h:ev aa Φ N σ false e=some (.lst l2):=h;have hb:Wm (l.length+l2.length) 100000=true:=Wh hz;refine bE (f:=λσ=>bV aa Φ N σ (.AugAssign (.Name x p) .Add e q)) ?_;refine lx hw ?_;rw[hx];exact(dS h).trans (lx hb (eM _ _))
end
noncomputable def pP:Str:=(aS 19).name
noncomputable def qT (Φ:b_):Prop:=∀(items x:List Nat),x.length<=50->items≠[]->(∀k∈items,k<9)->Φ pP [.lst (aq items),.str (ao x)]=some (.bool (pQ items x))
noncomputable def aB (rs:List Rl)(j:Nat):Rl:=rs.getD j ⟨9,0,[]⟩
noncomputable def cO (a b:Nat):List Nat:=(Wo (b - a)).map (a+·)
noncomputable def zj (rs:List Rl)(kind k j:Nat):Bool:=(XW kind 2&&VW j k)||(VW kind 3&&VW (aB rs j).kind 4)
noncomputable def dN (rs:List Rl)(k:Nat):List Nat:=(cO k rs.length).filter (zj rs (aB rs k).kind k)
noncomputable def eC (W:List aw)(r:Rl):List aw:=W.filter λw=>pQ r.items (d5 w)
noncomputable def jo (rs:List Rl)(W:List aw)(at_:Nat):List aw:=((cO at_ rs.length).filter λj=>VW (aB rs j).kind 2).flatMap λj=>eC W (aB rs j)
set_option genCtorIdx false in
structure Se where
 way:aw
 flag:Nat
 below:Bool
 deriving Nonempty
noncomputable def ft (s:Se):D:=.tup [aM s.way,.int s.flag,.bool s.below]
noncomputable def nZ (uw:List aw)(w:aw):Bool:=!(uq w uw)&&!(uq (w.take 1) uw)
noncomputable def gb (rs:List Rl)(W:List aw)(k:Nat):List Se:=((dN rs k).take 1).flatMap λat_=>((eC W (aB rs k)).filter (nZ (jo rs W at_))).map λw=>⟨w,(aB rs k).flag,VW (aB rs k).kind 1⟩
noncomputable def cj (rs:List Rl)(W:List aw):List Se:=(Wo rs.length).flatMap (gb rs W)
theorem u5 (a b:Nat):bX (a:Int) (b - a)=aq (cO a b):=by
 rw[i_];unfold aq cO;rw[XJ];refine List.map_congr_left λk _=>?_
 simp only[Function.comp_apply];congr 1
theorem pw (a b:Nat)(ha:a<=900000)(hb:b<=900000):BL .range [.int (a:Int),.int (b:Int)]=some (.rng (a:Int) (b:Int)):=by
 show(if(cN (a:Int)&&cN (b:Int))=true then some (D.rng (a:Int) (b:Int))else none)=_;rw[if_pos (by unfold cN;simp;lia)]
theorem pq (a b:Nat):cP (.rng (a:Int) (b:Int))=some (aq (cO a b)):=by
 show some (bX (a:Int) ((b:Int) - (a:Int)).toNat)=_;rw[show((b:Int) - (a:Int)).toNat=b - a from Int.toNat_sub b a,u5]
theorem mU {rs:List Rl}{j:Nat}(h:j<rs.length):bh (.lst (rs.map dQ)) (.int j)=some (dQ (aB rs j)):=by
 show qr _ (j:Int)=_;rw[iG,W3,Wr h];unfold aB;rw[List.getD,Wr h];rfl
noncomputable def jW (rs:List Rl)(W:List aw):List D:=rs.map λr=>.lst ((eC W r).map aM)
theorem vN {rs:List Rl}{W:List aw}{j:Nat}(h:j<rs.length):bh (.lst (jW rs W)) (.int j)=some (.lst ((eC W (aB rs j)).map aM)):=by
 show qr _ (j:Int)=_;unfold jW;rw[iG,W3,Wr h];unfold aB;rw[List.getD,Wr h];rfl
theorem fA {a b j:Nat}(h:j∈cO a b):a<=j/\j<b:=by
 obtain⟨k,hk,rfl⟩:=Wz.mp h;exact⟨Xm _ _,Nat.add_lt_of_lt_sub' (WN.mp hk)⟩
section
variable {T:Type}{aa:T->Str->List D->Option D}{Φ:b_}
noncomputable def jz (rs:List Rl):D:=.lst (rs.map dQ)
noncomputable def nH (W:List aw):D:=.lst (W.map aM)
noncomputable def L9:Expr:=bR (ak (aZ 20) 0)
noncomputable def G_:Expr:=uy L9
noncomputable def LV (rs:List Rl):Prop:=∀r∈rs,r.items≠[]/\∀k∈r.items,k<9
noncomputable def N5 (W:List aw)(r:Rl):az T:=⟨(ln L9).names,[(VN "ways",.val (nH W)),(VN "kind",.val (.int r.kind)),(VN "flag",.val (.int r.flag)),(VN "items",.val (.lst (aq r.items)))]⟩
noncomputable def Rp (r:Rl)(w:aw):az T:=⟨(ln G_).names,[(VN "items",.val (.lst (aq r.items))),(VN "way",.val (aM w))]⟩
theorem JZ (eg:qT Φ)(rs:List Rl)(hr:LV rs)(ml:rs.length<=10)(W:List aw)(hW:∀w∈W,Fc w=true)(nW:W.length<=100) :
  ev aa Φ 30 (⟨dZ 20,[(VN "rules",.val (jz rs)),(VN "ways",.val (nH W))]⟩:az T) false L9=some (.lst (jW rs W)):=by
 have hi:ev aa Φ 29 (⟨dZ 20,[(VN "rules",.val (jz rs)),(VN "ways",.val (nH W))]⟩:az T) false (eU L9).iter=some (jz rs):=by kernel_rfl
 refine kZ (by exact .mk nofun) hi (its:=rs.map dQ) rfl ?_ (by unfold jW;rw[VZ];lia);have key:=cM (f:=λ(σ:az T) b e=>ev aa Φ 29 σ b e) (elt:=G_) (gg:=eU L9) (σi:=di (ln L9) ⟨dZ 20,[(VN "rules",.val (jz rs)),(VN "ways",.val (nH W))]⟩) (L:=rs) (enc:=dQ) (p:=λ_=>true) (g:=λr=>.lst ((eC W r).map aM)) nofun λr BD=>by
  refine⟨N5 W r,by kernel_rfl,iv nofun,λ_=>?_⟩;have Ja:ev aa Φ 28 (N5 (T:=T) W r) false (eU G_).iter=some (nH W):=by kernel_rfl
  refine kZ (by exact .mk nofun) Ja (its:=W.map aM) rfl ?_ (by rw[VZ];exact VX (Wj _ _) (VX (by assumption) ⋯));refine cM nofun λw hw=>⟨Rp r w,by kernel_rfl,eR nofun ?_,λ_=>by kernel_rfl⟩
  have hj:=ve (hW w hw);have hx:=yc (hW w hw);have hm:=eg r.items (d5 w) (VX (by assumption) ⋯) (hr r BD).1 (hr r BD).2;refine aH (d:=.bool (pQ r.items (d5 w))) nofun (mA (x:=.lst (aq r.items)) (y:=.str (ao (d5 w))) (by exact .mk rfl) nofun nofun nofun (Eq.trans (b:=iD (VN "join") (.str (VN ".")) [aM w]) nofun hj) ?_) rfl;rw[show oO (gf (eU G_) 0)=pP by kernel_rfl];exact hm
 have hf:rs.filter (λ_=>true)=rs:=List.filter_eq_self.mpr λ_ _=>rfl
 rw[hf]at key;exact key
noncomputable def kB (k:Nat):Str×aO T:=(VN "k",.val (.int k))
noncomputable def Nj (k:Nat):Str×aO T:=(VN "kind",.val (.int k))
noncomputable def Pn (k:Nat):Str×aO T:=(VN "flag",.val (.int k))
noncomputable def Bq (k:Nat):Str×aO T:=(VN "at",.val (.int k))
noncomputable def CS (l:List aw):Str×aO T:=(VN "off",.val (.lst (l.map aM)))
noncomputable def k7 (rs:List Rl)(W:List aw)(S:List D)(ks:List (Str×aO T)):az T:=⟨dZ 20,(VN "rules",.val (jz rs))::(VN "ways",.val (nH W))::(VN "hits",.val (.lst (jW rs W)))::(VN "standing",.own S)::ks⟩
noncomputable def oq:V9:=ak (aZ 20) 2
noncomputable def ou:V9:=ak (cD oq) 1
noncomputable def Fh:Expr:=JK (rl ou)
noncomputable def yC:Expr:=bR (ak (cD ou) 0)
noncomputable def G9:Expr:=bR (ak (cD ou) 1)
noncomputable def E2 (tl:List (Str×aO T)):Prop:=tl=[]\/∃a l,tl=[Bq a,CS l]
noncomputable def q7 (k:Nat)(r:Rl)(tl:List (Str×aO T)):List (Str×aO T):=kB k::Nj r.kind::Pn r.flag::Fi r.items::tl
noncomputable def Dm (rs:List Rl)(k:Nat)(kind:Nat)(j:Nat):az T:=⟨(ln Fh).names,[kB k,Nj kind,(VN "rules",.val (jz rs)),(VN "j",.val (.int j))]⟩
theorem r9 (r:Rl):bh (dQ r) (.int 0)=some (.int r.kind):=rfl
theorem Gl (rs:List Rl)(ml:rs.length<=10)(W:List aw)(S:List D)(k:Nat)(hk:k<rs.length)(tl:List (Str×aO T)) :
  ev aa Φ 30 (k7 rs W S (q7 k (aB rs k) tl)) false (rl ou)=some (.lst (aq ((dN rs k).take 1))):=by
 revert ml hk;revert aa Φ rs W S k tl;unfold T;exists aa,Φ,rs,W,S,k,tl;intro ml hk;have hi:ev aa Φ 28 (k7 rs W S (q7 k (aB rs k) tl)) false (eU Fh).iter=some (.rng (k:Int) ((rs.length:Nat):Int)):=by
  have h2:ev aa Φ 27 (k7 rs W S (q7 k (aB rs k) tl)) false (wi (eU Fh).iter 1)=some (.int ((rs.map dQ).length:Nat)):=by kernel_rfl
  rw[VZ]at h2;exact Eu (x:=.int (k:Int)) (by exact .mk rfl) nofun nofun nofun h2 (pw _ _ (by lia) (VX (by assumption) ⋯))
 have hv:ev aa Φ 29 (k7 rs W S (q7 k (aB rs k) tl)) false (JK (rl ou))=some (.lst (aq (dN rs k))):=by
  refine kZ (e:=Fh) (by exact .mk nofun) hi (pq _ _) ?_ (by
   unfold aq dN;rw[VZ];refine VX (Wj _ _) ?_;unfold cO;rw[VZ,WU];exact VX (Nat.sub_le _ _) (VX ‹_› ⋯))
  refine cM (L:=cO k rs.length) (enc:=λ(j:Nat)=>D.int (j:Int)) nofun ?_;exists j;intro hj;have Pb:=fA hj;refine⟨Dm rs k (aB rs k).kind j,by kernel_rfl,eR nofun ?_,λ_=>by kernel_rfl⟩;have a0:ev aa Φ 25 (Dm (T:=T) rs k (aB rs k).kind j) false (fg (fg (gf (eU Fh) 0) 0) 0)=bZ .Lt (.int ((aB rs k).kind:Int)) (.int ((2:Nat):Int)):=by kernel_rfl
  have a1:ev aa Φ 25 (Dm (T:=T) rs k (aB rs k).kind j) false (fg (fg (gf (eU Fh) 0) 0) 1)=bZ .Eq (.int (j:Int)) (.int (k:Int)):=by kernel_rfl
  have b0:ev aa Φ 25 (Dm (T:=T) rs k (aB rs k).kind j) false (fg (fg (gf (eU Fh) 0) 1) 0)=bZ .Eq (.int ((aB rs k).kind:Int)) (.int ((3:Nat):Int)):=by kernel_rfl
  have b1:ev aa Φ 25 (Dm (T:=T) rs k (aB rs k).kind j) false (fg (fg (gf (eU Fh) 0) 1) 1)=((bh (jz rs) (.int j)).bind λd=>bh d (.int 0)).bind λd=>bZ .Eq d (.int ((4:Nat):Int)):=by kernel_rfl
  rw[C8]at a0;rw[ny]at a1 b0;rw[show bh (jz rs) (.int j)=_ from mU Pb.2,Wg,r9,Wg,ny]at b1;have A:=dv (aa:=aa) (Φ:=Φ) (n:=26) (e:=fg (gf (eU Fh) 0) 0) ∅ (aH nofun a0 rfl) λ_=>aH nofun a1 rfl
  have B:=dv (aa:=aa) (Φ:=Φ) (n:=26) (e:=fg (gf (eU Fh) 0) 1) ∅ (aH nofun b0 rfl) λ_=>aH nofun b1 rfl
  exact j6 ∅ A λ_=>B
 have:=Et (n:=28) (m:=1) (e:=rl ou) (by exact .mk rfl) hv;rw[this,B6];unfold aq;rw[List.map_take]
noncomputable def CU (rs:List Rl)(W:List aw)(j:Nat):az T:=⟨(ln yC).names,[(VN "hits",.val (.lst (jW rs W))),(VN "rules",.val (jz rs)),(VN "j",.val (.int j))]⟩
noncomputable def P1 (rs:List Rl)(W:List aw)(j:Nat)(w:aw):az T:=⟨(ln yC).names,[(VN "hits",.val (.lst (jW rs W))),(VN "rules",.val (jz rs)),(VN "j",.val (.int j)),(VN "way",.val (aM w))]⟩
theorem qA {α β:Type}(f:α->List β)(m:Nat)(l:List α):(∀x∈l,(f x).length<=m)->(l.flatMap f).length<=l.length*m:=by
 induction l with
 |nil =>
  intro _;simp
 |cons a r ih =>
  intro h;have:=ih λx hx=>h x (VS _ hx)
  have:=h a VT;rw[W4,V1,VY,Nat.add_mul];exact Tq ‹_› ‹_›
theorem oK (W:List aw)(r:Rl):(eC W r).length<=W.length:=Wj _ _
theorem MQ (rs:List Rl)(ml:rs.length<=10)(W:List aw)(nW:W.length<=100)(S:List D)(k a:Nat)(r:Rl)(tl:List (Str×aO T))(dU:tl=[]\/∃l,tl=[CS l])(ha:a<=10) :
  ev aa Φ 30 (k7 rs W S (q7 k r (Bq a::tl))) false yC=some (.lst ((jo rs W a).map aM)):=by
 revert ml nW dU ha;revert aa Φ rs W S k a r tl;unfold T;exists aa,Φ,rs,W,S,k,a,r,tl;intro ml nW dU ha;have hi:ev aa Φ 29 (k7 rs W S (q7 k r (Bq a::tl))) false (eU yC).iter=some (.rng (a:Int) ((rs.length:Nat):Int)):=by
  have h2:ev aa Φ 28 (k7 rs W S (q7 k r (Bq a::tl))) false (wi (eU yC).iter 1)=some (.int ((rs.map dQ).length:Nat)):=by kernel_rfl
  rw[VZ]at h2;exact Eu (x:=.int (a:Int)) (by exact .mk rfl) nofun nofun nofun h2 (pw _ _ (VX (by assumption) ⋯) (VX (by assumption) ⋯))
 have hc:=EH (f:=λ(σ:az T) b e=>ev aa Φ 29 σ b e) (elt:=uy yC) (g:=eU yC) (h:=Ha yC) (σi:=di (ln yC) (k7 rs W S (q7 k r (Bq a::tl)))) (its:=aq (cO a rs.length))
  (F:=λd=>match d with | .int (.ofNat j)=>(if VW (aB rs j).kind 2 then(eC W (aB rs j)).map aM else[]) |_=>[]) nofun λx hx=>by
  delta x;intro hx;obtain⟨j,hj,rfl⟩:=Wz.mp hx;delta j;intro hj hx;have Pb:=fA hj;refine⟨CU rs W j,by kernel_rfl,?_⟩;have t0:ev aa Φ 28 (CU (T:=T) rs W j) false (gf (eU yC) 0)=((bh (jz rs) (.int j)).bind λd=>bh d (.int 0)).bind λd=>bZ .Eq d (.int ((2:Nat):Int)):=by kernel_rfl
  rw[show bh (jz rs) (.int j)=_ from mU Pb.2,Wg,r9,Wg,ny]at t0;have t1:bq (λ(σ:az T) b e=>ev aa Φ 29 σ b e) (CU rs W j) (eU yC).ifs=some (VW (aB rs j).kind 2):=eR nofun (aH nofun t0 rfl)
  cases q:VW (aB rs j).kind 2 with
  |false=>exact .inl ⟨by rw[t1,q],by show(if VW (aB rs j).kind 2=true then _ else _)=_;rw[q];rfl⟩
  |true =>
   refine .inr ⟨by rw[t1,q],.lst ((eC W (aB rs j)).map aM),(eC W (aB rs j)).map aM,?_,rfl,?_⟩
   ·have:ev aa Φ 29 (CU (T:=T) rs W j) false (Ha yC).iter=bh (.lst (jW rs W)) (.int j):=by kernel_rfl
    exact this.trans (vN Pb.2)
   ·show _=some (if VW (aB rs j).kind 2=true then _ else _)
    rw[q,if_pos rfl];have key:=cM (f:=λ(σ:az T) b e=>ev aa Φ 29 σ b e) (elt:=uy yC) (gg:=Ha yC) (σi:=CU rs W j) (L:=eC W (aB rs j)) (enc:=aM) (p:=λ_=>true) (g:=aM) nofun λw hw=>⟨P1 rs W j w,by kernel_rfl,iv nofun,λ_=>by kernel_rfl⟩
    rw[List.filter_eq_self.mpr λ_ _=>rfl]at key;exact key
 have HL:((aq (cO a rs.length)).flatMap λd=>match d with | .int (.ofNat j)=>(if VW (aB rs j).kind 2 then(eC W (aB rs j)).map aM else[]) |_=>[])=(jo rs W a).map aM:=by
  unfold aq jo;rw[List.flatMap_map];generalize cO a rs.length=L;delta L;induction L with
  |nil=>rfl
  |cons j r ih =>
   delta j r;intro ih;rw[W4,ih,Xr];show(if VW (aB rs j).kind 2=true then _ else _)++_=_
   cases VW (aB rs j).kind 2 with
   |false=>rfl
   |true=>simp
 rw[HL]at hc;refine LA (by exact .mk nofun) hi (pq _ _) hc ?_;rw[VZ];unfold jo;refine VX (qA _ 100 _ λj _=>VX (oK W _) nW) ?_;have:((cO a rs.length).filter λj=>VW (aB rs j).kind 2).length<=10:=by
  refine VX (Wj _ _) ?_;unfold cO;rw[VZ,WU];lia
 lia
noncomputable def L3 (kind flag:Nat)(uw:List aw)(w:aw):az T:=⟨(ln G9).names,[Pn flag,Nj kind,CS uw,(VN "way",.val (aM w))]⟩
noncomputable def Bw (rs:List Rl)(W:List aw)(k a:Nat):List Se:=((eC W (aB rs k)).filter (nZ (jo rs W a))).map λw=>⟨w,(aB rs k).flag,VW (aB rs k).kind 1⟩
theorem MR (rs:List Rl)(W:List aw)(nW:W.length<=100)(S:List D)(k a:Nat)(hk:k<rs.length)(uw:List aw) :
  ev aa Φ 30 (k7 (T:=T) rs W S (q7 k (aB rs k) [Bq a,CS uw])) false G9=some (.lst ((((eC W (aB rs k)).filter (nZ uw)).map λw=>(⟨w,(aB rs k).flag,VW (aB rs k).kind 1⟩:Se)).map ft)):=by
 have hi:ev aa Φ 29 (k7 (T:=T) rs W S (q7 k (aB rs k) [Bq a,CS uw])) false (eU G9).iter=some (.lst ((eC W (aB rs k)).map aM)):=by
  have:ev aa Φ 29 (k7 (T:=T) rs W S (q7 k (aB rs k) [Bq a,CS uw])) false (eU G9).iter=bh (.lst (jW rs W)) (.int k):=by kernel_rfl
  exact this.trans (vN hk)
 rw[XJ];generalize aB rs k=r at *;refine kZ (by exact .mk nofun) hi (its:=(eC W r).map aM) rfl ?_ (by rw[VZ];refine VX (Wj _ _) ?_;have:=oK W r;lia);refine cM nofun λw hw=>⟨L3 r.kind r.flag uw w,by kernel_rfl,eR nofun ?_,λ_=>?_⟩
 ·have h0:ev aa Φ 27 (L3 (T:=T) r.kind r.flag uw w) false (fg (gf (eU G9) 0) 0)=bZ .NotIn (aM w) (.lst (uw.map aM)):=by kernel_rfl
  have vP:ev aa Φ 26 (L3 (T:=T) r.kind r.flag uw w) false (LG (fg (gf (eU G9) 0) 1))=some (aM (w.take 1)):=by
   have:=Et (aa:=aa) (Φ:=Φ) (n:=24) (m:=1) (σ:=L3 (T:=T) r.kind r.flag uw w) (e:=LG (fg (gf (eU G9) 0) 1)) (d:=aM w) (by exact .mk rfl) nofun;rw[this];unfold aM gl;rw[rA,List.map_take]
  have h1:ev aa Φ 27 (L3 (T:=T) r.kind r.flag uw w) false (fg (gf (eU G9) 0) 1)=some (.bool (!(uq (w.take 1) uw))):=by
   refine nx (y:=.lst (uw.map aM)) ∅ vP nofun ?_;exact pJ _ _
  rw[pJ]at h0;exact dv ∅ (aH nofun h0 rfl) λ_=>aH nofun h1 rfl
 ·skip
  have:ev aa Φ 29 (L3 (T:=T) r.kind r.flag uw w) false (uy G9)=(bZ .Eq (.int (r.kind:Int)) (.int ((1:Nat):Int))).bind λd=>some (.tup [aM w,.int r.flag,d]):=by kernel_rfl
  rw[this,ny];rfl
theorem Gk (n0:Nat)(rs:List Rl)(ml:rs.length<=10)(W:List aw)(nW:W.length<=100)(S:List D)(hS:S.length<=5000)(k a:Nat)(hk:k<rs.length)(ha:a<=10)(tl:List (Str×aO T))(dU:E2 tl) :
  ∃σ1,bB (k7 rs W S (q7 k (aB rs k) tl)) (ly ou) (.int a)=some σ1/\aW aa Φ 30 (n0+1) σ1 (cD ou)=some (k7 rs W (S++(Bw rs W k a).map ft) (q7 k (aB rs k) [Bq a,CS (jo rs W a)]),.next):=by
 have hl:(cD ou).length=2:=by kernel_rfl
 obtain⟨tt,I6,e0⟩:∃tt:List (Str×aO T),(tt=[]\/∃l,tt=[CS l])/\bB (k7 rs W S (q7 k (aB rs k) tl)) (ly ou) (.int a)=some (k7 rs W S (q7 k (aB rs k) (Bq a::tt))):=by
  rcases dU with rfl |⟨a0,l,rfl⟩
  ·exact⟨[],.inl rfl,by kernel_rfl⟩
  ·exact⟨[CS l],.inr ⟨l,rfl⟩,by kernel_rfl⟩
 refine⟨_,e0,?_⟩;have e1:bQ aa Φ 30 (aW aa Φ 30 n0) (k7 rs W S (q7 k (aB rs k) (Bq a::tt))) (ak (cD ou) 0)=some (k7 rs W S (q7 k (aB rs k) [Bq a,CS (jo rs W a)]),.next):=by
  refine(v7 (by exact .mk nofun) (MQ rs ml W nW S k a (aB rs k) tt I6 ha)).trans ?_;rcases I6 with z |⟨l,z⟩<;>rw[z]<;>kernel_rfl
 refine ah ⋯ e1 (ah ⋯ ?_ (aD ⋯));have hz:((Bw rs W k a).map ft).length<=100:=by
  unfold Bw;rw[VZ,VZ];refine VX (Wj _ _) ?_;have:=oK W (aB rs k);lia
 rw[Ly (l:=S) (l2:=(Bw rs W k a).map ft) ∅ nofun nofun (MR rs W nW S k a hk (jo rs W a)) (by lia)];kernel_rfl
noncomputable def Bx (ks tl:List (Str×aO T)):Prop:=(ks=[]/\tl=[])\/∃k r,ks=q7 k r tl/\E2 tl
theorem Bx.tl {ks tl:List (Str×aO T)}(h:Bx ks tl):E2 tl:=by
 rcases h with⟨_,rfl⟩ |⟨_,_,_,h⟩
 ·exact .inl rfl
 ·exact h
theorem qK {rs:List Rl}{k a:Nat}(h:a∈dN rs k):a<rs.length:=(fA (Xj.mp h).1).2
theorem JX (n0:Nat)(rs:List Rl)(ml:rs.length<=10)(W:List aw)(nW:W.length<=100)(S:List D)(hS:S.length<=5000)(k:Nat)(hk:k<rs.length)(ks tl:List (Str×aO T))(jA:Bx ks tl) :
  ∃σ1,bB (k7 rs W S ks) (ly oq) (.int k)=some σ1/\∃c_ fH,Bx c_ fH/\aW aa Φ 30 (n0+2) σ1 (cD oq)=some (k7 rs W (S++(gb rs W k).map ft) c_,.next):=by
 revert ml nW hS hk jA;revert aa Φ n0 rs W S k ks tl;unfold T;exists aa,Φ,n0,rs,W,S,k,ks,tl;intro ml nW hS hk jA;have hl:(cD oq).length=2:=by kernel_rfl
 obtain⟨tt,I6,e0⟩:∃tt:List (Str×aO T),(tt=[]/\tl=[]\/∃r:Rl,tt=Nj r.kind::Pn r.flag::Fi r.items::tl)/\bB (k7 rs W S ks) (ly oq) (.int k)=some (k7 rs W S (kB k::tt)):=by
  rcases jA with⟨rfl,rfl⟩ |⟨k0,r,rfl,rfl |⟨a,l,rfl⟩⟩
  ·exact⟨[],.inl ⟨rfl,rfl⟩,by kernel_rfl⟩
  ·exact⟨_,.inr ⟨r,rfl⟩,by kernel_rfl⟩
  ·exact⟨_,.inr ⟨r,rfl⟩,by kernel_rfl⟩
 delta tt;intro I6 e0;refine⟨_,e0,?_⟩;have e1:bQ aa Φ 30 (aW aa Φ 30 (n0+1)) (k7 rs W S (kB k::tt)) (ak (cD oq) 0)=some (k7 rs W S (q7 k (aB rs k) tl),.next):=by
  have hv:ev aa Φ 30 (k7 rs W S (kB k::tt)) false (bR (ak (cD oq) 0))=bh (jz rs) (.int k):=by kernel_rfl
  refine y7 (by exact .mk rfl) (hv.trans (mU hk)) ?_;generalize aB rs k=r;delta r;clear e0 hv;rcases I6 with⟨rfl,rfl⟩ |⟨r0,rfl⟩
  ·kernel_rfl
  ·rcases jA.tl with z |⟨a,l,z⟩<;>rw[z]<;>kernel_rfl
 have hi:=Gl (aa:=aa) (Φ:=Φ) rs ml W S k hk tl;have e2:=my (rec:=aW aa Φ 30 (n0+1)) (st:=ou) ∅ hi (its:=aq ((dN rs k).take 1)) rfl
 cases q:(dN rs k).take 1 with
 |nil =>
  refine⟨q7 k (aB rs k) tl,tl,.inr ⟨k,_,rfl,jA.tl⟩,?_⟩;rw[q]at e2;have fj:gb rs W k=[]:=by unfold gb;rw[q];rfl
  rw[fj,YH,WH];exact ah ⋯ e1 (ah ⋯ e2 (aD ⋯))
 |cons a r =>
  delta a r;intro q;have hr:r=[]:=by
   have:=congrArg Xq q;rw[Yw,VY]at this;exact XS (TA ‹_›)
  subst hr;have ha:a<rs.length:=qK (YX (show a∈(dN rs k).take 1 by rw[q];simp));obtain⟨σ1,b0,b1⟩:1:=Gk (aa:=aa) (Φ:=Φ) n0 rs ml W nW S hS k a hk (by lia) tl jA.tl;refine⟨q7 k (aB rs k) [Bq a,CS (jo rs W a)],_,.inr ⟨k,_,rfl,.inr ⟨a,_,rfl⟩⟩,?_⟩;rw[q]at e2;have fj:gb rs W k=Bw rs W k a:=by unfold gb;rw[q];simp[Bw]
  rw[fj];exact ah ⋯ e1 (ah ⋯ (e2.trans (fN b0 b1 rfl)) (aD ⋯))
theorem o9 (rs:List Rl)(W:List aw)(nW:W.length<=100)(k:Nat):(gb rs W k).length<=100:=by
 refine VX (qA _ 100 _ λa _=>?_) ?_
 ·rw[VZ]
  refine VX (Wj _ _) ?_;have:=oK W (aB rs k);lia
 ·rw[Yw];lia
theorem JY (n0:Nat)(rs:List Rl)(ml:rs.length<=10)(W:List aw)(nW:W.length<=100):∀(L:List Nat) (S:List D) (ks tl:List (Str×aO T)),(∀k∈L,k<rs.length)->S.length+100*L.length<=5000->Bx ks tl ->∃c_ fH,Bx c_ fH/\iH (aW aa Φ 30 (n0+2)) (ly oq) (cD oq) (k7 rs W S ks) (aq L)=some (k7 rs W (S++(L.flatMap (gb rs W)).map ft) c_,.next):=by
 revert ml nW;revert aa Φ n0 rs W;unfold T;exists aa,Φ,n0,rs,W;intro ml nW;intro L;delta L;induction L with
 |nil=>intro S ks tl hL hz hk;exact⟨ks,tl,hk,by rw[List.flatMap_nil,YH,WH];rfl⟩
 |cons k r ih =>
  delta k r;intro ih;intro S ks tl hL hz hk;delta S ks tl;intro hz hk;simp only[VY]at hz;obtain⟨σ1,b0,Dk,B3,yU,b1⟩:=JX (aa:=aa) (Φ:=Φ) n0 rs ml W nW S (by lia) k (hL k VT) ks tl hk;have:=o9 rs W nW k;obtain⟨Kx,ME,Q2,b2⟩:=ih (S++(gb rs W k).map ft) Dk B3 (λx hx=>hL x (VS _ hx)) (by rw[V1,VZ];lia) yU;refine⟨Kx,ME,Q2,?_⟩;refine(fN b0 b1 b2).trans ?_;rw[W4,WZ,Ww]
theorem zB (eg:qT Φ)(rs:List Rl)(hr:LV rs)(ml:rs.length<=10)(W:List aw)(hW:∀w∈W,Fc w=true)(nW:W.length<=100) :
  ∃σ',aW aa Φ 30 5 (⟨dZ 20,[(VN "rules",.val (jz rs)),(VN "ways",.val (nH W))]⟩:az T) (aZ 20)=some (σ',.ret (.lst ((cj rs W).map ft))):=by
 revert eg hr ml hW nW;revert aa Φ rs W;unfold T;exists aa,Φ,rs,W;intro eg hr ml hW nW;have hl:(aZ 20).length=4:=by kernel_rfl
 have e0:bQ aa Φ 30 (aW aa Φ 30 4) (⟨dZ 20,[(VN "rules",.val (jz rs)),(VN "ways",.val (nH W))]⟩:az T) (ak (aZ 20) 0)=some (⟨dZ 20,[(VN "rules",.val (jz rs)),(VN "ways",.val (nH W)),(VN "hits",.val (.lst (jW rs W)))]⟩,.next):=by
  refine(v7 (by exact .mk nofun) (JZ eg rs hr ml W hW nW)).trans ?_;kernel_rfl
 have e1:bQ aa Φ 30 (aW aa Φ 30 4) (⟨dZ 20,[(VN "rules",.val (jz rs)),(VN "ways",.val (nH W)),(VN "hits",.val (.lst (jW rs W)))]⟩:az T) (ak (aZ 20) 1)=some (k7 rs W [] [],.next):=by
  kernel_rfl
 have hi:ev aa Φ 30 (k7 (T:=T) rs W [] []) false (rl oq)=some (.rng 0 ((rs.length:Nat):Int)):=by
  have h1:ev aa Φ 29 (k7 (T:=T) rs W [] []) false (wi (rl oq) 0)=some (.int ((rs.map dQ).length:Nat)):=by kernel_rfl
  rw[VZ]at h1;exact ue (by exact .mk rfl) nofun nofun h1 (kr _ (VX (by assumption) ⋯))
 have e2:=my (rec:=aW aa Φ 30 4) (st:=oq) ∅ hi (mV rs.length);obtain⟨c_,fH,BH,e3⟩:=JY (aa:=aa) (Φ:=Φ) (T:=T) 2 rs ml W nW (Wo rs.length) [] [] [] (λk hk=>WN.mp hk) (by simp;lia) (.inl ⟨rfl,rfl⟩);delta c_ fH;intro BH e3;skip;refine⟨(k7 rs W ((cj rs W).map ft) c_).set (VN "standing") (.val (.lst ((cj rs W).map ft))),ah ⋯ e0 (ah ⋯ e1 (ah ⋯ (e2.trans e3) (bS ⋯ ?_)))⟩;show bQ aa Φ 30 _ (k7 rs W ((cj rs W).map ft) c_) _=_;generalize(cj rs W).map ft=L;clear e3;rcases BH with⟨rfl,rfl⟩ |⟨k,r,rfl,rfl |⟨a,l,rfl⟩⟩
 all_goals exact lA ∅ nofun nofun nofun
end
noncomputable def dK (i:Nat):List Str:=(aS i).params.args.map (·.arg)
noncomputable def cT:List Nat:=[16,14,17,15,8,9,13,19,20]
noncomputable def fu:Nat->Nat
 |14=>7
 |17=>6
 |15=>6
 |8=>22
 |9=>6
 |13=>4
 |_=>5
noncomputable def bN (f:Str):List Nat->Option Nat
 |[]=>none
 |i::r=>match d4 (aS i).name f with |true=>some i |false=>bN f r
theorem vW {f:Str}{i:Nat}{l:List Nat}:bN f l=some i->i∈l/\(aS i).name=f:=by
 delta f i l;induction l with
 |nil =>
  intro h
  cases h
 |cons j r ih =>
  delta j r;intro ih;intro h;replace h:(match d4 (aS j).name f with |true=>some j |false=>bN f r)=some i:=h
  cases q:d4 (aS j).name f with
  |true=>rw[q]at h;obtain rfl:=aJ h;exact⟨VT,bl.mp q⟩
  |false=>rw[q]at h;obtain⟨h1,h2⟩:=ih h;exact⟨VS _ h1,h2⟩
section
variable {T:Type}(aa:T->Str->List D->Option D)(base Φ:b_)
noncomputable def S5 (x:Fl):Option D:=match x with | .ret d=>some d |_=>none
theorem HV {x:Fl}{d:D}(h:S5 x=some d):x=.ret d:=by cases x<;>first |exact bg h |exact congrArg _ (aJ h)
noncomputable def MS (o:Rs T):Option D:=o.bind λp=>S5 p.2
noncomputable def lU (i:Nat)(ds:List D):Option D:=gd (VW ds.length (dK i).length) (MS (aW aa Φ 30 (fu i) ⟨dZ i,cz (dK i) ds⟩ (aZ i)))
noncomputable def lg:b_:=λf ds=>(bN f cT).elim (base f ds) λi=>lU aa Φ i ds
end
section
variable {T:Type}{aa:T->Str->List D->Option D}{base Φ:b_}
theorem fJ {i:Nat}{ds:List D}{σ':az T}{d:D}{vs:List (Str×aO T)}{m:Nat}(hl:VW ds.length (dK i).length=true)(hv:cz (dK i) ds=vs)(hm:fu i=m)(h:aW aa Φ 30 m ⟨dZ i,vs⟩ (aZ i)=some (σ',.ret d)):lU aa Φ i ds=some d:=by
 unfold lU;rw[hl,hv,hm,h];rfl
end
section
variable {ab:V8}{w:Wi}{X:gJ}{base Φ:b_}{hb:Wb}{mg:Str->Option VQ}{k:Nat}
noncomputable def E9 (hb:Wb)(mg:Str->Option VQ):Prop:=∀i∈cT,∃a fd,il hb mg (aS i).name a fd (aZ i) (dK i)/\fd.scope.names=dZ i
set_option tactic.hygienic true in
theorem sr (B:dT hb mg)(D:E9 hb mg)(GB:nD ab w base hb mg (k+1))(S:∀n,cR ab w X Φ hb k n/\eP ab w X Φ hb k n):nD ab w (lg X.aa base Φ) hb mg (k+1):=by
 revert B D GB S;revert ab w base Φ hb mg k;unfold X;exists ab,w,base,Φ,hb,mg,k;intro B D GB S;intro f ds d hf h;delta f ds d;intro hf h;replace h:(bN f cT).elim (base f ds) (λi=>lU X.aa Φ i ds)=some d:=h
 cases hi:bN f cT with
 |some i =>
  delta i;intro hi;rw[hi]at h;clear hf;obtain⟨hm,rfl⟩:=vW hi;obtain⟨a,fd,Df,hn⟩:=D i hm;delta a fd;intro Df hn;obtain⟨o,ho,hd⟩:=Df.obj;refine ip h λhl h=>bt h λp he h2=>⟨a,o,fd,Df.at_,ho,hd,?_⟩
  intro A F s vs Q E am lv bf hv hr;obtain⟨σ',fl⟩:=p;replace h2:=HV h2;refine Co (N:=30) (n:=fu i) (σ':=σ') Df B S (V_ hl) ?_ am lv bf hv hr;rw[hn];exact he.trans (congrArg (λx=>some (σ',x)) h2)
 |none=>rw[hi]at h;exact GB f ds d hf h
theorem lw (h:sJ ab w X base hb k)(hs:bN dy cT=none):sJ ab w X (lg X.aa base Φ) hb k:=by
 intro A E F s env an σ x m p aE pos args y d r Q hy hp;have:base dy [d]=some r:=by
  unfold lg at hp;rw[hs]at hp;exact hp
 exact h A E F s env an σ x m p aE pos args y d r Q hy this
end
theorem gV:bN dy cT=none:=by kernel_rfl
theorem vZ:bN uf cT=none:=by kernel_rfl
noncomputable def FX (ds:List D):Option Str:=ds.head?.bind λd=>gd ds.tail.isEmpty (BM d)
theorem lQ {ds:List D}{x:Str}(h:FX ds=some x):ds=[.str x]:=by
 cases ds with
 |nil=>exact bg h
 |cons d r =>
  refine ip h λh1 h2=>?_
  rw[eH h2];clear h h2
  cases r with
  |nil=>rfl
  |cons _ _=>exact eV h1
noncomputable def eF:b_:=λf ds=>a_ ((FX ds).bind λx=>a_ (some (.str (ao [97]))) (gd (gu x.cps.toList [46]) (some (.str (ao [92,46])))) (gu x.cps.toList [97])) (gd (d4 f dy) ((FX ds).bind λx=>gd (dI.any λq=>gu q.1 x.cps.toList) (some (.str x)))) (d4 f uf)
section
variable {T:Type}(aa:T->Str->List D->Option D)
noncomputable def jn:b_:=lg aa eF eF
noncomputable def iB:b_:=lg aa eF (jn aa)
end
section
variable {T:Type}{aa:T->Str->List D->Option D}{Φ:b_}
theorem La:n9 (lg aa eF Φ) where
 a:=by unfold lg;rw[vZ];kernel_rfl
 dot:=by unfold lg;rw[vZ];kernel_rfl
 s0:=by unfold lg;rw[gV];kernel_rfl
 s1:=by unfold lg;rw[gV];kernel_rfl
 s2:=by unfold lg;rw[gV];kernel_rfl
 s3:=by unfold lg;rw[gV];kernel_rfl
theorem D7:ik (lg aa eF Φ):=by
 intro S x p hS;obtain⟨σ',e⟩:=El aa Φ S x p (VX (by assumption) ⋯);show(match bN qC cT with |some i=>lU aa Φ i [.lst (S.map cH),.str x,.int p] |none=>eF qC [.lst (S.map cH),.str x,.int p])=_;rw[show bN qC cT=some 16 by kernel_rfl];exact fJ (i:=16) nofun (vs:=[(VN "signs",.val (.lst (S.map cH))),(VN "name",.val (.str x)),(VN "place",.val (.int p))]) nofun nofun e
theorem yY:nC (lg aa eF Φ):=by
 intro t aK ts n hp hk ht hz;obtain⟨σ',e⟩:=Gm (aa:=aa) (Φ:=Φ) t aK hp ts n hk ht hz;show(match bN wU cT with |some i=>lU aa Φ i [.str (ao t),.int n] |none=>eF wU [.str (ao t),.int n])=_;rw[show bN wU cT=some 14 by kernel_rfl];exact fJ (i:=14) nofun (vs:=[(VN "text",.val (.str (ao t))),(VN "at",.val (.int n))]) nofun nofun e
theorem AW:qT (lg aa eF Φ):=by
 intro items x hx cS hi;obtain⟨σ',e⟩:=Aw (aa:=aa) (Φ:=Φ) items x hx cS hi;show(match bN pP cT with |some i=>lU aa Φ i [.lst (aq items),.str (ao x)] |none=>eF pP [.lst (aq items),.str (ao x)])=_;rw[show bN pP cT=some 19 by kernel_rfl];exact fJ (i:=19) nofun (vs:=[(VN "items",.val (.lst (aq items))),(VN "name",.val (.str (ao x)))]) nofun nofun e
theorem Al (R:List kh)(hR:∀r∈R,r.length<=1000)(x:Str)(hx:x.cps.toList.length<=20):iB aa (aS 17).name [.lst (R.map aG),.str x]=some (.bool (ga R x.cps.toList)):=by
 obtain⟨σ',e⟩:=FO (aa:=aa) (Φ:=jn aa) D7 R hR x hx;show(match bN (aS 17).name cT with |some i=>lU aa (jn aa) i [.lst (R.map aG),.str x] |none=>eF (aS 17).name [.lst (R.map aG),.str x])=_;rw[show bN (aS 17).name cT=some 17 by kernel_rfl];exact fJ (i:=17) nofun (vs:=[(VN "runs",.val (.lst (R.map aG))),(VN "name",.val (.str x))]) nofun nofun e
theorem Aq (ns:List Int):iB aa (aS 13).name [.lst (ns.map D.int)]=some (.lst ((eK ns).map dQ)):=by
 obtain⟨σ',e⟩:=z_ (aa:=aa) (Φ:=jn aa) ns;show(match bN (aS 13).name cT with |some i=>lU aa (jn aa) i [.lst (ns.map D.int)] |none=>eF (aS 13).name [.lst (ns.map D.int)])=_;rw[show bN (aS 13).name cT=some 13 by kernel_rfl];exact fJ (i:=13) nofun (vs:=[(VN "script",.val (.lst (ns.map D.int)))]) nofun nofun e
theorem An (rs:List Rl)(hr:LV rs)(ml:rs.length<=10)(W:List aw)(hW:∀w∈W,Fc w=true)(nW:W.length<=100):iB aa (aS 20).name [jz rs,nH W]=some (.lst ((cj rs W).map ft)):=by
 obtain⟨σ',e⟩:=zB (aa:=aa) (Φ:=jn aa) AW rs hr ml W hW nW;show(match bN (aS 20).name cT with |some i=>lU aa (jn aa) i [jz rs,nH W] |none=>eF (aS 20).name [jz rs,nH W])=_;rw[show bN (aS 20).name cT=some 20 by kernel_rfl];exact fJ (i:=20) nofun (vs:=[(VN "rules",.val (jz rs)),(VN "ways",.val (nH W))]) nofun nofun e
theorem J7 (a:V4)(l:List Pc)(hp:∀p∈l,p.ok)(hz:l.length<=20):iB aa (aS 8).name [.str (ao (ib l)),.opq (.ref a),.str (ao [46])]=some (.lst ((d9 l []).map (bz a))):=by
 obtain⟨σ',e⟩:=JD (aa:=aa) (Φ:=jn aa) La a l hp hz;show(match bN (aS 8).name cT with |some i=>lU aa (jn aa) i [.str (ao (ib l)),.opq (.ref a),.str (ao [46])] |none=>eF (aS 8).name [.str (ao (ib l)),.opq (.ref a),.str (ao [46])])=_;rw[show bN (aS 8).name cT=some 8 by kernel_rfl];exact fJ (i:=8) nofun (vs:=[(VN "pat",.val (.str (ao (ib l)))),(VN "STAR",.val (.opq (.ref a))),(VN "QUESTION_MARK",.val (.str (ao [46])))]) nofun nofun e
theorem J8 (a:V4)(xs:List (List Nat))(gs:List (List (List Nat)))(ho:M1 gs)(O0:xs.length<=20)(Fm:gs.length<=20)(hs:∀g∈gs,(∀y∈g,y.length<=100)/\g.length<=20/\g.flatten.length<=10000)
  (hj:∀y∈xs++gv gs,y.length<=100) (Mh:(xs++gv gs).length<=1000) (Fo:(xs++gv gs).flatten.length<=100000):iB aa (aS 9).name [.lst ((xs.map some++i6 gs).map (bz a)),.opq (.ref a)]=some (.str (ao (P4++(xs++gv gs).flatten++P3))):=by
 obtain⟨σ',e⟩:=Nk (aa:=aa) (Φ:=jn aa) a xs gs ho O0 Fm hs hj Mh Fo;show(match bN (aS 9).name cT with |some i=>lU aa (jn aa) i [.lst ((xs.map some++i6 gs).map (bz a)),.opq (.ref a)] |none=>eF (aS 9).name [.lst ((xs.map some++i6 gs).map (bz a)),.opq (.ref a)])=_;rw[show bN (aS 9).name cT=some 9 by kernel_rfl];exact fJ (i:=9) nofun (vs:=[(VN "inp",.val (.lst ((xs.map some++i6 gs).map (bz a)))),(VN "STAR",.val (.opq (.ref a)))]) nofun nofun e
theorem Ap (ts:List Tk)(hk:∀k∈ts,k.ok=true)(hz:ts.length<=20):iB aa (aS 15).name [.str (ao (P4++(bp ts++P3)))]=some (.lst [aG (dX ts)]):=by
 obtain⟨σ',e⟩:=CD (aa:=aa) (T:=T) (Φ:=jn aa) yY ts hk hz;show(match bN (aS 15).name cT with |some i=>lU aa (jn aa) i [.str (ao (P4++(bp ts++P3)))] |none=>eF (aS 15).name [.str (ao (P4++(bp ts++P3)))])=_;rw[show bN (aS 15).name cT=some 15 by kernel_rfl];exact fJ (i:=15) nofun (vs:=[(VN "text",.val (.str (ao (P4++(bp ts++P3)))))]) nofun nofun e
theorem Ao (ts:List Tk)(ms:List (List Tk))(us:List Tk)(hk:∀k∈ts,k.ok=true)(hz:ts.length<=20)(hm:∀ts∈ms,(∀k∈ts,k.ok=true)/\ts.length<=20)(NM:ms.length<=20)(hu:∀k∈us,k.ok=true)(NB:us.length<=20) :
  iB aa (aS 15).name [.str (ao (P4++(bp ts++(fU ms++(46::42::(bp us++P3))))))]=some (.lst ((dX ts::ms.map dX++[dX us]).map aG)):=by
 obtain⟨σ',e⟩:=zY (aa:=aa) (T:=T) (Φ:=jn aa) yY ts ms us hk hz hm NM hu NB;generalize hX:P4++(bp ts++(fU ms++(46::42::(bp us++P3))))=Y at *;show(match bN (aS 15).name cT with |some i=>lU aa (jn aa) i [.str (ao Y)] |none=>eF (aS 15).name [.str (ao Y)])=_;rw[show bN (aS 15).name cT=some 15 by kernel_rfl];exact fJ (i:=15) nofun (vs:=[(VN "text",.val (.str (ao Y)))]) nofun nofun e
end
section
variable {ab:V8}{w:Wi}{A:V7}{E:VQ->VP->Prop}{s:VP}
theorem H8 {T:String}{name:Str}{id:String}{B:Builtin}{self:VQ}{cC:List VQ}{Q:VQ->VP->Prop}(slot:Slot T name id)(hT:s.TypeIs self T)
  (entry:entryFor table id=some B) (args:argsOk id ⟨self::cC,[]⟩) (h:wpAny (model ab w) A.in1 (B ⟨self::cC,[]⟩) (λfin s'=>∃v,fin=.done (.ret v)/\Q v s') E s) :
  wpAny (model ab w) A (call (.builtin id) (self::cC)) Q E s :=
 XC (XM slot.plain entry (slot.check _ _ _ _ _ _ _ _ hT args
  (Wk h (λfin s' h'=>by obtain⟨v,rfl,hv⟩:=h';exact hv) λ_ _ x=>x)))
theorem pV {c:Nat}{d:V4}{f:Int->Option VQ}{y:Str}{t:Tok}{Q:Builtin.Str.Mapped->VP->Prop}(hm:s.heap.MapOf (intKind ab w) d f)(hf:f (c:Int)=some (.str y t))
  (h:∀n,Q (.text y) { s with toks:=n }):wpAny (model ab w) A (Builtin.Str.tableLookup (.ref d) c) Q E s:=by
 refine VO (wpAny_attempt (VO (wpAny_mkInt (wpAny_getItem_of (intKind_is ab w _ _) hm hf ?_))));refine VO (WC (show asInt? (.str y t)=pure none from rfl) ?_);refine VO (WC (show asStr? (.str y t)=pure (some y)from rfl) ?_);exact VR (h _)
theorem vj {c:Nat}{d:V4}{f:Int->Option VQ}{Q:Builtin.Str.Mapped->VP->Prop}(hh:A.handled=none)(hd:(d==sysModules)=false)(hm:s.heap.MapOf (intKind ab w) d f)(hf:f (c:Int)=none)
  (h:∀h' n,(∀b o,s.heap.get? b=some o->h'.get? b=some o)->Q .keep { s with heap:=h',toks:=n }):wpAny (model ab w) A (Builtin.Str.tableLookup (.ref d) c) Q E s:=by
 refine VO (wpAny_attempt (VO (wpAny_mkInt (wpAny_getItem_missing_of (intKind_is ab w _ _) hd hh hm hf λh' e x=>?_))));obtain⟨ob,t,he,hc,qk⟩:=x.there;refine VO (Yv (T:= "KeyError") (b:=true) ⟨ob,he,hc⟩ (by skip;kernel_rfl) ?_);exact VO (YV (VR (h _ _ x.keeps)))
noncomputable def C1 (l:List Nat):Str:=⟨⟨l⟩⟩
theorem JE {c:Nat}{d:V4}{tk t:Tok}{f:Int->Option VQ}{y:Str}{Q:Fin->VP->Prop}(hc:decide (c<128)=true)(hm:s.heap.MapOf (intKind ab w) d f)(hf:f (c:Int)=some (.str y t))(hy:(y.length==1)=false)(Sv:y.length<=100)
  (h:∀uK n,Q (.done (.ret (.str y uK))) { s with toks:=n }):wpAny (model ab w) A (Builtin.«str.translate» ⟨[.str (C1 [c]) tk,.ref d],[]⟩) Q E s:=by
 revert hc hm hf hy Sv h;delta ab w A E s c d tk t f y Q;intro hc hm hf hy Sv h;unfold Builtin.«str.translate»
 refine VO (WC (show Builtin.Str.strOneArg "translate" ⟨[.str (C1 [c]) tk,.ref d],[]⟩=pure (.str (C1 [c]) tk,C1 [c],.ref d)from rfl) ?_);dsimp only;rw[<- X9];show wpAny _ _ (forIn [c] _ _ >>=_) _ _ _;rw[Yd];have ju:((C1 [c]).cps.all λx=>decide (x<128))=true:=by
  show((⟨[c]⟩:Array Nat).all λx=>decide (x<128))=true;simp[of_decide_eq_true hc]
 rw[ju];refine VO (VO ?_);refine VO (pV hm hf λn=>?_);dsimp only;rw[hy,X8,if_neg ⋯];refine VO (VR ?_);refine VO (YV ?_);refine VO (pV hm hf λn=>?_);refine VR ?_;dsimp only;refine VR ?_;have NO:¬ Builtin.Str.tooLong (0+y.length)=true:=by
  unfold Builtin.Str.tooLong;rw[decide_eq_true_eq,du];lia
 rw[if_neg NO];have NS:(⟨[y].reverse.foldl (λacc p=>acc++p.cps) #[]⟩:Str)=y:=by
  show(⟨#[]++y.cps⟩:Str)=y;rw[Array.empty_append]
 rw[NS];exact VO (wpAny_mkStr (VR (h _ _)) (by rw[du];lia))
theorem FJ {c:Nat}{d:V4}{tk:Tok}{f:Int->Option VQ}{Q:Fin->VP->Prop}(hc:decide (c<128)=true)(hh:A.handled=none)(hd:(d==sysModules)=false)(hm:s.heap.MapOf (intKind ab w) d f)(hf:f (c:Int)=none)
  (h:∀h' uK n,(∀b o,s.heap.get? b=some o->h'.get? b=some o)->Q (.done (.ret (.str (C1 [c]) uK))) { s with heap:=h',toks:=n }):wpAny (model ab w) A (Builtin.«str.translate» ⟨[.str (C1 [c]) tk,.ref d],[]⟩) Q E s:=by
 revert hc hh hd hm hf h;delta ab w A E s c d tk f Q;intro hc hh hd hm hf h;unfold Builtin.«str.translate»
 refine VO (WC (show Builtin.Str.strOneArg "translate" ⟨[.str (C1 [c]) tk,.ref d],[]⟩=pure (.str (C1 [c]) tk,C1 [c],.ref d)from rfl) ?_);dsimp only;rw[<- X9];show wpAny _ _ (forIn [c] _ _ >>=_) _ _ _;rw[Yd];have ju:((C1 [c]).cps.all λx=>decide (x<128))=true:=by
  show((⟨[c]⟩:Array Nat).all λx=>decide (x<128))=true;simp[of_decide_eq_true hc]
 rw[ju];refine VO (VO ?_);refine VO (vj hh hd hm hf λh' n hk=>?_);refine VO (VR ?_);refine VR ?_;refine VR ?_;refine VO (wpAny_mkStr (VR ?_) ?_)
 ·exact h h' _ _ hk
 ·show 1<=_
  rw[du];lia
end
theorem t7 {M:Model}{A:V7}{E:VQ->VP->Prop}{s:VP}{x:Str}{t:Tok}{pl:Sem Bool}{Q:VQ×List VQ->VP->Prop}(h:Q (.builtin "str.translate",[.str x t]) s):wpAny M A (getMethod (.str x t) "translate" pl) Q E s:=by
 with_reducible exact GM.of (.str x t) (typeIs_str _ _ _) PySem.F.slot_str_translate PySem.F.type_str_translate GM.noRef h
section
variable {ab:V8}{w:Wi}{X:gJ}{Φ:b_}{hb:Wb}{mg:Str->Option VQ}{k:Nat}{A:V7}{E:VQ->VP->Prop}{af F:Fz}{ae s:VP}{env:Yq}{K:V4->Xi->Prop}{σ:az X.T}{Q:YF->VP->Prop}
theorem ii {st:V9}(hs:AG st)(h:wpAny (model ab w) A (isTrue (gF st) env (eval (gF st) env)) (λb s'=>wpAny (model ab w) A (execs (match b with |true=>cQ st |false=>bT st) env) Q E s') E s):wpAny (model ab w) A (exec st env) Q E s:=by
 cases hs;refine wpAny_If (Wk h (λb s' x=>?_) λ_ _ x=>x)
 cases b<;>exact x
theorem mr {st:V9}(hs:Dv st)(h:wpAny (model ab w) A (eval (rP st) env) (λv s'=>Q (.ret v) s') E s):wpAny (model ab w) A (exec st env) Q E s:=by
 cases hs;exact wpAny_Return_some h
theorem aI {l:List V9}{i:Nat}(hi:i<l.length)(h:wpAny (model ab w) A (exec (ak l i) env) (λf s'=>match f with | .next=>wpAny (model ab w) A (execs (l.drop (i+1)) env) Q E s' |f=>Q f s') E s):wpAny (model ab w) A (execs (l.drop i) env) Q E s:=by
 rw[oM hi];refine wpAny_execs_cons (Wk h (λf s' x=>?_) λ_ _ x=>x)
 cases f<;>exact x
theorem bY {l:List V9}{i:Nat}(hi:l.length<=i)(h:Q .next s):wpAny (model ab w) A (execs (l.drop i) env) Q E s:=by
 rw[Xb hi];exact Zb h
inductive DH (f x y:Str):Expr->Prop
 |mk {p1 p2 p3 p4}:DH f x y (.Call (.Name f p1) [.Name x p2,.Name y p3] [] p4)
theorem AI {f x y:Str}{e:Expr}(h:DH f x y e):∃p1 p2 p3 p4,e=.Call (.Name f p1) [.Name x p2,.Name y p3] [] p4:=by cases h;exact⟨_,_,_,_,rfl⟩
inductive KG (x m y:Str):Expr->Prop
 |mk {p1 aE p3 pos}:VW aE.endLine pos.line=true->KG x m y (.Call (.Attribute (.Name x p1) m aE) [.Name y p3] [] pos)
theorem Dz {x m y:Str}{e:Expr}(h:KG x m y e):∃p1 aE p3 pos,e=.Call (.Attribute (.Name x p1) m aE) [.Name y p3] [] pos/\VW aE.endLine pos.line=true:=by cases h;exact⟨_,_,_,_,rfl,by assumption⟩
theorem dk {e1 e2:Expr}{pos:X7}{Q:List VQ->VP->Prop}(h1:starEach [e1,e2] env=(false,eval e1 env)::starEach [e2] env)(h2:starEach [e2] env=(false,eval e2 env)::starEach [] env)
  (h:wpAny (model ab w) A (eval e1 env) (λv1 s1=>wpAny (model ab w) A (eval e2 env) (λv2 s2=>Q [v1,v2] s2) E s1) E s):wpAny (model ab w) A (spliced (backTo pos (starEach [e1,e2] env))) Q E s:=by
 exact wpAny_items_cons (Wk h (λv1 s1 h4=>wpAny_items_cons (Wk h4 (λv2 s2 h3=>wpAny_items_nil h3) λ_ _ x=>x) h2) λ_ _ x=>x) h1
theorem ig {e1:Expr}{pos:X7}{Q:List VQ->VP->Prop}(h1:starEach [e1] env=(false,eval e1 env)::starEach [] env)
  (h:wpAny (model ab w) A (eval e1 env) (λv1 s1=>Q [v1] s1) E s):wpAny (model ab w) A (spliced (backTo pos (starEach [e1] env))) Q E s:=by
 exact wpAny_items_cons (Wk h (λv1 s1 h2=>wpAny_items_nil h2) λ_ _ x=>x) h1
theorem qm {f:Str}{p pos:X7}{e1:Expr}{es:List Expr}{fv:VQ}{P:Wb->Prop}{Q:VQ->VP->Prop}(fj:starEach (e1::es) env=(false,eval e1 env)::starEach es env)(kE:(backTo pos (starEach (e1::es) env)).any (·.1)=false)
  (hk:∀h,P h->∃k,(k=Yj\/k=XN\/k=Xe)/\Looks (model ab w) h (keeperOf fv) k)
  (h:wpAny (model ab w) A (eval (.Name f p) env) (λv s1=>v=fv/\wpAny (model ab w) A (spliced (backTo pos (starEach (e1::es) env))) (λvs s2=>P s2.heap/\wpAny (model ab w) A (call fv vs) Q E s2) E s1) E s) :
  wpAny (model ab w) A (eval (.Call (.Name f p) (e1::es) [] pos) env) Q E s:=by
 refine Ze (Wk h (λv s1 x=>?_) λ_ _ x=>x);obtain⟨rfl,h⟩:=x;refine callWith_of (P:=P) (by rw[kE];rfl) hk ?_;have hb:backTo pos (starEach (e1::es) env)=(false,eval e1 env)::backTo pos (starEach es env):=by rw[fj];rfl
 rw[hb];refine Calls.evalArgs_plain ?_;rw[<- hb];exact Wk h (λvs s2 x=>⟨x.1,x.2⟩) λ_ _ x=>x
theorem fC {o:Expr}{m:Str}{aE pos:X7}{e1:Expr}{es:List Expr}{P:Wb->Prop}{Q:VQ->VP->Prop}(iF:attributeBase o m env (eval o env)=eval o env)(hl:VW aE.endLine pos.line=true)(hz:(e1::es).length<=9)
  (fj:starEach (e1::es) env=(false,eval e1 env)::starEach es env) (kE:(backTo pos (starEach (e1::es) env)).any (·.1)=false)
  (h:wpAny (model ab w) A (eval o env) (λv s1=>∃fv first,(∀h,P h->∃k,(k=Yj\/k=XN\/k=Xe)/\Looks (model ab w) h (keeperOf fv) k)/\(∀pl Q',Q' (fv,first) s1->wpAny (model ab w) A (getMethod v m pl) Q' E s1)/\wpAny (model ab w) A (spliced (backTo pos (starEach (e1::es) env))) (λvs s2=>P s2.heap/\wpAny (model ab w) A (call fv (first++vs)) Q E s2) E s1) E s) :
  wpAny (model ab w) A (eval (.Call (.Attribute o m aE) (e1::es) [] pos) env) Q E s:=by
 revert iF hl hz fj kE h;delta ab w A E s env o m aE pos e1 es P Q;intro iF hl hz fj kE h;rw[arm_eval_Call,iF];refine VO (Wk h (λv aR gh=>?_) λ_ _ x=>x);delta v aR;intro gh;obtain⟨fv,first,hk,HJ,QI⟩:2:=gh;refine VO (Xa ?_);have sn:methodCallForm ((e1::es).length+([]:List Keyword).length) (backTo pos (starEach (e1::es) env)) (backToKw pos (keywordEach [] env))=true:=by
  unfold methodCallForm;have e1:((backTo pos (starEach (e1::es) env)).all λx=>!x.1)=true:=by
   rw[Zm];simp only[Bool.not_not];rw[kE];rfl
  rw[e1];exact decide_eq_true (show es.length+1<30 by simp only[VY]at hz;omega)
 have kS:methodCallPos true o env aE pos=pure pos:=by
  unfold methodCallPos;have:(aE.endLine==pos.line)=true:=by rw[beq_iff_eq];exact V_ hl
  simp[this]
 unfold methodCall calleeOf;rw[sn];simp only[if_true];refine VO (Wq (HJ _ _ ?_));refine VO (WC kS ?_);refine callWith_of (P:=P) (by rw[kE];rfl) hk ?_;have hb:backTo pos (starEach (e1::es) env)=(false,eval e1 env)::backTo pos (starEach es env):=by rw[fj];rfl
 rw[hb];refine Calls.evalArgs_plain ?_;rw[<- hb];exact Wk QI (λvs s2 x=>⟨x.1,x.2⟩) λ_ _ x=>x
structure E5 (hb:Wb)(mg:Str->Option VQ):Prop where
 scm:mg (VN "_special_chars_map")=some (.ref 45)
 cm:∀(ab:V8) (w:Wi),∃f t,hb.MapOf (intKind ab w) 45 f/\f 97=none/\f 46=some (.str (ao [92,46]) t)
 isi:mg (VN "isinstance")=none
 str:mg (VN "str")=none
 obj:mg (VN "object")=none
noncomputable def X1:gJ:=Classical.choice neEx
set_option tactic.hygienic true in
theorem Ew (B:dT hb mg)(M:E5 hb mg){a:V4}{fd:Xp}(Df:il hb mg uf a fd (aZ 6) (dK 6))(hn:fd.scope.names=dZ 6):nD ab w eF hb mg 1:=by
 revert B M Df hn;delta ab w hb mg a fd;intro B M Df hn;exists f,ds,d;intro hf h;have Q8:d4 f uf=true/\∃c,(c=97\/c=46)/\ds=[.str (ao [c])]/\d=.str (ao (H0 c)):=by
  exact LJ h (λq h=>bt h λx h1 h2=>⟨q,LJ h2 (λq1 h3=>⟨97,.inl rfl,by rw[lQ h1,m_ (ce.mp q1)],(aJ h3).symm⟩) λh3=>ip h3 λq1 h4=>⟨46,.inr rfl,by rw[lQ h1,m_ (ce.mp q1)],(aJ h4).symm⟩⟩) λh=>ip h λq _=>dw q hf
 obtain⟨Q8,c,hc,rfl,rfl⟩:=Q8;delta c;intro hc h;clear hf;obtain rfl:=bl.mp Q8;obtain⟨o,ho,hd⟩:1:=Df.obj;refine⟨a,o,fd,Df.at_,ho,hd,?_⟩;exists A,F,s,vs,Q,E;intro am lv bf hv hr;refine iz (X:=X1) Df B nofun am lv bf hv ?_;exists A',E',env,aR;intro kI re ci;rw[hn]at ci;have hl:(aZ 6).length=1:=by kernel_rfl
 have HH:(cQ (ak (aZ 6) 0)).length=1:=by kernel_rfl
 have gG:=bf.keep am.fz;have hx:(⟨dZ 6,cz (dK 6) [.str (ao [c])]⟩:az X1.T).get (VN "pattern")=some (.val (.str (ao [c]))):=by kernel_rfl
 obtain⟨p1,p2,p3,p4,e0⟩:4:=AI (show DH (VN "isinstance") (VN "pattern") (VN "str") (gF (ak (aZ 6) 0)) by exact .mk);obtain⟨q1,q2,q3,q4,e1,DY⟩:4:=Dz (show KG (VN "pattern") (VN "translate") (VN "_special_chars_map") (rP (ak (cQ (ak (aZ 6) 0)) 0)) by exact .mk rfl);show wpAny _ A' (execs ((aZ 6).drop 0) env) _ _ _;have Ox:=kI.at ci;have Tc:=bf.grow ci.g.fle;refine aI ⋯ (ii ∅ ?_);rw[e0];refine Zf ?_ rfl;refine qm (fv:=.builtin "isinstance") (P:=λ_=>True) rfl rfl (λh _=>⟨.machine,.inr (.inl rfl),W0 rfl⟩) ?_;refine dn B Ox Tc ci.r nofun (.inr ⟨M.isi,by decide +kernel,by decide +kernel⟩) ⟨rfl,?_⟩;refine dk rfl rfl (cy Ox ci.r hx ?_);exists v,F1,s1;intro g1 uz;have qO:=Ox.grow g1;have Oo:=Tc.grow g1.fle;have c1:=ci.grow g1;refine dn B qO Oo c1.r nofun (.inr ⟨M.str,(show bootBuiltins (VN "str")=some (.type "str") by decide +kernel),by decide +kernel⟩) ⟨trivial,?_⟩;obtain⟨t,rfl,k1,z1⟩:=uz.str3;delta t;intro uz;refine call_isinstance_yes (T:= "str") (Tx:= "str") (typeIs_str _ _ _) nofun (by rw[XK];kernel_rfl) ?_;refine Ye ?_;show wpAny _ A' (execs ((cQ (ak (aZ 6) 0)).drop 0) env) _ _ _;refine aI ⋯ (mr ∅ ?_);rw[e1];obtain⟨fm,tm,hm,xE,UB⟩:2:=M.cm ab w;refine fC (P:=λ_=>True) rfl DY (by simp) rfl rfl ?_;refine cy qO c1.r hx ?_;exists v,F2,s2;intro g2 hZ;have ox:=qO.grow g2;have Ig:=Oo.grow g2.fle;have c2:=c1.grow g2;clear hv hx c1 uz k1 z1;cases hZ with
 |str _ t2 k2 z2 =>
  delta t2;refine⟨.builtin "str.translate",[.str (ao [c]) t2],λh _=>⟨.machine,.inr (.inl rfl),W0 rfl⟩,λpl Q' hq=>t7 hq,?_⟩;refine ig rfl ?_;have SO:=c2.r.glob (VN "_special_chars_map") nofun;refine dn B ox Ig c2.r nofun (.inl M.scm) ⟨trivial,?_⟩;have Rj:=Ig.keep ox.fz;have O8:s2.heap.MapOf (intKind ab w) 45 fm:=by
   obtain⟨o',es,ep,dM,r⟩:3:=hm;exact⟨o',es,ep,Rj _ _ dM,r⟩
  refine H8 PySem.F.slot_str_translate (typeIs_str _ _ _) PySem.F.entry_str_translate (PySem.F.args_str_translate_2 _ _) ?_;have Pj:aA F s F2 s2:=ci.g.trans (g1.trans g2);clear h ci c2;rcases hc with rfl |rfl
  ·refine FJ (c:=97) rfl (show A'.in1.handled=none from ox.hh) ⋯ O8 xE λh' uK n hk=>⟨_,rfl,?_⟩
   exact hr _ F2 _ (Pj.trans (aA.keeps Pj.fz hk n)) (.str _ _ k2 z2)
  ·refine JE (c:=46) rfl O8 UB ⋯ ⋯ λuK n=>⟨_,rfl,?_⟩
   delta uK n;exact hr _ F2 _ (Pj.trans (aA.toks Pj.fz n)) (.str _ _ (by decide +kernel) (by decide +kernel))
end
section
theorem o_:Slot "re.Pattern" "sub" "re.Pattern.sub" :=
 .of (owner:= "re.Pattern") (n:= "sub") (by rw[W9,WG];kernel_rfl) (by decide +kernel) (by decide +kernel) (by decide +kernel)
  (by first |exact .inl (by decide +kernel) |exact .inr (by decide +kernel)) (by rw[XK];kernel_rfl)
theorem BX:typeOf (.builtin "re.Pattern.sub")=pure (.type "method_descriptor"):=by show builtinType _=_;rw[builtinType_eq_fast];kernel_rfl
theorem pD:PlainAttrs "re.Pattern" :=
 ⟨⟨"object.__getattribute__",by rw[W9,WG];kernel_rfl,by decide +kernel⟩,by rw[W9,WG];kernel_rfl⟩
theorem Bk:entryFor table "re.Pattern.sub" = some Builtin.«re.Pattern.sub»:=entryFor_of_tree nofun
theorem xR:entryFor table "re.Pattern.sub.loop" = some Builtin.«re.Pattern.sub.loop»:=entryFor_of_tree nofun
theorem pB:plainId "re.Pattern.sub.loop" = true:=by decide +kernel
theorem EU (a b c:VQ):argsOk "re.Pattern.sub" ⟨[a,b,c],[]⟩:=by
 unfold argsOk;kernel_rfl
open PySem.Builtin.Re in
noncomputable def lG:Nat->Sre.M->Option Sre.M
 |0,_=>none
 |n+1,m=>match(m.runFor reTurnSteps).outcome.isSome with
  |true=>some (m.runFor reTurnSteps)
  |false=>lG n (m.runFor reTurnSteps)
section
variable {ab:V8}{w:Wi}{A:V7}{E:VQ->VP->Prop}{s:VP}
open PySem.Builtin.Re
theorem uF {m':Sre.M}{Q:Sre.M->VP->Prop}:∀(n:Nat) (m:Sre.M) (turns:Nat),n<=turns->lG n m=some m'->Q m' s->wpAny (model ab w) A (reDrive turns m) Q E s
 |0,m,turns,_,h,_=>by cases h
 |n+1,m,0,hn,h,hq=>by omega
 |n+1,m,t+1,hn,h,hq=>by
  replace h:(match(m.runFor reTurnSteps).outcome.isSome with |true=>some (m.runFor reTurnSteps) |false=>lG n (m.runFor reTurnSteps))=some m':=h;show wpAny _ A (if(m.runFor reTurnSteps).outcome.isSome=true then pure (m.runFor reTurnSteps)else(rule "sre.turn" >>=λ_=>reDrive t (m.runFor reTurnSteps))) Q E s
  cases q:(m.runFor reTurnSteps).outcome.isSome with
  |true =>
   rw[q]at h;rw[<- aJ h]at hq;rw[if_pos rfl];exact VR hq
  |false =>
   rw[q]at h;rw[if_neg ⋯];exact VO (YV (uF n _ t (by omega) h hq))
theorem zq {m m':Sre.M}{n:Nat}{Q:Option Sre.M->VP->Prop}(hn:n<=2 ^ 64)(h:lG n m=some m')(ho:m'.outcome=some .failed)(hq:Q none s):wpAny (model ab w) A (reRunToEnd m) Q E s:=by
 unfold reRunToEnd;refine VO (uF n m _ hn h ?_);refine VO (wpAny_forIn_list _ (λ_ _ s'=>s'=s) (λ_ s'=>s'=s) (λx cC b s' hs=>?_) (λb s' hs=>hs) _ _ rfl |>λz=>Wk z (λ_ s' hs=>?_) λ_ _ x=>x)
 ·clear z;subst hs
  rw[ho];exact VR hq
 ·clear hq;subst hs
  split
  ·exact VO (YV (VR rfl))
  ·exact VR rfl
noncomputable def Jo (x:Option Sre.Outcome):Bool:=match x with |none=>false |some y=>match y with | .failed=>true |_=>false
theorem Bg {x:Option Sre.Outcome}(h:Jo x=true):x=some .failed:=by
 cases x with
 |none=>exact eV h
 |some y=>cases y<;>first |rfl |exact eV h
theorem wc {st out:List Nat}(h:(st,out)∈dI):∃m',lG 60 (Sre.forSearch ⟨mW⟩ ⟨st⟩ 1 0 st.length false)=some m'/\m'.outcome=some .failed:=by
 have key:∀st∈dI.map (·.1),((lG 60 (Sre.forSearch ⟨mW⟩ ⟨st⟩ 1 0 st.length false)).elim false λm=>Jo m.outcome)=true:=by
  decide +kernel
 have:=key st (Wz.mpr ⟨(st,out),h,rfl⟩)
 cases hm:lG 60 (Sre.forSearch ⟨mW⟩ ⟨st⟩ 1 0 st.length false)with
 |none=>rw[hm]at this;exact eV this
 |some m=>rw[hm]at this;exact⟨m,rfl,Bg this⟩
structure k6 (h:Wb):Prop where
 pat:∃(o:Xi) (x0 x1:VQ) (t2 t6:Tok),h.get? 36=some o/\o.cls=.type "re.Pattern" /\ o.dict=none/\o.data=.fields #[x0,x1,.int 1 t2,.none,.none,.ref 35,.int 0 t6]
 code:∃(o:Xi) (vs:Array VQ) (n:Nat),h.get? 35=some o/\o.data=.seq vs n/\(vs.map reRawOf).map (·.toNat)=⟨mW⟩
theorem k6.keeps {h h':Wb}(p:k6 h)(k:∀b o,h.get? b=some o->h'.get? b=some o):k6 h':=by
 delta h h';intro p k;obtain⟨⟨o,x0,x1,t2,t6,a1,r1⟩,⟨o2,vs,n,a2,r2⟩⟩:=p;exact⟨⟨o,x0,x1,t2,t6,k _ _ a1,r1⟩,⟨o2,vs,n,k _ _ a2,r2⟩⟩
theorem uE {st:List Nat}{tk:Tok}{Q:ReTarget->VP->Prop}(p:k6 s.heap)(h:Q { pattern:=.ref 36,string:=.str (ao st) tk,code:=⟨mW⟩,text:=⟨st⟩,kind:=0,groups:=1,pos:=0,lim:=st.length } s) :
  wpAny (model ab w) A (reWholeTarget (.ref 36) (.str (ao st) tk)) Q E s:=by
 delta ab w A E s st tk Q;intro p h;obtain⟨⟨o,x0,x1,t2,t6,a1,c1,d1,e1⟩,⟨o2,vs,n,a2,e2,e3⟩⟩:=p;unfold reWholeTarget;refine VO (wpAny_fieldsOf a1 e1 ?_);refine VO (WC (show reTextOf (.str (ao st) tk)=pure (⟨st⟩,0)from rfl) ?_);dsimp only;rw[show reRawNat ((#[x0,x1,.int 1 t2,.none,.none,.ref 35,.int 0 t6]:Array VQ).getD 6 .none)=0 from rfl];rw[if_neg ⋯,if_neg ⋯];refine VO (WC (show reNoCollectionInside (.str (ao st) tk) 0=pure ()from rfl) ?_);refine VO ?_;unfold reRawItems;refine VO (Y2 a2 e2 ?_);refine VR (VR ?_);rw[Option.getD_some,e3];exact h
noncomputable def Ka:Xi:={ cls:=.type "list",data:=.seq #[] }
theorem FC {st out:List Nat}(fj:(st,out)∈dI){tk:Tok}{MU:VQ}{L:V4}{R:Result->VP->Prop}(p:k6 s.heap)(hL:s.heap.get? L=some Ka)
  (h:∀h' uK n,Ws L s.heap h'->R (.ok (.ret (.str (ao st) uK))) { s with heap:=h',toks:=n }) :
  codeAny (model ab w) A (.builtin "re.Pattern.sub.loop" ⟨[.ref 36,.str (ao st) tk,MU,rawInt 1,rawInt 0,rawInt 0,rawInt 0,rawInt 0,.bool false,.ref L,.bool false],[]⟩) R s:=by
 revert fj p hL h;delta ab w A s st out tk MU L R;intro fj p hL h;refine YI xR ?_;rw[V7.under_plainId pB];unfold Builtin.«re.Pattern.sub.loop»
 dsimp only[rawInt];refine VO (uE p ?_);rw[if_neg ⋯];refine VO ?_;rw[if_neg ⋯];obtain⟨m',rv⟩:=wc fj;unfold reNextFound;refine zq (n:=60) ⋯ rv.1 rv.2 ?_;have kS:0<st.length:=by
  simp only[dI,V2,Yo,Wf,or_false]at fj;clear rv;rcases fj with⟨rfl,_⟩ |⟨rfl,_⟩ |⟨rfl,_⟩ |⟨rfl,_⟩<;>decide
 have vK:st.length<=2:=by
  simp only[dI,V2,Yo,Wf,or_false]at fj;rcases fj with⟨rfl,_⟩ |⟨rfl,_⟩ |⟨rfl,_⟩ |⟨rfl,_⟩<;>decide
 dsimp only;rw[if_pos (show Int.toNat 0<st.length from kS)];have mL:(⟨(⟨st⟩:Array Nat).extract 0 st.length⟩:Str)=ao st:=by
  refine dE ?_;show((⟨st⟩:Array Nat).extract 0 st.length).toList=st;simp
 have SA:∀{Q:VQ->VP->Prop} {s:VP},(∀t n,Q (.str (ao st) t) { s with toks:=n })->wpAny (model ab w) A.in1 (reSlice ⟨st⟩ 0 (Int.toNat 0) st.length) Q (λe s'=>R (.error e) s') s:=λ{Q s} hq=>by
  unfold reSlice;rw[if_pos ⋯,show Int.toNat 0=0 from rfl,mL];exact wpAny_mkStr (hq _ _) (by rw[du];show st.length<=_;omega)
 refine VO (SA ?_);exists t1,n1;refine VO (wpAny_updateSeq (n:=0) hL rfl ?_ ⋯ (by rw[du];exact(by decide:(1:Nat)<=16777216+1)));have SY:∀{h':Wb},h'=s.heap.update L (Xi.mapSeq λx=>x.push (.str (ao st) t1))->h'.get? L=some { cls:=.type "list",data:=.seq #[.str (ao st) t1] 1 }:=λ{h'} e=>by
  rw[e,XA _ hL rfl];rfl
 have N2:=SY rfl;have aY:Ws L s.heap (s.heap.update L (Xi.mapSeq λx=>x.push (.str (ao st) t1))):=Wx ..
 show wpAny _ _ _ _ _ ({ s with heap:=s.heap.update L (Xi.mapSeq λx=>x.push (.str (ao st) t1)),toks:=n1 }:VP);generalize s.heap.update L (Xi.mapSeq λx=>x.push (.str (ao st) t1))=h' at N2 aY;delta h';intro N2 aY;have Mi:(⟨(⟨st⟩:Array Nat).extract 0 0⟩:Str)=ao []:=by
  refine dE ?_;show((⟨st⟩:Array Nat).extract 0 0).toList=[];simp
 refine VO ?_;unfold reSlice;rw[if_pos ⋯,Mi];refine wpAny_mkStr ?_ (by rw[du];exact W7 _);refine VO (Y2 N2 rfl ?_);rw[if_neg (show ¬ ((some #[Yy (ao st) t1]).getD #[]).isEmpty=true from by intro q;clear fj h kS vK mL SA SY N2 Mi;cases q)];rw[if_pos (show((0:Nat)==0)=true by decide)];refine VO (join_list (ys:=[ao st]) ⟨_,N2,rfl,_,rfl⟩ (.cons _ _ .nil) ?_ λt' k=>?_)
 ·show st.length<=_
  omega
 ·rw[if_neg ⋯]
  have:Txt.join (ao []) [ao st]=ao st:=by rw[yE];rfl
  rw[this];exact VR (h _ _ _ aY)
theorem Jx {st out:List Nat}(fj:(st,out)∈dI){tk:Tok}{f:V4}{o:Xi}{Q:VQ->VP->Prop}(p:k6 s.heap)(hf:s.heap.get? f=some o)(hc:o.cls=.type "function")
  (h:∀h' uK n,(∀b o,s.heap.get? b=some o->h'.get? b=some o)->Q (.str (ao st) uK) { s with heap:=h',toks:=n }) :
  wpAny (model ab w) A (call (.builtin "re.Pattern.sub") [.ref 36,.ref f,.str (ao st) tk]) Q E s:=by
 revert fj p hf hc h;delta ab w A E s st out tk f o Q;intro fj p hf hc h;have hT:s.TypeIs (.ref 36) "re.Pattern" :=by
  obtain⟨⟨o,x0,x1,t2,t6,a1,c1,d1,e1⟩,_⟩:=p;delta o x0 x1 t2 t6;intro a1 c1 d1 e1;exact⟨o,a1,c1⟩
 refine XC (XM o_.plain Bk (o_.check _ _ _ _ _ _ _ _ hT (EU _ _ _) ?_));show wpAny _ A.in1 (reSubstitute "re.Pattern.sub" "sub" false ⟨[.ref 36,.ref f,.str (ao st) tk],[]⟩) _ _ s;unfold reSubstitute;dsimp only;refine VO (WC (show reNamed "re.Pattern.sub" "sub" ["repl", "string", "count"] 2 [.ref f,.str (ao st) tk] []=pure [some (.ref f),some (.str (ao st) tk),none] by kernel_rfl) ?_);dsimp only;refine VO (VR ?_);refine VO (wpAny_specialOf (T:= "function") (r:=some (.builtin "function.__call__")) ⟨o,hf,hc⟩ (by rw[W9,WG];kernel_rfl) ?_);rw[if_pos (show(some (VQ.builtin "function.__call__")).isSome=true from rfl)];refine VO (VR ?_);rw[if_pos (show(some (VQ.builtin "function.__call__")).isSome=true from rfl)];refine VO (VR ?_);dsimp only;refine VO (Wq (uE p ?_));rw[if_pos ⋯];refine VO ?_;unfold reNotHeld;refine VO (Yv (T:= "str") (b:=false) (typeIs_str _ _ _) (by rw[XK];kernel_rfl) ?_);rw[if_neg ⋯];refine VR ?_;refine VO (wpAny_newList ?_);refine VR ⟨plainId_quiet pB _,?_⟩;refine FC (R:=wants Q E) fj (p.keeps λb o e=>V5 _ e) (Wc _ rfl) λh' uK n hs=>?_
 refine h h' uK n λb o e=>?_
 have hb:b≠s.heap.objs.size:=by
  rintro rfl;rw[bu]at e;exact bg e
 exact hs.extBut b o hb (V5 _ e)
theorem Ae {nm:bc}{x m:Str}{args:List Expr}{y:Expr}(h:yo nm x m args=some y):∃ps b sc pos,args=[.Lambda ps b sc pos,y]/\x=dy/\fW nm dy=true/\m.cps.toList=[115,117,98]/\ps.defaults=[]/\ps.kw_defaults=[]/\m0 sc.names=true:=by
 delta nm x m args y;intro h;cases args with
 |nil=>exact bg h
 |cons e r=>delta e r;intro h;cases r with
  |nil=>exact bg h
  |cons y r=>delta y r;intro h;cases r with
   |cons=>exact bg h
   |nil=>cases e with
    |Lambda ps b sc pos =>
     delta ps b sc pos;intro h;refine ip h λq h=>?_
     obtain rfl:=aJ h;obtain⟨q,qb⟩:=VU.mp q;obtain⟨q,q3⟩:=VU.mp q;obtain⟨q1,q2⟩:=VU.mp q;obtain⟨q,q6⟩:=VU.mp qb;obtain⟨q4,q5⟩:=VU.mp q;replace q2:=bl.mp q2;obtain rfl:=q2;exact⟨ps,b,sc,pos,rfl,rfl,q1,ce.mp q3,List.isEmpty_iff.mp q4,List.isEmpty_iff.mp q5,q6⟩
    |_=>exact bg h
end
section
variable {ab:V8}{w:Wi}{X:gJ}{hb:Wb}{mg:Str->Option VQ}{k:Nat}
theorem Ku (B:dT hb mg){A:V7}{E:VQ->VP->Prop}{F:Fz}{s:VP}{env:Yq}{an:Wb}{σ:az X.T}{ps:Zk}{b:Expr}{sc:YB}{pos:X7}{Q:VQ->VP->Prop}(am:Am A F s)(bf:au hb F)(r:cW X an F env σ s.heap)(yW:fW σ.nm dy=true)
  (hd:ps.defaults=[]) (BG:ps.kw_defaults=[]) (kX:m0 sc.names=true) (h:∀f o s',aA F s F s'->s'.heap.get? f=some o->o.cls=.type "function" -> Q (.ref f) s'):wpAny (model ab w) A (eval (.Lambda ps b sc pos) env) Q E s:=by
 have gG:=bf.keep am.fz;obtain⟨ot,Q_,pt,rfl,QG⟩:=am.tab;have nl:closureFor sc env=pure []:=by
  simp only[closureFor];rw[forIn_yield_id [] (λx hx c=>by
   obtain⟨n,kind⟩:=x;have:(kind==W_)=false:=by
    refine beq_eq_false_iff_ne.mpr ?_;rintro rfl;exact pK kX hx
   simp only[this,WY,if_false])]
  rfl
 have UO:defaultsOf ps env=([],[]):=by
  obtain⟨a1,a2,a3,a4,a5,a6,a7⟩:=ps;simp only at hd BG;subst hd BG;rfl
 have NY:s.heap.BuiltinsAt mg PL:=by
  obtain⟨bm,ob,Fy⟩:=B.bm;exact⟨bm,ob,Fy.1,Fy.2.1,Fy.2.2.1,Fy.2.2.2.1,gG _ _ Fy.2.2.2.2.1,Fy.2.2.2.2.2⟩
 refine kla_eval UO ?_
 cases hca:codeAmong pos pt.toList with
 |some cv =>
  refine kla_makeFunctionHit (mg:=mg) nl r.fe.globals (B.g.keeps gG) (r.cd yW) (B.chd.keeps gG) Q_ QG hca NY λU7 h' tk hk hsz=>?_
  have g1:aA F s F { s with heap:=h',toks:=tk }:=aA.keeps am.fz hk tk;exact h _ _ _ (g1.trans (aA.push0 g1.fz _ tk)) (Wc _ rfl) rfl
 |none =>
  refine kla_makeFunction (mg:=mg) nl r.fe.globals (B.g.keeps gG) (r.cd yW) (B.chd.keeps gG) Q_ QG hca ⋯ NY λc' U7 h' tk hx Pe lK Ur Uj=>?_
  have g1:aA F s F { s with heap:=h',toks:=tk }:=by
   refine⟨F.le_refl,λa o n e=>hx a o n e,λo e=>?_,λa o e=>hx a o ?_ (am.fz _ _ e),λ_ _ e=>.inl e,rfl,rfl⟩
   ·obtain rfl:=cG Q_ e
    refine⟨_,Uj,λ_=>⟨_,rfl,?_⟩⟩;rw[Ys];exact TriplesOk_snoc _ _ _ _ QG
   ·rintro rfl
    rw[am.pl]at e;exact bg e
  exact h _ _ _ (g1.trans (aA.push0 g1.fz _ tk)) (Wc _ rfl) rfl
theorem Lg {M:Model}{A:V7}{E:VQ->VP->Prop}{s:VP}{a:V4}{pl:Sem Bool}{Q:VQ×List VQ->VP->Prop}(hT:s.TypeIs (.ref a) "re.Pattern")(hd:∀b,Xg a=.ref b->∃ob,s.heap.get? b=some ob/\ob.dict=none)(h:Q (.builtin "re.Pattern.sub",[.ref a]) s):wpAny M A (getMethod (.ref a) "sub" pl) Q E s:=by
 with_reducible exact getMethod_builtin hT pD o_ BX hd h
set_option tactic.hygienic true in
theorem kl (B:dT hb mg)(K0:mg dy=some (.ref 36))(P:k6 hb):sJ ab w X eF hb k:=by
 revert B K0 P;revert ab w hb mg k;unfold X;exists ab,w,hb,mg,k;intro B K0 P;exists A,E,F,s,env,an,σ,x,m,p,aE,pos,args,y,d,r,Q;intro hy hp hl am lv bf L6 Su fj h;obtain⟨ps,b,sc,GS,rfl,rfl,uB⟩:=Ae hy;delta ps b sc GS;intro uB hy;obtain⟨st,out,AQ,rfl,rfl⟩:∃st out,(st,out)∈dI/\d=.str (ao st)/\r=.str (ao st):=by
  refine LJ hp (λq _=>dw q nofun) λh=>ip h λ_ h=>bt h λx h1 h2=>ip h2 λq h3=>?_
  obtain⟨⟨st,out⟩,z1,z2⟩:=Yz.mp q;have hx:x=ao st:=m_ (ce.mp z2).symm;exact⟨st,out,z1,by rw[<- hx];exact(List.cons.inj (lQ h1)).1,by rw[<- hx];exact(aJ h3).symm⟩
 delta st out;intro AQ Su h hp;have KZ:m= "sub" :=by
  have h2:(VN "sub").cps.toList=[115,117,98]:=by decide +kernel
  exact dE (uB.2.1.trans h2.symm)
 clear hy;subst KZ;have gG:=bf.keep am.fz;have kE:(backTo pos (starEach [.Lambda ps b sc GS,y] env)).any (·.1)=false:=by
  have:starEach [.Lambda ps b sc GS,y] env=(false,eval (.Lambda ps b sc GS) env)::starEach [y] env:=rfl;rw[this,fj];rfl
 refine fC (P:=λ_=>True) rfl hl (by simp) rfl kE ?_;refine Calls.Name_function_global L6.fe.kind (L6.glob dy uB.1) ?_ (i8 L6.fe (L6.glob dy uB.1));refine Calls.loadGlobal_global (by rw[L6.fe.globals];exact B.g.keeps gG) K0 ?_;have hT:∀{s:VP},k6 s.heap->s.TypeIs (.ref 36) "re.Pattern" /\ ∀b,Xg 36=.ref b->∃ob,s.heap.get? b=some ob/\ob.dict=none:=λ{s} p=>by
  delta s;intro p;obtain⟨⟨o,x0,x1,t2,t6,a1,c1,d1,e1⟩,_⟩:=p;exact⟨⟨o,a1,c1⟩,λb e=>by cases e;exact⟨o,a1,d1⟩⟩
 have hP:=P.keeps gG;refine⟨.builtin "re.Pattern.sub",[.ref 36],λh _=>⟨.machine,.inr (.inl rfl),W0 rfl⟩,λpl Q' hq=>Lg (hT hP).1 (hT hP).2 hq,?_⟩;refine dk rfl (by rw[fj];rfl) (Ku B am bf L6 uB.1 uB.2.2.1 uB.2.2.2.1 uB.2.2.2.2 ?_);exists f,o,s1;intro g1 hf hc;have qO:=am.grow g1;refine Su s1 _ g1 λv F2 s2 g2 hv=>⟨trivial,?_⟩
 delta v F2 s2;intro g2 hv;obtain⟨t,rfl,k1,z1⟩:=hv.str3;delta t;intro hv;have UM:s2.heap.get? f=some o:=g2.keepC qO.tab hf (by rw[hc];intro q;cases q);have ox:=qO.grow g2;refine Jx AQ (P.keeps (au.keep (bf.grow g2.fle) ox.fz)) UM hc λh' uK n hk=>?_
 exact h _ F2 _ ((g1.trans g2).trans (aA.keeps g2.fz hk n)) (.str _ _ k1 z1)
end
end
noncomputable def bU:List gk->List (List Nat)×List (List (List Nat))
 |[]=>([],[])
 |none::r=>([],(bU r).1::(bU r).2)
 |some x::r=>(x::(bU r).1,(bU r).2)
theorem mQ:∀P:List gk,P=(bU P).1.map some++i6 (bU P).2
 |[]=>rfl
 |none::r=>by
  show none::r=i6 ((bU r).1::(bU r).2);rw[kq,<- mQ r]
 |some x::r=>by
  exact congrArg (some x::·) (mQ r)
noncomputable def gL (l:List Pc):List Nat:=P4++((bU (d9 l [])).1++gv (bU (d9 l [])).2).flatten++P3
noncomputable def sT (x:List Nat):Tk:=match x with
 |[46]=>.any
 |[92,c]=>.es c
 |91::94::r=>.br true r.dropLast
 |91::r=>.br false r.dropLast
 |c::_=>.pl c
 |[]=>.any
noncomputable def rX:List (List (List Nat))->List (List Tk)
 |[]=>[]
 |[_]=>[]
 |g::h::r=>g.map sT::rX (h::r)
noncomputable def v_:List (List (List Nat))->List Tk
 |[]=>[]
 |[g]=>g.map sT
 |_::h::r=>v_ (h::r)
noncomputable def eJ (l:List Pc):List kh:=match(bU (d9 l [])).2 with
 |[]=>[dX ((bU (d9 l [])).1.map sT)]
 |gs=>dX ((bU (d9 l [])).1.map sT)::(rX gs).map dX++[dX (v_ gs)]
noncomputable def B5 (l:List Pc):List Nat:=match(bU (d9 l [])).2 with
 |[]=>P4++(bp ((bU (d9 l [])).1.map sT)++P3)
 |gs=>P4++(bp ((bU (d9 l [])).1.map sT)++(fU (rX gs)++(46::42::(bp (v_ gs)++P3))))
noncomputable def GH:List (List (List Nat))->Bool
 |[]=>true
 |[_]=>true
 |g::h::r=>!g.isEmpty&&GH (h::r)
theorem CR:∀{gs:List (List (List Nat))},GH gs=true->M1 gs
 |[],_=>trivial
 |[_],_=>trivial
 |g::h::r,k=>by
  replace k:(!g.isEmpty&&GH (h::r))=true:=k;rw[V3,Wv]at k;exact⟨(by rintro rfl;cases k.1),CR k.2⟩
noncomputable def oX (ts:List Tk):Bool:=ts.all Tk.ok&&Wm ts.length 3
noncomputable def qo (l:List Pc):Bool :=
 let X:=(bU (d9 l [])).1
 let G:=(bU (d9 l [])).2
 GH G&&Wm X.length 3&&Wm G.length 3&&G.all (λg=>g.all (λy=>Wm y.length 10)&&Wm g.length 3)&&(X++gv G).all (λy=>Wm y.length 50)&&Wm (X++gv G).length 6 && gu (gL l) (B5 l)&&oX (X.map sT)&&(rX G).all oX&&oX (v_ G)&&Wm (rX G).length 3
noncomputable def l_:List Pc:=[.star,.q,.ch 97,.ch 46,.br 0,.br 1,.br 2,.br 3]
theorem N8:(l_.all λa=>qo [a])=true:=by decide +kernel
theorem N7:(l_.all λa=>l_.all λb=>qo [a,b])=true:=by decide +kernel
theorem N6:(l_.all λa=>l_.all λb=>l_.all λc=>qo [a,b,c])=true:=by decide +kernel
theorem Dl {p:Pc}(h:p.ok):p∈l_:=by
 cases p with
 |star=>exact .head _
 |q=>exact .tail _ (.head _)
 |ch c=>exact h.elim (λe=>e▸.tail _ (.tail _ (.head _))) λe=>e▸.tail _ (.tail _ (.tail _ (.head _)))
 |br k=>exact OV (P:=λk=>Pc.br k∈l_) (.tail _ (.tail _ (.tail _ (.tail _ (.head _))))) (.tail _ (.tail _ (.tail _ (.tail _ (.tail _ (.head _)))))) (.tail _ (.tail _ (.tail _ (.tail _ (.tail _ (.tail _ (.head _))))))) (.tail _ (.tail _ (.tail _ (.tail _ (.tail _ (.tail _ (.tail _ (.head _)))))))) h
theorem qn {l:List Pc}(h:∀p∈l,p.ok)(h1:l≠[])(h3:l.length<=3):qo l=true:=by
 delta l;intro h h1 h3;have k:∀p∈l,p∈l_:=λp q=>Dl (h p q)
 clear h;induction l with
 |nil=>exact absurd rfl h1
 |cons a l _ =>
  delta a l;intro iU h1 h3 k;have ka:=Wp.mp N8 a (k a VT);clear h1;induction l with
  |nil=>exact ka
  |cons b l _ =>
   delta b l;intro _ iU h3 k;have kb:=Wp.mp (Wp.mp N7 a (k a VT)) b (k b (VS _ VT));clear ka;induction l with
   |nil=>exact kb
   |cons c l _ =>
    delta c l;intro _ _ iU h3 k;have kc:=Wp.mp (Wp.mp (Wp.mp N6 a (k a VT)) b (k b (VS _ VT))) c (k c (VS _ (VS _ VT)));clear kb k;induction l with
    |nil=>exact kc
    |cons d l _=>exact absurd (WQ (WQ (WQ h3))) (Nat.not_succ_le_zero _)
noncomputable def jL (item:Nat):Pc:=match item with
 |0=>.ch 97
 |1=>.star
 |2=>.ch 46
 |3=>.br 0
 |4=>.q
 |5=>.br 1
 |6=>.br 2
 |7=>.star
 |_=>.br 3
noncomputable def rV:List (List Nat):=[[97],[42],[]]
noncomputable def bG:List aw:=rV.map (λx=>[x])++rV.flatMap λx=>rV.map λy=>[x,y]
noncomputable def zn (items:List Nat):Bool:=bG.all λw=>ga (eJ (items.map jL)) (d5 w)==pQ items (d5 w)
noncomputable def q_:List Nat:=[0,1,2,3,4,5,6,7,8]
theorem LS:(q_.all λa=>zn [a])=true:=by decide +kernel
theorem LR:(q_.all λa=>q_.all λb=>zn [a,b])=true:=by decide +kernel
theorem LQ (a:Nat)(ha:a∈q_):(q_.all λb=>q_.all λc=>zn [a,b,c])=true:=by
 delta a;intro ha;simp only[q_,V2,Wf,or_false]at ha;rcases ha with rfl |rfl |rfl |rfl |rfl |rfl |rfl |rfl |rfl<;>decide +kernel
theorem pO:mroOf (.type "object")=pure [.type "object"]:=by rw[mroOf_type];kernel_rfl
theorem lZ:typeLookup (.type "object") "__new__" = pure (some (.builtin "object.__new__")):=by rw[W9,WG];kernel_rfl
theorem mR:Slot "object" "__init__" "object.__init__" :=
 .of (owner:= "object") (n:= "__init__") (by rw[W9,WG];kernel_rfl) (by decide +kernel) (by decide +kernel) (by decide +kernel)
  (by first |exact .inl (by decide +kernel) |exact .inr (by decide +kernel)) (by rw[XK];kernel_rfl)
theorem bI:TypeCalled "object" "object.__new__" "object.__init__" :=
 ⟨by decide +kernel,by decide +kernel,⟨_,_,pO⟩,madeBy_type pO lZ (by decide +kernel),by decide +kernel,by rw[XK];kernel_rfl,mR⟩
theorem typeCall_object_0:checkTypeCall "object" ⟨[],[]⟩=pure ():=by kernel_rfl
theorem newCall_object_0:checkBuiltinCall "object.__new__" ⟨[.type "object"],[]⟩=pure ():=by kernel_rfl
theorem iA:plainId "object.__new__" = true:=by decide +kernel
theorem mC:entryFor table "object.__init__" = some Builtin.«object.__init__»:=entryFor_of_tree nofun
section
variable {ab:V8}{w:Wi}{A:V7}{E:VQ->VP->Prop}{s:VP}
theorem ov {Q₁:VQ->VP->Prop}(h:Q₁ (.ref s.heap.objs.size) { s with heap:=s.heap.push { cls:=.type "object" } }) :
  codeAny (model ab w) A (.call (.builtin "object.__new__") ⟨[.type "object"],[]⟩) (wants Q₁ E) s:=by
 delta ab w A E s Q₁;intro h;refine Yc ?_;show wpAny _ A.in1 (do checkBuiltinCall "object.__new__" ⟨[.type "object"],[]⟩;again (.builtin "object.__new__" ⟨[.type "object"],[]⟩)) _ _ s;refine VO (WC newCall_object_0 (VR ⟨plainId_quiet iA _,YI PySem.F.objNew.entry ?_⟩));rw[V7.under_plainId iA _];unfold Builtin.«object.__new__»
 have DX:=bI.made;dsimp only;have HI:isType (.type "object")=pure true:=by kernel_rfl
 refine VO (WC HI ?_);rw[if_neg ⋯];have Uy:¬ ((Manifest.find? "object").elim false (·.mro.any λt=>(Manifest.find? t).elim false (·.noNew)))=true:=by decide +kernel
 rw[if_neg Uy];have UA:Bind.madeHere "object.__new__" (.type "object")=pure ():=by
  unfold Bind.madeHere;have:Bind.staticBase (.type "object")=pure (.type "object"):=by kernel_rfl
  rw[this];show(do let r <- Bind.madeBy (.type "object");_)=_;rw[DX];kernel_rfl
 refine VO (WC UA ?_);rw[if_neg ⋯];rw[if_neg (show ¬ typeHasDict (.type "object")=true by decide +kernel)];refine VO (VR ?_);refine VO ?_;simp -iota only[newObj];refine VO (wpAny_alloc (VR ?_));rw[if_neg (show ¬ diesByItsTypesDel "object" = true by decide +kernel)];exact VR h
set_option maxHeartbeats 1000000 in
theorem call_object_0 {Q:VQ->VP->Prop}(h:Q (.ref s.heap.objs.size) { s with heap:=s.heap.push { cls:=.type "object" } }) :
  wpAny (model ab w) A (call (.type "object") []) Q E s:=by
 delta ab w A E s Q;intro h;obtain⟨c,tl,QW⟩:2:=bI.mro;have DX:=bI.made;have tU:=bI.sub;refine XC (Yc ?_);show wpAny _ _ (callAny (.type "object") _) _ _ _;refine VR ⟨Code.quiet_builtin _ (by decide +kernel),YI PySem.F.entry_type_call ?_⟩;rw[V7.under_plain (weight_type_call_type "object" [] []) rfl];have h1:=bI.notType;have h2:=bI.canCreate;have UP:=typeCall_object_0
 repeat (any_goals (first |assumption |wp_step))
 refine codeAny_mono (ov (E:=E) (Q₁:=λobj aR=>obj=.ref s.heap.objs.size/\aR={ s with heap:=s.heap.push { cls:=.type "object" } }) ⟨rfl,rfl⟩) ?_;exists r,aR;intro hr;cases r with
 |error e=>exact hr
 |ok fl =>
  delta fl;intro hr;cases fl with
  |ret obj =>
   delta obj;intro hr;obtain⟨rfl,rfl⟩:=hr;have hS:(s.heap.push { cls:=.type "object" }).get? s.heap.objs.size=some { cls:=.type "object" }:=Wc _ rfl;have hT:VP.TypeIs { s with heap:=s.heap.push { cls:=.type "object" } } (.ref s.heap.objs.size) "object" :=⟨_,hS,rfl⟩;have UC:=bI.init.lookup;have UR:=bI.init.bind (.ref s.heap.objs.size)
   repeat (any_goals (first |assumption |wp_step))
   refine codeAny_mono (XM (R:=wants (λr kL=>r=.none/\Q (.ref s.heap.objs.size) kL) E) bI.init.plain mC (bI.init.check _ _ _ _ _ _ _ _ hT (by unfold argsOk;kernel_rfl) ?_)) λCB kL jU=>?_
   ·unfold Builtin.«object.__init__»
    wp_walk
    exact⟨rfl,h⟩
   ·delta CB kL;intro jU;cases CB with
    |error e=>exact jU
    |ok vX =>
     delta vX;intro jU;cases vX with
     |ret r =>
      obtain⟨rfl,hq⟩:=jU
      repeat (any_goals (first |assumption |wp_step))
     |_=>exact jU.elim
  |_=>exact hr.elim
end
theorem Lv.le {A:V7}{k k':Nat}(h:Lv A k')(hk:k<=k'):Lv A k:=⟨by have:=h.d;lia,by have:=h.u;lia⟩
section
variable {ab:V8}{w:Wi}{X:gJ}{Φ:b_}{hb:Wb}{mg:Str->Option VQ}{k k':Nat}
theorem nD.le (h:nD ab w Φ hb mg k)(hk:k<=k'):nD ab w Φ hb mg k':=λf ds d hf e=>by
 revert h hk hf e;delta ab w Φ hb mg k k' f ds d;intro h hk hf e;obtain⟨a,o,fd,rv⟩:3:=h f ds d hf e;exact⟨a,o,fd,rv.1,rv.2.1,rv.2.2.1,λA F s vs Q E am lv=>rv.2.2.2 A F s vs Q E am (lv.le hk)⟩
theorem hU.le (h:hU ab w X hb k)(hk:k<=k'):hU ab w X hb k':=λt m ds d e=>by
 obtain⟨a,o,fd,rv⟩:=h t m ds d e;exact⟨a,o,fd,rv.1,rv.2.1,rv.2.2.1,λA F s v O vs Q E at_ am lv=>rv.2.2.2 A F s v O vs Q E at_ am (lv.le hk)⟩
end
structure kj (hb:Wb)(mg:Str->Option VQ):Prop where
 B:dT hb mg
 D:E9 hb mg
 M:E5 hb mg
 esc:∃a fd,il hb mg uf a fd (aZ 6) (dK 6)/\fd.scope.names=dZ 6
 twin:mg dy=some (.ref 36)
 pat:k6 hb
 tr:∃a fd,il hb mg (aS 3).name a fd (aZ 3) (dK 3)/\fd.scope.names=dZ 3
section
variable {ab:V8}{w:Wi}{X:gJ}{hb:Wb}{mg:Str->Option VQ}
noncomputable abbrev gy (ab:V8)(w:Wi)(X:gJ)(Φ:b_)(hb:Wb)(k:Nat):Prop:=∀n,cR ab w X Φ hb k n/\eP ab w X Φ hb k n
theorem xH (H:kj hb mg):nD ab w eF hb mg 1:=by
 obtain⟨a,fd,R3⟩:=H.esc;exact Ew H.B H.M R3.1 R3.2
theorem MM (H:kj hb mg)(XO:hU ab w X hb 1):gy ab w X eF hb 1:=pi H.B (xH H) (kl H.B H.twin H.pat) XO
theorem Lf (H:kj hb mg)(XO:hU ab w X hb 1):nD ab w (jn X.aa) hb mg 2:=sr H.B H.D ((xH H).le ⋯) (MM H XO)
theorem ML (H:kj hb mg)(XO:hU ab w X hb 1):gy ab w X (jn X.aa) hb 2:=pi H.B (Lf H XO) (lw (kl H.B H.twin H.pat) gV) (XO.le ⋯)
theorem D9 (H:kj hb mg)(XO:hU ab w X hb 1):nD ab w (iB X.aa) hb mg 3:=sr H.B H.D ((xH H).le ⋯) (ML H XO)
theorem MK (H:kj hb mg)(XO:hU ab w X hb 1):gy ab w X (iB X.aa) hb 3:=pi H.B (D9 H XO) (lw (kl H.B H.twin H.pat) gV) (XO.le ⋯)
inductive yN (x f:Str):V9->Prop
 |mk {p1 p2 p3 p4}:yN x f (.Assign [.Name x p1] (.Call (.Name f p2) [] [] p3) p4)
theorem sj {x f:Str}{st:V9}(h:yN x f st):∃p1 p2 p3 p4,st=.Assign [.Name x p1] (.Call (.Name f p2) [] [] p3) p4:=by induction h;exact⟨_,_,_,_,rfl⟩
theorem lu {A:V7}{E:VQ->VP->Prop}{s:VP}{env:Yq}{f:Str}{p pos:X7}{fv:VQ}{P:Wb->Prop}{Q:VQ->VP->Prop}(hk:∀h,P h->∃k,(k=Yj\/k=XN\/k=Xe)/\Looks (model ab w) h (keeperOf fv) k)
  (h:wpAny (model ab w) A (eval (.Name f p) env) (λv s1=>v=fv/\P s1.heap/\wpAny (model ab w) A (call fv []) Q E s1) E s):wpAny (model ab w) A (eval (.Call (.Name f p) [] [] pos) env) Q E s:=by
 refine Ze (Wk h (λv s1 x=>?_) λ_ _ x=>x);obtain⟨rfl,hp,h⟩:=x;refine callWith_of (P:=P) rfl hk ?_;exact evalArgs_kw_nil rfl (wpAny_evalAll_nil ⟨hp,h⟩)
theorem MD {Φ:b_}{k:Nat}(B0:dT hb mg)(M:E5 hb mg){a:V4}{fd:Xp}(Df:il hb mg (aS 3).name a fd (aZ 3) (dK 3))(hn:fd.scope.names=dZ 3)(S:gy ab w X Φ hb k){x y:List Nat}
  (h1:∀st:V4,∃σ',aW X.aa Φ 30 5 (⟨dZ 3,[(VN "pat",.val (.str (ao x))),(VN "STAR",.val (.opq (.ref st)))]⟩:az X.T) ((aZ 3).drop 1)=some (σ',.ret (.str (ao y))))
  (A:V7) (F:Fz) (s:VP) (vs:List VQ) (Q E:VQ->VP->Prop) (am:Am A F s) (lv:Lv A (k+1)) (bf:au hb F) (hv:al F vs [.str (ao x)]) (hr:Rt F s (.str (ao y)) Q):wpAny (model ab w) A (call (.ref a) vs) Q E s:=by
 refine iz (X:=X) Df B0 nofun am lv bf hv λA' E' env aR kI re ci=>?_
 rw[hn]at ci;have hl:(aZ 3).length=3:=by kernel_rfl
 have Ox:=kI.at ci;obtain⟨p1,p2,p3,p4,e0⟩:=sj (show yN (VN "STAR") (VN "object") (ak (aZ 3) 0) by exact .mk);show wpAny _ A' (execs ((aZ 3).drop 0) env) _ _ _;refine aI ⋯ ?_;rw[e0];refine W2 ?_ (by rfl);refine lu (fv:=.type "object") (P:=λ_=>True) (λh _=>⟨.machine,.inr (.inl rfl),W0 rfl⟩) ?_;refine dn B0 Ox (bf.grow ci.g.fle) ci.r nofun (.inr ⟨M.obj,(show bootBuiltins (VN "object")=some (.type "object") by decide +kernel),by decide +kernel⟩) ⟨rfl,trivial,?_⟩;refine call_object_0 ?_;have c1:=ci.grow (aA.push0 ci.g.fz { cls:=.type "object" } aR.toks);refine gN c1 (d:=.opq (.ref aR.heap.objs.size)) nofun (.opq _) λs2 c2=>?_
 obtain⟨σ',he⟩:=h1 aR.heap.objs.size;have fM:(⟨dZ 3,cz (dK 3) [.str (ao x)]⟩:az X.T).set (VN "STAR") (.val (.opq (.ref aR.heap.objs.size)))=⟨dZ 3,[(VN "pat",.val (.str (ao x))),(VN "STAR",.val (.opq (.ref aR.heap.objs.size)))]⟩:=by kernel_rfl
 rw[fM]at c2;exact km S kI re bf 5 E' (λ_ _=>False) _ _ σ' s2 _ (.ret (.str (ao y))) _ he c2 λF' s' fl c' l o=>by
  cases o with
  |ret HC=>exact hr _ F' s' c'.g HC
end
section
variable {T:Type}{aa:T->Str->List D->Option D}
theorem dP {α:Type}{l:List α}{p:α->Bool}(h:l.all p=true):∀x∈l,p x=true:=Wp.mp h
theorem qy {l:List (List Nat)}{m:Nat}(h:∀y∈l,y.length<=m):l.flatten.length<=l.length*m:=by
 induction l with
 |nil=>simp
 |cons a r ih =>
  have:=ih λy hy=>h y (VS _ hy)
  have:=h a VT;rw[YR,V1,VY,Nat.add_mul];lia
theorem pE (a:V4){l:List Pc}(hp:∀p∈l,p.ok)(h1:l≠[])(h3:l.length<=3) :
  iB aa (aS 8).name [.str (ao (ib l)),.opq (.ref a),.str (ao [46])]=some (.lst ((d9 l []).map (bz a)))/\iB aa (aS 9).name [.lst ((d9 l []).map (bz a)),.opq (.ref a)]=some (.str (ao (gL l))):=by
 revert hp h1 h3;revert aa a l;unfold T;exists aa,a,l;intro hp h1 h3;refine⟨J7 a l hp (VX (by assumption) ⋯),?_⟩;have g:=qn hp h1 h3;simp only[qo,V3]at g;obtain⟨⟨⟨⟨⟨⟨⟨⟨⟨⟨g1,g2⟩,g3⟩,g4⟩,g5⟩,g6⟩,g7⟩,g8⟩,g9⟩,g10⟩,g11⟩:=g;have g2:=V0 g2;have g3:=V0 g3;have g6:=V0 g6;have S3:∀y∈(bU (d9 l [])).1++gv (bU (d9 l [])).2,y.length<=50:=λy hy=>V0 (dP g5 y hy)
 have SP:=qy S3;have:=J8 (aa:=aa) a (bU (d9 l [])).1 (bU (d9 l [])).2 (CR g1) (VX (by assumption) ⋯) (VX (by assumption) ⋯) (λg hg=>by
  have q:=dP g4 g hg;rw[V3]at q;have q1:∀y∈g,y.length<=10:=λy hy=>V0 (dP q.1 y hy)
  have q2:=V0 q.2;have q3:=qy q1;exact⟨λy hy=>by have:=q1 y hy;lia,VX (by assumption) ⋯,by lia⟩) (λy hy=>by have:=S3 y hy;lia) (VX (by assumption) ⋯) (by lia)
 rw[<- mQ (d9 l [])]at this;exact this
theorem JF {l:List Pc}(hp:∀p∈l,p.ok)(h1:l≠[])(h3:l.length<=3)(st:V4) :
  ∃σ',aW aa (iB aa) 30 5 (⟨dZ 3,[(VN "pat",.val (.str (ao (ib l)))),(VN "STAR",.val (.opq (.ref st)))]⟩:az T) ((aZ 3).drop 1)=some (σ',.ret (.str (ao (gL l)))):=by
 have n_:=pE (aa:=aa) st hp h1 h3;have hl:(aZ 3).length=3:=by kernel_rfl
 have a1:ev aa (iB aa) 30 (⟨dZ 3,[(VN "pat",.val (.str (ao (ib l)))),(VN "STAR",.val (.opq (.ref st)))]⟩:az T) false (bR (ak (aZ 3) 1))=some (.lst ((d9 l []).map (bz st))):=by
  refine mz (x:=.str (ao (ib l))) (y:=.opq (.ref st)) (z:=.str (ao [46])) (by exact .mk rfl) nofun nofun nofun nofun nofun ?_;rw[show oO (bR (ak (aZ 3) 1))=(aS 8).name by kernel_rfl];exact n_.1
 have a2:ev aa (iB aa) 30 (⟨dZ 3,[(VN "pat",.val (.str (ao (ib l)))),(VN "STAR",.val (.opq (.ref st))),(VN "parts",.val (.lst ((d9 l []).map (bz st))))]⟩:az T) false (rP (ak (aZ 3) 2))=some (.str (ao (gL l))):=by
  refine mA (x:=.lst ((d9 l []).map (bz st))) (y:=.opq (.ref st)) (by exact .mk rfl) nofun nofun nofun nofun ?_;rw[show oO (rP (ak (aZ 3) 2))=(aS 9).name by kernel_rfl];exact n_.2
 refine⟨_,ah (l:=aZ 3) (i:=1) (f:=bQ aa (iB aa) 30 (aW aa (iB aa) 30 4)) (Zl _) ((fY (by exact .mk rfl) nofun a1).trans nofun) (bS ⋯ (j1 ∅ a2))⟩
noncomputable def yI (x:List Nat)(l:List Pc):Prop:=(∀p∈l,p.ok)/\l≠[]/\l.length<=3/\ib l=x
open Classical in
noncomputable def sR (x:List Nat):Option D:=if h:∃l,yI x l then some (.str (ao (gL h.choose)))else none
set_option tactic.hygienic true in
theorem Ez (a:V4){p q:gk}(h:bz a p=bz a q):p=q:=by
 induction p<;>induction q<;>simp only[bz,reduceCtorEq]at h
 ·rfl
 ·rename_i x y
  simp only[D.str.injEq]at h;have:x=y:=congrArg (λs:Str=>s.cps.toList) h;rw[this]
theorem yz {α β:Type}{f:α->β}(hf:∀a b,f a=f b->a=b):∀{x y:List α},x.map f=y.map f->x=y
 |[],[],_=>rfl
 |a::x,b::y,h=>by
  simp only[Wu,List.cons.injEq]at h;rw[hf _ _ h.1,yz hf h.2]
 |[],_::_,h=>by cases h
 |_::_,[],h=>by cases h
theorem BZ {l:List Pc}(h:yI (ib l) l):sR (ib l)=some (.str (ao (gL l))):=by
 delta l;intro h;have mL:∃l',yI (ib l) l':=⟨l,h⟩;unfold sR;rw[dif_pos mL];obtain⟨c1,c2,c3,c4⟩:=mL.choose_spec;have Py:=h;have e1:=(pE (aa:=λ(_:Unit) _ _=>none) 0 c1 c2 c3).1;have e2:=(pE (aa:=λ(_:Unit) _ _=>none) 0 Py.1 Py.2.1 Py.2.2.1).1;rw[c4,e2]at e1;simp only[Yl,D.lst.injEq]at e1;have:=yz (λa b h=>Ez 0 h) e1;unfold gL;rw[this]
noncomputable def ge (aa:T->Str->List D->Option D):b_:=λf ds=>match d4 f (aS 3).name with
 |true=>(FX ds).bind λx=>sR x.cps.toList
 |false=>iB aa f ds
theorem Gx {l:List Pc}(h:yI (ib l) l):ge aa (aS 3).name [.str (ao (ib l))]=some (.str (ao (gL l))):=by
 unfold ge;rw[bl.mpr rfl];exact BZ h
end
section
variable {ab:V8}{w:Wi}{X:gJ}{hb:Wb}{mg:Str->Option VQ}
set_option tactic.hygienic true in
theorem Le (H:kj hb mg)(XO:hU ab w X hb 1):nD ab w (ge X.aa) hb mg 4:=by
 intro f ds d hf h;unfold ge at h
 cases q:d4 f (aS 3).name with
 |false =>
  rw[q]at h;exact(D9 H XO).le ⋯ f ds d hf h
 |true =>
  rw[q]at h;replace q:=bl.mp q;clear hf;obtain rfl:=q;refine bt h λx h1 h=>?_
  rw[lQ h1];clear h1
  ·skip
   unfold sR at h;split at h
   ·rename_i mL
    replace h:=aJ h;obtain rfl:=h;have Fw:=mL.choose_spec;obtain⟨a,fd,Df,hn⟩:=H.tr;obtain⟨o,ho,hd⟩:=Df.obj;refine⟨a,o,fd,Df.at_,ho,hd,?_⟩;generalize mL.choose=l at *;have hx:x=ao (ib l):=m_ Fw.2.2.2.symm;clear mL;subst hx;intro A F s vs Q E am lv bf hv hr;exact MD (X:=X) H.B H.M Df hn (MK H XO) (λst=>JF Fw.1 Fw.2.1 Fw.2.2.1 st) A F s vs Q E am lv bf hv hr
   ·exact bg h
theorem IJ (H:kj hb mg)(XO:hU ab w X hb 1):gy ab w X (ge X.aa) hb 4:=by
 refine pi H.B (Le H XO) ?_ (XO.le ⋯);intro A E F s env an σ x m p aE pos args y d r Q hy hp;have:iB X.aa dy [d]=some r:=by
  unfold ge at hp;rw[show d4 dy (aS 3).name=false by kernel_rfl]at hp;exact hp
 exact lw (Φ:=jn X.aa) (kl H.B H.twin H.pat) gV A E F s env an σ x m p aE pos args y d r Q hy this
end
theorem oE {α:Type}[DecidableEq α](l:List α):∀(l':List α),l.Nodup->(∀x∈l,x∈l')->l.length<=l'.length:=by
 induction l with
 |nil =>
  intro l' _ _;exact W7 _
 |cons a l ih =>
  intro l' hn hs;rw[List.nodup_cons]at hn;have ha:=hs a VT;have:=ih (l'.erase a) hn.2 λx hx=>(List.mem_erase_of_ne (by clear hs ha;rintro rfl;exact hn.1 hx)).mpr (hs x (VS _ hx))
  rw[List.length_erase_of_mem ha]at this;have:0<l'.length:=List.length_pos_of_mem ha;simp only[VY];exact R6 ‹_› ‹_›
noncomputable def PO (M i:Nat):Nat:=(i*5+1) % M
noncomputable def FR (M:Nat):Nat->Nat->Nat
 |0,i=>i
 |n+1,i=>FR M n (PO M i)
noncomputable def OS (M:Nat):Nat->Nat->Nat->Nat
 |0,_,acc=>acc
 |n+1,i,acc=>OS M n (PO M i) (acc |||(1 <<<i))
theorem GF (M j:Nat)(n:Nat):∀(i acc:Nat),(OS M n i acc).testBit j=true->acc.testBit j=true\/∃m,m<n/\FR M m i=j:=by
 delta M j n;induction n with
 |zero =>
  intro i acc h;exact .inl h
 |succ n ih =>
  delta n;intro ih;exists i,acc;intro h;rcases ih (PO M i) _ h with h |⟨m,hm,e⟩
  ·rw[Nat.testBit_or,Wt]at h
   rcases h with h |h
   ·exact .inl h
   ·right
    rw[Nat.one_shiftLeft,Nat.testBit_two_pow]at h;exact⟨0,Xh _,of_decide_eq_true h⟩
  ·exact .inr ⟨m+1,Nat.succ_lt_succ hm,e⟩
noncomputable def Ea (M:Nat):Bool:=(Wo M).all λi=>VW (OS M M i 0) (2 ^ M - 1)
theorem Ob:Ea 8=true:=by decide +kernel
theorem Ln:Ea 32=true:=by decide +kernel
theorem HS:Ea 128=true:=by decide +kernel
noncomputable def gQ (m:Nat):Prop:=m=7\/m=31\/m=127
theorem Ta {m:Nat}(hm:gQ m){i j:Nat}(hi:i<=m)(hj:j<=m):∃n,n<=m/\FR (m+1) n i=j:=by
 revert hm hi hj;delta m i j;intro hm hi hj;have key:Ea (m+1)=true:=by
  rcases hm with rfl |rfl |rfl
  ·exact Ob
  ·exact Ln
  ·exact HS
 have:=Wp.mp key i (WN.mpr (Yk hi));have:=V_ this;have hb:(OS (m+1) (m+1) i 0).testBit j=true:=by
  rw[this,Nat.testBit_two_pow_sub_one];exact decide_eq_true (Yk hj)
 rcases GF (m+1) j _ _ _ hb with h |⟨n,hn,e⟩
 ·rw[Nat.zero_testBit]at h;exact eV h
 ·exact⟨n,W5 hn,e⟩
noncomputable def Fq (t:Wa):Nat->X_->X_
 |0,p=>p
 |n+1,p=>Fq t n (t.advance p)
theorem zo (t:Wa)(a:Nat):∀(b:Nat) (p:X_),Fq t (a+b) p=Fq t b (Fq t a p):=by
 induction a with
 |zero =>
  intro b p;rw[Nat.zero_add];rfl
 |succ a ih =>
  intro b p;rw[Nat.succ_add];exact ih b _
noncomputable def so (t:Wa)(i q:Nat):X_:={ j:=i,more:=XX t.mask i - i,i,perturb:=q,dummy:=none }
theorem Io (t:Wa)(m:Nat):∀(j i q:Nat),Fq t m { j,more:=m,i,perturb:=q,dummy:=none }={ j:=j+m,more:=0,i,perturb:=q,dummy:=none }:=by
 induction m with
 |zero =>
  intro j i q;exact rfl
 |succ m ih =>
  intro j i q;show Fq t m (t.advance _)=_;have:t.advance { j,more:=m+1,i,perturb:=q,dummy:=none }={ j:=j+1,more:=m,i,perturb:=q,dummy:=none }:=by
   rfl
  rw[this,ih (j+1) i q];congr 1;omega
theorem J0 (m i:Nat):XX m i - i<=9:=by unfold XX;split<;>lia
theorem EZ (t:Wa)(i q:Nat):Fq t (XX t.mask i - i+1) (so t i q)=so t ((i*5+1+q / 32) % (t.mask+1)) (q / 32):=by
 rw[zo,so,Io];rfl
noncomputable def w_ (M:Nat):Nat->Nat->Nat->Nat×Nat
 |0,i,q=>(i,q)
 |n+1,i,q=>w_ M n ((i*5+1+q / 32) % M) (q / 32)
theorem Ip (t:Wa)(n:Nat):∀(i q:Nat),∃k,k<=10*n/\Fq t k (so t i q)=so t (w_ (t.mask+1) n i q).1 (w_ (t.mask+1) n i q).2:=by
 delta t n;induction n with
 |zero =>
  intro i q;delta i q;exact⟨0,WD _,rfl⟩
 |succ n ih =>
  delta n;intro ih;exists i,q;obtain⟨k,hk,e⟩:1:=ih ((i*5+1+q / 32) % (t.mask+1)) (q / 32);refine⟨XX t.mask i - i+1+k,?_,?_⟩
  ·exact Tr ‹_› (J0 t.mask i)
  ·rw[zo,EZ,e];rfl
theorem IR (M:Nat)(n:Nat):∀(i q:Nat),(w_ M n i q).2=q / 32 ^ n:=by
 induction n with
 |zero =>
  intro i q;exact(Nat.div_one q).symm
 |succ n ih =>
  intro i q;rw[show w_ M (n+1) i q=w_ M n ((i*5+1+q / 32) % M) (q / 32)from rfl,ih,Nat.div_div_eq_div_mul,Nat.pow_succ,Nat.mul_comm]
theorem yB (M:Nat)(a:Nat):∀(b i q:Nat),w_ M (a+b) i q=w_ M b (w_ M a i q).1 (w_ M a i q).2:=by
 induction a with
 |zero =>
  intro b i q;rw[Nat.zero_add];rfl
 |succ a ih =>
  intro b i q;rw[Nat.succ_add];exact ih b _ _
theorem vh (M:Nat)(n:Nat):∀(i:Nat),w_ M n i 0=(FR M n i,0):=by
 induction n with
 |zero =>
  intro i;exact rfl
 |succ n ih =>
  intro i;skip;exact ih _
theorem C9 (M:Nat)(hM:0<M)(n:Nat):∀(i q:Nat),i<M->(w_ M n i q).1<M:=by
 induction n with
 |zero =>
  intro i q h;exact h
 |succ n ih =>
  intro i q h;exact ih _ _ (Zh _ hM)
theorem zm (h:Int):WJ h<2 ^ 64:=by
 unfold WJ;have h1:0<=h % (2 ^ 64:Int):=Int.emod_nonneg _ ⋯;have h2:h % (2 ^ 64:Int)<2 ^ 64:=Int.emod_lt_of_pos _ ⋯;lia
theorem MX {t:Wa}(hm:gQ t.mask)(h:Int){j:Nat}(hj:j<=t.mask):∃k,k<=10*(t.mask+13)/\(Fq t k (t.probeStart h)).j=j:=by
 revert hm hj;delta t h j;intro hm hj;have hs:t.probeStart h=so t (WJ h % (t.mask+1)) (WJ h):=rfl;have h0:WJ h % (t.mask+1)<t.mask+1:=Zh _ (Xh _);have h1:=C9 (t.mask+1) (Xh _) 13 _ (WJ h) h0;have h2:(w_ (t.mask+1) 13 (WJ h % (t.mask+1)) (WJ h)).2=0:=by
  rw[IR];exact Nat.div_eq_of_lt (X2 (zm h) ⋯)
 obtain⟨n,hn,e⟩:1:=Ta hm (W5 h1) hj;obtain⟨k,hk,ek⟩:=Ip t (13+n) (WJ h % (t.mask+1)) (WJ h);refine⟨k,by lia,?_⟩;rw[hs,ek,yB,h2,vh,e];rfl
theorem pe {t:Wa}(hd:t.dummies=#[])(j:Nat):(t.slot j=.empty)\/(∃i,t.slot j=.live i/\t.place[i]?=some j):=by
 unfold Wa.slot;by_cases h:(t.place[YA t.place j]?==some j)=true
 ·right
  rw[if_pos h];exact⟨_,rfl,eq_of_beq h⟩
 ·left
  rw[if_neg h];have:Wa.has t.dummies j=false:=by
   unfold Wa.has;rw[hd];simp
  rw[this];rfl
theorem wN {t:Wa}(hd:t.dummies=#[])(hf:t.place.size<=t.mask):∃j,j<=t.mask/\t.slot j=.empty:=by
 delta t;intro hd hf;by_cases h:∃j,j<=t.mask/\t.slot j=.empty
 ·exact h
 ·exfalso
  have:=oE (Wo (t.mask+1)) t.place.toList List.nodup_range λj hj=>by
   delta j;intro hj;have hj:=W5 (WN.mp hj);rcases pe hd j with e |⟨i,_,e⟩
   ·exact absurd ⟨j,hj,e⟩ h
   ·exact Y3.mpr (Array.mem_of_getElem? e)
  rw[WU]at this;have e:t.place.toList.length=t.place.size:=by simp
  lia
noncomputable def E8 (t:Wa)(N:Nat)(p:X_):Prop:=p.dummy=none/\t.slot (Fq t N p).j=.empty
theorem xS {t:Wa}(hm:gQ t.mask)(hd:t.dummies=#[])(hf:t.place.size<=t.mask)(h:Int):∃N,N<=10*(t.mask+13)/\E8 t N (t.probeStart h):=by
 revert hm hd hf;delta t h;intro hm hd hf;obtain⟨j,hj,e⟩:=wN hd hf;obtain⟨k,hk,ek⟩:=MX hm h hj;exact⟨k,hk,rfl,by rw[ek];exact e⟩
theorem rq (t:Wa)(p:X_):(t.advance p).dummy=p.dummy:=by unfold Wa.advance;split<;>rfl
theorem N9 {t:Wa}(hd:t.dummies=#[])(hashAt:Nat->Int)(h:Int)(ba:Nat):∀(N:Nat) (p:X_),N<ba->E8 t N p ->(∃j,YS t hashAt h ba p=some (.empty j none)/\t.slot j=.empty) \/(∃j i next N',YS t hashAt h ba p=some (.candidate j i next)/\t.slot j=.live i/\t.place[i]?=some j/\hashAt i=h/\N'<N/\E8 t N' next):=by
 revert hd;delta t hashAt h ba;intro hd;induction ba with
 |zero=>exact λN p hN=>absurd hN (Nat.not_lt_zero _)
 |succ ba ih =>
  intro N p hN he;rw[show YS t hashAt h (ba+1) p=(match t.slot p.j with | .empty=>some (.empty p.j p.dummy) | .dummy=>YS t hashAt h ba (t.advance { p with dummy:=some p.j }) | .live i=>if hashAt i==h then some (.candidate p.j i (t.advance p))else YS t hashAt h ba (t.advance p))from rfl];rcases pe hd p.j with e |⟨i,e,ei⟩
  ·left
   rw[e];exact⟨p.j,by rw[he.1],e⟩
  ·rw[e]
   dsimp only;have UX:N≠0:=by
    rintro rfl;have:t.slot p.j=.empty:=he.2;rw[e]at this;cases this
   obtain⟨N',rfl⟩:=Nat.exists_eq_succ_of_ne_zero UX;have Jc:E8 t N' (t.advance p):=⟨(rq t p).trans he.1,he.2⟩;by_cases hh:(hashAt i==h)=true
   ·rw[if_pos hh]
    exact .inr ⟨p.j,i,_,N',rfl,e,ei,eq_of_beq hh,WE _,Jc⟩
   ·rw[if_neg hh]
    rcases ih N' _ (WB hN) Jc with q |⟨j,i',next,N'',q1,q2,q3,q4,q5,q6⟩
    ·exact .inl q
    ·exact .inr ⟨j,i',next,N'',q1,q2,q3,q4,Nat.lt_succ_of_lt q5,q6⟩
theorem EQ (xs:Array Nat)(j:Nat)(ba:Nat):∀(lo hi:Nat),lo<=hi->YA.go xs j ba lo hi<=hi:=by
 induction ba with
 |zero=>exact λlo hi h=>h
 |succ ba ih =>
  intro lo hi h;show(if lo<hi then if xs.getD ((lo+hi) / 2) j<j then YA.go xs j ba ((lo+hi) / 2+1) hi else YA.go xs j ba lo ((lo+hi) / 2)else lo)<=hi;split
  ·rename_i lK
   split
   ·exact ih _ _ (R4 lK)
   ·exact VX (ih _ _ (Tt lK)) (XZ (R4 lK))
  ·exact h
theorem wo (xs:Array Nat)(j:Nat):YA xs j<=xs.size:=EQ xs j _ _ _ (W7 _)
theorem eB {α:Type}(xs:Array α)(p:Nat)(x:α)(h:p<=xs.size):(WF xs p x).size=xs.size+1:=by
 unfold WF;simp only[Array.size_append,Array.size_push,Array.size_extract];rw[YJ h,Nat.min_self,Nat.sub_zero,Zc,Nat.add_sub_of_le h]
theorem d_ {α:Type}(xs:Array α)(p:Nat)(x y:α)(h:p<=xs.size):y∈(WF xs p x).toList↔y=x\/y∈xs.toList:=by
 unfold WF;obtain⟨l⟩:=xs;simp only[Ys,YQ,Array.toList_extract,YK,WR,List.extract_eq_take_drop,YY,Nat.sub_zero];have e:l.drop p=(l.drop p).take (l.length - p):=by rw[WX];simp
 constructor
 ·rintro((h |h) |h)
  ·exact .inr (YX h)
  ·exact .inl h
  ·exact .inr (List.mem_of_mem_drop (YX h))
 ·rintro(h |h)
  ·exact .inl (.inr h)
  ·rw[<- List.take_append_drop p l,YK]at h
   rcases h with h |h
   ·exact .inl (.inl h)
   ·right
    simp only[List.size_toArray];rw[<- e];exact h
theorem nM {t:Wa}(hd:t.dummies=#[])(j:Nat):(t.put j).1.dummies=#[]:=by
 unfold Wa.put;dsimp only;have:Wa.has t.dummies j=false:=by unfold Wa.has;rw[hd];simp
 rw[this,hd];rfl
theorem pA {t:Wa}(j:Nat):(t.put j).1.place.size=t.place.size+1:=eB _ _ _ (wo _ _)
theorem fK {t:Wa}(j:Nat):(t.put j).2<=t.place.size:=wo _ _
structure qR (mask:Nat)(owner:Array (Option Nat))(ps:List Nat):Prop where
 size:owner.size=mask+1
 iff:∀j q:Nat,owner[j]?=some (some q)↔ps[q]?=some j
theorem y0 {mask:Nat}(hm:gQ mask){owner:Array (Option Nat)}(hs:owner.size=mask+1){j0:Nat}(SM:j0<=mask)(he:owner[j0]?=some none) :
  ∀(n ba i q:Nat),n<ba->i<=mask->(w_ (mask+1) n i q).1=j0->∃j,X3 mask owner ba i q=some j/\owner[j]?=some none
 |n,0,i,q,hn,_,_=>absurd hn (Nat.not_lt_zero _)
 |n,ba+1,i,q,hn,hi,hl=>by
  rw[show X3 mask owner (ba+1) i q=(match(Wo (XX mask i+1 - i)).find? λk=>(owner.getD (i+k) (some 0)).isNone with |some k=>some (i+k) |none=>X3 mask owner ba (Wa.leap mask i q).1 (Wa.leap mask i q).2)from rfl]
  cases hf:(Wo (XX mask i+1 - i)).find? λk=>(owner.getD (i+k) (some 0)).isNone with
  |some k =>
   refine⟨i+k,rfl,?_⟩;have:=List.find?_some hf;rw[YT]at this
   cases e:owner[i+k]? with
   |none=>rw[e]at this;cases this
   |some o =>
    rw[e]at this;clear e;cases o with
    |none=>rfl
    |some x=>exact eV this
  |none =>
   cases n with
   |zero =>
    exfalso;have UI:i=j0:=hl;clear SM hl;subst UI;have:=List.find?_eq_none.mp hf 0 (WN.mpr (by unfold XX;split<;>first |exact Nat.sub_pos_of_lt (Yk (Xm i 9)) |exact Nat.sub_pos_of_lt (WE i)));rw[Nat.add_zero,YT,he]at this;exact this rfl
   |succ n =>
    refine y0 hm hs SM he n ba _ _ (WB hn) (W5 (Zh _ (Xh _))) ?_;exact hl
theorem Eb {mask:Nat}(hm:gQ mask){owner:Array (Option Nat)}(hs:owner.size=mask+1)(he:∃j0,j0<=mask/\owner[j0]?=some none)(h:Int) :
  ∃j,X3 mask owner (Wa.turns mask) (WJ h % (mask+1)) (WJ h)=some j/\owner[j]?=some none:=by
 revert hm hs he;delta mask owner h;intro hm hs he;obtain⟨j0,Jw⟩:1:=he;have h0:WJ h % (mask+1)<mask+1:=Zh _ (Xh _);have h1:=C9 (mask+1) (Xh _) 13 _ (WJ h) h0;have h2:(w_ (mask+1) 13 (WJ h % (mask+1)) (WJ h)).2=0:=by
  rw[IR];exact Nat.div_eq_of_lt (X2 (zm h) ⋯)
 obtain⟨n,hn,e⟩:1:=Ta hm (W5 h1) Jw.1;refine y0 hm hs Jw.1 Jw.2 (13+n) _ _ _ (by unfold Wa.turns;lia) (W5 h0) ?_;rw[yB,h2,vh,e]
theorem qR.lt {mask:Nat}{owner:Array (Option Nat)}{ps:List Nat}(L:qR mask owner ps){j:Nat}{o:Option Nat}(h:owner[j]?=some o):j<=mask:=by
 have:=(Y4.mp h).1;have:=L.size;lia
theorem qR.free {mask:Nat}{owner:Array (Option Nat)}{ps:List Nat}(L:qR mask owner ps)(h:ps.length<=mask):∃j0,j0<=mask/\owner[j0]?=some none:=by
 by_cases q:∃j0,j0<=mask/\owner[j0]?=some none
 ·exact q
 ·exfalso
  have:=oE (Wo (mask+1)) ps List.nodup_range λj hj=>by
   have hj:=WN.mp hj;have lK:j<owner.size:=by rw[L.size];exact hj
   cases e:owner[j]? with
   |none=>rw[YZ]at e;lia
   |some o =>
    induction o with
    |none=>exact absurd ⟨j,W5 hj,e⟩ q
    |some x=>exact Yg ((L.iff j x).mp e)
  rw[WU]at this;lia
theorem qR.put {mask:Nat}{owner:Array (Option Nat)}{ps:List Nat}(L:qR mask owner ps){j:Nat}(h:owner[j]?=some none):qR mask (owner.setIfInBounds j (some ps.length)) (ps++[j]) where
 size:=by rw[Array.size_setIfInBounds];exact L.size
 iff:=λj' q=>by
  rw[Array.getElem?_setIfInBounds];by_cases e:j=j'
  ·subst e
   have lK:=(Y4.mp h).1;rw[if_pos rfl,if_pos lK];constructor
   ·intro e;cases e;simp
   ·intro e
    by_cases hq:q<ps.length
    ·rw[Y8 hq]at e
     have:=(L.iff j q).mpr e;rw[h]at this;cases this
    ·rw[List.getElem?_append_right (Yu hq)]at e
     have:=(Wd.mp e).1;simp only[We]at this;rw[show q=ps.length from Tp ‹_› ‹_›]
  ·rw[if_neg e,L.iff]
   by_cases hq:q<ps.length
   ·rw[Y8 hq]
   ·rw[List.getElem?_append_right (Yu hq),List.getElem?_eq_none (Yu hq)]
    constructor
    ·intro e;exact bg e
    ·intro e'
     have h1:=(Wd.mp e').1;simp only[We]at h1;have:q - ps.length=0:=Nat.lt_one_iff.mp ‹_›
     rw[this]at e';simp only[Zn,Yl]at e';exact absurd e' e
noncomputable def oI (mask:Nat)(acc:Option (Array (Option Nat)×Nat))(h:Int):Option (Array (Option Nat)×Nat):=do
 let (owner,k) <- acc
 let j <- X3 mask owner (Wa.turns mask) (WJ h % (mask+1)) (WJ h)
 pure (owner.setIfInBounds j (some k),k+1)
theorem De {mask:Nat}(hm:gQ mask)(hs:List Int):∀(owner:Array (Option Nat)) (ps:List Nat),qR mask owner ps->ps.length+hs.length<=mask ->∃CO J5,hs.foldl (oI mask) (some (owner,ps.length))=some (CO,J5.length)/\qR mask CO J5/\J5.length=ps.length+hs.length:=by
 revert hm;delta mask hs;intro hm;induction hs with
 |nil =>
  intro owner ps L _;exact⟨owner,ps,rfl,L,rfl⟩
 |cons h hs ih =>
  delta h hs;intro ih;exists owner,ps;intro L vK;simp only[VY]at vK;obtain⟨j,e,ej⟩:1:=Eb hm L.size (L.free (by omega)) h;have e2:oI mask (some (owner,ps.length)) h=some (owner.setIfInBounds j (some ps.length),(ps++[j]).length):=by
   unfold oI;simp only[Option.bind_eq_bind,Wg,e,V1,We];rfl
  rw[List.foldl_cons,e2];obtain⟨o',J5,a,b,c⟩:=ih _ _ (L.put ej) (by simp only[V1,We];omega);exact⟨o',J5,a,b,by rw[V1]at c;simp only[VY,WI]at c ⊢;exact c.trans (Zc _ _ _)⟩
theorem lays_0 (mask:Nat):qR mask (Array.replicate (mask+1) none) [] where
 size:=by simp
 iff:=λj q=>by
  rw[Array.getElem?_replicate];constructor
  ·intro h;split at h<;>cases h
  ·intro h;simp at h
theorem vn {mask:Nat}(hm:gQ mask)(hs:Array Int)(vK:hs.size<=mask):∃owner ps,Wa.layClean mask hs=some owner/\qR mask owner ps/\ps.length=hs.size:=by
 revert hm vK;delta mask hs;intro hm vK;obtain⟨o',J5,za⟩:=De hm hs.toList _ [] (lays_0 mask) (by simp;omega);refine⟨o',J5,?_,za.2.1,by rw[za.2.2];simp⟩;unfold Wa.layClean;rw[<- Array.foldl_toList];show Option.map _ (hs.toList.foldl (oI mask) (some (_,([]:List Nat).length)))=_;rw[za.1];rfl
theorem rn {α β:Type}{f:α->Option β}{l:List α}:(∀a∈l,∃b,f a=some b)->(l.filterMap f).length=l.length:=by
 induction l with
 |nil =>
  intro _;exact rfl
 |cons a l ih =>
  intro h;obtain⟨b,hb⟩:=h a VT;rw[Yt,hb,VY,VY,ih λx hx=>h x (VS _ hx)]
theorem Hc {mask finger moves:Nat}{led plain:Bool}(hm:gQ mask)(es:Array (Int×VQ))(vK:es.size<=mask) :
  ∃t dA,Wa.laid mask finger moves led plain (es.map (·.1))=some (t,dA)/\t.mask=mask/\t.dummies=#[]/\t.led=led/\t.plain=plain/\t.place.size=es.size/\(dA.filterMap (es[·]?)).size=es.size/\∀e,e∈(dA.filterMap (es[·]?)).toList↔e∈es.toList:=by
 revert hm vK;delta mask finger moves led plain es;intro hm vK;obtain⟨owner,ps,e,L,hl⟩:=vn hm (es.map (·.1)) (by rw[Array.size_map];exact vK);delta owner ps;intro e L hl;rw[Array.size_map]at hl;have Pf:∀j q,j<=mask->(owner.getD j none=some q↔owner[j]?=some (some q)):=λj q hj=>by
  rw[YT];have:j<owner.size:=by rw[L.size];lia
  rw[Xd this];simp
 let live:=(Wo (mask+1)).filterMap λj=>(owner.getD j none).map (j,·)
 have I_:∀j q,(j,q)∈live↔ps[q]?=some j:=λj q=>by
  rw[<- L.iff];constructor
  ·intro h
   obtain⟨j',Mv⟩:=Zi.mp h;obtain⟨q',e2,e3⟩:=YE.mp Mv.2;clear h;cases e3;exact(Pf j q (W5 (WN.mp Mv.1))).mp e2
  ·intro h
   have hj:=L.lt h;refine Zi.mpr ⟨j,WN.mpr (Yk hj),?_⟩;rw[(Pf j q hj).mpr h];rfl
 have vI:∀q,q∈live.map (·.2)↔q<es.size:=λq=>by
  rw[Wz];constructor
  ·rintro⟨⟨j,q'⟩,h,rfl⟩
   have:=(Wd.mp ((I_ j q').mp h)).1;lia
  ·intro h
   refine⟨(ps[q]'(by lia),q),(I_ _ q).mpr ?_,rfl⟩;exact Wr _
 have Mf:(live.map (·.2)).Nodup:=by
  have:live.map (·.2)=(Wo (mask+1)).filterMap λj=>owner.getD j none:=by
   rw[List.map_filterMap];congr 1;funext j
   cases owner.getD j none<;>rfl
  rw[this];have key:∀l:List Nat,l.Nodup->(∀j∈l,j<=mask)->(l.filterMap λj=>owner.getD j none).Nodup:=by
   intro l;induction l with
   |nil=>intro _ _;exact List.nodup_nil
   |cons a l ih =>
    intro hn hj;rw[List.nodup_cons]at hn;rw[Yt];have Ss:=ih hn.2 λj hm=>hj j (VS _ hm)
    cases ea:owner.getD a none with
    |none=>exact Ss
    |some c =>
     refine List.nodup_cons.mpr ⟨λNN=>?_,Ss⟩;obtain⟨b,hb,eb⟩:=Zi.mp NN;have h1:=(L.iff a c).mp ((Pf a c (hj a VT)).mp ea);have h2:=(L.iff b c).mp ((Pf b c (hj b (VS _ hb))).mp eb);rw[h1]at h2;clear eb;obtain rfl:=aJ h2;exact hn.1 hb
  exact key _ List.nodup_range λj hj=>W5 (WN.mp hj)
 have dC:live.length=es.size:=by
  have a1:=oE (live.map (·.2)) (Wo es.size) Mf λq hq=>WN.mpr ((vI q).mp hq)
  have a2:=oE (Wo es.size) (live.map (·.2)) List.nodup_range λq hq=>(vI q).mpr (WN.mp hq)
  rw[VZ,WU]at a1 a2;exact Nat.le_antisymm ‹_› ‹_›
 refine⟨{ mask,place:=(live.map (·.1)).toArray,dummies:=#[],finger,led,moves,plain },(live.map (·.2)).toArray,?_,rfl,rfl,rfl,rfl,by simp[dC],?_,?_⟩
 ·unfold Wa.laid
  rw[e];rfl
 ·rw[<- WA,Array.toList_filterMap,rn,List.toList_toArray,VZ,dC]
  intro q hq;exact⟨_,Xd ((vI q).mp hq)⟩
 ·intro x
  rw[Array.toList_filterMap,List.toList_toArray,Zi];constructor
  ·rintro⟨q,_,hq⟩
   exact Y3.mpr (Array.mem_of_getElem? hq)
  ·intro h
   obtain⟨q,hq,rfl⟩:=List.getElem_of_mem h;exact⟨q,(vI q).mpr hq,by skip;simp⟩
noncomputable def BO (F:Fz)(h:Wb):Prop:=∀a o,F a=some o->h.get? a=some o
section
variable (ab:V8)(w:Wi)(E:VQ->VP->Prop)(F:Fz)
noncomputable def nB (n:Nat)(d:D):Prop:=∀(v:VQ) (A:V7) (s:VP) (Q:Int->VP->Prop),aj F v d->BO F s.heap->A.units+n<9900->(∀h tk,Q h { s with toks:=tk })->wpAny (model ab w) A (pyHash v) Q E s
noncomputable def kJ (n:Nat)(d:D):Prop:=∀(v:VQ) (A:V7) (s:VP) (Q:Bool->VP->Prop),aj F v d->BO F s.heap->Q true s->wpAny (model ab w) A (eqIsQuiet n v) Q E s
noncomputable def sK (n:Nat)(d:D):Prop:=∀(v:VQ) (A:V7) (s:VP) (Q:Bool->VP->Prop),aj F v d->BO F s.heap->Q false s->wpAny (model ab w) A (ofAClassStatement n v) Q E s
noncomputable def zp (n:Nat)(d:D):Prop:=∀(v:VQ) (A:V7) (s:VP) (Q:Bool->VP->Prop),aj F v d->BO F s.heap->Q false s->wpAny (model ab w) A (hashByValue n v) Q E s
end
section
variable {ab:V8}{w:Wi}{E:VQ->VP->Prop}{F:Fz}
theorem D5 (n:Nat)(x:Str):nB ab w E F n (.str x):=λv A s Q hv hs hu h=>by
 obtain⟨_,rfl⟩:=hv.str_inv;exact wpAny_pyHash_str (h _ _)
theorem D6 (n:Nat)(i:Int):nB ab w E F n (.int i):=λv A s Q hv hs hu h=>by
 obtain⟨_,rfl⟩:=hv.int_inv;exact wpAny_pyHash_int (h _ _)
theorem xG {n:Nat}(A:V7)(hu:A.units+n<9900)(l:List D):∀(vs:List VQ) (s:VP) (b:Array Int) (Q:Array Int->VP->Prop),(∀d∈l,nB ab w E F n d)->al F vs l->BO F s.heap->(∀b' tk,Q b' { s with toks:=tk }) ->wpAny (model ab w) A (forIn vs b λx r=>do let h <- pyHash x;pure PUnit.unit;pure (Xy (r.push h))) Q E s:=by
 induction l with
 |nil =>
  intro vs s b Q _ hv _ h
  cases hv;exact VR (h b s.toks)
 |cons d l ih =>
  intro vs s b Q hl hv hs h
  cases hv with
  |cons hv fn =>
   rw[Yd];refine VO (VO (hl d VT _ A s _ hv hs hu λh1 tk=>?_));refine VO (VR (VR ?_));exact ih _ { s with toks:=tk } _ Q (λd hd=>hl d (VS _ hd)) fn hs λb' uK=>h b' uK
theorem vQ {n:Nat}{l:List D}(hl:∀d∈l,nB ab w E F n d):nB ab w E F (n+1) (.tup l):=λv A s Q hv hs hu h=>by
 cases hv with
 |@tup a o vs n' _ fa hc hd hz fn =>
  have ho:=hs _ _ fa;have hT:s.TypeIs (.ref a) "tuple" :=⟨o,ho,hc⟩;refine pyHash_slot (T:= "tuple") hT PySem.F.slot_tuple_hash PySem.F.entry_tuple_hash (PySem.F.args_tuple_hash_1 _) (beq_builtin_none _) (.inr (by show A.units<9900;lia)) ?_;show wpAny _ _ (Builtin.Tuple.tupleItemsOf (.ref a) >>=_) _ _ s;refine VO (wpAny_tupleItemsOf ho hd ?_);refine VO ?_;rw[<- X9];refine xG A.in1 (by rw[V7.in1_units];lia) l vs.toList s #[] _ hl fn hs λb' tk=>?_
  exact VO (wpAny_mkInt (VR ⟨_,_,rfl,h _ _⟩))
theorem Af (n:Nat)(x:Str):kJ ab w E F n (.str x):=λv A s Q hv hs h=>by
 obtain⟨_,rfl⟩:=hv.str_inv;rw[eqIsQuiet_byValue _ rfl];exact VR h
theorem Ag (n:Nat)(i:Int):kJ ab w E F n (.int i):=λv A s Q hv hs h=>by
 obtain⟨_,rfl⟩:=hv.int_inv;rw[eqIsQuiet_byValue _ rfl];exact VR h
theorem rR {n:Nat}{l:List D}(hl:∀d∈l,kJ ab w E F n d):kJ ab w E F (n+1) (.tup l):=λv A s Q hv hs h=>by
 revert hl hv hs h;delta ab w E F n l v A s Q;intro hl hv hs h;cases hv with
 |@tup a o vs n' _ fa hc hd hz fn =>
  delta a o vs n';intro fa hc hd fn;have ho:=hs _ _ fa;have hT:s.TypeIs (.ref a) "tuple" :=⟨o,ho,hc⟩;unfold eqIsQuiet;refine VO (wpAny_specialOf hT PySem.F.slot_tuple_eq.lookup ?_);refine VO (Yv hT isSubtype_tuple_tuple ?_);refine VO (Y2 ho hd ?_);refine VO ?_;rw[<- X9];refine wpAny_forIn_list _ (λcC r s'=>r.1=none/\s'=s/\∃ds,al F cC ds/\∀d∈ds,kJ ab w E F n d) _ ?_ ?_ _ _ ⟨rfl,rfl,l,fn,hl⟩
  ·clear h ho hT;rintro v cC r s' ⟨hr,rfl,ds,BI,ju⟩
   revert hr hs BI ju;delta v cC r s' ds;intro hr hs BI ju;clear hl fa fn;cases BI with
   |cons h1 h2 =>
    delta d ds_1;intro h1 h2 ju;refine VO (ju _ VT _ _ _ _ h1 hs ?_);exact VR ⟨rfl,rfl,_,h2,λu QF=>ju u (VS _ QF)⟩
  ·clear hs ho hT;rintro⟨r1,r2⟩ s' ⟨hr,rfl,_⟩
   subst hr;exact VR h
theorem H5 (n:Nat)(x:Str):sK ab w E F n (.str x):=λv A s Q hv hs h=>by
 obtain⟨_,rfl⟩:=hv.str_inv;induction n<;>exact VR h
theorem H6 (n:Nat)(i:Int):sK ab w E F n (.int i):=λv A s Q hv hs h=>by
 obtain⟨_,rfl⟩:=hv.int_inv;induction n<;>exact VR h
set_option backward.match.sparseCases true in
theorem J_ (n:Nat)(a:V4):ofAClassStatement (n+1) (.ref a)=(do
  match <- typeOf (.ref a)with
  | .type t =>
   let underTuple <- if t== "tuple" then pure true else isSubtype (.type t) (.type "tuple")
   if !underTuple then return false
   let some items <- seqItems? (.ref a) |return true
   for y in items do
    if <- ofAClassStatement n y then return true
   return false
  |_=>return true):=by kernel_rfl
theorem zh {n:Nat}{l:List D}(hl:∀d∈l,sK ab w E F n d):sK ab w E F (n+1) (.tup l):=λv A s Q hv hs h=>by
 revert hl hv hs h;delta ab w E F n l v A s Q;intro hl hv hs h;cases hv with
 |@tup a o vs n' _ fa hc hd hz fn =>
  delta a o vs n';intro fa hc hd fn;have ho:=hs _ _ fa;have hT:s.TypeIs (.ref a) "tuple" :=⟨o,ho,hc⟩;rw[J_];refine VO (wpAny_typeOf hT ?_);refine VO ?_;refine VR ?_;refine VO (Y2 ho hd ?_);refine VO ?_;rw[<- X9];refine wpAny_forIn_list _ (λcC r s'=>r.1=none/\s'=s/\∃ds,al F cC ds/\∀d∈ds,sK ab w E F n d) _ ?_ ?_ _ _ ⟨rfl,rfl,l,fn,hl⟩
  ·rintro v cC r s' ⟨hr,rfl,ds,BI,ju⟩
   revert hr hs h ho hT BI ju;delta v cC r s' ds;intro hr hs h ho hT BI ju;clear hl fa fn;cases BI with
   |cons h1 h2 =>
    refine VO (ju _ VT _ _ _ _ h1 hs ?_);exact VR ⟨rfl,rfl,_,h2,λu QF=>ju u (VS _ QF)⟩
  ·clear hs ho hT;rintro⟨r1,r2⟩ s' ⟨hr,rfl,_⟩
   subst hr;exact VR h
theorem HO (n:Nat)(x:Str):zp ab w E F n (.str x):=λv A s Q hv hs h=>by
 obtain⟨_,rfl⟩:=hv.str_inv;induction n<;>exact VR h
theorem yX {n:Nat}{d:D}{l:List D}(hl:zp ab w E F n d):zp ab w E F (n+1) (.tup (d::l)):=λv A s Q hv hs h=>by
 revert hl hv hs h;delta ab w E F n d l v A s Q;intro hl hv hs h;cases hv with
 |@tup a o vs n' _ fa hc hd hz fn =>
  delta a o vs n';intro fa hc hd fn;have ho:=hs _ _ fa;have hT:s.TypeIs (.ref a) "tuple" :=⟨o,ho,hc⟩;refine VO (wpAny_specialOf hT PySem.F.slot_tuple_hash.lookup ?_);refine VO (Y2 ho hd ?_);refine VO ?_;show wpAny _ _ (forIn vs _ _) _ _ s;rw[<- X9];generalize vs.toList=us at fn
  cases fn with
  |cons h1 h2 =>
   rw[Yd];refine VO (VO (hl _ _ _ _ h1 hs ?_));exact VR (VR (VR h))
noncomputable def cU (p:aw×Int):D:=.tup [aM p.1,.int p.2]
theorem sN {l:aw}{d:D}(h:d∈gl l):∃x,d=.str x:=by
 obtain⟨x,_,rfl⟩:=Wz.mp h;exact⟨_,rfl⟩
theorem sO {a b d:D}(h:d∈[a,b]):d=a\/d=b:=by simpa using h
theorem K_ (p:aw×Int):nB ab w E F 3 (cU p):=vQ λd hd=>by
 rcases sO hd with rfl |rfl
 ·exact vQ λd hd=>by obtain⟨x,rfl⟩:=sN hd;exact D5 _ _
 ·exact D6 _ _
theorem yq (p:aw×Int):kJ ab w E F 8 (cU p):=rR λd hd=>by
 rcases sO hd with rfl |rfl
 ·exact rR λd hd=>by obtain⟨x,rfl⟩:=sN hd;exact Af _ _
 ·exact Ag _ _
theorem Jq (p:aw×Int):sK ab w E F 8 (cU p):=zh λd hd=>by
 rcases sO hd with rfl |rfl
 ·exact zh λd hd=>by obtain⟨x,rfl⟩:=sN hd;exact H5 _ _
 ·exact H6 _ _
theorem NX (p:aw×Int)(hp:p.1≠[]):zp ab w E F 8 (cU p):=by
 obtain⟨w,f⟩:=p;induction w with
 |nil=>exact absurd rfl hp
 |cons x r=>exact yX (yX (HO _ _))
theorem Rz {p q:aw×Int}{v u:VQ}{A:V7}{s:VP}{Q:Bool->VP->Prop}(hv:aj F v (cU p))(hu:aj F u (cU q))(hs:BO F s.heap)(hA:A.units+3<9900)(h:Q (lM p.1 q.1&&decide (p.2=q.2)) s):wpAny (model ab w) A (eqBool v u) Q E s:=by
 delta ab w E F p q v u A s Q;intro hv hu hs hA h;have e:∀p:aw×Int,(cU p).toPy 3=some (.tuple [.tuple (p.1.map λx=>Y1 (ao x)),.int p.2]):=λp=>by
  delta p;show(List.mapM (D.toPy 2) [aM p.1,D.int p.2]).map Xu.tuple=_;rw[List.mapM_cons,List.mapM_cons,List.mapM_nil,show(aM p.1).toPy 2=_ from lN 1 p.1];rfl
 obtain⟨⟨as,ra⟩,ca,da⟩:=fR hs 3 _ v _ hv (e p);delta as;intro ra;obtain⟨⟨bs,rb⟩,cb,db⟩:=fR hs 3 _ u _ hu (e q);delta bs;intro rb;refine SeqAt.eqBoolOverData ab w A E s v u _ _ as bs Q ra rb ca cb (by show A.units+min _ _<9900;exact Tz ‹_› ‹_›) ?_;have:YC (.tuple [.tuple (p.1.map λx=>Y1 (ao x)),.int p.2]) (.tuple [.tuple (q.1.map λx=>Y1 (ao x)),.int q.2])=(lM p.1 q.1&&decide (p.2=q.2)):=by
  simp only[YC,Xu.eqvAll,ug,Y_];rfl
 rw[this];exact h
end
set_option backward.match.sparseCases true
structure iR (w:Wi)(F:Fz)(P:List (aw×Int))(es:Array (Int×VQ))(t:Wa):Prop where
 dum:t.dummies=#[]
 pl:t.plain=false\/es.size=0
 led:w.params.followText "set-order" = false->t.led=true
 ne:∀p∈P,p.1≠[]
 mask:gQ t.mask
 size:t.place.size=es.size
 room:es.size*5<t.mask*3
 few:es.size<=P.length
 of:∀e∈es.toList,∃p∈P,aj F e.2 (cU p)
 has:∀p∈P,∃e∈es.toList,aj F e.2 (cU p)
noncomputable def ir (w:Wi)(F:Fz)(h:Wb)(a:V4)(P:List (aw×Int)):Prop :=
 ∃o es ep t,h.get? a=some o/\o.ExactSet/\o.data=.set es ep t/\iR w F P es t
theorem iR.fits {w:Wi}{F:Fz}{P:List (aw×Int)}{es:Array (Int×VQ)}{t:Wa}(T:iR w F P es t):t.fits es.size=true:=by
 unfold Wa.fits Wa.fill;rw[T.dum,T.size];have:=T.room;simp only[List.size_toArray,WI,Nat.add_zero,beq_self_eq_true,X5,decide_eq_true_eq];rcases T.mask with e |e |e<;>rw[e]at this ⊢<;>lia
theorem iR.way {w:Wi}{F:Fz}{P:List (aw×Int)}{es:Array (Int×VQ)}{t:Wa}(T:iR w F P es t):t.gaveWay=false:=by
 unfold Wa.gaveWay;rcases T.mask with e |e |e<;>rw[e]<;>rfl
section
variable {ab:V8}{w:Wi}{A:V7}{E:VQ->VP->Prop}{F:Fz}{s:VP}{a:V4}{P:List (aw×Int)}
theorem yn {x:VQ}{p:aw×Int}(h:aj F x (cU p)):∃b,x=.ref b:=by
 revert h;delta F x p;intro h
 cases h;exact⟨_,rfl⟩
theorem Gj {x:VQ}{p:aw×Int}(hx:aj F x (cU p))(hs:BO F s.heap):∀(l:List VQ) (Q:Bool->VP->Prop),(∀y∈l,∃q,aj F y (cU q))->Q false s->wpAny (model ab w) A (searchCouldBeSeen x l) Q E s:=by
 delta ab w A E F s x p;intro hx hs;intro l Q hl h;refine VO ?_;refine wpAny_forIn_list _ (λcC r s'=>r.1=none/\s'=s/\∀y∈cC,∃q,aj F y (cU q)) _ ?_ ?_ _ _ ⟨rfl,rfl,hl⟩
 ·clear h;rintro y cC r s' ⟨hr,rfl,hy⟩
  obtain⟨q,hq⟩:=hy y VT;have pr:∀y∈cC,∃q,aj F y (cU q):=λu hu=>hy u (VS _ hu)
  obtain⟨ax,rfl⟩:=yn hx;clear hy;obtain⟨ay,rfl⟩:=yn hq;show wpAny _ _ (if((ax==ay)||(false&&false))=true then _ else _) _ _ _;by_cases hxy:(ax==ay)=true
  ·rw[hxy]
   exact VR ⟨rfl,rfl,pr⟩
  ·rw[Y6]at hxy
   rw[hxy];refine VO (yq p _ _ _ _ hx hs ?_);refine VO (yq q _ _ _ _ hq hs ?_);refine VO (Jq p _ _ _ _ hx hs ?_);refine VO (Jq q _ _ _ _ hq hs ?_);exact VR ⟨rfl,rfl,pr⟩
 ·clear hs;rintro⟨r1,r2⟩ s' ⟨hr,rfl,_⟩
  subst hr;exact VR h
theorem zX {x:VQ}{p:aw×Int}{o:Xi}{es:Array (Int×VQ)}{ep:Nat}{t:Wa}(hx:aj F x (cU p))(hs:BO F s.heap)(hA:A.units+3<9900)
  (ho:s.heap.get? a=some o) (hd:o.data=.set es ep t) (T:iR w F P es t) (h:Int) {Q:SetFound->VP->Prop} (nT:∀j,t.slot j=.empty->Q (.free j false) s) (xy:p∈P->Q (.there none) s) :
  ∀(ba N:Nat) (B9:Option X_),N<ba->N<10*(t.mask+15)->E8 t N (B9.getD (t.probeStart h))->wpAny (model ab w) A (setSearchFrom a x h true ba B9) Q E s:=by
 revert hx hs hA ho hd T nT xy;delta ab w A E F s a P x p o es ep t h Q;intro hx hs hA ho hd T nT xy;exists ba;induction ba with
 |zero=>exact λN _ hN=>absurd hN (Nat.not_lt_zero _)
 |succ ba ih =>
  delta ba;intro ih;exists N,B9;intro hN SX he;refine VO (WL ho hd T.fits ?_);dsimp only;rw[T.way];rw[if_neg Xk];unfold Wa.probe;rcases N9 T.dum _ h (10*Wa.turns t.mask) N _ (by skip;exact SX) he with⟨j,e,ej⟩ |⟨j,i,next,N',e,ej,ei,eh,A0,Jc⟩
  ·rw[e]
   exact VR (nT j ej)
  ·delta j i N';intro e ej ei eh A0 Jc;rw[e]
   dsimp only;have hi:i<es.size:=by
    have:=(Y4.mp ei).1;rw[T.size]at this;exact this
   have AQ:es[i]∈es.toList:=Y3.mpr (Array.getElem_mem hi);obtain⟨q,hq,hy⟩:1:=T.of _ AQ;have cC:wpAny (model ab w) A (do
     let some (_,y):=es[i]? |unsupported "internal:set-entry"
     let equal <- holding [y] (eqBool y x)
     let (wH,_,t') <- setState a
     if true&&equal then return .there none
     let some cG:=t'.sameMemory t.moves t.mask |unsupported "set.changed-during-lookup:is-the-new-block-at-the-old-address"
     let still <- match(if cG then t'.slot j else .empty)with
      | .live i'=>match wH[i']? with
       |some (_,y')=>do pure (if <- isSame y' y then some i' else none)
       |none=>pure none
      |_=>pure none
     match still with
     |none=>rule "set.search.anew";setSearchFrom a x h true ba none
     |some i'=>if equal then return .there (some i')else setSearchFrom a x h true ba (some next)) Q E s:=by
    obtain⟨e0,K8⟩:∃e0,es[i]=e0:=⟨_,rfl⟩;delta e0;intro K8;obtain⟨h',y⟩:=e0;delta h' y;intro K8;rw[K8]at hy AQ;have K6:es[i]?=some (h',y):=by rw[Xd hi,K8]
    rw[K6];refine VO (Wq (Rz hy hx hs hA ?_));refine VO (WL ho hd T.fits ?_);by_cases hb:(lM q.1 p.1&&decide (q.2=p.2))=true
    ·rw[hb]
     rw[V3,cZ,decide_eq_true_eq]at hb;have:p=q:=Prod.ext hb.1.symm hb.2.symm;exact VR (xy (this▸hq))
    ·rw[Y6]at hb
     rw[hb];dsimp only;rw[if_neg Xk];have Um:t.sameMemory t.moves t.mask=some true:=by unfold Wa.sameMemory;simp
     rw[Um];dsimp only;rw[if_pos rfl,ej];dsimp only;rw[K6];replace hy:=yn hy;clear AQ K8 K6;obtain⟨ay,rfl⟩:=hy;refine VO (wpAny_isSame_ref_self ?_);rw[if_pos rfl];refine VO (VR ?_);exact ih N' (some next) (W8 A0 (W5 hN)) (X2 A0 SX) Jc
   by_cases hL:(!t.led)=true
   ·rw[if_pos hL]
    refine VO (Gj hx hs _ _ ?_ ?_)
    ·intro y QD
     replace QD:=Wz.mp QD;obtain⟨e',Jc,rfl⟩:=QD;rw[Array.toList_filter]at Jc;obtain⟨q,_,hq⟩:=T.of _ (Xj.mp Jc).1;exact⟨q,hq⟩
    ·skip
     exact cC
   ·rw[if_neg hL]
    exact cC
end
set_option backward.match.sparseCases false
theorem tj {h:Wb}{a:V4}{o:Xi}{es:Array (Int×VQ)}{ep:Nat}{t:Wa}(ho:h.get? a=some o)(mL:o.ExactSet)(hd:o.data=.set es ep t)(wH:Array (Int×VQ))(t':Wa) :
  ∃H2,(h.update a (Xi.putSet wH t')).get? a=some { cls:=.type "set",dict:=none,data:=.set wH H2 t',slots:=#[] }:=by
 obtain⟨c,d,dt,sl⟩:=o;obtain⟨h1,h2,h3⟩:=mL;simp only at h1 h2 h3 hd;subst h1 h2 h3 hd;exact⟨ep+1,XA _ ho rfl⟩
theorem iR.put {w:Wi}{F:Fz}{P:List (aw×Int)}{es:Array (Int×VQ)}{t:Wa}(T:iR w F P es t){p:aw×Int}{x:VQ}(hx:aj F x (cU p))(h:Int)(j:Nat)(hp:p.1≠[])(hr:(es.size+1)*5<t.mask*3) :
  iR w F (p::P) (WF es (t.put j).2 (h,x)) { (t.put j).1 with plain:=false } where
 dum:=nM T.dum j
 pl:=.inl rfl
 led:=T.led
 ne:=λq hq=>by
  clear hx;rcases V2.mp hq with rfl |hq
  ·exact hp
  ·exact T.ne q hq
 mask:=T.mask
 size:=by
  rw[pA,eB _ _ _ (by rw[<- T.size];exact fK j),T.size]
 room:=by
  rw[eB _ _ _ (by rw[<- T.size];exact fK j)];exact hr
 few:=by
  rw[eB _ _ _ (by rw[<- T.size];exact fK j)];exact XB T.few
 of:=λe he=>by
  rcases(d_ _ _ _ _ (by rw[<- T.size];exact fK j)).mp he with rfl |he
  ·exact⟨p,VT,hx⟩
  ·obtain⟨q,Ms⟩:=T.of e he
   exact⟨q,VS _ Ms.1,Ms.2⟩
 has:=λq hq=>by
  clear hp;rcases V2.mp hq with rfl |hq
  ·exact⟨(h,x),(d_ _ _ _ _ (by rw[<- T.size];exact fK j)).mpr (.inl rfl),hx⟩
  ·obtain⟨e,wI⟩:=T.has q hq
   exact⟨e,(d_ _ _ _ _ (by rw[<- T.size];exact fK j)).mpr (.inr wI.1),wI.2⟩
theorem iR.there {w:Wi}{F:Fz}{P:List (aw×Int)}{es:Array (Int×VQ)}{t:Wa}(T:iR w F P es t){p:aw×Int}(hp:p∈P):iR w F (p::P) es t where
 dum:=T.dum
 pl:=T.pl
 led:=T.led
 ne:=λq hq=>by
  rcases V2.mp hq with rfl |hq
  ·exact T.ne q hp
  ·exact T.ne q hq
 mask:=T.mask
 size:=T.size
 room:=T.room
 few:=Xf T.few
 of:=λe he=>(T.of e he).imp λ_ z=>⟨VS _ z.1,z.2⟩
 has:=λq hq=>by
  rcases V2.mp hq with rfl |hq
  ·exact T.has q hp
  ·exact T.has q hq
theorem sizeAbove_20:Zj 20=32:=by decide +kernel
theorem sizeAbove_76:Zj 76=128:=by decide +kernel
section
variable {ab:V8}{w:Wi}{A:V7}{E:VQ->VP->Prop}{F:Fz}{s:VP}{a:V4}{P:List (aw×Int)}
theorem CI {o:Xi}{es:Array (Int×VQ)}{ep:Nat}{t:Wa}{n m:Nat}{Q:Unit->VP->Prop}(ho:s.heap.get? a=some o)(mL:o.ExactSet)(hd:o.data=.set es ep t)(hf:t.fits es.size=true)
  (hm:Zj n=m+1) (tZ:gQ m) (hsz:es.size<=m)
  (h:∀(h':Wb) (wH:Array (Int×VQ)) (H2:Nat) (t':Wa),h'.get? a=some { cls:=.type "set",dict:=none,data:=.set wH H2 t',slots:=#[] }->Ws a s.heap h'->t'.mask=m->t'.dummies=#[]->t'.led=t.led->t'.plain=t.plain->t'.place.size=wH.size->wH.size=es.size->(∀e,e∈wH.toList↔e∈es.toList)->Q () { s with heap:=h' }) :
  wpAny (model ab w) A (setRelay a n) Q E s:=by
 revert ho mL hd hf hm tZ hsz h;delta ab w A E s a o es ep t n m Q;intro ho mL hd hf hm tZ hsz h;obtain⟨t1,dA,e,h1,h2,Pa,Uu,h3,h4,h5⟩:2:=Hc (mask:=m) (finger:=t.finger) (moves:=t.movedTo m) (led:=t.led) (plain:=t.plain) tZ es hsz;refine VO (WL ho hd hf ?_);dsimp only;have NN:m+1<=sizeLine:=by rw[sizeLine_eq];clear hsz;rcases tZ with rfl |rfl |rfl<;>lia
 rw[hm,if_neg (Nat.not_lt.mpr NN)];have er:t.relaid (es.map (·.1)) n=some (t1,dA):=by
  unfold Wa.relaid;rw[hm,Nat.add_sub_cancel];exact e
 rw[er];refine VO ?_;show wpAny _ _ (if((dA.filterMap (es[·]?)).size !=es.size)=true then unsupported "internal:set-table-lost-an-element" else pure (dA.filterMap (es[·]?),t1)) _ _ _;rw[h4];simp only[bne_self_eq_false,WY,if_false];refine VR ?_;refine wpAny_storeSet_of ho hd ?_ (by rw[h4,sizeLine_eq];clear hm h e h1 NN;rcases tZ with rfl |rfl |rfl<;>lia);obtain⟨H2,hg⟩:=tj ho mL hd (dA.filterMap (es[·]?)) t1;exact h _ _ H2 t1 hg (Wx ..) h1 h2 Pa Uu (by rw[h3,h4]) h4 h5
theorem LU {x:VQ}{p:aw×Int}(hx:aj F x (cU p))(hs:BO F s.heap)(hA:A.units+3<9900)(cS:p.1≠[])(hP:ir w F s.heap a P)(hz:P.length<=70){Q:VQ->VP->Prop}
  (h:∀h' tk,ir w F h' a (p::P)->Ws a s.heap h'->Q .none { s with heap:=h',toks:=tk }) :
  wpAny (model ab w) A (do let _ <- setAdd a x;ret VQ.none) (λfin s'=>∃r,fin=.done (.ret r)/\Q r s') E s:=by
 revert hx hs hA cS hP hz h;delta ab w A E F s a P x p Q;intro hx hs hA cS hP hz h;refine VO (Wq (VO (K_ p x A s _ hx hs hA ?_)));exists hh,tk;obtain⟨o,es,ep,t,ho,mL,hd,T⟩:4:=hP;refine Wq (VO (WL (s:={ s with toks:=tk }) ho hd T.fits ?_));dsimp only;obtain⟨bx,rfl⟩:=yn hx;delta bx;intro hx;have VJ:byScan (.ref bx) es=false:=rfl;obtain⟨N,hN,he⟩:=xS T.mask T.dum (by have:=T.room;rw[T.size];rcases T.mask with e |e |e<;>rw[e]at this ⊢<;>lia) hh;delta N;intro hN he;have lK:10*(t.mask+13)<100000:=by rcases T.mask with e |e |e<;>rw[e]<;>lia
 refine VO (zX (s:={ s with toks:=tk }) (P:=P) hx hs hA ho hd T hh (λj hj=>?_) (λhp=>?_) 100000 N none (by lia) (by lia) he)
 ·delta j;intro hj;skip
  refine VO (WL (s:={ s with toks:=tk }) ho hd T.fits ?_);have KY:wpAny (model ab w) A (do
    storeSet a (WF es (t.put j).2 (hh,.ref bx)) { (t.put j).1 with plain:=false }
    if(!false&&({ (t.put j).1 with plain:=false }:Wa).tooFull)=true then setRelay a (Wa.grown (es.size+1))
    return true) (λ_ s'=>wpAny (model ab w) A (ret VQ.none) (λfin s'=>∃r,fin=.done (.ret r)/\Q r s') E s') E { s with toks:=tk }:=by
   have hsz:(WF es (t.put j).2 (hh,.ref bx)).size=es.size+1:=eB _ _ _ (by rw[<- T.size];exact fK j);have QJ:es.size<=70:=VX T.few hz;obtain⟨ep1,HK⟩:1:=tj ho mL hd (WF es (t.put j).2 (hh,.ref bx)) { (t.put j).1 with plain:=false };refine VO (wpAny_storeSet_of (s:={ s with toks:=tk }) ho hd ?_ (by rw[hsz,sizeLine_eq];lia));have NE:Ws a s.heap (s.heap.update a (Xi.putSet (WF es (t.put j).2 (hh,.ref bx)) { (t.put j).1 with plain:=false })):=Wx ..
   have D2:({ (t.put j).1 with plain:=false }:Wa).fill=es.size+1:=by
    show(t.put j).1.place.size+(t.put j).1.dummies.size=_;rw[pA,nM T.dum,T.size];rfl
   have DW:({ (t.put j).1 with plain:=false }:Wa).mask=t.mask:=rfl;by_cases hfull:(es.size+1)*5<t.mask*3
   ·have QH:({ (t.put j).1 with plain:=false }:Wa).tooFull=false:=by
     unfold Wa.tooFull;rw[D2,DW];exact decide_eq_false (Nat.not_le.mpr hfull)
    rw[QH];exact VR (VR ⟨_,rfl,h _ tk ⟨_,_,_,_,HK,⟨rfl,rfl,rfl⟩,rfl,T.put hx hh j cS hfull⟩ NE⟩)
   ·have QH:({ (t.put j).1 with plain:=false }:Wa).tooFull=true:=by
     unfold Wa.tooFull;rw[D2,DW];exact decide_eq_true (Yu hfull)
    rw[QH];have qh:=T.room;have SN:Wa.grown (es.size+1)=(es.size+1)*4:=by unfold Wa.grown;rw[if_neg (by lia)]
    have NT:({ (t.put j).1 with plain:=false }:Wa).fits (WF es (t.put j).2 (hh,.ref bx)).size=true:=by
     unfold Wa.fits;rw[D2,hsz,DW];rw[pA,T.size,beq_self_eq_true,X5,decide_eq_true_eq];rcases T.mask with e |e |e<;>rw[e]at qh ⊢<;>lia
    have SW:∀e∈(WF es (t.put j).2 (hh,.ref bx)).toList,∃q∈p::P,aj F e.2 (cU q):=λe he=>by
     rcases(d_ _ _ _ _ (by rw[<- T.size];exact fK j)).mp he with rfl |he
     ·exact⟨p,VT,hx⟩
     ·obtain⟨q,Ms⟩:=T.of e he
      exact⟨q,VS _ Ms.1,Ms.2⟩
    have UW:∀q∈p::P,∃e∈(WF es (t.put j).2 (hh,.ref bx)).toList,aj F e.2 (cU q):=λq hq=>by
     clear cS h SW;rcases V2.mp hq with rfl |hq
     ·exact⟨(hh,.ref bx),(d_ _ _ _ _ (by rw[<- T.size];exact fK j)).mpr (.inl rfl),hx⟩
     ·obtain⟨e,wI⟩:=T.has q hq
      exact⟨e,(d_ _ _ _ _ (by rw[<- T.size];exact fK j)).mpr (.inr wI.1),wI.2⟩
    have go:∀m n,Wa.grown (es.size+1)=n->Zj n=m+1->gQ m->es.size+1<=m->(es.size+1)*5<m*3 ->wpAny (model ab w) A (do setRelay a (Wa.grown (es.size+1));return true) (λ_ s'=>wpAny (model ab w) A (ret VQ.none) (λfin s'=>∃r,fin=.done (.ret r)/\Q r s') E s') E { s with heap:=s.heap.update a (Xi.putSet (WF es (t.put j).2 (hh,.ref bx)) { (t.put j).1 with plain:=false }),toks:=tk }:=by
     exists m,n;intro en hn tZ vK Uq;rw[en];refine VO (CI (s:={ s with heap:=s.heap.update a (Xi.putSet (WF es (t.put j).2 (hh,.ref bx)) { (t.put j).1 with plain:=false }),toks:=tk }) HK ⟨rfl,rfl,rfl⟩ rfl NT hn tZ (by rw[hsz];exact vK) ?_);exists h',wH,H2,t';intro UK QK e1 e2 el U3 e3 e4 e5;refine VR (VR ⟨_,rfl,h h' tk ⟨_,_,_,_,UK,⟨rfl,rfl,rfl⟩,rfl,?_⟩ (NE.trans QK)⟩);exact{ dum:=e2,pl:=.inl U3,led:=λq=>el.trans (T.led q),ne:=λq hq=>(V2.mp hq).elim (λe=>e▸cS) (T.ne q),mask:=by rw[e1];exact tZ,size:=e3,room:=by rw[e4,hsz,e1];exact Uq,few:=by rw[e4,hsz];exact XB T.few,of:=λe he=>SW e ((e5 e).mp he),has:=λq hq=>(UW q hq).imp λ_ z=>⟨(e5 _).mpr z.1,z.2⟩ }
    rcases T.mask with e |e |e
    ·rw[e]at qh hfull
     exact go 31 20 (by rw[SN];lia) sizeAbove_20 (.inr (.inl rfl)) (by lia) (by lia)
    ·rw[e]at qh hfull
     exact go 127 76 (by rw[SN];lia) sizeAbove_76 (.inr (.inr rfl)) (Wn (by assumption) ⋯) (by lia)
    ·exfalso
     lia
  cases kE:(t.put j).1.plain with
  |true =>
   refine VO (NX p cS _ _ _ _ hx hs ?_);exact KY
  |false =>
   refine VO (VR ?_);have:{ (t.put j).1 with plain:=false }=(t.put j).1:=by rw[<- kE]
   rw[this]at KY;exact KY
 ·exact VR (VR ⟨_,rfl,h s.heap tk ⟨o,es,ep,t,ho,mL,hd,T.there hp⟩ (Ws.refl ..)⟩)
end
theorem lC {α:Type}:∀(l:List α) (i:Nat) (h:i<l.length),(l[i]::l.eraseIdx i).Perm l
 |x::l,0,h=>List.Perm.refl _
 |x::l,i+1,h=>by
  simp only[List.getElem_cons_succ,List.eraseIdx_cons_succ];exact(List.Perm.swap _ _ _).trans (List.Perm.cons _ (lC l i (WB h)))
section
variable {M:Model}{A:V7}{E:VQ->VP->Prop}{s:VP}
theorem sM {Sf:Source}{n:Nat}{Q:Nat->VP->Prop}(hn:n≠0)(h:∀i d,i<n->Q i { s with drawn:=d }):wpAny M A (choose Sf n) Q E s:=λΓ p VE=>by
 show Sem.wp _ _ (.choose Sf n .pure) _ _ _ _;rw[Sem.wp_choose];exact⟨hn,h _ _ (Zh _ (Nat.pos_of_ne_zero hn))⟩
theorem mE {α:Type}(n:Nat):∀(xs:List α) (s:VP) (Q:List α->VP->Prop),xs.length<=n->(∀l d,l.Perm xs->Q l { s with drawn:=d })->wpAny M A (drawOrder n xs) Q E s:=by
 induction n with
 |zero =>
  intro xs s Q hn h;have:xs=[]:=List.length_eq_zero_iff.mp (Nat.le_zero.mp hn);clear hn;subst this;exact VR (h [] s.drawn (List.Perm.refl _))
 |succ n ih =>
  intro xs s Q hn h
  cases xs with
  |nil=>exact VR (h [] s.drawn (List.Perm.refl _))
  |cons x xs =>
   refine VO (sM (Nat.succ_ne_zero _) λi d hi=>?_);rw[Wr hi];refine VO (ih _ _ _ ?_ λl d' hl=>VR (h _ d' ((List.Perm.cons _ hl).trans (lC _ _ hi))));rw[List.length_eraseIdx_of_lt hi];exact WQ hn
end
theorem Gw {α:Type}(next:Nat->Nat)(ba:Nat):∀(k:Nat) (left:List α) (out:Array α),left.length<=ba->(pickOrder.go next ba k left out).toList.Perm (out.toList++left):=by
 induction ba with
 |zero =>
  intro k left out h;have:left=[]:=List.length_eq_zero_iff.mp (Nat.le_zero.mp h);clear h;subst this;show out.toList.Perm (out.toList++[]);rw[WH]
 |succ ba ih =>
  intro k left out h;induction left with
  |nil =>
   show out.toList.Perm (out.toList++[]);rw[WH]
  |cons x r _ =>
   have lK:next k % (x::r).length<(x::r).length:=Zh _ (Xh _)
   have ih:=ih (k+1) ((x::r).eraseIdx (next k % (x::r).length)) (out.push (x::r)[next k % (x::r).length]) (by rw[List.length_eraseIdx_of_lt lK];exact WQ h);have e:pickOrder.go next (ba+1) k (x::r) out=pickOrder.go next ba (k+1) ((x::r).eraseIdx (next k % (x::r).length)) (out.push (x::r)[next k % (x::r).length]):=Eq.trans nofun (congrArg (λo:Option α=>Option.casesOn (motive:=λ_=>Array α) o out λx'=>pickOrder.go next ba (k+1) ((x::r).eraseIdx (next k % (x::r).length)) (out.push x')) (Wr lK))
   rw[e];refine ih.trans ?_;rw[YQ,Ww];exact List.Perm.append_left _ (lC _ _ lK)
theorem rQ {α:Type}:∀l:List α,(Wo l.length).filterMap (λq=>l[q]?)=l
 |[]=>rfl
 |x::l=>by
  rw[VY,List.range_succ_eq_map,Yt,List.filterMap_map];simp only[Zn];congr 1;exact rQ l
theorem Ak {α:Type}(next:Nat->Nat)(xs:Array α):(pickOrder next xs).toList.Perm xs.toList:=by
 have:=Gw next xs.size 0 xs.toList #[] (by simp)
 simpa [pickOrder]using this
theorem eZ:Slot "set_iterator" "__next__" "set_iterator.__next__" :=
 .of (owner:= "set_iterator") (n:= "__next__") (by rw[W9,WG];kernel_rfl) (by decide +kernel) (by decide +kernel) (by decide +kernel)
  (by first |exact .inl (by decide +kernel) |exact .inr (by decide +kernel)) (by rw[XK];kernel_rfl)
theorem lD:entryFor table "set_iterator.__next__" = some Builtin.«set_iterator.__next__»:=entryFor_of_fast nofun
theorem mH (a:VQ):argsOk "set_iterator.__next__" ⟨[a],[]⟩:=by unfold argsOk;kernel_rfl
theorem qE:entryFor table "set.__iter__" = some Builtin.«frozenset.__iter__» :=
 entryFor_alias (id':= "frozenset.__iter__") nofun rfl (by decide +kernel) nofun
noncomputable def jg (first:VQ)(i:Int)(a:V4)(n ep:Int):Xi:={ cls:=.type "set_iterator",data:=.fields #[first,rawInt i,.ref a,rawInt n,rawInt ep] }
inductive iO (w:Wi)(F:Fz)(h:Wb)(I a:V4)(es:Array (Int×VQ))(ep:Nat)(t:Wa)(vals:List VQ)(i:Nat):Prop
 |text:w.params.followText "set-order" = true->vals=(pickOrder (w.params.setOrder a ep) es).toList.map (·.2)->h.get? I=some (jg (rawInt 0) i a es.size ep)->iO w F h I a es ep t vals i
 |drawn (T:V4) (oT:Xi) (n:Nat) (dA:List Nat):w.params.followText "set-order" = false->F T=some oT->oT.data=.seq (dA.map λ(i:Nat)=>rawInt i).toArray n->dA.Perm (Wo es.size)->vals=dA.filterMap (λq=>(es[q]?).map (·.2))->h.get? I=some (jg (.ref T) i a es.size ep)->iO w F h I a es ep t vals i
 |one (slot:Nat):w.params.followText "set-order" = false->t.led=true->es.size<=1->vals=es.toList.map (·.2)->(i=0/\slot=0\/∃j,t.place[0]?=some j/\i=1/\slot=j+1)->h.get? I=some (jg (rawInt slot) i a es.size ep)->iO w F h I a es ep t vals i
section
variable {ab:V8}{w:Wi}{A:V7}{E:VQ->VP->Prop}{F:Fz}{s:VP}{a:V4}{P:List (aw×Int)}
theorem Hj {o:Xi}{es:Array (Int×VQ)}{ep:Nat}{t:Wa}{Q:VQ->VP->Prop}(hF:BO F s.heap)(ho:s.heap.get? a=some o)(mL:o.ExactSet)(hd:o.data=.set es ep t)(T:iR w F P es t)
  (h:∀I s' F' vals,aA F s F' s'->F' I=none->s.heap.get? I=none->iO w F' s'.heap I a es ep t vals 0->vals.Perm (es.toList.map (·.2))->Q (.ref I) s') :
  wpAny (model ab w) A (pyIter (.ref a)) Q E s:=by
 revert hF ho mL hd T h;delta ab w A E F s a P o es ep t Q;intro hF ho mL hd T h;have hT:s.TypeIs (.ref a) "set" :=⟨o,ho,mL.1⟩;refine wpAny_pyIter_slot hT PySem.F.slot_set_iter (Y5 PySem.F.slot_set_iter hT qE ?_ (PySem.F.args_set_iter_1 _));unfold Builtin.«frozenset.__iter__»
 refine VO (WC (show Builtin.Frozenset.slot0 "__iter__" ⟨[.ref a],[]⟩=pure a from rfl) ?_);unfold Builtin.Frozenset.sizeOf;refine VO (VO (wpAny_setEntries_of ho hd T.fits (VR ?_)));unfold setDrawn setsByText;refine VO (VO (WL ho hd T.fits (VO (VO (W1 (VR (VR ?_)))))));dsimp only;have fin:∀(s1:VP) (F1:Fz) (first:VQ) (vals:List VQ),aA F s F1 s1->s1.heap.get? a=some o ->(∀h' I,(∀b p,s1.heap.get? b=some p->h'.get? b=some p)->h'.get? I=some (jg first ((0:Nat):Int) a es.size ep)->iO w F1 h' I a es ep t vals 0)->vals.Perm (es.toList.map (·.2)) ->wpAny (model ab w) A.in1 (do
    let __do_lift <- setEpoch a
    let __do_lift <- newFields "set_iterator" [first,rawInt 0,Xg a,rawInt ↑es.size,rawInt ↑__do_lift]
    ret __do_lift) (λfin s'=>∃v,fin=Fin.done (YF.ret v)/\∃T' r,s'.TypeIs v T'/\typeLookup (VQ.type T') (VN "__next__")=pure (some r)/\Q v s') E s1:=by
  exists s1,F1,first,vals;intro g BE Un Nz
  refine VO (wpAny_setEpoch_of BE hd T.fits ?_);refine VO (Xv (VR ⟨_,rfl, "set_iterator",_,⟨_,Wc _ rfl,rfl⟩,eZ.lookup,?_⟩));have g2:=g.trans (aA.push0 g.fz (jg first ((0:Nat):Int) a es.size ep) s1.toks);refine h s1.heap.objs.size _ F1 vals g2 (nG g.fz) (g.noneAt (bu _)) ?_ Nz;exact Un _ _ (λb p e=>V5 _ e) (Wc _ rfl)
 show wpAny _ _ (if(!w.params.followText "set-order" && (!t.plain&&decide (es.size>1)))=true then(drawOrder es.size (Wo es.size) >>=λx=>newTuple (x.map λ(i:Nat)=>rawInt i) >>=λfirst=>(do
    let __do_lift <- setEpoch a
    let __do_lift <- newFields "set_iterator" [first,rawInt 0,Xg a,rawInt ↑es.size,rawInt ↑__do_lift]
    ret __do_lift))else(pure (rawInt 0) >>=λfirst=>(do
    let __do_lift <- setEpoch a
    let __do_lift <- newFields "set_iterator" [first,rawInt 0,Xg a,rawInt ↑es.size,rawInt ↑__do_lift]
    ret __do_lift))) _ _ _
 cases hft:w.params.followText "set-order" with
 |true =>
  simp only[Bool.not_true,X8,WY,if_false];refine VO (VR ?_);exact fin s F (rawInt 0) _ (aA.refl hF) ho (λh' I _ hI=>.text hft rfl hI) ((Ak _ _).map _)
 |false =>
  cases hb:(!t.plain&&decide (es.size>1))with
   |true =>
    simp only[Bool.not_false,Bool.and_self,if_true];refine VO (mE es.size _ s _ (by simp) ?_);exists dA,d;intro vI;refine VO (wpAny_newTuple (hsz:=by rw[VZ,vI.length_eq,WU,sizeLine_eq];have:=T.room;rcases T.mask with e |e |e<;>rw[e]at this<;>lia) ?_);have gd:aA F s F { s with drawn:=d }:=⟨F.le_refl,λ_ _ _ h=>h,.of λ_ _ e=>e,hF,λ_ _ h=>.inl h,rfl,rfl⟩;have g1:=gd.trans (aA.push (s:={ s with drawn:=d }) hF { cls:=.type "tuple",data:=.seq (dA.map λ(i:Nat)=>rawInt i).toArray } s.toks);refine fin _ _ (.ref s.heap.objs.size) (dA.filterMap λq=>(es[q]?).map (·.2)) g1 (V5 _ ho) (λh' I hk hI=>.drawn _ _ _ dA hft (F.set_self _ _) rfl vI rfl hI) ?_;have e1:(dA.filterMap λq=>(es[q]?).map (·.2)).Perm ((Wo es.size).filterMap λq=>(es[q]?).map (·.2)):=vI.filterMap _;refine e1.trans ?_;have e2:((Wo es.size).filterMap λq=>(es[q]?).map (·.2))=es.toList.map (·.2):=by
     rw[<- List.map_filterMap];congr 1;have e3:∀q,es[q]?=es.toList[q]?:=λq=>by rw[YM]
     refine Eq.trans (congrArg (λf=>List.filterMap f (Wo es.size)) (funext e3:(λq=>es[q]?)=λq=>es.toList[q]?)) ?_;rw[<- WA];exact rQ es.toList
    rw[e2]
   |false =>
    simp only[Bool.not_false,Bool.and_false,WY,if_false];refine VO (VR ?_);have hsz:es.size<=1:=by
     rcases T.pl with e |e
     ·rw[e]at hb
      simpa using hb
     ·lia
    exact fin s F (rawInt 0) _ (aA.refl hF) ho (λh' I _ hI=>.one 0 hft (T.led hft) hsz rfl (.inl ⟨rfl,rfl⟩) hI) (List.Perm.refl _)
theorem iO.obj {h:Wb}{I:V4}{es:Array (Int×VQ)}{ep:Nat}{t:Wa}{vals:List VQ}{i:Nat}(it:iO w F h I a es ep t vals i):∃first,h.get? I=some (jg first i a es.size ep):=by
 induction it with
 |text _ _ h=>exact⟨_,h⟩
 |drawn _ _ _ _ _ _ _ _ _ h=>exact⟨_,h⟩
 |one _ _ _ _ _ _ h=>exact⟨_,h⟩
theorem iO.keep {F':Fz}{h h':Wb}{I:V4}{es:Array (Int×VQ)}{ep:Nat}{t:Wa}{vals:List VQ}{i:Nat}(it:iO w F h I a es ep t vals i)(e:h'.get? I=h.get? I)(fl:F.le F'):iO w F' h' I a es ep t vals i:=by
 induction it with
 |text h1 h2 h=>exact .text h1 h2 (e.trans h)
 |drawn T oT n dA h1 h2 h3 h4 h5 h=>exact .drawn T oT n dA h1 (fl _ _ h2) h3 h4 h5 (e.trans h)
 |one slot h1 h2 h3 h4 h5 h=>exact .one slot h1 h2 h3 h4 h5 (e.trans h)
theorem below_1 (j k:Nat):YA #[j] k=if j<k then 1 else 0:=by
 show YA.go #[j] k 1 0 1=_;by_cases h:j<k
 ·skip;rfl
 ·skip;rfl
theorem rm {α β:Type}{f:α->Option β}(l:List α):∀(i:Nat),(∀q∈l,∃b,f q=some b)->(l.filterMap f)[i]?=(l[i]?).bind f:=by
 induction l with
 |nil =>
  intro i _;simp
 |cons x l ih =>
  intro i h;obtain⟨b,hb⟩:=h x VT;rw[Yt,hb];induction i with
  |zero=>simp[hb]
  |succ i=>simpa using ih i λq hq=>h q (VS _ hq)
theorem ye {Q':PySem.Fin->VP->Prop}{Q:Option VQ->VP->Prop}(hh:A.handled=none)(h:∀h',(∀b o,s.heap.get? b=some o->h'.get? b=some o)->Q none { s with heap:=h' }) :
  wpAny (model ab w) A.in1 (do
   let __do_lift <- newExc (VQ.type "StopIteration") []
   raiseNew __do_lift) Q' (λe s'=>wpAny (model ab w) A (do
     let __do_lift <- isInstance e (VQ.type "StopIteration")
     if __do_lift=true then pure none else throw e) Q E s') s:=by
 revert hh h;delta ab w A E s Q' Q;intro hh h;refine VO ?_;refine VO (Xv ?_ (by size_fits));refine VO (m:=firstArgMember _ _) (WC (a:=VQ.none) (by first |rfl |(skip;rfl)) ?_);refine Xv ?_ (by size_fits);refine VO (wpAny_handled ?_);rw[show A.in1.handled=none from hh];refine VO (VR (wpAny_throw ?_));refine VO (Yv (T:= "StopIteration") (b:=true) ⟨_,Wc _ rfl,rfl⟩ isSubtype_stop ?_);exact VR (h _ λb o e=>V5 _ (V5 _ e))
theorem mh {h:Wb}{I a:V4}{first x:VQ}{i n ep:Int}(hI:h.get? I=some (jg first i a n ep)):(h.update I (Xi.mapFields (·.setIfInBounds 0 x))).get? I=some (jg x i a n ep):=XA _ hI rfl
theorem tJ {h:Wb}{I a:V4}{first:VQ}{i j n ep:Int}(hI:h.get? I=some (jg first i a n ep)):(h.update I (Xi.mapFields (·.setIfInBounds 1 (rawInt j)))).get? I=some (jg first j a n ep):=XA _ hI rfl
theorem pX {a b:V4}{f g:VQ}{i j n m e k:Int}(h:jg f i a n e=jg g j b m k):f=g :=
 WS (congrArg (λo:Xi=>match o.data with | .fields vs=>vs.toList.head? |_=>none) h)
theorem Ot {α:Type}(xs:Array α)(h:xs.size=1):∃e,xs=#[e]:=by
 obtain⟨l⟩:=xs
 cases l with
 |nil=>cases h
 |cons e l =>
  cases l with
  |nil=>exact⟨e,rfl⟩
  |cons _ _=>cases h
theorem EO (a:Nat):¬ (a !=a)=true:=by rw[bne_self_eq_false];decide
theorem Ib (a:Int):¬ (a !=a)=true:=by rw[bne_self_eq_false];decide
theorem GK {I:V4}{o:Xi}{es:Array (Int×VQ)}{ep:Nat}{t:Wa}{vals:List VQ}{i:Nat}{Q:Option VQ->VP->Prop}(hh:A.handled=none)(hF:BO F s.heap)(it:iO w F s.heap I a es ep t vals i)(ho:s.heap.get? a=some o)(hd:o.data=.set es ep t)(T:iR w F P es t)
  (item:∀v h',vals[i]?=some v->iO w F h' I a es ep t vals (i+1)->Ws I s.heap h'->Q (some v) { s with heap:=h' })
  (fin:∀h',vals[i]?=none->WV I s.heap h'->Q none { s with heap:=h' }):wpAny (model ab w) A (pyNext (.ref I)) Q E s:=by
 revert hh hF it ho hd T item fin;delta ab w A E F s a P I o es ep t vals i Q;intro hh hF it ho hd T item fin;obtain⟨first,hI⟩:1:=it.obj;have hT:s.TypeIs (.ref I) "set_iterator" :=⟨_,hI,rfl⟩;refine VO (wpAny_attempt (wpAny_callSpecial?_slot (name:=VN "__next__") hT eZ
  (Y5 eZ hT lD ?_ (mH _))))
 show wpAny _ _ (fieldsOf (.ref I) >>=_) _ _ s;refine VO (wpAny_fieldsOf hI rfl ?_);refine VO (wpAny_setEntries_of ho hd T.fits ?_);rw[if_neg (Ib _)];have Oh:∀x,WV I s.heap (s.heap.update I (Xi.mapFields (·.setIfInBounds 2 x))):=λx=>(Wx ..).extBut
 have Ey:vals[i]?=none->∀{Q':PySem.Fin->VP->Prop},wpAny (model ab w) A.in1 (do
   setField (Xg I) 2 VQ.none
   let __do_lift <- newExc (VQ.type "StopIteration") []
   raiseNew __do_lift) Q' (λe s'=>wpAny (model ab w) A (do
     let __do_lift <- isInstance e (VQ.type "StopIteration")
     if __do_lift=true then pure none else throw e) Q E s') s:=by
  intro hv Q';delta Q';refine VO (Yb hI rfl (show _<5 by decide) ?_);exact ye hh λh' hk=>fin h' hv λb o hb e=>hk _ _ (Oh _ b o hb e)
 clear hT Oh;induction it with
 |text h1 h2 h3 =>
  rw[hI]at h3;have h3:first=rawInt 0:=pX (WS h3)
  subst h3;show wpAny _ _ (setNext a (Int.toNat 0) (i:Int).toNat (ep:Int).toNat >>=_) _ _ _;rw[Xx,Xx];refine VO (VO (WL ho hd T.fits ?_));dsimp only;refine VO (VO (W1 (VR ?_)));show wpAny _ _ (if w.params.followText "set-order" = true then _ else _) _ _ _;rw[if_pos h1];rw[if_neg (EO ep)];refine VO (VO (WL ho hd T.fits ?_));refine VO (VO (W1 (VR ?_)));show wpAny _ _ (if w.params.followText "set-order" = true then _ else _) _ _ _;rw[if_pos h1];refine VO (W1 (VR (VR ?_)));show wpAny _ _ (match((pickOrder (w.params.setOrder a ep) es)[i]?.map λe=>(e.2,(Int.toNat 0)))with
   |some (x,next)=>(do
     setField (Xg I) 0 (rawInt ↑next)
     setField (Xg I) 1 (rawInt (↑i+1))
     ret x)
   |none=>(do
     setField (Xg I) 2 VQ.none
     let __do_lift <- newExc (VQ.type "StopIteration") []
     raiseNew __do_lift)) _ _ _
  have hv:vals[i]?=(pickOrder (w.params.setOrder a ep) es)[i]?.map (·.2):=by rw[h2,W3,YM]
  cases hp:(pickOrder (w.params.setOrder a ep) es)[i]? with
  |none =>
   rw[hp]at hv;exact Ey hv
  |some e =>
   rw[hp]at hv;refine VO (Yb hI rfl (show _<5 by decide) ?_);refine VO (Yb (mh hI) rfl (show _<5 by decide) (VR ⟨_,rfl,VR (item _ _ hv ?_ ((Wx ..).trans (Wx ..)))⟩));exact .text h1 h2 (tJ (mh hI))
 |drawn T' oT n dA h1 h2 h3 h4 h5 h6 =>
  delta T' oT n dA;intro h2 h3 h4 h5 h6;rw[hI]at h6;have h6:first=.ref T':=pX (WS h6)
  subst h6;refine VO (Y2 (hF _ _ h2) h3 ?_);dsimp only;rw[Xx,Xx];have ju:∀q∈dA,∃b,(es[q]?).map (·.2)=some b:=λq hq=>by
   have O5:q<es.size:=WN.mp (h4.mem_iff.mp hq);rw[Xd O5];exact⟨_,rfl⟩
  have hv:vals[i]?=(dA[i]?).bind λq=>(es[q]?).map (·.2):=by rw[h5];exact rm _ _ ju
  rw[List.getElem?_toArray,W3]
  cases hq:dA[i]? with
  |none =>
   rw[hq]at hv;refine VO (Yb hI rfl (show _<5 by decide) ?_);refine VO (Yb (mh hI) rfl (show _<5 by decide) ?_);exact ye hh λh' hk=>fin h' hv λb o hb e=>hk _ _ (((Wx ..).trans (Wx ..)).extBut b o hb e)
  |some q =>
   delta q;intro hq;rw[hq]at hv;have O5:q<es.size:=WN.mp (h4.mem_iff.mp (Yg hq));dsimp only[Xz,rawInt];rw[Xx];refine VO (VO (WL ho hd T.fits ?_));dsimp only;rw[if_neg (EO ep)];rw[Wg,Xd O5]at hv;rw[Xd O5];refine VR ?_;refine VO (Yb hI rfl (show _<5 by decide) (VR ⟨_,rfl,VR (item _ _ hv ?_ (Wx ..))⟩));exact .drawn T' oT n dA h1 h2 h3 h4 h5 (tJ hI)
 |one slot h1 h2 h3 h4 h5 h6 =>
  delta slot;intro h5 h6;rw[hI]at h6;have h6:first=rawInt slot:=pX (WS h6)
  subst h6;show wpAny _ _ (setNext a (slot:Int).toNat (i:Int).toNat (ep:Int).toNat >>=_) _ _ _;rw[Xx,Xx,Xx];refine VO (VO (WL ho hd T.fits ?_));refine VO (VO (W1 (VR ?_)));show wpAny _ _ (if w.params.followText "set-order" = true then _ else if(!t.plain&&decide (es.size>1))=true then _ else _) _ _ _;rw[h1,show decide (es.size>1)=false from decide_eq_false (by lia)];rw[if_neg Xk,Bool.and_false,if_neg Xk];refine VO ?_;show wpAny _ _ (if(!t.led&&!es.isEmpty)=true then unsupported "set:maker-not-led" else pure ()) _ _ _;rw[h2];refine VR (VR ?_);have hsz:=T.size;rcases Nat.eq_zero_or_pos es.size with h0 |h0
  ·have K8:es=#[]:=XG h0
   clear hd T item h3 hI h6 hsz h0;subst K8;have hv:vals[i]?=none:=by rw[h4];simp
   exact Ey hv
  ·obtain⟨e,rfl⟩:=Ot es (by lia)
   delta e;intro hd T item h3 h4 hI h6 hsz h0;obtain⟨j,hj⟩:=Ot t.place (by rw[hsz];rfl);delta j;intro hj;rw[hj,below_1];clear fin h6;rcases h5 with⟨rfl,rfl⟩ |⟨j',hj',rfl,rfl⟩
   ·skip
    have hv:vals[0]?=some e.2:=by rw[h4];rfl
    show wpAny _ _ (do
     setField (Xg I) 0 (rawInt ↑(j+1))
     setField (Xg I) 1 (rawInt ((0:Nat)+1))
     ret e.2) _ _ _
    refine VO (Yb hI rfl (show _<5 by decide) ?_);refine VO (Yb (mh hI) rfl (show _<5 by decide) (VR ⟨_,rfl,VR (item _ _ hv ?_ ((Wx ..).trans (Wx ..)))⟩));exact .one (j+1) h1 h2 h3 h4 (.inr ⟨j,by rw[hj];rfl,rfl,rfl⟩) (tJ (mh hI))
   ·rw[hj]at hj'
    have:j=j':=by simpa using hj'
    rw[this];rw[if_pos (WE _)];have hv:vals[1]?=none:=by rw[h4];rfl
    exact Ey hv
end
set_option backward.match.sparseCases true
theorem ir.typeIs {w:Wi}{F:Fz}{s:VP}{a:V4}{P:List (aw×Int)}(h:ir w F s.heap a P):s.TypeIs (.ref a) "set" :=by obtain⟨o,_,_,_,z⟩:=h;exact⟨o,z.1,z.2.1.1⟩
theorem ir.noDict {w:Wi}{F:Fz}{s:VP}{a:V4}{P:List (aw×Int)}(h:ir w F s.heap a P):∀b,Xg a=.ref b->∃ob,s.heap.get? b=some ob/\ob.dict=none :=
 λb e=>by injection e with e;subst e;obtain⟨o,_,_,_,z⟩:=h;exact⟨o,z.1,z.2.1.2.1⟩
section
variable {ab:V8}{w:Wi}{A:V7}{E:VQ->VP->Prop}{F:Fz}{s:VP}{a:V4}{P:List (aw×Int)}
theorem HQ {pl:Sem Bool}{Q:VQ×List VQ->VP->Prop}(hP:ir w F s.heap a P)(h:Q (.builtin "set.add",[.ref a]) s):wpAny (model ab w) A (getMethod (.ref a) "add" pl) Q E s :=
 getMethod_builtin hP.typeIs PySem.F.plainAttrs_set PySem.F.slot_set_add PySem.F.type_set_add hP.noDict h
theorem A3 {pl:Sem Bool}{Q:VQ×List VQ->VP->Prop}(hP:ir w F s.heap a P)(h:Q (.builtin "set.clear",[.ref a]) s):wpAny (model ab w) A (getMethod (.ref a) "clear" pl) Q E s :=
 getMethod_builtin hP.typeIs PySem.F.plainAttrs_set PySem.F.slot_set_clear PySem.F.type_set_clear hP.noDict h
theorem Bn {x:VQ}{p:aw×Int}(hx:aj F x (cU p))(hs:BO F s.heap)(hA:A.units+4<9900)(cS:p.1≠[])(hP:ir w F s.heap a P)(hz:P.length<=70){Q:VQ->VP->Prop}
  (h:∀h' tk,ir w F h' a (p::P)->Ws a s.heap h'->Q .none { s with heap:=h',toks:=tk }):wpAny (model ab w) A (call (.builtin "set.add") [.ref a,x]) Q E s:=by
 refine Y5 PySem.F.slot_set_add hP.typeIs PySem.F.entry_set_add ?_ (PySem.F.args_set_add_2 _ _);unfold Builtin.«set.add» Builtin.Frozenset.oneOther;simp only[List.isEmpty_nil,bind_assoc];unfold Builtin.Frozenset.addrOf;refine VO (VR ?_);try dsimp only
 refine VO (VR ?_);try dsimp only
 exact LU hx hs (by rw[V7.in1_units];omega) cS hP hz h
theorem FD {o:Xi}{es:Array (Int×VQ)}{ep:Nat}{t:Wa}{Q:List VQ->VP->Prop}(ho:s.heap.get? a=some o)(hd:o.data=.set es ep t)(T:iR w F P es t)(h:∀l d,Q l { s with drawn:=d }):wpAny (model ab w) A (setItems a) Q E s:=by
 unfold setItems setWalk;refine VO (VO (WL ho hd T.fits ?_));dsimp only;unfold setsByText;refine VO (VO (W1 (VR ?_)));show wpAny _ _ (if w.params.followText "set-order" = true then _ else if(!t.plain&&decide (es.size>1))=true then _ else _) _ _ _
 cases hft:w.params.followText "set-order" with
 |true =>
  rw[if_pos rfl];exact VO (W1 (VR (VR (h _ s.drawn))))
 |false =>
  rw[if_neg Xk];by_cases hL:(!t.plain&&decide (es.size>1))=true
  ·rw[if_pos hL]
   exact VO (mE _ _ _ _ (by simp) λl d _=>VR (VR (h _ d)))
  ·rw[if_neg hL]
   refine VO ?_;show wpAny _ _ (if(!t.led&&decide (es.size>1))=true then unsupported "set:maker-not-led" else pure ()) _ _ _;rw[T.led hft];rw[if_neg (by exact Xk)];exact VR (VR (VR (h _ s.drawn)))
theorem sC (t:Wa)(h1:t.mask=7)(h2:t.place=#[])(h3:t.dummies=#[])(h4:w.params.followText "set-order" = false->t.led=true):iR w F [] #[] t where
 dum:=h3
 pl:=.inr rfl
 led:=h4
 ne:=λp hp=>by cases hp
 mask:=.inl h1
 size:=by rw[h2];rfl
 room:=by rw[h1];decide
 few:=WD _
 of:=λe he=>by cases he
 has:=λp hp=>by cases hp
theorem wg (hP:ir w F s.heap a P){Q:VQ->VP->Prop}(h:∀h' d,ir w F h' a []->Ws a s.heap h'->Q .none { s with heap:=h',drawn:=d }):wpAny (model ab w) A (call (.builtin "set.clear") [.ref a]) Q E s:=by
 revert hP h;delta ab w A E F s a P Q;intro hP h;refine Y5 PySem.F.slot_set_clear hP.typeIs PySem.F.entry_set_clear ?_ (PySem.F.args_set_clear_1 _);obtain⟨o,es,ep,t,ho,mL,hd,T⟩:=hP;unfold Builtin.«set.clear»
 refine VO (WC (show Builtin.Frozenset.noArgs "clear" ⟨[.ref a],[]⟩=pure a from rfl) ?_);unfold Builtin.Frozenset.clearAll setClear;have tail:∀(old:Option (List VQ)) (d:Drawn),wpAny (model ab w) A.in1 (do
   let t:=(<- setState a).2.2
   storeSet a #[] (t.cleared (led:=!(<- setsByText)&&(t.led||t.finger==0)))
   return old) (λr s'=>wpAny (model ab w) A.in1 (do (match r with |some old=>letGo (old.filter λ| .ref _=>true |_=>false) |none=>point);ret VQ.none) (λfin s'=>∃v,fin=PySem.Fin.done (YF.ret v)/\Q v s') E s') E { s with drawn:=d }:=by
  exists old,d;refine VO (WL (s:={ s with drawn:=d }) ho hd T.fits ?_);dsimp only;unfold setsByText;refine VO (VO (W1 (VR ?_)));refine VO (wpAny_storeSet_of (s:={ s with drawn:=d }) ho hd ?_ (W7 _));obtain⟨H2,hg⟩:1:=tj ho mL hd #[] (t.cleared (led:=!(w.params.followText "set-order")&&(t.led||t.finger==0)));have fin:=h _ d ⟨_,_,_,_,hg,⟨rfl,rfl,rfl⟩,rfl,sC _ rfl rfl rfl λq=>by
   show(!(w.params.followText "set-order")&&(t.led||t.finger==0))=true;rw[q,T.led q];rfl⟩ (Wx ..)
  refine VR ?_;induction old with
  |none=>exact VO (wpAny_point (VR ⟨_,rfl,fin⟩))
  |some l=>exact VO (wpAny_letGo (VR ⟨_,rfl,fin⟩))
 simp only[bind_assoc];unfold setDeathsKnown setsByText;refine VO (VO (WL ho hd T.fits (VO (VO (W1 (VR (VR ?_)))))));refine VO ?_;split
 ·exact VO (FD ho hd T λl d=>VO (VR (tail (some l) d)))
 ·exact VO (VR (tail none s.drawn))
end
set_option backward.match.sparseCases false
noncomputable def aX (w:Wi):Xi:={ cls:=.type "set",dict:=none,data:=.set #[] 0 (.fresh 0 0 (!(w.params.followText "set-order"))) }
section
variable {ab:V8}{w:Wi}{A:V7}{E:VQ->VP->Prop}{s:VP}
theorem ui {Q₁:VQ->VP->Prop}(h:Q₁ (.ref s.heap.objs.size) { s with heap:=s.heap.push (aX w) }) :
  codeAny (model ab w) A (.call (.builtin "set.__new__") ⟨[.type "set"],[]⟩) (wants Q₁ E) s:=by
 delta ab w A E s Q₁;intro h;refine Yc ?_;show wpAny _ A.in1 (do checkBuiltinCall "set.__new__" ⟨[.type "set"],[]⟩;again (.builtin "set.__new__" ⟨[.type "set"],[]⟩)) _ _ s;refine VO (WC PySem.F.newCall_set_0 (VR ⟨plainId_quiet PySem.F.plain_set_new _,YI PySem.F.entry_set_new ?_⟩));rw[V7.under_plainId PySem.F.plain_set_new _];unfold Builtin.«set.__new__» Builtin.Frozenset.newClass;have tU:=sub_set_self;obtain⟨hp,g,d,tk,os⟩:=s;dsimp only;wp_walk
 refine W1 (VR ?_);dsimp only;simp only[newObj];refine VO (wpAny_alloc (VR ?_));exact VR h
set_option maxHeartbeats 1000000 in
theorem uk {Q:VQ->VP->Prop}(h:Q (.ref s.heap.objs.size) { s with heap:=s.heap.push (aX w) }):wpAny (model ab w) A (call (.type "set") []) Q E s:=by
 delta ab w A E s Q;intro h;obtain⟨c,tl,QW⟩:2:=Xl.mro;have DX:=Xl.made;have tU:=Xl.sub;refine XC (Yc ?_);show wpAny _ _ (callAny (.type "set") _) _ _ _;refine VR ⟨Code.quiet_builtin _ (by decide +kernel),YI PySem.F.entry_type_call ?_⟩;rw[V7.under_plain (weight_type_call_type "set" [] []) rfl];have h1:=Xl.notType;have h2:=Xl.canCreate;have UP:=PySem.F.typeCall_set_0
 repeat (any_goals (first |assumption |wp_step))
 refine codeAny_mono (ui (E:=E) (Q₁:=λobj aR=>obj=.ref s.heap.objs.size/\aR={ s with heap:=s.heap.push (aX w) }) ⟨rfl,rfl⟩) ?_;exists r,aR;intro hr;cases r with
 |error e=>exact hr
 |ok fl =>
  delta fl;intro hr;cases fl with
  |ret obj =>
   delta obj;intro hr;obtain⟨rfl,rfl⟩:=hr;have hS:(s.heap.push (aX w)).get? s.heap.objs.size=some (aX w):=Wc _ rfl;have hT:VP.TypeIs { s with heap:=s.heap.push (aX w) } (.ref s.heap.objs.size) "set" :=⟨_,hS,rfl⟩;have UC:=Xl.init.lookup;have UR:=Xl.init.bind (.ref s.heap.objs.size)
   repeat (any_goals (first |assumption |wp_step))
   refine codeAny_mono (XM (R:=wants (λr kL=>r=.none/\Q (.ref s.heap.objs.size) kL) E) Xl.init.plain PySem.F.entry_set_init (check_set_init hT ?_)) λCB kL jU=>?_
   ·unfold Builtin.«set.__init__» noKeywords
    wp_walk
    exact⟨rfl,h⟩
   ·delta CB kL;intro jU;cases CB with
    |error e=>exact jU
    |ok vX =>
     delta vX;intro jU;cases vX with
     |ret r =>
      obtain⟨rfl,hq⟩:=jU
      repeat (any_goals (first |assumption |wp_step))
     |_=>exact jU.elim
  |_=>exact hr.elim
theorem w4 (F:Fz){h:Wb}{a:V4}(hg:h.get? a=some (aX w)):ir w F h a [] :=
 ⟨_,_,_,_,hg,⟨rfl,rfl,rfl⟩,rfl,sC _ rfl rfl rfl λq=>by show(!(w.params.followText "set-order"))=true;rw[q];rfl⟩
end
set_option backward.match.sparseCases true
noncomputable def e_ (s:VP)(O:List V4):VP:={ s with heap:=hideAll s.heap O }
theorem jN {s:VP}{O:List V4}{a:V4}{o:Xi}(h:(e_ s O).heap.get? a=some o):s.heap.get? a=some o:=of_hideAll O h
theorem yy {s:VP}{O:List V4}{a:V4}(h:a∈O):(e_ s O).heap.get? a=none:=hideAll_none O h
theorem eA {s:VP}{O:List V4}{a:V4}{o:Xi}(h:s.heap.get? a=some o)(ha:a∉O):(e_ s O).heap.get? a=some o:=hideAll_get O h ha
theorem na {s:VP}{O:List V4}{a:V4}(h:s.heap.get? a=none):(e_ s O).heap.get? a=none:=by
 cases e:(e_ s O).heap.get? a with
 |none=>rfl
 |some o=>rw[jN e]at h;cases h
section
variable {ab:V8}{w:Wi}{X:gJ}{Φ:b_}{hb:Wb}{mg:Str->Option VQ}{k:Nat}{A:V7}{E:VQ->VP->Prop}{af F F':Fz}{ae s s':VP}{env:Yq}{K:V4->Xi->Prop}{σ σ':az X.T}
theorem aA.mask (g:aA F s F' s'){O:List V4}(hO:PL∉O):aA F (e_ s O) F' s' where
 fle:=g.fle
 keep:=λa o n e=>g.keep a o n (jN e)
 tab:=λo e=>g.tab o (jN e)
 fz:=g.fz
 fresh:=λa o e=>(g.fresh a o e).elim .inl λq=>.inr (na q)
 gens:=g.gens
 os:=g.os
theorem jw.hide {an gh h:Wb}(hk:∀a,an.get? a=none->gh.get? a=none){v:VQ}{b:aO X.T}(r:jw X an F env σ h v b):jw X gh F env σ h v b:=by
 induction b with
 |val d=>exact r
 |dead=>trivial
 |app x=>exact r
 |own l =>
  obtain⟨a,e1,e2,e3,e4⟩:=r;exact⟨a,e1,e2,hk _ e3,e4⟩
 |flg m t =>
  obtain⟨O,at_,hz⟩:=r;exact⟨O,at_,λa ha=>⟨(hz a ha).1,(hz a ha).2.1,(hz a ha).2.2.1,λq=>hk _ ((hz a ha).2.2.2 q)⟩⟩
theorem cW.hide {an gh h:Wb}(hk:∀a,an.get? a=none->gh.get? a=none)(gn:∀a o,gh.get? a=some o->an.get? a=some o)(r:cW X an F env σ h):cW X gh F env σ h where
 fe:=r.fe
 base:=λa o n e=>r.base a o n (gn a o e)
 tab:=r.tab
 cd:=r.cd
 ns:=r.ns
 lF:=r.lF
 l0:=hk _ r.l0
 glob:=r.glob
 cf:=r.cf
 cells:=r.cells
 kx:=r.kx
 wr:=λx e=>(r.wr x e).imp id λz=>⟨z.1,z.2.imp λ_ z=>⟨z.1,hk _ z.2⟩⟩
 vars:=λx b e=>(r.vars x b e).imp λ_ z=>⟨z.1,z.2.hide hk⟩
 apart:=r.apart
 one:=r.one
theorem cE.mask (c:cE X af ae env K F σ s){O:List V4}(hO:PL∉O):cE X af (e_ ae O) env K F σ s where
 t0:=c.t0.imp λ_ z=>⟨eA z.1 hO,z.2⟩
 g:=c.g.mask hO
 r:=c.r.hide (λa e=>na e) λa o e=>jN e
 kk:=λa o q=>have z:=c.kk a o q;⟨z.1,z.2.1,na z.2.2.1,z.2.2.2⟩
noncomputable def qU (σ:az X.T):Prop:=∀x b,σ.get x=some b->∃d,b=.val d
theorem qU.set (h:qU σ)(x:Str)(d:D):qU (σ.set x (.val d)):=λy b e=>by
 rcases df e with⟨_,rfl⟩ |⟨_,c,hc,rfl⟩
 ·exact⟨d,rfl⟩
 ·replace hc:=h y c hc;clear e;obtain⟨d',rfl⟩:=hc
  exact⟨d',rfl⟩
theorem aU.mut {h h':Wb}{x:Str}{v:VQ}{b:V4}(e:WV b h h')(hl:b≠env.locals)(hc:∀y c,env.cells.lookup y=some c->b≠c)(a:aU env h x v):aU env h' x v:=by
 rcases a with⟨q,m,n,e'⟩ |⟨q,c,l,o,ho,hd⟩
 ·exact .inl ⟨q,m,n.extBut e (W6 hl),e'⟩
 ·exact .inr ⟨q,c,l,o,e _ _ (W6 (hc _ _ l)) ho,hd⟩
theorem cE.mut (c:cE X af ae env K F σ s)(hv:qU σ){b:V4}{h':Wb}{tk:Nat}{dr:Drawn}(h0:ae.heap.get? b=none)(hF:F b=none)(hl:b≠env.locals)(hc:∀y c,env.cells.lookup y=some c->b≠c)(hK:∀a o,K a o->a≠b)
  (e:WV b s.heap h'):cE X af ae env K F σ { s with heap:=h',toks:=tk,drawn:=dr } where
 t0:=c.t0
 g:=by
  have:=c.g.but h0 hF (c.t0.ne0 h0) (tk:=tk) e;exact⟨this.fle,this.keep,this.tab,this.fz,this.fresh,this.gens,this.os⟩
 r:={
  fe:=c.r.fe
  base:=λa o n q=>e a o (by clear hF hl hc hK e;rintro rfl;exact bo h0 q) (c.r.base a o n q)
  tab:=c.r.tab.but e (c.t0.ne0 h0)
  cd:=c.r.cd
  ns:=c.r.ns.imp λ_ n=>n.extBut e (W6 hl)
  lF:=c.r.lF
  l0:=c.r.l0
  glob:=c.r.glob
  cf:=c.r.cf
  cells:=λy cc q=>by
   obtain⟨f,v,o,ho,hd⟩:=c.r.cells y cc q;exact⟨f,v,o,e _ _ (W6 (hc y cc q)) ho,hd⟩
  kx:=c.r.kx
  wr:=c.r.wr
  vars:=λx bd q=>by
   obtain⟨d,rfl⟩:=hv x bd q;obtain⟨v,va,rb⟩:=c.r.vars x _ q;exact⟨v,va.mut e hl hc,rb⟩
  apart:=λx y l l' a ex=>by obtain⟨d,q⟩:=hv x _ ex;clear c hv ex;cases q
  one:=c.r.one }
 kk:=λa o q=>by obtain⟨h1,h2,h3,h4⟩:=c.kk a o q;exact⟨e _ _ (hK a o q) h1,h2,h3,h4⟩
structure E4 (hb:Wb)(a:V4)(fd:Xp)(body:List V9)(xs:List Str):Prop where
 obj:∃o,hb.get? a=some o/\o.data=.func fd
 code:hb.CodeRec fd.code fd.qualname
 body:fd.body=.stmts body
 clo:fd.closure=[]
 glob:fd.globals=mainGlobals
 blt:fd.builtins=builtinsNs
 kind:fd.scope.kind=.function
 co:fd.scope.isCoroutine=false
 gen:fd.scope.isGenerator=false
 ok:vV fd.scope.names xs=true
 noSub:fW fd.scope.names dy=false
noncomputable def tB:bc->Bool
 |[]=>true
 |(_,.cell)::_=>false
 |_::r=>tB r
theorem pL {x:Str}{l:bc}:tB l=true->(x,XH)∉l:=by
 induction l with
 |nil =>
  intro _;simp
 |cons p0 r ih =>
  intro h;obtain⟨y,k⟩:=p0;have hr:tB r=true/\k≠.cell:=by
   induction k<;>first |exact⟨h,Xn.noConfusion⟩ |exact eV h
  intro hm;rcases V2.mp hm with e |e
  ·clear ih h hm;cases e;exact hr.2 rfl
  ·exact ih hr.1 e
theorem gC {a:V4}{fd:Xp}{body:List V9}{xs:List Str}{ds:List D}{ar:Args}{R:Result->VP->Prop}(Df:E4 hb a fd body xs)(B:dT hb mg)(dC:ds.length=xs.length)(mK:tB fd.scope.names=true)
  {A:V7} {F:Fz} {s:VP} {vs:List VQ} (cL:bindArgs fd ar=pure (xs.zip vs)) (am:Am A F s) (lv:Lv A (k+1)) (bf:au hb F) (hv:al F vs ds)
  (h:∀(A':V7) (E':VQ->VP->Prop) (env:Yq) (aR:VP),Am A' F s->Lv A' k->cE X F s env (λ_ _=>False) F ⟨fd.scope.names,cz xs ds⟩ aR->(∀y,env.cells.lookup y=none)->env.locals=s.heap.objs.size ->wpAny (model ab w) A' (execs body env) (λf s'=>R (.ok (.ret (match f with | .ret v=>v |_=>.none))) s') E' aR) :
  codeAny (model ab w) A (.call (.ref a) ar) R s:=by
 revert Df B dC mK cL am lv bf hv h;revert ab w hb mg k a fd body xs ds ar R A F s vs;unfold X;exists ab,w,hb,mg,k,a,fd,body,xs,ds,ar,R,A,F,s,vs;intro Df B dC mK cL am lv bf hv h;obtain⟨o,ho,hd⟩:=Df.obj;have gG:=bf.keep am.fz;have qh:A.depth<recursionLimit:=by
  clear h;have:=lv.d;rw[show recursionLimit=1000 from rfl];lia
 have tZ:=Df.ok;refine codeAny_call_function qh (gG _ _ ho) hd Df.co Df.gen Df.body (Df.code.keeps gG) ?_;rw[cL,Df.clo];refine VR (wpAny_newFunctionEnv_cells Df.kind (λx hx=>?_) λenv he aR x=>?_)
 ·unfold vV at tZ
  simp only[V3]at tZ;have hm:=List.of_mem_zip (show(x.1,x.2)∈xs.zip vs from hx);have hw:=Wp.mp tZ.1.2 x.1 hm.1;rw[<- fc];exact(iE hw).imp_right λq=>absurd (gE q) (pL mK)
 ·subst he
  refine⟨(B.nolimit.keeps gG).keeps x.toInCall.keep,codeAny_func ?_⟩;have r:cW X s.heap F (callEnvC fd s.heap.objs.size a) ⟨fd.scope.names,cz xs ds⟩ aR.heap:=cW.entry am.fz am.tab (λq=>by rw[Df.noSub]at q;cases q) Df.ok Df.kind Df.glob Df.blt hv x;have g:aA F s F aR:=by
   obtain⟨h',tk,rfl⟩:=x.toInCall.same;exact(aA.refl am.fz).at (tk:=tk) (λa o _ e=>x.toInCall.keep a o e) (.of x.toInCall.keep) λa o e=>x.toInCall.keep _ _ (am.fz _ _ e)
  refine h _ _ _ aR ⟨am.fz,am.tab,am.pl,am.hh,by clear h;have:=lv.u;show A.units+3<=9000;lia⟩ ⟨by clear h;have:=lv.d;show A.depth+1+k<1000;lia,by clear h;have:=lv.u;show A.units+3+100*k<=9000;lia⟩ ⟨am.tab,g,r,λ_ _ q=>q.elim⟩ (λy=>?_) rfl;have CN:=mF fd.scope.names (s.heap.push { cls:=.type "frame",data:=.dict #[] }) [] (λx c e=>by exact bg e) (λx y c ex ey=>by exact bg ex);rw[WM]at CN;exact CN.old y (pL mK)
end
set_option backward.match.sparseCases false
noncomputable abbrev cY:=Int->Bool
set_option genCtorIdx false in
structure Pl where
 n:V4
 f:V4
 r:V4
 d:V4
 deriving Inhabited
set_option genCtorIdx false in
set_option genInjectivity true in
structure Gh where
 N:aw->Option (cY×cY)
 P:List (aw×Int)
 m:Nat
 inst:V4
 idict:V4
 root:V4
 pa:V4
 pobj:Xi
 G:aw->Pl
 own:V4->Option (aw×Nat)
 O:List V4
 deriving Nonempty
noncomputable def kF:Str:=VN "flags"
noncomputable def kR:Str:=VN "recursive_flags"
noncomputable def kN:Str:=VN "nested"
noncomputable def Gh.dOf (g:Gh)(u:aw):V4:=match u with |[]=>g.root |u=>(g.G u).d
noncomputable def bn (u:aw)(k:Str):aw:=u++[k.cps.toList]
section
variable (ab:V8)(w:Wi)
noncomputable def jy (h:Wb)(g:Gh)(u:aw):Prop :=
 ∃kD,h.DictOf (strKind ab w) (g.dOf u) kD/\kD.length<=g.m/\∀k:Str,valueAt kD k=match g.N (bn u k)with |some _=>some (.ref (g.G (bn u k)).n) |none=>none
structure ut (h:Wb)(g:Gh)(u:aw)(f r:cY):Prop where
 ne:u≠[]
 two:u.length<=2
 dict:h.DictOf (strKind ab w) (g.G u).n [(kF,.ref (g.G u).f),(kR,.ref (g.G u).r),(kN,.ref (g.G u).d)]
 fs:∃n,n<=g.m/\h.SetOf (intKind ab w) (g.G u).f f n
 rs:∃n,n<=g.m/\h.SetOf (intKind ab w) (g.G u).r r n
 nd:jy ab w h g u
 on:g.own (g.G u).n=some (u,0)
 of:g.own (g.G u).f=some (u,1)
 or:g.own (g.G u).r=some (u,2)
 od:g.own (g.G u).d=some (u,3)
structure gH (F:Fz)(h:Wb)(g:Gh):Prop where
 inst:h.get? g.inst=some (instObj 121 g.idict)
 idict:∃o h1 h2 t1 t2 n,h.get? g.idict=some o/\o.data=.dict #[⟨h1,.str aF t1,.ref g.root⟩,⟨h2,.str aP t2,.ref g.pa⟩] n
 pobj:h.get? g.pa=some g.pobj
 pend:ir w F h g.pa g.P
 root:jy ab w h g []
 node:∀u f r,g.N u=some (f,r)->ut ab w h g u f r
 pre:∀u v,v≠[]->g.N v=none->g.N (v++u)=none
 o0:g.own g.inst=some ([],0)
 o1:g.own g.idict=some ([],1)
 o2:g.own g.pa=some ([],2)
 o3:g.own g.root=some ([],3)
 inO:∀a p,g.own a=some p->a∈g.O
 alive:∀a∈g.O,∃o,h.get? a=some o/\lV o.data
 sys:∀a∈g.O,a≠sysModules
end
section
variable {ab:V8}{w:Wi}{F F':Fz}{h h':Wb}{g:Gh}
theorem bC {K:Type}[DecidableEq K]{knd:KeyKind ab w K}{a:V4}{kD:List (K×VQ)}(e:h'.get? a=h.get? a)(x:h.DictOf knd a kD):h'.DictOf knd a kD:=by
 obtain⟨o,es,ep,cn⟩:=x;exact⟨o,es,ep,e.trans cn.1,cn.2⟩
theorem ck {K:Type}[DecidableEq K]{knd:KeyKind ab w K}{a:V4}{S:K->Bool}{n:Nat}(e:h'.get? a=h.get? a)(x:h.SetOf knd a S n):h'.SetOf knd a S n:=by
 obtain⟨o,es,ep,t,cn⟩:=x;exact⟨o,es,ep,t,e.trans cn.1,cn.2⟩
theorem iR.mono {P:List (aw×Int)}{es:Array (Int×VQ)}{t:Wa}(T:iR w F P es t)(fl:F.le F'):iR w F' P es t :=
 { T with of:=λe he=>(T.of e he).imp λp z=>⟨z.1,z.2.mono fl⟩,has:=λp hp=>(T.has p hp).imp λp z=>⟨z.1,z.2.mono fl⟩ }
theorem ir.keep {P:List (aw×Int)}{a:V4}(e:h'.get? a=h.get? a)(fl:F.le F')(x:ir w F h a P):ir w F' h' a P:=by
 obtain⟨o,es,ep,t,cn⟩:=x;exact⟨o,es,ep,t,e.trans cn.1,cn.2.1,cn.2.2.1,cn.2.2.2.mono fl⟩
theorem jy.keep {u:aw}(e:h'.get? (g.dOf u)=h.get? (g.dOf u))(x:jy ab w h g u):jy ab w h' g u:=by
 obtain⟨kD,rv⟩:=x;exact⟨kD,bC e rv.1,rv.2⟩
theorem gY {u:aw}(h:u≠[]):g.dOf u=(g.G u).d:=by
 induction u with
 |nil=>exact absurd rfl h
 |cons a r=>rfl
theorem ut.keep {u:aw}{f r:cY}(e:∀a∈[(g.G u).n,(g.G u).f,(g.G u).r,(g.G u).d],h'.get? a=h.get? a)(x:ut ab w h g u f r):ut ab w h' g u f r :=
 { x with dict:=bC (e _ (by simp)) x.dict,fs:=x.fs.imp λ_ z=>⟨z.1,ck (e _ (by simp)) z.2⟩,rs:=x.rs.imp λ_ z=>⟨z.1,ck (e _ (by simp)) z.2⟩,nd:=x.nd.keep (by rw[gY x.ne];exact e _ (by simp)) }
theorem gH.keep (x:gH ab w F h g)(e:∀a∈g.O,h'.get? a=h.get? a)(fl:F.le F'):gH ab w F' h' g where
 inst:=(e _ (x.inO _ _ x.o0)).trans x.inst
 idict:=by
  delta ab w F F' h h' g;intro x e fl;obtain⟨o,h1,h2,t1,t2,n,cn⟩:=x.idict;exact⟨o,h1,h2,t1,t2,n,(e _ (x.inO _ _ x.o1)).trans cn.1,cn.2⟩
 pobj:=(e _ (x.inO _ _ x.o2)).trans x.pobj
 pend:=x.pend.keep (e _ (x.inO _ _ x.o2)) fl
 root:=x.root.keep (e _ (x.inO _ _ x.o3))
 node:=λu f r q=>by
  have y:=x.node u f r q;refine y.keep λa ha=>e a ?_
  simp only[V2,Wf,or_false]at ha;rcases ha with rfl |rfl |rfl |rfl
  ·exact x.inO _ _ y.on
  ·exact x.inO _ _ y.of
  ·exact x.inO _ _ y.or
  ·exact x.inO _ _ y.od
 pre:=x.pre
 o0:=x.o0
 o1:=x.o1
 o2:=x.o2
 o3:=x.o3
 inO:=x.inO
 alive:=λa ha=>(x.alive a ha).imp λo z=>⟨(e a ha).trans z.1,z.2⟩
 sys:=x.sys
theorem jI {K:Type}[DecidableEq K]{knd:KeyKind ab w K}{a:V4}{S:K->Bool}{n:Nat}(x:h.SetOf knd a S n):∃o,h.get? a=some o/\lV o.data:=by
 obtain⟨o,es,ep,t,cn⟩:=x;exact⟨o,cn.1,by rw[cn.2.2.1];trivial⟩
theorem d8 {K:Type}[DecidableEq K]{knd:KeyKind ab w K}{a:V4}{kD:List (K×VQ)}(x:h.DictOf knd a kD):∃o,h.get? a=some o/\lV o.data:=by
 obtain⟨o,es,ep,cn⟩:=x;exact⟨o,cn.1,by rw[cn.2.2.1];trivial⟩
theorem wX {P:List (aw×Int)}{a:V4}(x:ir w F h a P):∃o,h.get? a=some o/\lV o.data:=by
 obtain⟨o,es,ep,t,cn⟩:=x;exact⟨o,cn.1,by rw[cn.2.2.1];trivial⟩
theorem gH.ne (x:gH ab w F h g){a b:V4}{p q:aw×Nat}(ha:g.own a=some p)(hb:g.own b=some q)(Ut:p≠q):a≠b:=by
 rintro rfl;rw[ha]at hb;replace hb:=aJ hb;obtain rfl:=hb;exact Ut rfl
theorem jy.upM {u:aw}{g':Gh}(hd:g'.dOf u=g.dOf u)(hN:∀k,(g'.N (bn u k)).isSome=(g.N (bn u k)).isSome)(hG:g'.G=g.G)(hm:g.m<=g'.m)(x:jy ab w h g u):jy ab w h g' u:=by
 delta ab w h g u g';intro hd hN hG hm x;obtain⟨kD,rv⟩:1:=x;refine⟨kD,by rw[hd];exact rv.1,VX rv.2.1 hm,?_⟩;exists k;rw[rv.2.2 k,hG];have:=hN k
 cases e1:g.N (bn u k)<;>cases e2:g'.N (bn u k)<;>rw[e1,e2]at this<;>first |rfl |cases this
noncomputable def Gh.add (g:Gh)(u:aw)(rec:Bool)(i:Int):Gh :=
 { g with N:=λv=>if v=u then(g.N u).map λp=>if rec then(p.1,λk=>p.2 k||decide (k=i))else(λk=>p.1 k||decide (k=i),p.2)else g.N v,m:=g.m+1 }
theorem Gh.add_some (g:Gh)(u:aw)(rec:Bool)(i:Int)(v:aw):((g.add u rec i).N v).isSome=(g.N v).isSome:=by
 delta g u rec i v;show(if v=u then _ else g.N v).isSome=_;split
 ·rename_i e;subst e;cases g.N v<;>rfl
 ·rfl
theorem Gh.add_dOf (g:Gh)(u:aw)(rec:Bool)(i:Int)(v:aw):(g.add u rec i).dOf v=g.dOf v:=by induction v<;>rfl
theorem gH.add (x:gH ab w F h g){u:aw}{f r:cY}(hu:g.N u=some (f,r))(rec:Bool){i:Int}{n:Nat}(hn:n<=g.m+1)(hs:Ws (if rec then(g.G u).r else(g.G u).f) h h')
  (hS:h'.SetOf (intKind ab w) (if rec then(g.G u).r else(g.G u).f) (λk=>(if rec then r else f) k||decide (k=i)) n):gH ab w F h' (g.add u rec i):=by
 revert x hu hn hs hS;delta ab w F h h' g u f r rec i n;intro x hu hn hs hS;have y:=x.node u f r hu;have NK:g.own (if rec then(g.G u).r else(g.G u).f)=some (u,if rec then 2 else 1):=by
  induction rec with
  |false=>exact y.of
  |true=>exact y.or
 have aY:∀{a p},g.own a=some p->p≠(u,if rec then 2 else 1)->h'.get? a=h.get? a:=λha hp=>hs.2 _ (x.ne ha NK hp)
 have AN:u≠[]:=y.ne;have tW:∀{k:Nat},k≠1->k≠2->∀v:aw,((v,k):aw×Nat)≠(u,if rec then 2 else 1):=λh1 h2 v e=>by
  clear hs hS NK aY;induction rec<;>simp only[Yo,WY,if_false,if_true]at e
  ·exact h1 e.2
  ·exact h2 e.2
 have t5:∀k:Nat,(([],k):aw×Nat)≠(u,if rec then 2 else 1):=λk e=>by clear hu hs hS y NK aY tW;cases e;exact AN rfl
 have cont:∀v,(v=[]\/∃f r,g.N v=some (f,r))->jy ab w h g v->jy ab w h' (g.add u rec i) v:=λv hv hc=>by
  have h1:jy ab w h' g v:=hc.keep (by
   clear hc;rcases hv with rfl |⟨f',r',q⟩
   ·exact aY x.o3 (t5 3)
   ·have z:=x.node v f' r' q
    rw[gY z.ne];exact aY z.od (tW ⋯ ⋯ v))
  exact h1.upM (g.add_dOf u rec i v) (λk=>g.add_some u rec i _) rfl (Zl _)
 exact{
  inst:=(aY x.o0 (t5 0)).trans x.inst
  idict:=by
   obtain⟨o,h1,h2,t1,t2,m,cn⟩:=x.idict;exact⟨o,h1,h2,t1,t2,m,(aY x.o1 (t5 1)).trans cn.1,cn.2⟩
  pobj:=(aY x.o2 (t5 2)).trans x.pobj
  pend:=x.pend.keep (aY x.o2 (t5 2)) F.le_refl
  root:=cont [] (.inl rfl) x.root
  node:=λv f' r' q=>by
   delta v f' r';intro q;by_cases e:v=u
   ·clear NK AN tW t5;subst e
    have q':((g.N v).map λp=>if rec then(p.1,λk=>p.2 k||decide (k=i))else(λk=>p.1 k||decide (k=i),p.2))=some (f',r'):=by
     have:=q;simp only[Gh.add,if_true]at this;exact this
    rw[hu]at q';clear q;induction rec with
    |false =>
     simp only[Xz,WY,if_false,Yl,Yo]at q' hs hS aY;obtain⟨rfl,rfl⟩:=q';exact{ ne:=y.ne,two:=y.two,dict:=bC (aY y.on (by simp)) y.dict,fs:=⟨n,hn,hS⟩,rs:=y.rs.imp λ_ q=>⟨Xf q.1,ck (aY y.or (by simp)) q.2⟩,nd:=cont v (.inr ⟨_,_,hu⟩) y.nd,on:=y.on,of:=y.of,or:=y.or,od:=y.od }
    |true =>
     simp only[Xz,if_true,Yl,Yo]at q' hs hS aY;obtain⟨rfl,rfl⟩:=q';exact{ ne:=y.ne,two:=y.two,dict:=bC (aY y.on (by simp)) y.dict,rs:=⟨n,hn,hS⟩,fs:=y.fs.imp λ_ q=>⟨Xf q.1,ck (aY y.of (by simp)) q.2⟩,nd:=cont v (.inr ⟨_,_,hu⟩) y.nd,on:=y.on,of:=y.of,or:=y.or,od:=y.od }
   ·have q':g.N v=some (f',r'):=by
     have:=q;simp only[Gh.add,if_neg e]at this;exact this
    have z:=x.node v f' r' q';have ne:∀k,((v,k):aw×Nat)≠(u,if rec then 2 else 1):=λk e'=>by clear hu hs hS y NK aY AN tW t5 cont q q' z;cases e';exact e rfl
    exact{ ne:=z.ne,two:=z.two,dict:=bC (aY z.on (ne 0)) z.dict,fs:=z.fs.imp λ_ q=>⟨Xf q.1,ck (aY z.of (ne 1)) q.2⟩,rs:=z.rs.imp λ_ q=>⟨Xf q.1,ck (aY z.or (ne 2)) q.2⟩,nd:=cont v (.inr ⟨_,_,q'⟩) z.nd,on:=z.on,of:=z.of,or:=z.or,od:=z.od }
  pre:=λv t ht q=>by
   delta v t;intro ht q;have h1:g.N t=none:=by
    have:=g.add_some u rec i t;rw[q]at this
    cases e:g.N t with
    |none=>rfl
    |some p=>rw[e]at this;exact eV this
   have h2:=x.pre v t ht h1;have:=g.add_some u rec i (t++v);rw[h2]at this
   cases e:(g.add u rec i).N (t++v)with
   |none=>rfl
   |some p=>rw[e]at this;exact oY this
  o0:=x.o0,o1:=x.o1,o2:=x.o2,o3:=x.o3,inO:=x.inO,sys:=x.sys
  alive:=λa ha=>by
   by_cases e:a=(if rec then(g.G u).r else(g.G u).f)
   ·rw[e];exact jI hS
   ·obtain⟨o,cn⟩:=x.alive a ha
    exact⟨o,(hs.2 a e).trans cn.1,cn.2⟩ }
end
theorem nI {K:Type}[DecidableEq K](k:K):valueAt ([]:List (K×VQ)) k=none:=rfl
theorem be {K:Type}[DecidableEq K](p:K×VQ)(l:List (K×VQ))(k:K):valueAt (p::l) k=if p.1=k then some p.2 else valueAt l k:=by
 unfold valueAt;by_cases h:p.1=k
 ·skip;simp[h]
 ·skip;simp[h]
theorem jE {K:Type}[DecidableEq K](k':K)(v:VQ):∀(l:List (K×VQ)) (k:K),l.any (λkv=>kv.1=k')=false->valueAt (l++[(k',v)]) k=if k'=k then some v else valueAt l k
 |[],k,_=>by rw[YL,be]
 |p::l,k,h=>by
  rw[List.any_cons,Bool.or_eq_false_iff]at h;rw[Yx,be,be,jE k' v l k h.2];have h1:p.1≠k':=of_decide_eq_false h.1;by_cases e:p.1=k
  ·rw[if_pos e,if_pos e,if_neg (λq=>h1 (e.trans q.symm))]
  ·rw[if_neg e,if_neg e]
theorem nJ {K:Type}[DecidableEq K](k':K)(v:VQ):∀(l:List (K×VQ)) (k:K),k≠k'->valueAt (l.map λkv=>if kv.1=k' then(kv.1,v)else kv) k=valueAt l k
 |[],k,_=>rfl
 |p::l,k,h=>by
  rw[Wu,be,be,nJ k' v l k h];by_cases e:p.1=k'
  ·rw[if_pos e,if_neg (λq=>h (q.symm.trans e)),if_neg (λq=>h (q.symm.trans e))]
  ·rw[if_neg e]
theorem je {K:Type}[DecidableEq K](k:K)(v:VQ):∀(l:List (K×VQ)),l.any (λkv=>kv.1=k)=true->valueAt (l.map λkv=>if kv.1=k then(kv.1,v)else kv) k=some v
 |[],h=>by cases h
 |p::l,h=>by
  rw[Wu,be];by_cases e:p.1=k
  ·rw[if_pos e,if_pos e]
  ·rw[if_neg e,if_neg e]
   rw[List.any_cons,decide_eq_false e,Bool.false_or]at h;exact je k v l h
theorem oU {K:Type}[DecidableEq K](l:List (K×VQ))(k':K)(v:VQ)(k:K):valueAt (stored l k' v) k=if k'=k then some v else valueAt l k:=by
 unfold stored;by_cases h:l.any (λkv=>kv.1=k')=true
 ·rw[if_pos h]
  by_cases e:k'=k
  ·subst e;rw[if_pos rfl];exact je k' v l h
  ·rw[if_neg e];exact nJ k' v l k (W6 e)
 ·rw[if_neg h]
  exact jE k' v l k (by rw[Y6]at h;exact h)
theorem jd {K:Type}[DecidableEq K](k':K):∀(l:List (K×VQ)) (k:K),valueAt (without l k') k=if k'=k then none else valueAt l k
 |[],k=>by unfold without;simp[nI]
 |p::l,k=>by
  have ih:=jd k' l k;unfold without at ih ⊢
  rw[Xr];by_cases e:p.1=k'
  ·rw[if_neg (by simp[e]),ih,be]
   by_cases e2:k'=k
   ·rw[if_pos e2,if_pos e2]
   ·rw[if_neg e2,if_neg e2,if_neg (λq=>e2 (e.symm.trans q))]
  ·rw[if_pos (by simp[e]),be,ih,be]
   by_cases e2:p.1=k
   ·rw[if_pos e2,if_pos e2,if_neg (λq=>e (e2.trans q.symm))]
   ·rw[if_neg e2,if_neg e2]
theorem uG {K:Type}[DecidableEq K](l:List (K×VQ))(k:K):(without l k).length<=l.length:=Wj _ _
theorem Iv {x y:Str}(h:x.cps.toList=y.cps.toList):x=y:=by
 induction x;induction y;rw[Str.mk.injEq];exact X6.mp h
theorem me {u v:aw}{k l:Str}(h:bn u k=bn v l):u=v/\k=l:=by
 have:=List.append_inj' h rfl;exact⟨this.1,Iv (by simpa using this.2)⟩
theorem md (u:aw)(k:Str):bn u k≠[]:=by unfold bn;simp
section
variable {ab:V8}{w:Wi}{F F':Fz}{h h':Wb}{g:Gh}
noncomputable def Gh.new (g:Gh)(u:aw)(k:Str)(pl:Pl):Gh :=
 { g with N:=λv=>if v=bn u k then some (λ_=>false,λ_=>false)else g.N v,G:=λv=>if v=bn u k then pl else g.G v,m:=g.m+1,own:=λa=>if a=pl.n then some (bn u k,0)else if a=pl.f then some (bn u k,1)else if a=pl.r then some (bn u k,2)else if a=pl.d then some (bn u k,3)else g.own a,O:=pl.n::pl.f::pl.r::pl.d::g.O }
noncomputable def Pl.list (p:Pl):List V4:=[p.n,p.f,p.r,p.d]
theorem gH.own_alive (x:gH ab w F h g){a:V4}{p:aw×Nat}(q:g.own a=some p):∃o,h.get? a=some o:=(x.alive a (x.inO a p q)).imp λ_ z=>z.1
theorem gH.new (x:gH ab w F h g){u:aw}{k:Str}{pl:Pl}(hu:u=[]\/(u.length<=1/\∃p,g.N u=some p))(hN:g.N (bn u k)=none)(xF:∀a∈pl.list,h.get? a=none)(Mf:pl.list.Nodup)(qg:∀a∈pl.list,a≠sysModules)
  {kD:List (Str×VQ)} (hc:h.DictOf (strKind ab w) (g.dOf u) kD) (Mj:kD.length<=g.m) (AV:∀k:Str,valueAt kD k=match g.N (bn u k)with |some _=>some (.ref (g.G (bn u k)).n) |none=>none)
  (hs:∀a∈g.O,a≠g.dOf u->h'.get? a=h.get? a) (h1:h'.DictOf (strKind ab w) (g.dOf u) (stored kD k (.ref pl.n)))
  (h2:h'.DictOf (strKind ab w) pl.n [(kF,.ref pl.f),(kR,.ref pl.r),(kN,.ref pl.d)]) (h3:h'.SetOf (intKind ab w) pl.f (λ_=>false) 0) (h4:h'.SetOf (intKind ab w) pl.r (λ_=>false) 0) (h5:h'.DictOf (strKind ab w) pl.d []) :
  gH ab w F h' (g.new u k pl):=by
 revert x hu hN xF Mf qg hc Mj AV hs h1 h2 h3 h4 h5;delta ab w F h h' g u k pl kD;intro x hu hN xF Mf qg hc Mj AV hs h1 h2 h3 h4 h5;simp only[Pl.list,List.nodup_cons,V2,Wf,or_false,not_or,not_false_eq_true,List.nodup_nil,and_true]at Mf;obtain⟨⟨n1,n2,n3⟩,⟨n4,n5⟩,n6⟩:=Mf;have Uw:∀{a p},g.own a=some p->a∉pl.list:=λq hm=>by
  obtain⟨o,ho⟩:=x.own_alive q;rw[xF _ hm]at ho;exact bg ho
 have mY:∀{a p},g.own a=some p->(g.new u k pl).own a=some p:=λ{a p} q=>by
  delta a p;intro q;have:=Uw q;simp only[Pl.list,V2,Wf,or_false,not_or]at this;simp only[Gh.new,if_neg this.1,if_neg this.2.1,if_neg this.2.2.1,if_neg this.2.2.2,q]
 have HN:∀v,v≠bn u k->(g.new u k pl).dOf v=g.dOf v:=λv hv=>by
  delta v;intro hv;induction v with
  |nil=>rfl
  |cons a r=>show((g.new u k pl).G (a::r)).d=_;simp only[Gh.new,if_neg hv];rfl
 have A0:∀v,v≠bn u k->(g.new u k pl).N v=g.N v:=λv hv=>by simp only[Gh.new,if_neg hv]
 have Lb:∀v,v≠bn u k->(g.new u k pl).G v=g.G v:=λv hv=>by simp only[Gh.new,if_neg hv]
 have DR:u≠bn u k:=λe=>by
  have:=congrArg Xq e;unfold bn at this;rw[V1,We]at this;lia
 have xD:∃p,g.own (g.dOf u)=some p/\p=(u,3):=by
  clear hc;rcases hu with rfl |⟨_,⟨f,r⟩,q⟩
  ·exact⟨_,x.o3,rfl⟩
  ·have z:=x.node u f r q
   rw[gY z.ne];exact⟨_,z.od,rfl⟩
 obtain⟨_,xD,rfl⟩:=xD;have aY:∀{a p},g.own a=some p->p≠(u,3)->h'.get? a=h.get? a:=λha hp=>hs _ (x.inO _ _ ha) (x.ne ha xD hp)
 have cont:∀v,v≠bn u k->(v=[]\/∃p,g.N v=some p)->jy ab w h g v->jy ab w h' (g.new u k pl) v:=λv hv I5 Je=>by
  delta v;intro hv I5 Je;by_cases e:v=u
  ·clear hu hN hs mY DR xD aY;subst e
   refine⟨_,by rw[HN v hv];exact h1,?_,λl=>?_⟩
   ·have:=stored_length_le kD k (.ref pl.n)
    show _<=g.m+1;lia
   ·delta l;rw[oU]
    by_cases q:k=l
    ·subst q
     rw[if_pos rfl];simp only[Gh.new,if_true]
    ·have cS:bn v l≠bn v k:=λe=>q (me e).2.symm
     rw[if_neg q,AV l,A0 _ cS,Lb _ cS];try rfl
  ·obtain⟨Dj,Fw⟩:1:=Je
   refine⟨Dj,?_,Xf Fw.2.1,λl=>?_⟩
   ·rw[HN v hv]
    refine bC ?_ Fw.1;clear hv Fw;rcases I5 with rfl |⟨⟨f,r⟩,q⟩
    ·exact aY x.o3 (λq=>e (by clear hu hN AV hs h1 mY HN A0 Lb DR xD aY e;cases q;rfl))
    ·delta f r;intro q;have z:=x.node v f r q
     rw[gY z.ne];exact aY z.od (λq=>e (by clear hu hN AV hs h1 mY HN A0 Lb DR xD aY e z;cases q;rfl))
   ·delta l;have cS:bn v l≠bn u k:=λq=>e (me q).1
    rw[Fw.2.2 l,A0 _ cS,Lb _ cS]
 have AN:∀{p:aw×Nat},p.1=[]->p.2≠3->p≠(u,3):=λh1 h2 e=>by subst e;exact h2 rfl
 exact{
  inst:=(aY x.o0 (by simp)).trans x.inst
  idict:=by
   obtain⟨o,a1,a2,t1,t2,m,cn⟩:=x.idict;exact⟨o,a1,a2,t1,t2,m,(aY x.o1 (by simp)).trans cn.1,cn.2⟩
  pobj:=(aY x.o2 (by simp)).trans x.pobj
  pend:=x.pend.keep (aY x.o2 (by simp)) F.le_refl
  root:=cont [] (md u k).symm (.inl rfl) x.root
  node:=λv f r q=>by
   delta v f r;intro q;by_cases e:v=bn u k
   ·subst e
    have q':f=(λ_=>false)/\r=(λ_=>false):=by
     simp only[Gh.new,if_true,Yl,Yo]at q;exact⟨q.1.symm,q.2.symm⟩
    obtain⟨rfl,rfl⟩:=q';have hG:(g.new u k pl).G (bn u k)=pl:=by simp only[Gh.new,if_true]
    have dC:(bn u k).length<=2:=by
     unfold bn;rw[V1,We];clear AV hs h1 mY HN Lb xD aY cont AN;rcases hu with rfl |⟨q,_⟩
     ·simp
     ·lia
    refine{ ne:=md u k,two:=dC,dict:=by rw[hG];exact h2,fs:=⟨0,W7 _,by rw[hG];exact h3⟩,rs:=⟨0,W7 _,by rw[hG];exact h4⟩,nd:=?_,on:=?_,of:=?_,or:=?_,od:=?_ }
    ·refine⟨[],?_,W7 _,λl=>?_⟩
     ·rw[gY (md u k),hG];exact h5
     ·delta l;have cS:bn (bn u k) l≠bn u k:=λe=>DR (me e).1.symm
      rw[nI,A0 _ cS];have:=x.pre [l.cps.toList] (bn u k) (md u k) hN;rw[show g.N (bn (bn u k) l)=none from this]
    ·rw[hG];simp only[Gh.new,if_true]
    ·rw[hG];simp only[Gh.new,if_neg (W6 n1),if_true]
    ·rw[hG];simp only[Gh.new,if_neg (W6 n2),if_neg (W6 n4),if_true]
    ·rw[hG];simp only[Gh.new,if_neg (W6 n3),if_neg (W6 n5),if_neg (W6 n6),if_true]
   ·have q':=(A0 v e).symm.trans q
    have z:=x.node v f r q';have hg:=Lb v e;exact{ ne:=z.ne,two:=z.two,dict:=by rw[hg];exact bC (aY z.on (by simp)) z.dict,fs:=z.fs.imp λ_ q=>⟨Xf q.1,by rw[hg];exact ck (aY z.of (by simp)) q.2⟩,rs:=z.rs.imp λ_ q=>⟨Xf q.1,by rw[hg];exact ck (aY z.or (by simp)) q.2⟩,nd:=cont v e (.inr ⟨_,q'⟩) z.nd,on:=by rw[hg];exact mY z.on,of:=by rw[hg];exact mY z.of,or:=by rw[hg];exact mY z.or,od:=by rw[hg];exact mY z.od }
  pre:=λv t ht q=>by
   delta v t;intro ht q;have e1:t≠bn u k:=λe=>by clear ht;subst e;simp only[Gh.new,if_true]at q;exact JS q
   rw[A0 t e1]at q;by_cases e2:t++v=bn u k
   ·exfalso
    clear hN AV hs h1 mY HN A0 Lb DR xD aY cont AN;rcases hu with rfl |⟨hl,⟨p,hp⟩⟩
    ·have:t=[]\/t=bn [] k:=by
      induction t with
      |nil=>exact .inl rfl
      |cons a r =>
       delta a r;intro _ ht q e1 e2;right;have e3:a::(r++v)=[k.cps.toList]:=e2;simp only[List.cons.injEq,List.append_eq_nil_iff]at e3;rw[e3.1,e3.2.1];rfl
     rcases this with e |e
     ·exact ht e
     ·exact e1 e
    ·delta p;intro hp;have e3:t++v=u++[k.cps.toList]:=e2
     have hv:v≠[]:=λe=>by clear e2;subst e;rw[WH]at e3;exact e1 e3
     obtain⟨v',b,rfl⟩:∃v' b,v=v'++[b]:=⟨v.dropLast,v.getLast hv,(List.dropLast_concat_getLast hv).symm⟩;delta v' b;intro e2 e3 hv;rw[<- Ww]at e3;have e4:=(List.append_inj' e3 rfl).1;have:=x.pre v' t ht q;rw[e4,hp]at this;exact JS this
   ·rw[A0 _ e2];exact(x.pre v t ht q)
  o0:=mY x.o0,o1:=mY x.o1,o2:=mY x.o2,o3:=mY x.o3
  sys:=λa ha=>by
   delta a;intro ha;simp only[Gh.new,V2]at ha;rcases ha with rfl |rfl |rfl |rfl |ha
   ·exact qg _ (by simp[Pl.list])
   ·exact qg _ (by simp[Pl.list])
   ·exact qg _ (by simp[Pl.list])
   ·exact qg _ (by simp[Pl.list])
   ·exact x.sys a ha
  inO:=λa p q=>by
   delta a p;intro q;simp only[Gh.new]at q ⊢
   split at q
   ·rename_i e;subst e;simp
   ·split at q
    ·rename_i e;subst e;simp
    ·split at q
     ·rename_i e;rw[e];simp
     ·split at q
      ·rename_i e;rw[e];simp
      ·exact VS _ (VS _ (VS _ (VS _ (x.inO a p q))))
  alive:=λa ha=>by
   delta a;intro ha;simp only[Gh.new,V2]at ha;rcases ha with rfl |rfl |rfl |rfl |ha
   ·exact d8 h2
   ·exact jI h3
   ·exact jI h4
   ·exact d8 h5
   ·by_cases e:a=g.dOf u
    ·clear ha;subst e;exact d8 h1
    ·obtain⟨o,cn⟩:=x.alive a ha
     exact⟨o,(hs a ha e).trans cn.1,cn.2⟩ }
end
noncomputable def dz:aw->aw->Bool
 |[],_=>true
 |_::_,[]=>false
 |a::r,b::s=>gu a b&&dz r s
theorem cK:∀{u v:aw},dz u v=true↔∃t,v=u++t
 |[],v=>⟨λ_=>⟨v,rfl⟩,λ_=>rfl⟩
 |a::r,[]=>⟨λh=>oY h.symm,λ⟨_,h⟩=>nomatch h⟩
 |a::r,b::s=>by
  rw[show dz (a::r) (b::s)=(gu a b&&dz r s)from rfl,V3,ce,cK (u:=r) (v:=s)];constructor
  ·rintro⟨rfl,t,rfl⟩;exact⟨t,rfl⟩
  ·rintro⟨t,h⟩
   simp only[Yx,List.cons.injEq]at h;exact⟨h.1.symm,t,h.2⟩
theorem Ah (u:aw):dz u u=true:=cK.mpr ⟨[],by simp⟩
theorem CL {u v:aw}(t:aw)(h:dz u v=true):dz u (v++t)=true:=by
 obtain⟨s,rfl⟩:=cK.mp h;exact cK.mpr ⟨s++t,by simp⟩
theorem u7 {u v:aw}{l:Str}{k:Str}(h:dz (bn u k) (bn v l)=true):dz (bn u k) v=true\/(u=v/\k=l):=by
 delta u v l k;intro h;obtain⟨t,ht⟩:=cK.mp h;delta t;intro ht;rcases List.eq_nil_or_concat t with rfl |⟨t',b,rfl⟩
 ·rw[WH]at ht
  have:=me ht;exact .inr ⟨this.1.symm,this.2.symm⟩
 ·rw[List.concat_eq_append,<- Ww]at ht
  have:=(List.append_inj' ht rfl).1;exact .inl (cK.mpr ⟨t',this⟩)
theorem CK {u v:aw}(h:dz u v=true):u.length<=v.length:=by
 replace h:=cK.mp h;obtain⟨t,rfl⟩:=h;simp
section
variable {ab:V8}{w:Wi}{F F':Fz}{h h':Wb}{g:Gh}
noncomputable def Gh.pop (g:Gh)(u:aw)(k:Str):Gh:={ g with N:=λv=>if dz (bn u k) v then none else g.N v }
theorem Gh.pop_none {u:aw}{k:Str}{v:aw}(h:dz (bn u k) v=false):(g.pop u k).N v=g.N v:=by simp only[Gh.pop,h,WY,if_false]
theorem Gh.pop_some {u:aw}{k:Str}{v:aw}{p:cY×cY}(h:(g.pop u k).N v=some p):dz (bn u k) v=false/\g.N v=some p:=by
 cases e:dz (bn u k) v with
 |true=>simp only[Gh.pop,e,if_true]at h;exact bg h
 |false=>rw[Gh.pop_none e]at h;exact⟨rfl,h⟩
theorem gH.pop (x:gH ab w F h g){u:aw}{k:Str}(hu:u=[]\/∃p,g.N u=some p){kD:List (Str×VQ)}(Mj:kD.length<=g.m)(AV:∀k:Str,valueAt kD k=match g.N (bn u k)with |some _=>some (.ref (g.G (bn u k)).n) |none=>none)
  (hs:Ws (g.dOf u) h h') (h1:h'.DictOf (strKind ab w) (g.dOf u) (without kD k)):gH ab w F h' (g.pop u k):=by
 revert x hu Mj AV hs h1;delta ab w F h h' g u k kD;intro x hu Mj AV hs h1;have HN:∀v,(g.pop u k).dOf v=g.dOf v:=λv=>by induction v<;>rfl
 have xD:∃p,g.own (g.dOf u)=some p/\p=(u,3):=by
  clear HN;rcases hu with rfl |⟨⟨f,r⟩,q⟩
  ·exact⟨_,x.o3,rfl⟩
  ·have z:=x.node u f r q
   rw[gY z.ne];exact⟨_,z.od,rfl⟩
 obtain⟨_,xD,rfl⟩:=xD;have aY:∀{a p},g.own a=some p->p≠(u,3)->h'.get? a=h.get? a:=λha hp=>hs.2 _ (x.ne ha xD hp)
 have cont:∀v,dz (bn u k) v=false->(v=[]\/∃p,g.N v=some p)->jy ab w h g v->jy ab w h' (g.pop u k) v:=λv hv I5 Je=>by
  delta v;intro hv I5 Je;by_cases e:v=u
  ·clear hu hs xD aY;subst e
   refine⟨_,by skip;exact h1,VX (uG _ _) Mj,?_⟩;exists l;rw[jd];by_cases q:k=l
   ·subst q
    rw[if_pos rfl];simp only[Gh.pop,Ah,if_true]
   ·have cS:dz (bn v k) (bn v l)=false:=by
     cases e:dz (bn v k) (bn v l)with
     |false=>rfl
     |true =>
      rcases u7 e with q' |⟨_,q'⟩
      ·exact dw q' hv
      ·exact absurd q' q
    rw[if_neg q,AV l,Gh.pop_none cS];rfl
  ·obtain⟨Dj,c1,c2,c3⟩:1:=Je
   refine⟨Dj,?_,c2,λl=>?_⟩
   ·skip
    refine bC ?_ c1;clear hv c1 c3;rcases I5 with rfl |⟨⟨f,r⟩,q⟩
    ·exact aY x.o3 (λq=>e (by clear hu AV hs h1 xD aY e;cases q;rfl))
    ·delta f r;intro q;have z:=x.node v f r q
     rw[gY z.ne];exact aY z.od (λq=>e (by clear hu AV hs h1 xD aY e z;cases q;rfl))
   ·delta l;have cS:dz (bn u k) (bn v l)=false:=by
     cases e':dz (bn u k) (bn v l)with
     |false=>rfl
     |true =>
      rcases u7 e' with q' |⟨q',_⟩
      ·exact dw q' hv
      ·exact absurd q'.symm e
    rw[c3 l,Gh.pop_none cS];rfl
 have t5:dz (bn u k) []=false:=by
  cases e:dz (bn u k) []with
  |false=>rfl
  |true =>
   have:=CK e;unfold bn at this;simp at this
 exact{
  inst:=(aY x.o0 (by simp)).trans x.inst
  idict:=by
   obtain⟨o,a1,a2,t1,t2,m,ho,hd⟩:=x.idict;exact⟨o,a1,a2,t1,t2,m,(aY x.o1 (by simp)).trans ho,hd⟩
  pobj:=(aY x.o2 (by simp)).trans x.pobj
  pend:=x.pend.keep (aY x.o2 (by simp)) F.le_refl
  root:=cont [] t5 (.inl rfl) x.root
  node:=λv f r q=>by
   delta v f r;intro q;obtain⟨q1,q2⟩:=Gh.pop_some q;have z:=x.node v f r q2;exact{ ne:=z.ne,two:=z.two,dict:=bC (aY z.on (by simp)) z.dict,fs:=let ⟨k,a,b⟩:=z.fs;⟨k,a,ck (aY z.of (by simp)) b⟩,rs:=let ⟨k,a,b⟩:=z.rs;⟨k,a,ck (aY z.or (by simp)) b⟩,nd:=cont v q1 (.inr ⟨_,q2⟩) z.nd,on:=z.on,of:=z.of,or:=z.or,od:=z.od }
  pre:=λv t ht q=>by
   delta v t;intro ht q;cases e:dz (bn u k) t with
   |true=>simp only[Gh.pop,CL v e,if_true]
   |false =>
    rw[Gh.pop_none e]at q;have:=x.pre v t ht q;simp only[Gh.pop,this,ite_self]
  o0:=x.o0,o1:=x.o1,o2:=x.o2,o3:=x.o3,inO:=x.inO,sys:=x.sys
  alive:=λa ha=>by
   delta a;intro ha;by_cases e:a=g.dOf u
   ·clear ha;subst e;exact d8 h1
   ·obtain⟨o,ho,q⟩:=x.alive a ha
    exact⟨o,(hs.2 a e).trans ho,q⟩ }
theorem gH.pop0 (x:gH ab w F h g){u:aw}{k:Str}(hn:g.N (bn u k)=none):gH ab w F h (g.pop u k):=by
 have:(g.pop u k)=g:=by
  have:(g.pop u k).N=g.N:=by
   funext v
   cases e:dz (bn u k) v with
   |false=>exact Gh.pop_none e
   |true =>
    obtain⟨t,rfl⟩:=cK.mp e;rw[x.pre t _ (md u k) hn];simp only[Gh.pop,e,if_true]
  clear hn;induction g;simp only[Gh.pop,Gh.mk.injEq,and_true]at this ⊢
  exact this
 rw[this];exact x
noncomputable def Gh.pend (g:Gh)(P:List (aw×Int))(o:Xi):Gh:={ g with P:=P,pobj:=o }
theorem gH.pendTo (x:gH ab w F h g){P:List (aw×Int)}{o:Xi}(ho:h'.get? g.pa=some o)(hs:Ws g.pa h h')(hP:ir w F h' g.pa P):gH ab w F h' (g.pend P o):=by
 revert x ho hs hP;delta ab w F h h' g P o;intro x ho hs hP;have aY:∀{a p},g.own a=some p->p≠([],2)->h'.get? a=h.get? a:=λha hp=>hs.2 _ (x.ne ha x.o2 hp)
 have HN:∀v,(g.pend P o).dOf v=g.dOf v:=λv=>by induction v<;>rfl
 have cont:∀v,(v=[]\/∃p,g.N v=some p)->jy ab w h g v->jy ab w h' (g.pend P o) v:=λv I5 Je=>by
  delta v;intro I5 Je;obtain⟨Dj,c1,c2,c3⟩:1:=Je;refine⟨Dj,?_,c2,c3⟩;refine bC ?_ c1;clear c1 c3;rcases I5 with rfl |⟨⟨f,r⟩,q⟩
  ·exact aY x.o3 (by simp)
  ·have z:=x.node v f r q
   rw[gY z.ne];exact aY z.od (by simp)
 exact{
  inst:=(aY x.o0 (by simp)).trans x.inst
  idict:=by
   obtain⟨o,a1,a2,t1,t2,m,ho,hd⟩:=x.idict;exact⟨o,a1,a2,t1,t2,m,(aY x.o1 (by simp)).trans ho,hd⟩
  pobj:=ho
  pend:=hP
  root:=cont [] (.inl rfl) x.root
  node:=λv f r q=>by
   delta v f r;intro q;have z:=x.node v f r q;exact{ ne:=z.ne,two:=z.two,dict:=bC (aY z.on (by simp)) z.dict,fs:=let ⟨k,a,b⟩:=z.fs;⟨k,a,ck (aY z.of (by simp)) b⟩,rs:=let ⟨k,a,b⟩:=z.rs;⟨k,a,ck (aY z.or (by intro q;clear b;cases q;exact z.ne rfl)) b⟩,nd:=cont v (.inr ⟨_,q⟩) z.nd,on:=z.on,of:=z.of,or:=z.or,od:=z.od }
  pre:=x.pre,o0:=x.o0,o1:=x.o1,o2:=x.o2,o3:=x.o3,inO:=x.inO,sys:=x.sys
  alive:=λa ha=>by
   delta a;intro ha;by_cases e:a=g.pa
   ·clear ha;subst e;exact wX hP
   ·obtain⟨o,ho,q⟩:=x.alive a ha
    exact⟨o,(hs.2 a e).trans ho,q⟩ }
end
structure kK (hb:Wb)(K:Zo):Prop where
 inn:K.In hb
 pg:plainGet K 121 aF=true
 hd:hasDictIn K 121=true
 nF:findIn K (.ref 121) aF=some none
 nP:findIn K (.ref 121) aP=some none
 sa:findIn K (.ref 121) "__setattr__" = some (some (.builtin "object.__setattr__"))
 po:plainOver K 121=true
 tF:takerIn K 121 aF=some none
 tP:takerIn K 121 aP=some none
 mks:makesIn K 121=true
 mi:findIn K (.ref 121) "__init__" = some (some (.ref 83))
 ma:findIn K (.ref 121) (VN "add_pending")=some (some (.ref 90))
 mf:findIn K (.ref 121) (VN "finalize_pending")=some (some (.ref 97))
 mu:findIn K (.ref 121) (VN "unset_all")=some (some (.ref 104))
 ms:findIn K (.ref 121) (VN "set")=some (some (.ref 111))
 mis:findIn K (.ref 121) (VN "is_")=some (some (.ref 118))
 fi:typeIn K (.ref 83)=some (.type "function")
 fa:typeIn K (.ref 90)=some (.type "function")
 ff:typeIn K (.ref 97)=some (.type "function")
 fu:typeIn K (.ref 104)=some (.type "function")
 fs:typeIn K (.ref 111)=some (.type "function")
 fis:typeIn K (.ref 118)=some (.type "function")
 sm:∃o,hb.get? sysModules=some o
 kc:keepIn K (.ref 121)=true
section
variable (ab:V8)(w:Wi)(mu:Bool)(X:gJ)(af:Fz)(ae:VP)(env:Yq)(K:V4->Xi->Prop)
structure bJ (F:Fz)(σ:az X.T)(s:VP)(g:Gh):Prop where
 c:cE X af ae env K F σ s
 inv:gH ab w F s.heap g
 own:∀a∈g.O,a≠env.locals/\(mu=true->F a=none/\ae.heap.get? a=none)
 kO:∀a o,K a o->a∉g.O
 av:qU σ
 nc:∀y,env.cells.lookup y=none
end
section
variable {ab:V8}{w:Wi}{mu:Bool}{X:gJ}{Φ:b_}{hb:Wb}{mg:Str->Option VQ}{k:Nat}{A:V7}{E:VQ->VP->Prop}{af F F':Fz}{ae s s':VP}{env:Yq}{K K':V4->Xi->Prop}{σ σ':az X.T}{g g':Gh}{N:Nat}{KF:Zo}
theorem bJ.grow (m:bJ ab w mu X af ae env K F σ s g)(gr:aA F s F' s'):bJ ab w mu X af ae env K F' σ s' g where
 c:=m.c.grow gr
 inv:=m.inv.keep (λa ha=>by
  obtain⟨o,ho,hq⟩:=m.inv.alive a ha;rw[ho,gr.keepD m.c.r.tab ho (fS hq)]) gr.fle
 own:=λa ha=>by
  obtain⟨o,ho,_⟩:=m.inv.alive a ha;refine⟨(m.own a ha).1,λSG=>⟨?_,((m.own a ha).2 SG).2⟩⟩
  cases e:F' a with
  |none=>rfl
  |some p =>
   rcases gr.fresh _ _ e with q |q
   ·rw[((m.own a ha).2 SG).1]at q;cases q
   ·exact bo q ho
 kO:=m.kO
 av:=m.av
 nc:=m.nc
theorem bJ.store (m:bJ ab w mu X af ae env K F σ s g){x:Str}{v:VQ}{d:D}{Q:Unit->VP->Prop}(hw:bW σ.nm x=true)(hv:aj F v d)(h:∀s',bJ ab w mu X af ae env K F (σ.set x (.val d)) s' g->Q () s') :
  wpAny (model ab w) A (storeName env x v) Q E s :=
 iw m.c.r hw hv λh' tk b ob gG ed oj hs b0 bF r'=>h _ {
  c:=m.c.assign (cq.same ed oj hs) (λa o q=>hs.extBut a o (by clear gG ed hs b0;rintro rfl;exact bo bF q) (m.c.g.fz a o q)) r'
  inv:=m.inv.keep (λa ha=>hs.2 a (by
   clear ed hs b0 bF;rintro rfl;rcases gG with q |⟨z,q⟩
   ·exact(m.own _ ha).1 q
   ·rw[m.nc z]at q;clear ha;cases q)) F.le_refl
  own:=m.own
  kO:=m.kO
  av:=m.av.set x d
  nc:=m.nc }
theorem bJ.mut (m:bJ ab w true X af ae env K F σ s g){b:V4}{h':Wb}{tk:Nat}{dr:Drawn}(Pg:b∈g.O)(e:WV b s.heap h')(hi:gH ab w F h' g')(hO:∀a∈g'.O,a∈g.O\/(F a=none/\a≠env.locals/\ae.heap.get? a=none/\∀o,¬ K a o)) :
  bJ ab w true X af ae env K F σ { s with heap:=h',toks:=tk,drawn:=dr } g' where
 c:=m.c.mut m.av ((m.own b Pg).2 rfl).2 ((m.own b Pg).2 rfl).1 (m.own b Pg).1 (λy c q=>by rw[m.nc y]at q;cases q) (λa o q e=>m.kO a o q (e▸Pg)) e
 inv:=hi
 own:=λa ha=>(hO a ha).elim (m.own a) λq=>⟨q.2.1,λ_=>⟨q.1,q.2.2.1⟩⟩
 kO:=λa o q ha=>(hO a ha).elim (m.kO a o q) λq'=>q'.2.2.2 o q
 av:=m.av
 nc:=m.nc
theorem bJ.evs (m:bJ ab w mu X af ae env K F σ s g)(S:gy ab w X Φ hb k)(ag:Am A af ae)(lv:Lv A k)(ai:au hb af){e:Expr}{d:D}{Q:VQ->VP->Prop}(he:ev X.aa Φ N σ false e=some d)
  (h:∀v F1 s1,bJ ab w mu X af ae env K F1 σ s1 g->F.le F1->aj F1 v d->Q v s1):wpAny (model ab w) A (eval e env) Q E s :=
 (S N).1 A E F s env ae.heap σ e d _ he (ag.at m.c) lv (ai.grow m.c.g.fle) m.c.r λv F1 s1 g1 hv=>h v F1 s1 (m.grow g1) g1.fle hv
theorem bJ.test (m:bJ ab w mu X af ae env K F σ s g)(S:gy ab w X Φ hb k)(ag:Am A af ae)(lv:Lv A k)(ai:au hb af){e:Expr}{b:Bool}{Q:Bool->VP->Prop}(he:ev X.aa Φ N σ true e=some (.bool b))
  (h:∀F1 s1,bJ ab w mu X af ae env K F1 σ s1 g->F.le F1->Q b s1):wpAny (model ab w) A (isTrue e env (eval e env)) Q E s :=
 (S N).2 A E F s env ae.heap σ e b _ he (ag.at m.c) lv (ai.grow m.c.g.fle) m.c.r λF1 s1 g1=>h F1 s1 (m.grow g1) g1.fle
theorem Ki {o:Xi}{h1 h2:Int}{t1 t2:Tok}{a b:V4}{n:Nat}(hd:o.data=.dict #[⟨h1,.str aF t1,.ref a⟩,⟨h2,.str aP t2,.ref b⟩] n):lookIn aF o=some (some (.ref a)):=by
 unfold lookIn;rw[hd];kernel_rfl
theorem Kh {o:Xi}{h1 h2:Int}{t1 t2:Tok}{a b:V4}{n:Nat}(hd:o.data=.dict #[⟨h1,.str aF t1,.ref a⟩,⟨h2,.str aP t2,.ref b⟩] n):lookIn aP o=some (some (.ref b)):=by
 unfold lookIn;rw[hd];kernel_rfl
theorem GU {o:Xi}{h1 h2:Int}{t1 t2:Tok}{a b:V4}{n:Nat}{x:Str}(hd:o.data=.dict #[⟨h1,.str aF t1,.ref a⟩,⟨h2,.str aP t2,.ref b⟩] n)(Lc:(Yy aF 0).isStr x=false)(N4:(Yy aP 0).isStr x=false):lookIn x o=some none:=by
 unfold lookIn;rw[hd];have e1:(Yy aF t1).isStr x=false:=Lc;have e2:(Yy aP t2).isStr x=false:=N4;dsimp only[List.toList_toArray,List.find?_cons];rw[e1,e2];rfl
theorem gH.instAt {h:Wb}(x:gH ab w F h g):∃o h1 h2 t1 t2 n,InstAt h g.inst (instObj 121 g.idict) 121 (some o)/\o.data=.dict #[⟨h1,.str aF t1,.ref g.root⟩,⟨h2,.str aP t2,.ref g.pa⟩] n:=by
 revert x;delta ab w F g h;intro x;obtain⟨o,h1,h2,t1,t2,n,ho,hd⟩:=x.idict;exact⟨o,h1,h2,t1,t2,n,⟨x.inst,rfl,rfl,ho⟩,hd⟩
theorem LN {Lu:Bool}{Q:VQ->VP->Prop}(FK:kK hb KF)(bf:au hb F)(am:Am A F s)(x:gH ab w F s.heap g)(h:Q (.ref g.root) { s with toks:=s.toks+1 }):wpAny (model ab w) A (getAttr (.ref g.inst) aF Lu) Q E s:=by
 obtain⟨o,h1,h2,t1,t2,n,I,hd⟩:=x.instAt;exact get_value (FK.inn.keeps (bf.keep am.fz)) I (plainGet_of FK.pg).1 (findObj_own FK.hd FK.nF rfl (Ki hd)) rfl h
theorem LM {Lu:Bool}{Q:VQ->VP->Prop}(FK:kK hb KF)(bf:au hb F)(am:Am A F s)(x:gH ab w F s.heap g)(h:Q (.ref g.pa) { s with toks:=s.toks+1 }):wpAny (model ab w) A (getAttr (.ref g.inst) aP Lu) Q E s:=by
 obtain⟨o,h1,h2,t1,t2,n,I,hd⟩:=x.instAt;exact get_value (FK.inn.keeps (bf.keep am.fz)) I (plainGet_of FK.pg).1 (findObj_own FK.hd FK.nP rfl (Kh hd)) rfl h
theorem ky {pl:Sem Bool}{name:Str}{f:V4}{Q:VQ×List VQ->VP->Prop}(FK:kK hb KF)(bf:au hb F)(am:Am A F s)(x:gH ab w F s.heap g)(hf:findIn KF (.ref 121) name=some (some (.ref f)))(ht:typeIn KF (.ref f)=some (.type "function"))
  (Lc:(Yy aF 0).isStr name=false) (N4:(Yy aP 0).isStr name=false) (h:Q (.ref f,[.ref g.inst]) s):wpAny (model ab w) A (getMethod (.ref g.inst) name pl) Q E s:=by
 obtain⟨o,h1,h2,t1,t2,n,I,hd⟩:=x.instAt;exact method_fn (FK.inn.keeps (bf.keep am.fz)) I (plainGet_of FK.pg).1 (plainGet_of FK.pg).2 hf ht (by unfold shadowIn;dsimp only;rw[GU hd Lc N4];rfl) h
end
noncomputable def bD (i:Nat):List V9:=(m9 i).body
noncomputable def vd (i:Nat):bc:=(m9 i).scope.names
noncomputable abbrev Pr:=@PySem.assign
section
variable {ab:V8}{w:Wi}{mu:Bool}{X:gJ}{Φ:b_}{hb:Wb}{mg:Str->Option VQ}{k:Nat}{A:V7}{E:VQ->VP->Prop}{af F F':Fz}{ae s s':VP}{env:Yq}{K K':V4->Xi->Prop}{σ σ':az X.T}{g g':Gh}{N:Nat}{KF:Zo}
theorem bJ.less (m:bJ ab w mu X af ae env K F σ s g)(h:∀a o,K' a o->K a o):bJ ab w mu X af ae env K' F σ s g:={ m with c:=m.c.less h,kO:=λa o q=>m.kO a o (h a o q) }
theorem bJ.step (m:bJ ab w mu X af ae env K F σ s g){I:V4}{ob:Xi}{fs:Array VQ}{h':Wb}{tk:Nat}(ed:s.heap.get? I=some ob)(hd:ob.data=.fields fs)(h0:ae.heap.get? I=none)(hF:F I=none)(hK:∀a o,K a o->a≠I)
  (e:WV I s.heap h'):bJ ab w mu X af ae env K F σ { s with heap:=h',toks:=tk } g where
 c:=m.c.but ed hd h0 hF hK e
 inv:=m.inv.keep (λa ha=>by
  obtain⟨o,ho,hq⟩:=m.inv.alive a ha;rw[ho];exact e a o (by clear h0 hF hK e;rintro rfl;replace ho:=cG ed ho;obtain rfl:=ho;rw[hd]at hq;exact hq) ho) F.le_refl
 own:=m.own
 kO:=m.kO
 av:=m.av
 nc:=m.nc
theorem bJ.bnames (es:List Expr):∀(F:Fz) (σ:az X.T) (ds:List D) (vs:List VQ) (s:VP) (Q:Unit->VP->Prop),cw σ es ds=some σ'->bJ ab w mu X af ae env K F σ s g->al F vs ds ->(∀s',bJ ab w mu X af ae env K F σ' s' g->Q () s')->wpAny (model ab w) A (assignInOrder ((assignEach es env).map (·.2)) vs) Q E s:=by
 induction es with
 |nil =>
  intro F σ ds vs s Q e m hv h;obtain⟨rfl,rfl⟩:=fP e;obtain rfl:=hv.nil_inv;exact VR (h s m)
 |cons e1 es ih =>
  intro F σ ds vs s Q e m hv h;obtain⟨x,p,d,ds,rfl,rfl,Fb⟩:=fh e;obtain⟨v,us,rfl,hv,fn⟩:=hv.cons_inv;refine VO (Wq (XU (m.store Fb.1 hv λs1 m1=>?_)));exact ih F _ ds _ s1 Q Fb.2 m1 fn h
theorem bJ.assign (m:bJ ab w mu X af ae env K F σ s g)(hh:A.handled=none){t:Expr}{d:D}{v:VQ}{Q:Unit->VP->Prop}(e:bB σ t d=some σ')(hv:aj F v d)
  (h:∀s',bJ ab w mu X af ae env K F σ' s' g->Q () s'):wpAny (model ab w) A (Mine.Pr t env v) Q E s:=by
 rcases nz e with⟨x,p,rfl,hw,rfl⟩ |⟨es,k,p,ds,rfl,rfl,e⟩
 ·exact XU (m.store hw hv h)
 ·obtain⟨a,vs,rfl,Ju⟩:=hv.isTup m.c.g.fz
  obtain⟨n1,n2⟩:=iL (env:=env) es σ ds e;refine wpAny_assign_Tuple hh Ju.1 (by rw[n1,Ju.2.2.2]) n2 λh' he=>?_
  have keep:∀b o,s.heap.get? b=some o->h'.get? b=some o:=λb o eb=>he b o (XI (Wy eb)) eb
  have gr:=aA.keeps m.c.g.fz keep s.toks;exact bJ.bnames es F σ ds _ { s with heap:=h' } Q e (m.grow gr) Ju.2.1 h
structure LZ (ab:V8)(w:Wi)(A:V7)(I:V4)(items:List D)(PJ:Gh->Prop)(IT:Fz->Wb->Nat->Prop):Prop where
 obj:∀{F h i},IT F h i->∃o fs,h.get? I=some o/\o.data=.fields fs/\∃T,o.cls=.type T/\tv.contains T=false
 keep:∀{F F' h h' i},IT F h i->F.le F'->h'.get? I=h.get? I->IT F' h' i
 next:∀{F s i g} {E:VQ->VP->Prop} {Q:Option VQ->VP->Prop},Am A F s->F I=none->IT F s.heap i->gH ab w F s.heap g->PJ g ->(∀d v h' tk,items[i]?=some d->aj F v d->IT F h' (i+1)->Ws I s.heap h'->Q (some v) { s with heap:=h',toks:=tk }) ->(∀h',items[i]?=none->WV I s.heap h'->Q none { s with heap:=h' })->wpAny (model ab w) A (pyNext (.ref I)) Q E s
theorem bJ.loop (ag:Am A af ae){tg:Expr}{b:List V9}{items:List D}{I:V4}{PJ:Gh->Prop}{IT:Fz->Wb->Nat->Prop}(Ml:LZ ab w A I items PJ IT)(J:Nat->az X.T->Gh->Prop)(hJ:∀i σ g,J i σ g->PJ g)
  {Q:YF->VP->Prop} (m:bJ ab w mu X af ae env K F σ s g) (it:IT F s.heap 0) (fI:F I=none) (I0:ae.heap.get? I=none) (hK:∀a o,K a o->a≠I) (j0:J 0 σ g)
  (sP:∀i d F1 σ1 s1 g1 (K':V4->Xi->Prop) (E':VQ->VP->Prop) iT,items[i]?=some d->J i σ1 g1->bB σ1 tg d=some iT->bJ ab w mu X af ae env K' F1 iT s1 g1->F.le F1 ->wpAny (model ab w) A (execs b env) (λf s'=>match f with
    | .ret v=>Q (.ret v) s'
    | .brk=>False
    |_=>∃F2 BP g2,bJ ab w mu X af ae env K' F2 BP s' g2/\F1.le F2/\J (i+1) BP g2) E' s1)
  (bind:∀i d σ1 g1,items[i]?=some d->J i σ1 g1->∃iT,bB σ1 tg d=some iT)
  (fin:∀F1 σ1 s1 g1,J items.length σ1 g1->bJ ab w mu X af ae env K F1 σ1 s1 g1->F.le F1->Q .next s1) :
  codeAny (model ab w) A (.forLoop tg (.ref I) b [] env) (λr s'=>match r with | .ok f=>Q f s' | .error e=>cameBackBy (model ab w) A env E e s') s:=by
 revert ag Ml hJ m it fI I0 hK j0 sP bind fin;revert ab w mu A E af F ae s env K σ g tg b items I PJ IT J Q;unfold X;exists ab,w,mu,A,E,af,F,ae,s,env,K,σ,g,tg,b,items,I,PJ,IT,J,Q;intro ag Ml hJ m it fI I0 hK j0 sP bind fin;refine codeAny_forLoop_any (λn s=>∃F1 σ1 g1 i,n=items.length - i/\i<=items.length/\J i σ1 g1/\bJ ab w mu X af ae env K F1 σ1 s g1/\F.le F1/\IT F1 s.heap i/\F1 I=none) (λn s hI=>?_) (items.length) ⟨F,σ,g,0,rfl,W7 _,j0,m,F.le_refl,it,fI⟩;delta n s;intro hI;obtain⟨F1,σ1,g1,i,rfl,hi,uv⟩:=hI;delta F1 σ1 g1 i;intro hi uv;obtain⟨ob,fs,ed,qk,_⟩:2:=Ml.obj uv.2.2.2.1;refine Ml.next (ag.at uv.2.1.c) uv.2.2.2.2 uv.2.2.2.1 uv.2.1.inv (hJ _ _ _ uv.1) (λd v h' tk hd hv mJ hs=>?_) λh' hn he=>?_
 ·delta d v h' tk;intro hd hv mJ hs;have lK:=(Wd.mp hd).1
  obtain⟨iT,e2⟩:1:=bind i d σ1 g1 hd uv.1;have m2:=uv.2.1.step (tk:=tk) ed qk I0 uv.2.2.2.2 hK hs.extBut;obtain⟨GJ,Pk,qj,BJ,T,hT,Ro⟩:=Ml.obj mJ;revert qj BJ hT Ro;delta GJ Pk T;intro qj BJ hT Ro;have T0:bJ ab w mu X af ae env (λa o=>K a o\/(a=I/\o=GJ)) F1 σ1 { s with heap:=h',toks:=tk } g1:={ m2 with
   c:=⟨m2.c.t0,m2.c.g,m2.c.r,λa o q=>by
    rcases q with q |⟨rfl,rfl⟩
    ·exact m2.c.kk a o q
    ·exact⟨qj,uv.2.2.2.2,I0,Pk,BJ⟩⟩
   kO:=λa o q ha=>by
    rcases q with q |⟨rfl,rfl⟩
    ·exact m2.kO a o q ha
    ·obtain⟨o',dM,hq⟩:=m2.inv.alive _ ha
     rw[show h'.get? a=some o from qj]at dM;replace dM:=aJ dM;obtain rfl:=dM;rw[BJ]at hq;exact hq }
  refine kz (s:={ s with heap:=h',toks:=tk }) qj hT BJ Ro ?_;refine T0.assign ag.hh e2 hv ?_;exists s3;intro m3;refine Wk (sP i d F1 σ1 s3 g1 _ _ iT hd uv.1 e2 m3 uv.2.2.1) (λf s4 x=>?_) λ_ _ x=>x
  delta f s4;intro x;have ER:(∃F2 BP g2,bJ ab w mu X af ae env (λa o=>K a o\/(a=I/\o=GJ)) F2 BP s4 g2/\F1.le F2/\J (i+1) BP g2)->∃n,n<items.length - i/\∃F1 σ1 g1 i,n=items.length - i/\i<=items.length/\J i σ1 g1/\bJ ab w mu X af ae env K F1 σ1 s4 g1/\F.le F1/\IT F1 s4.heap i/\F1 I=none:=by
   rintro⟨F2,BP,g2,m4,l2,j2⟩;delta F2 BP g2;intro m4 l2 j2;obtain⟨k1,k2,_⟩:=m4.c.kk I GJ (.inr ⟨rfl,rfl⟩);exact⟨items.length - (i+1),by omega,F2,BP,g2,i+1,rfl,lK,j2,m4.less λa o q=>.inl q,Fz.le_trans uv.2.2.1 l2,Ml.keep mJ l2 (k1.trans qj.symm),k2⟩
  induction f with
  |next=>exact ER x
  |cont=>exact ER x
  |brk=>exact x.elim
  |ret v=>exact x
 ·have:i=items.length:=by
   rw[Xc]at hn;lia
  clear hi hn;subst this;exact Zb (fin F1 σ1 _ g1 uv.1 (uv.2.1.step (tk:=s.toks) ed qk I0 uv.2.2.2.2 hK he) uv.2.2.1)
end
section
variable {ab:V8}{w:Wi}{mu:Bool}{X:gJ}{hb:Wb}{A:V7}{E:VQ->VP->Prop}{af F F':Fz}{ae s s':VP}{env:Yq}{K K':V4->Xi->Prop}{σ σ':az X.T}{g g':Gh}{KF:Zo}
theorem w5 {a:V4}(h:a≠sysModules):(a==sysModules)=false:=by
 exact beq_eq_false_iff_ne.mpr h
theorem o8 (ab:V8)(w:Wi)(x:Str)(t:Tok):(strKind ab w).is x (.str x t)=true:=by
 show(Yy x t).isStrOf x=true;simp[VQ.isStrOf]
theorem DM (ab:V8)(w:Wi)(i:Int)(t:Tok):(intKind ab w).is i (.int i t)=true:=by
 simp[intKind,VQ.isInt]
theorem gH.contAt (x:gH ab w F s.heap g){u:aw}(hu:u=[]\/∃p,g.N u=some p):jy ab w s.heap g u:=by
 rcases hu with rfl |⟨⟨f,r⟩,q⟩
 ·exact x.root
 ·exact(x.node u f r q).nd
theorem gH.dO (x:gH ab w F s.heap g){u:aw}(hu:u=[]\/∃p,g.N u=some p):g.dOf u∈g.O:=by
 rcases hu with rfl |⟨⟨f,r⟩,q⟩
 ·exact x.inO _ _ x.o3
 ·have z:=x.node u f r q
  rw[gY z.ne];exact x.inO _ _ z.od
theorem RH (FK:kK hb KF)(bf:au hb F)(m:bJ ab w mu X af ae env K F σ s g){u:aw}(hu:u=[]\/∃p,g.N u=some p){x:List Nat}{t:Tok}{Q:VQ->VP->Prop}(h:∀tk,Q (.bool (g.N (u++[x])).isSome) { s with toks:=tk }) :
  wpAny (model ab w) A (compareOp .In (.str (ao x) t) (.ref (g.dOf u))) Q E s:=by
 obtain⟨kD,c1,c2,c3⟩:=m.inv.contAt hu;refine wpAny_in_of (o8 ab w _ _) (w5 (m.inv.sys _ (m.inv.dO hu))) c1.mapOf ?_;have:=c3 (ao x);have e:bn u (ao x)=u++[x]:=rfl;rw[e]at this;rw[this]
 cases q:g.N (u++[x])<;>(have:=h (s.toks+1);rw[q]at this;exact this)
theorem H_ (FK:kK hb KF)(bf:au hb F)(m:bJ ab w mu X af ae env K F σ s g){u:aw}(hu:u=[]\/∃p,g.N u=some p){x:List Nat}{t:Tok}{Q:VQ->VP->Prop}(h:∀tk,Q (.bool (!(g.N (u++[x])).isSome)) { s with toks:=tk }) :
  wpAny (model ab w) A (compareOp .NotIn (.str (ao x) t) (.ref (g.dOf u))) Q E s:=by
 obtain⟨kD,c1,c2,c3⟩:=m.inv.contAt hu;refine wpAny_notIn_of (o8 ab w _ _) (w5 (m.inv.sys _ (m.inv.dO hu))) c1.mapOf ?_;have:=c3 (ao x);have e:bn u (ao x)=u++[x]:=rfl;rw[e]at this;rw[this]
 cases q:g.N (u++[x])<;>(have:=h (s.toks+1);rw[q]at this;exact this)
theorem EM (m:bJ ab w mu X af ae env K F σ s g){u:aw}(hu:u=[]\/∃p,g.N u=some p){x:List Nat}{t:Tok}{p:cY×cY}(hx:g.N (u++[x])=some p){Q:VQ->VP->Prop}(h:∀tk,Q (.ref (g.G (u++[x])).n) { s with toks:=tk }) :
  (∃T id,typeLookup (.type T) "__getitem__" = pure (some (.builtin id))/\s.TypeIs (.ref (g.dOf u)) T)/\wpAny (model ab w) A (getItem (.ref (g.dOf u)) (.str (ao x) t)) Q E s:=by
 obtain⟨kD,c1,c2,c3⟩:=m.inv.contAt hu;refine⟨⟨"dict",_,slot_dict_getitem.lookup,c1.typeIs⟩,wpAny_getItem_of (o8 ab w _ _) c1.mapOf ?_ (h _)⟩;have:=c3 (ao x);have e:bn u (ao x)=u++[x]:=rfl;rw[e,hx]at this;exact this
theorem IG (a b c:VQ):valueAt [(kF,a),(kR,b),(kN,c)] kF=some a:=by rw[be,if_pos rfl]
theorem BU (a b c:VQ):valueAt [(kF,a),(kR,b),(kN,c)] kR=some b:=by
 have e1:kF≠kR:=by decide +kernel
 rw[be,if_neg e1,be,if_pos rfl]
theorem IF (a b c:VQ):valueAt [(kF,a),(kR,b),(kN,c)] kN=some c:=by
 have e2:kF≠kN:=by decide +kernel
 have e3:kR≠kN:=by decide +kernel
 rw[be,if_neg e2,be,if_neg e3,be,if_pos rfl]
theorem pN (m:bJ ab w mu X af ae env K F σ s g){u:aw}{p:cY×cY}(hu:g.N u=some p){key:Str}{t:Tok}{v:VQ}(hv:valueAt [(kF,.ref (g.G u).f),(kR,.ref (g.G u).r),(kN,.ref (g.G u).d)] key=some v){Q:VQ->VP->Prop}(h:∀tk,Q v { s with toks:=tk }) :
  (∃T id,typeLookup (.type T) "__getitem__" = pure (some (.builtin id))/\s.TypeIs (.ref (g.G u).n) T)/\wpAny (model ab w) A (getItem (.ref (g.G u).n) (.str key t)) Q E s:=by
 have z:=m.inv.node u p.1 p.2 hu;exact⟨⟨"dict",_,slot_dict_getitem.lookup,z.dict.typeIs⟩,wpAny_getItem_of (k:=key) (o8 ab w _ _) z.dict.mapOf hv (h _)⟩
theorem PR (m:bJ ab w mu X af ae env K F σ s g){u:aw}{f r:cY}(hu:g.N u=some (f,r)){i:Int}{t:Tok}{Q:VQ->VP->Prop}(h:∀tk,Q (.bool (f i)) { s with toks:=tk }) :
  wpAny (model ab w) A (compareOp .In (.int i t) (.ref (g.G u).f)) Q E s:=by
 have z:=m.inv.node u f r hu;obtain⟨n,_,hS⟩:=z.fs;exact wpAny_inSet_of (DM ab w _ _) rfl hS (h _)
theorem MY (m:bJ ab w mu X af ae env K F σ s g){u:aw}{f r:cY}(hu:g.N u=some (f,r)){i:Int}{t:Tok}{Q:VQ->VP->Prop}(h:∀tk,Q (.bool (r i)) { s with toks:=tk }) :
  wpAny (model ab w) A (compareOp .In (.int i t) (.ref (g.G u).r)) Q E s:=by
 have z:=m.inv.node u f r hu;obtain⟨n,_,hS⟩:=z.rs;exact wpAny_inSet_of (DM ab w _ _) rfl hS (h _)
end
inductive xm (x y:Str):Expr->Prop
 |mk {p q r}:xm x y (.Compare (.Name x p) [.In] [.Name y q] r)
theorem xl {x y:Str}{e:Expr}(h:xm x y e):∃p q r,e=.Compare (.Name x p) [.In] [.Name y q] r:=by induction h;exact⟨_,_,_,rfl⟩
inductive oJ (x y:Str):Expr->Prop
 |mk {p q r}:oJ x y (.Compare (.Name x p) [.NotIn] [.Name y q] r)
theorem vw {x y:Str}{e:Expr}(h:oJ x y e):∃p q r,e=.Compare (.Name x p) [.NotIn] [.Name y q] r:=by induction h;exact⟨_,_,_,rfl⟩
inductive i9 (x y c:Str):Expr->Prop
 |mk {p q kd r t u}:i9 x y c (.Compare (.Name x p) [.In] [.Subscript (.Name y q) (.Constant (.str c) kd r) t] u)
theorem lq {x y c:Str}{e:Expr}(h:i9 x y c e):∃p q kd r t u,e=.Compare (.Name x p) [.In] [.Subscript (.Name y q) (.Constant (.str c) kd r) t] u:=by induction h;exact⟨_,_,_,_,_,_,rfl⟩
inductive nh (z x y:Str):V9->Prop
 |mk {p q r t u}:nh z x y (.Assign [.Name z p] (.Subscript (.Name x q) (.Name y r) t) u)
theorem rf {z x y:Str}{e:V9}(h:nh z x y e):∃p q r t u,e=.Assign [.Name z p] (.Subscript (.Name x q) (.Name y r) t) u:=by induction h;exact⟨_,_,_,_,_,rfl⟩
inductive ni (z x c:Str):V9->Prop
 |mk {p q kd r t u}:ni z x c (.Assign [.Name z p] (.Subscript (.Name x q) (.Constant (.str c) kd r) t) u)
theorem rg {z x c:Str}{e:V9}(h:ni z x c e):∃p q kd r t u,e=.Assign [.Name z p] (.Subscript (.Name x q) (.Constant (.str c) kd r) t) u:=by induction h;exact⟨_,_,_,_,_,_,rfl⟩
inductive lr (z x y c:Str):V9->Prop
 |mk {p q r t kd u v o}:lr z x y c (.Assign [.Name z p] (.Subscript (.Subscript (.Name x q) (.Name y r) t) (.Constant (.str c) kd u) v) o)
theorem qc {z x y c:Str}{e:V9}(h:lr z x y c e):∃p q r t kd u v o,e=.Assign [.Name z p] (.Subscript (.Subscript (.Name x q) (.Name y r) t) (.Constant (.str c) kd u) v) o:=by induction h;exact⟨_,_,_,_,_,_,_,_,rfl⟩
inductive qd (z x a:Str):V9->Prop
 |mk {p q r t}:qd z x a (.Assign [.Name z p] (.Attribute (.Name x q) a r) t)
theorem tQ {z x a:Str}{e:V9}(h:qd z x a e):∃p q r t,e=.Assign [.Name z p] (.Attribute (.Name x q) a r) t:=by induction h;exact⟨_,_,_,_,rfl⟩
inductive Dw (x y c d:Str):Expr->Prop
 |mk {a b p}:i9 x y c a->i9 x y d b->Dw x y c d (.BoolOp .Or [a,b] p)
theorem AE {x y c d:Str}{e:Expr}(h:Dw x y c d e):∃a b p,e=.BoolOp .Or [a,b] p/\i9 x y c a/\i9 x y d b:=by induction h;exact⟨_,_,_,rfl,by assumption,by assumption⟩
section
variable {ab:V8}{w:Wi}{mu:Bool}{X:gJ}{Φ:b_}{hb:Wb}{mg:Str->Option VQ}{k:Nat}{A:V7}{E:VQ->VP->Prop}{af F F':Fz}{ae s s':VP}{env:Yq}{K K':V4->Xi->Prop}{σ σ':az X.T}{g g':Gh}{N:Nat}{KF:Zo}
theorem bJ.name (m:bJ ab w mu X af ae env K F σ s g)(ag:Am A af ae){x:Str}{p:X7}{d:D}{Q:VQ->VP->Prop}(hx:σ.get x=some (.val d))(h:∀v F1 s1,bJ ab w mu X af ae env K F1 σ s1 g->F.le F1->aj F1 v d->Q v s1):wpAny (model ab w) A (eval (.Name x p) env) Q E s :=
 cy (ag.at m.c) m.c.r hx λv F1 s1 g1 hv=>h v F1 s1 (m.grow g1) g1.fle hv
theorem bJ.toks (m:bJ ab w mu X af ae env K F σ s g)(tk:Nat):bJ ab w mu X af ae env K F σ { s with toks:=tk } g:=m.grow (aA.toks m.c.g.fz tk)
theorem bJ.attr (m:bJ ab w mu X af ae env K F σ s g)(ag:Am A af ae)(ai:au hb af)(FK:kK hb KF){x a:Str}{p r:X7}{b:V4}(ha:(a=aF/\b=g.root)\/(a=aP/\b=g.pa)){Q:VQ->VP->Prop}(hx:σ.get x=some (.val (.opq (.ref g.inst))))
  (h:∀F1 s1,bJ ab w mu X af ae env K F1 σ s1 g->F.le F1->Q (.ref b) s1):wpAny (model ab w) A (eval (.Attribute (.Name x p) a r) env) Q E s:=by
 have iF:attributeBase (.Name x p) a env (eval (.Name x p) env)=eval (.Name x p) env:=rfl;rw[arm_eval_Attribute,iF];refine VO (m.name ag hx λv F1 s1 m1 l1 hv=>?_);clear m hx;cases hv;refine VO (Xa (VO (Wq ?_)));have qO:=ag.at m1.c;have Oo:=ai.grow m1.c.g.fle;clear iF;rcases ha with⟨rfl,rfl⟩ |⟨rfl,rfl⟩
 ·exact LN FK Oo qO m1.inv (VO (VR (VR (h F1 _ (m1.toks _) l1))))
 ·exact LM FK Oo qO m1.inv (VO (VR (VR (h F1 _ (m1.toks _) l1))))
noncomputable abbrev At (g:Gh)(u:aw):Prop:=u=[]\/∃p,g.N u=some p
theorem eE (ab:V8)(w:Wi){A:V7}{E:VQ->VP->Prop}{s:VP}{c:Str}{kd:Nat}{p:X7}{env:Yq}{Q:VQ->VP->Prop}(h:∀t tk,Q (.str c t) { s with toks:=tk }):wpAny (model ab w) A (eval (.Constant (.str c) kd p) env) Q E s:=wpAny_Constant_str (h _ _)
theorem sY (ag:Am A af ae)(ai:au hb af)(FK:kK hb KF)(m:bJ ab w mu X af ae env K F σ s g){z x:Str}{st:V9}{Q:YF->VP->Prop}(hs:qd z x aF st)(hx:σ.get x=some (.val (.opq (.ref g.inst))))(hw:bW σ.nm z=true)
  (h:∀F1 s1,bJ ab w mu X af ae env K F1 (σ.set z (.val (.opq (.ref g.root)))) s1 g->F.le F1->Q .next s1):wpAny (model ab w) A (exec st env) Q E s:=by
 obtain⟨p,q,r,t,rfl⟩:=tQ hs;refine W2 (m.attr ag ai FK (.inl ⟨rfl,rfl⟩) hx λF1 s1 m1 l1=>?_) (by rfl);exact m1.store hw (.opq _) λs2 m2=>h F1 s2 m2 l1
theorem RU (ag:Am A af ae)(ai:au hb af)(FK:kK hb KF)(m:bJ ab w mu X af ae env K F σ s g){x y:Str}{e:Expr}{u:aw}{a:List Nat}{Q:Bool->VP->Prop}(hs:xm x y e)(hx:σ.get x=some (.val (.str (ao a))))(hy:σ.get y=some (.val (.opq (.ref (g.dOf u)))))(hu:At g u)
  (h:∀F1 s1,bJ ab w mu X af ae env K F1 σ s1 g->F.le F1->Q (g.N (u++[a])).isSome s1):wpAny (model ab w) A (isTrue e env (eval e env)) Q E s:=by
 obtain⟨p,q,r,rfl⟩:=xl hs;refine YN (m.name ag hx λv F1 s1 m1 l1 hv=>m1.name ag hy λv2 F2 s2 m2 l2 hZ=>?_);obtain rfl:=hZ.opq_inv;obtain⟨_,rfl⟩:=hv.str_inv;exact RH FK (ai.grow m2.c.g.fle) m2 hu λtk=>Ye (h F2 _ (m2.toks tk) (Fz.le_trans l1 l2))
theorem ur (ag:Am A af ae)(ai:au hb af)(FK:kK hb KF)(m:bJ ab w mu X af ae env K F σ s g){x y:Str}{e:Expr}{u:aw}{a:List Nat}{Q:Bool->VP->Prop}(hs:oJ x y e)(hx:σ.get x=some (.val (.str (ao a))))(hy:σ.get y=some (.val (.opq (.ref (g.dOf u)))))(hu:At g u)
  (h:∀F1 s1,bJ ab w mu X af ae env K F1 σ s1 g->F.le F1->Q (!(g.N (u++[a])).isSome) s1):wpAny (model ab w) A (isTrue e env (eval e env)) Q E s:=by
 obtain⟨p,q,r,rfl⟩:=vw hs;refine YN (m.name ag hx λv F1 s1 m1 l1 hv=>m1.name ag hy λv2 F2 s2 m2 l2 hZ=>?_);obtain rfl:=hZ.opq_inv;obtain⟨_,rfl⟩:=hv.str_inv;exact H_ FK (ai.grow m2.c.g.fle) m2 hu λtk=>Ye (h F2 _ (m2.toks tk) (Fz.le_trans l1 l2))
theorem OL (ag:Am A af ae)(m:bJ ab w mu X af ae env K F σ s g){x y:Str}{e:Expr}{u:aw}{f r:cY}{i:Int}{Q:VQ->VP->Prop}(hs:i9 x y kF e)(hx:σ.get x=some (.val (.int i)))(hy:σ.get y=some (.val (.opq (.ref (g.G u).n))))(hu:g.N u=some (f,r))
  (h:∀F1 s1,bJ ab w mu X af ae env K F1 σ s1 g->F.le F1->Q (.bool (f i)) s1):wpAny (model ab w) A (eval e env) Q E s:=by
 obtain⟨p,q,kd,r1,t,u1,rfl⟩:=lq hs;refine wpAny_Compare1 (m.name ag hx λv F1 s1 m1 l1 hv=>nA (m1.name ag hy λv2 F2 s2 m2 l2 hZ=>eE ab w λtc tk=>?_)) rfl;obtain rfl:=hZ.opq_inv;obtain⟨_,rfl⟩:=hv.int_inv;exact pN (m2.toks tk) hu (IG _ _ _) λoD=>PR ((m2.toks tk).toks oD) hu λzv=>h F2 _ (((m2.toks tk).toks oD).toks zv) (Fz.le_trans l1 l2)
theorem OK (ag:Am A af ae)(m:bJ ab w mu X af ae env K F σ s g){x y:Str}{e:Expr}{u:aw}{f r:cY}{i:Int}{Q:VQ->VP->Prop}(hs:i9 x y kR e)(hx:σ.get x=some (.val (.int i)))(hy:σ.get y=some (.val (.opq (.ref (g.G u).n))))(hu:g.N u=some (f,r))
  (h:∀F1 s1,bJ ab w mu X af ae env K F1 σ s1 g->F.le F1->Q (.bool (r i)) s1):wpAny (model ab w) A (eval e env) Q E s:=by
 obtain⟨p,q,kd,r1,t,u1,rfl⟩:=lq hs;refine wpAny_Compare1 (m.name ag hx λv F1 s1 m1 l1 hv=>nA (m1.name ag hy λv2 F2 s2 m2 l2 hZ=>eE ab w λtc tk=>?_)) rfl;obtain rfl:=hZ.opq_inv;obtain⟨_,rfl⟩:=hv.int_inv;exact pN (m2.toks tk) hu (BU _ _ _) λoD=>MY ((m2.toks tk).toks oD) hu λzv=>h F2 _ (((m2.toks tk).toks oD).toks zv) (Fz.le_trans l1 l2)
theorem OD (ag:Am A af ae)(m:bJ ab w mu X af ae env K F σ s g){x y:Str}{e:Expr}{u:aw}{f r:cY}{i:Int}{Q:Bool->VP->Prop}(hs:i9 x y kR e)(hx:σ.get x=some (.val (.int i)))(hy:σ.get y=some (.val (.opq (.ref (g.G u).n))))(hu:g.N u=some (f,r))
  (h:∀F1 s1,bJ ab w mu X af ae env K F1 σ s1 g->F.le F1->Q (r i) s1):wpAny (model ab w) A (isTrue e env (eval e env)) Q E s:=by
 obtain⟨p,q,kd,r1,t,u1,rfl⟩:=lq hs;refine YN (m.name ag hx λv F1 s1 m1 l1 hv=>nA (m1.name ag hy λv2 F2 s2 m2 l2 hZ=>eE ab w λtc tk=>?_));obtain rfl:=hZ.opq_inv;obtain⟨_,rfl⟩:=hv.int_inv;exact pN (m2.toks tk) hu (BU _ _ _) λoD=>MY ((m2.toks tk).toks oD) hu λzv=>Ye (h F2 _ (((m2.toks tk).toks oD).toks zv) (Fz.le_trans l1 l2))
theorem uQ (ag:Am A af ae)(m:bJ ab w mu X af ae env K F σ s g){z x y:Str}{st:V9}{u:aw}{a:List Nat}{p:cY×cY}{Q:YF->VP->Prop}(hs:nh z x y st)(hx:σ.get x=some (.val (.opq (.ref (g.dOf u)))))(hy:σ.get y=some (.val (.str (ao a))))(hw:bW σ.nm z=true)(hu:At g u)(hp:g.N (u++[a])=some p)
  (h:∀F1 s1,bJ ab w mu X af ae env K F1 (σ.set z (.val (.opq (.ref (g.G (u++[a])).n)))) s1 g->F.le F1->Q .next s1):wpAny (model ab w) A (exec st env) Q E s:=by
 obtain⟨p1,q,r,t,u1,rfl⟩:=rf hs;refine W2 (nA (m.name ag hx λv F1 s1 m1 l1 hv=>m1.name ag hy λv2 F2 s2 m2 l2 hZ=>?_)) (by rfl);obtain rfl:=hv.opq_inv;obtain⟨_,rfl⟩:=hZ.str_inv;exact EM m2 hu hp λtk=>(m2.toks tk).store hw (.opq _) λs3 m3=>h F2 s3 m3 (Fz.le_trans l1 l2)
theorem B_ (ag:Am A af ae)(m:bJ ab w mu X af ae env K F σ s g){z x:Str}{st:V9}{u:aw}{p:cY×cY}{Q:YF->VP->Prop}(hs:ni z x kN st)(hx:σ.get x=some (.val (.opq (.ref (g.G u).n))))(hw:bW σ.nm z=true)(hp:g.N u=some p)
  (h:∀F1 s1,bJ ab w mu X af ae env K F1 (σ.set z (.val (.opq (.ref (g.dOf u))))) s1 g->F.le F1->Q .next s1):wpAny (model ab w) A (exec st env) Q E s:=by
 obtain⟨p1,q,kd,r,t,u1,rfl⟩:=rg hs;refine W2 (nA (m.name ag hx λv F1 s1 m1 l1 hv=>eE ab w λtc tk=>?_)) (by rfl);obtain rfl:=hv.opq_inv;exact pN (m1.toks tk) hp (IF _ _ _) λoD=>((m1.toks tk).toks oD).store hw (.opq _) λs3 m3=>h F1 s3 (by rw[gY (m1.inv.node u p.1 p.2 hp).ne];exact m3) l1
theorem rE (ag:Am A af ae)(m:bJ ab w mu X af ae env K F σ s g){z x y:Str}{st:V9}{u:aw}{a:List Nat}{p:cY×cY}{Q:YF->VP->Prop}(hs:lr z x y kN st)(hx:σ.get x=some (.val (.opq (.ref (g.dOf u)))))(hy:σ.get y=some (.val (.str (ao a))))(hw:bW σ.nm z=true)(hu:At g u)(hp:g.N (u++[a])=some p)
  (h:∀F1 s1,bJ ab w mu X af ae env K F1 (σ.set z (.val (.opq (.ref (g.dOf (u++[a])))))) s1 g->F.le F1->Q .next s1):wpAny (model ab w) A (exec st env) Q E s:=by
 obtain⟨p1,q,r,t,kd,u1,v1,o1,rfl⟩:=qc hs;refine W2 (nA (nA (m.name ag hx λv F1 s1 m1 l1 hv=>m1.name ag hy λv2 F2 s2 m2 l2 hZ=>?_))) (by rfl);obtain rfl:=hv.opq_inv;obtain⟨_,rfl⟩:=hZ.str_inv;refine EM m2 hu hp λtk=>eE ab w λtc oD=>?_
 have m3:=(m2.toks tk).toks oD;exact pN m3 hp (IF _ _ _) λzv=>(m3.toks zv).store hw (.opq _) λs3 m4=>h F2 s3 (by rw[gY (m2.inv.node _ p.1 p.2 hp).ne];exact m4) (Fz.le_trans l1 l2)
end
noncomputable def X0:gJ:=⟨Unit,λ_ _ _ _ O=>O=[],λh _ _=>h,(λh a ha=>by rw[h]at ha;cases ha),λ_ _ _=>none⟩
theorem OB {ab:V8}{w:Wi}{hb:Wb}{k:Nat}:hU ab w X0 hb k:=λt m ds d e=>by exact bg e
noncomputable def nf (N:aw->Option (cY×cY))(i:Int):aw->aw->Bool
 |_,[]=>false
 |u,[k]=>match N (u++[k])with |none=>false |some p=>p.1 i||p.2 i
 |u,k::l::cC=>match N (u++[k])with |none=>false |some p=>p.2 i||nf N i (u++[k]) (l::cC)
theorem KC {N:aw->Option (cY×cY)}{i:Int}{u:aw}{k:List Nat}{o:Option (cY×cY)}(h:N (u++[k])=o):nf N i u [k]=o.elim false λp=>p.1 i||p.2 i:=by subst h;kernel_rfl
theorem Hl {N:aw->Option (cY×cY)}{i:Int}{u:aw}{k l:List Nat}{r:aw}{o:Option (cY×cY)}(h:N (u++[k])=o):nf N i u (k::l::r)=o.elim false λp=>p.2 i||nf N i (u++[k]) (l::r):=by subst h;kernel_rfl
noncomputable def cu:Str:=VN "self"
noncomputable def lk:Str:=VN "key"
noncomputable def dj:Str:=VN "flag"
noncomputable def aT:Str:=VN "cont"
noncomputable def nK:Str:=VN "k"
noncomputable def gS:Str:=VN "inner_cont"
noncomputable def fk:Str:=VN "key_stem"
noncomputable def fT (x:Str)(a:V4):Str×aO Unit:=(x,.val (.opq (.ref a)))
noncomputable def kM (x:Str)(l:List Nat):Str×aO Unit:=(x,.val (.str (ao l)))
noncomputable def tH (inst:V4)(way:aw)(i:Int)(tl:List (Str×aO Unit)):az X0.T:=⟨vd 7,fT cu inst::(lk,.val (aM way))::(dj,.val (.int i))::tl⟩
section
variable {ab:V8}{w:Wi}{mu:Bool}{Φ:b_}{hb:Wb}{mg:Str->Option VQ}{k:Nat}{A:V7}{E:VQ->VP->Prop}{af F F':Fz}{ae s s':VP}{env:Yq}{K K':V4->Xi->Prop}{g g':Gh}{KF:Zo}
theorem iX (m:bJ ab w mu X0 af ae env K F σ s g)(S:gy ab w X0 Φ hb k)(ag:Am A af ae)(lv:Lv A k)(ai:au hb af){st:V9}{d:D}{Q:YF->VP->Prop}(hs:Dv st)(he:ev X0.aa Φ 30 σ false (rP st)=some d)
  (h:∀v F1 s1,bJ ab w mu X0 af ae env K F1 σ s1 g->F.le F1->aj F1 v d->Q (.ret v) s1):wpAny (model ab w) A (exec st env) Q E s :=
 mr hs (m.evs (N:=30) S ag lv ai he λv F1 s1 m1 l1 hv=>h v F1 s1 m1 l1 hv)
set_option tactic.hygienic true in
theorem bJ.forNames (m:bJ ab w mu X0 af ae env K F σ s g)(S:gy ab w X0 Φ hb k)(ag:Am A af ae)(lv:Lv A k)(ai:au hb af){st:V9}{l:List D}(hs:KJ st)(he:ev X0.aa Φ 30 σ false (rl st)=some (.tup l))
  (J:Nat->az X0.T->Gh->Prop) {Q:YF->VP->Prop} (j0:J 0 σ g)
  (sP:∀i d F1 σ1 s1 g1 (K':V4->Xi->Prop) (E':VQ->VP->Prop) iT,l[i]?=some d->J i σ1 g1->bB σ1 (ly st) d=some iT->bJ ab w mu X0 af ae env K' F1 iT s1 g1->F.le F1 ->wpAny (model ab w) A (execs (cD st) env) (λf s'=>match f with
    | .ret v=>Q (.ret v) s'
    | .brk=>False
    |_=>∃F2 BP g2,bJ ab w mu X0 af ae env K' F2 BP s' g2/\F1.le F2/\J (i+1) BP g2) E' s1)
  (bind:∀i d σ1 g1,l[i]?=some d->J i σ1 g1->∃iT,bB σ1 (ly st) d=some iT)
  (fin:∀F1 σ1 s1 g1,J l.length σ1 g1->bJ ab w mu X0 af ae env K F1 σ1 s1 g1->F.le F1->Q .next s1):wpAny (model ab w) A (exec st env) Q E s:=by
 induction hs;rename_i tg it b pos;have he:ev X0.aa Φ 30 σ false it=some (.tup l):=he;refine wpAny_For (m.evs (N:=30) S ag lv ai he λv F1 s1 m1 l1 hv=>?_) (kH he env);have qO:=ag.at m1.c;refine lT qO hv (show cP (.tup l)=some l from rfl) λI s2 g2 fI I0 mJ=>?_
 have m2:=m1.grow g2;have N3:LZ ab w A I l (λ_=>True) (λF h i=>f_ F h I l i):={
  obj:=λ{F h i} t=>by
   induction t with
   |lst a vs o n _ _ _ _ x=>obtain⟨o,ho,hc,hd⟩:=x;exact⟨o,_,ho,hd,_,hc,by decide⟩
   |tup a vs o n _ _ _ _ x=>obtain⟨o,ho,hc,hd⟩:=x;exact⟨o,_,ho,hd,_,hc,by decide⟩
   |rng x left _ _ q=>exact⟨_,_,q,rfl,_,rfl,by decide⟩
  keep:=λt fl e=>t.at (λo ho=>e.trans ho) fl
  next:=λam fI t x _ item fin=>lR am fI t item fin }
 exact m2.loop ag N3 J (λ_ _ _ _=>trivial) mJ fI (m1.c.g.noneAt I0) (λa o q e=>by
  have:=(m1.c.kk a o q).1;rw[e,I0]at this;exact bg this) j0 (λi d F1 σ1 s1 g1 K' E' iT q1 q2 q3 q4 q5=>sP i d F1 σ1 s1 g1 K' E' iT q1 q2 q3 q4 (Fz.le_trans (Fz.le_trans l1 g2.fle) q5)) bind λF1 σ1 s1 g1 q1 q2 q3=>fin F1 σ1 s1 g1 q1 q2 (Fz.le_trans (Fz.le_trans l1 g2.fle) q3)
inductive yM (z:Str):V9->Prop |mk {p a i q r}:yM z (.Assign [.Name z p] (.Subscript a i q) r)
theorem Cb (m:bJ ab w mu X0 af ae env K F σ s g)(S:gy ab w X0 Φ hb k)(ag:Am A af ae)(lv:Lv A k)(ai:au hb af){z:Str}{st:V9}{d:D}{Q:YF->VP->Prop}(hs:yM z st)(hw:bW σ.nm z=true)(he:ev X0.aa Φ 30 σ false (bR st)=some d)
  (h:∀F1 s1,bJ ab w mu X0 af ae env K F1 (σ.set z (.val d)) s1 g->F.le F1->Q .next s1):wpAny (model ab w) A (exec st env) Q E s:=by
 induction hs;refine W2 (m.evs (N:=30) S ag lv ai he λv F1 s1 m1 l1 hv=>?_) (by rfl);exact m1.store hw hv λs2 m2=>h F1 s2 m2 l1
theorem b7:(bD 7).length=6:=by kernel_rfl
theorem Vk:(cD (ak (bD 7) 2)).length=4:=by kernel_rfl
theorem Hk (S:gy ab w X0 Φ hb k)(ag:Am A af ae)(lv:Lv A k)(ai:au hb af)(FK:kK hb KF){way:aw}{i0:Int}{Q:YF->VP->Prop}(m:bJ ab w mu X0 af ae env K F (tH g.inst way i0 []) s g)(hz:way.length<=3)
  (h:∀(K1:V4->Xi->Prop) F1 σ1 s1,bJ ab w mu X0 af ae env K1 F1 σ1 s1 g->Q (.ret (.bool (nf g.N i0 [] way))) s1):wpAny (model ab w) A (execs (bD 7) env) Q E s:=by
 revert S ag lv ai FK m hz h;delta ab w mu Φ hb k A E af F ae s env K g KF way i0 Q;intro S ag lv ai FK m hz h;have hl:=b7;have SJ:=Vk;show wpAny _ A (execs ((bD 7).drop 0) env) _ _ _;rcases way with _ |⟨a,cC⟩
 ·refine aI ⋯ (ii ∅ (m.test (N:=30) S ag lv ai (b:=true) nofun λF1 s1 m1 l1=>?_))
  show wpAny _ A (execs ((cQ (ak (bD 7) 0)).drop 0) env) _ _ _;refine aI (by skip;decide) (iX m1 S ag lv ai (d:=.bool false) ∅ nofun λv F2 s2 m2 l2 hv=>?_);replace hv:=hv.bool_inv;obtain rfl:=hv;exact h K F2 _ s2 m2
 delta a cC;intro m hz h;refine aI ⋯ (ii ∅ (m.test (N:=30) S ag lv ai (b:=false) nofun ?_));exists F1,s1;intro m1 l1;show wpAny _ A (execs ((bT (ak (bD 7) 0)).drop 0) env) _ _ _;refine bY (by skip;decide) ?_;refine aI ⋯ (sY ag ai FK m1 (z:=aT) (x:=cu) ∅ nofun nofun ?_);exists F2,s2;intro m2 l2;have fM:(tH g.inst (a::cC) i0 []).set aT (.val (.opq (.ref g.root)))=tH g.inst (a::cC) i0 [fT aT g.root]:=by kernel_rfl
 generalize jt:a::cC=way at *;delta way;intro jt m hz h m1 m2 fM;have vP:ev X0.aa Φ 30 (tH g.inst way i0 [fT aT g.root]) false (rl (ak (bD 7) 2))=some (.tup (gl way.dropLast)):=by
  rcases cC with _ |⟨b,_ |⟨c,_ |⟨d,r⟩⟩⟩
  ·rw[<- jt];kernel_rfl
  ·rw[<- jt];kernel_rfl
  ·rw[<- jt];kernel_rfl
  ·clear m h m1 m2 fM;subst jt;simp only[VY]at hz;omega
 have kS:0<way.length:=by rw[<- jt];simp
 have dC:(gl way.dropLast).length=way.length - 1:=by unfold gl;simp
 refine aI ⋯ (m2.forNames S ag lv ai ∅ vP (λi σ g1=>g1=g/\i<way.length/\∃tl,σ=tH g.inst way i0 (fT aT (g.dOf (way.take i))::tl)/\(tl=[]\/∃x n,tl=[kM nK x,fT gS n])/\At g (way.take i)/\nf g.N i0 [] way=nf g.N i0 (way.take i) (way.drop i))
  ⟨rfl,kS,[],rfl,.inl rfl,.inl rfl,rfl⟩ ?_ ?_ ?_)
 ·clear m m1 m2 fM vP;rintro i d F3 σ1 s3 g1 K' E' iT hd ⟨rfl,hi,tl,rfl,dU,oo,hw⟩ cL m3 l3
  revert hd h hi dU oo hw cL m3 l3;delta i d F3 s3 g1 K' E' iT tl;intro hd h hi dU oo hw cL m3 l3;have Ja:i+1<way.length:=by
   have:=(Wd.mp hd).1;rw[dC]at this;exact Nat.add_lt_of_lt_sub this
  obtain⟨x,y,pr,fX⟩:∃x y pr,way.drop i=x::y::pr:=by
   rw[WW hi,WW Ja];exact⟨_,_,_,rfl⟩
  delta x y pr;intro fX;have hx:way[i]?=some x:=by
   have:=congrArg (·[0]?) fX;simpa [List.getElem?_drop]using this
  have UN:d=.str (ao x):=by
   unfold gl at hd;rw[W3,List.getElem?_dropLast,if_pos (Nat.lt_sub_of_add_lt ‹_›),hx]at hd;replace hd:=aJ hd;obtain rfl:=hd;rfl
  clear hd;subst UN;have DS:way.take (i+1)=way.take i++[x]:=by rw[List.take_add_one,hx];rfl
  have K9:way.drop (i+1)=y::pr:=by rw[<- Wl,fX];rfl
  rw[fX]at hw;obtain⟨fH,AM,vH⟩:∃fH,iT=tH g1.inst way i0 (fT aT (g1.dOf (way.take i))::kM nK x::fH)/\(fH=[]\/∃n,fH=[fT gS n]):=by
   rcases dU with rfl |⟨x',n,rfl⟩
   ·have:bB (tH g1.inst way i0 [fT aT (g1.dOf (way.take i))]) (ly (ak (bD 7) 2)) (.str (ao x))=some (tH g1.inst way i0 [fT aT (g1.dOf (way.take i)),kM nK x]):=by kernel_rfl
    replace cL:=cG this cL;clear m3;obtain rfl:=cL;exact⟨[],rfl,.inl rfl⟩
   ·have:bB (tH g1.inst way i0 [fT aT (g1.dOf (way.take i)),kM nK x',fT gS n]) (ly (ak (bD 7) 2)) (.str (ao x))=some (tH g1.inst way i0 [fT aT (g1.dOf (way.take i)),kM nK x,fT gS n]):=by kernel_rfl
    replace cL:=cG this cL;clear m3;obtain rfl:=cL;exact⟨_,rfl,.inr ⟨n,rfl⟩⟩
  delta fH;intro AM vH;subst AM;clear cL dU;show wpAny _ A (execs ((cD (ak (bD 7) 2)).drop 0) env) _ _ _;refine aI ⋯ (ii ∅ (ur ag ai FK m3 (x:=nK) (y:=aT) (u:=way.take i) (a:=x) ∅ nofun nofun oo ?_));exists F4,s4;intro m4 l4;cases hN:g1.N (way.take i++[x])with
  |none =>
   show wpAny _ A (execs ((cQ (ak (cD (ak (bD 7) 2)) 0)).drop 0) env) _ _ _;refine aI (by skip;decide) (iX m4 S ag lv ai (d:=.bool false) ∅ nofun λv F5 s5 m5 l5 hv=>?_);replace hv:=hv.bool_inv;obtain rfl:=hv;have vG:nf g1.N i0 [] way=false:=by rw[hw];first |exact KC hN |exact Hl hN
   have:=h K' F5 _ s5 m5;rw[vG]at this;exact this
  |some p =>
   delta p;intro hN;show wpAny _ A (execs ((bT (ak (cD (ak (bD 7) 2)) 0)).drop 0) env) _ _ _;refine bY (by skip;decide) ?_;refine aI ⋯ (uQ ag m4 (z:=gS) (x:=aT) (y:=nK) (u:=way.take i) (a:=x) (p:=p) ∅ nofun nofun nofun oo hN ?_);exists F5,s5;intro m5 l5;have DQ:(tH g1.inst way i0 (fT aT (g1.dOf (way.take i))::kM nK x::fH)).set gS (.val (.opq (.ref (g1.G (way.take i++[x])).n)))=tH g1.inst way i0 [fT aT (g1.dOf (way.take i)),kM nK x,fT gS (g1.G (way.take i++[x])).n]:=by
    exact Ar (t:=fH) vH nofun λ_=>by kernel_rfl
   rw[DQ]at m5;obtain⟨f,r⟩:=p;delta f r;intro hN;refine aI ⋯ (ii ∅ (OD ag m5 (x:=dj) (y:=gS) (u:=way.take i++[x]) (f:=f) (r:=r) (i:=i0) ∅ nofun nofun hN ?_));exists F6,s6;intro m6 l6;cases hr:r i0 with
   |true =>
    show wpAny _ A (execs ((cQ (ak (cD (ak (bD 7) 2)) 2)).drop 0) env) _ _ _;refine aI (by skip;decide) (iX m6 S ag lv ai (d:=.bool true) ∅ nofun λv F7 s7 m7 l7 hv=>?_);replace hv:=hv.bool_inv;obtain rfl:=hv;have vG:nf g1.N i0 [] way=true:=by rw[hw];refine(Hl hN).trans ?_;show(r i0||_)=true;rw[hr];rfl
    have:=h K' F7 _ s7 m7;rw[vG]at this;exact this
   |false =>
    show wpAny _ A (execs ((bT (ak (cD (ak (bD 7) 2)) 2)).drop 0) env) _ _ _;refine bY (by skip;decide) ?_;refine aI ⋯ (B_ ag m6 (z:=aT) (x:=gS) (u:=way.take i++[x]) (p:=(f,r)) ∅ nofun nofun hN ?_);exists F7,s7;intro m7 l7;skip;refine bY ⋯ ?_;have KQ:(tH g1.inst way i0 [fT aT (g1.dOf (way.take i)),kM nK x,fT gS (g1.G (way.take i++[x])).n]).set aT (.val (.opq (.ref (g1.dOf (way.take i++[x])))))=tH g1.inst way i0 [fT aT (g1.dOf (way.take i++[x])),kM nK x,fT gS (g1.G (way.take i++[x])).n]:=by kernel_rfl
    rw[KQ]at m7;refine⟨F7,_,g1,m7,Fz.le_trans l4 (Fz.le_trans l5 (Fz.le_trans l6 l7)),rfl,Ja,_,by rw[DS],.inr ⟨_,_,rfl⟩,.inr ⟨_,by rw[DS];exact hN⟩,?_⟩;rw[hw,DS,K9];refine(Hl hN).trans ?_;show(r i0||_)=_;rw[hr];rfl
 ·clear m h m1 m2 fM vP;rintro i d σ1 g1 hd ⟨rfl,hi,tl,rfl,dU,oo,hw⟩
  rcases dU with rfl |⟨x',n,rfl⟩
  ·exact⟨_,rfl⟩
  ·exact⟨_,rfl⟩
 ·clear m m1 m2 fM vP;rintro F3 σ1 s3 g1 ⟨rfl,hi,tl,rfl,dU,oo,hw⟩ m3 l3
  revert h dU oo hw m3 l3;delta F3 s3 g1 tl;intro h dU oo hw m3 l3;rw[dC]at hi oo hw m3;delta tl;intro dU m3;obtain⟨x,fX⟩:∃x,way.drop (way.length - 1)=[x]:=by
   rw[WW (by omega),Xb (by lia)];exact⟨_,rfl⟩
  delta x;intro fX;rw[fX]at hw;have vL:ev X0.aa Φ 30 (tH g1.inst way i0 (fT aT (g1.dOf (way.take (way.length - 1)))::tl)) false (bR (ak (bD 7) 3))=some (.str (ao x)):=by
   rcases cC with _ |⟨b,_ |⟨c,_ |⟨d,r⟩⟩⟩
   ·clear hz kS dC h hi oo m3 hw;subst jt
    have:x=a:=by simpa using fX.symm
    rw[this];exact BB (t:=tl) dU nofun λ_ _=>by kernel_rfl
   ·clear hz kS dC h hi oo m3 hw;subst jt
    have:x=b:=by simpa using fX.symm
    rw[this];exact BB (t:=tl) dU nofun λ_ _=>by kernel_rfl
   ·clear hz kS dC h hi oo m3 hw;subst jt
    have:x=c:=by simpa using fX.symm
    rw[this];exact BB (t:=tl) dU nofun λ_ _=>by kernel_rfl
   ·clear kS dC h hi oo m3 fX hw;subst jt;simp only[VY]at hz;omega
  refine aI ⋯ (Cb m3 S ag lv ai (z:=fk) ∅ nofun vL ?_);exists F4,s4;intro m4 l4;have QB:(tH g1.inst way i0 (fT aT (g1.dOf (way.take (way.length - 1)))::tl)).set fk (.val (.str (ao x)))=tH g1.inst way i0 (fT aT (g1.dOf (way.take (way.length - 1)))::(tl++[kM fk x])):=by
   exact BB (t:=tl) dU nofun λ_ _=>by kernel_rfl
  rw[QB]at m4;refine aI ⋯ (ii ∅ (RU ag ai FK m4 (x:=fk) (y:=aT) (u:=way.take (way.length - 1)) (a:=x) ∅ (by exact BB (t:=tl) dU nofun λ_ _=>by kernel_rfl) nofun oo ?_));exists F5,s5;intro m5 l5;cases hN:g1.N (way.take (way.length - 1)++[x])with
  |none =>
   show wpAny _ A (execs ((bT (ak (bD 7) 4)).drop 0) env) _ _ _;refine bY (by skip;decide) ?_;refine aI ⋯ (iX m5 S ag lv ai (d:=.bool false) ∅ nofun λv F6 s6 m6 l6 hv=>?_);replace hv:=hv.bool_inv;obtain rfl:=hv;have vG:nf g1.N i0 [] way=false:=by rw[hw];first |exact KC hN |exact Hl hN
   have:=h _ F6 _ s6 m6;rw[vG]at this;exact this
  |some p =>
   delta p;intro hN;obtain⟨f,r⟩:=p;delta f r;intro hN;show wpAny _ A (execs ((cQ (ak (bD 7) 4)).drop 0) env) _ _ _;have QZ:(cQ (ak (bD 7) 4)).length=2:=by kernel_rfl
   refine aI ⋯ (uQ ag m5 (z:=aT) (x:=aT) (y:=fk) (u:=way.take (way.length - 1)) (a:=x) (p:=(f,r)) ∅ nofun (by exact BB (t:=tl) dU nofun λ_ _=>by kernel_rfl) nofun oo hN ?_);exists F6,s6;intro m6 l6;have Hy:(tH g1.inst way i0 (fT aT (g1.dOf (way.take (way.length - 1)))::(tl++[kM fk x]))).set aT (.val (.opq (.ref (g1.G (way.take (way.length - 1)++[x])).n)))=tH g1.inst way i0 (fT aT (g1.G (way.take (way.length - 1)++[x])).n::(tl++[kM fk x])):=by
    exact BB (t:=tl) dU nofun λ_ _=>by kernel_rfl
   rw[Hy]at m6;refine aI ⋯ (mr ∅ ?_);obtain⟨e1,e2,p1,wI⟩:3:=AE (show Dw dj aT kF kR (rP (ak (cQ (ak (bD 7) 4)) 1)) by exact .mk .mk .mk);rw[wI.1];have vG:nf g1.N i0 [] way=(f i0||r i0):=by rw[hw];exact KC hN
   refine wpAny_Or2 (OL ag m6 (u:=way.take (way.length - 1)++[x]) (f:=f) (r:=r) (i:=i0) wI.2.1 nofun (by exact BB (t:=tl) dU nofun λ_ _=>by kernel_rfl) hN λF7 s7 m7 l7=>Ye ?_);delta F7 s7;intro m7 l7;cases hf:f i0 with
   |true =>
    have:=h _ F7 _ s7 m7;rw[vG,hf,Bool.true_or]at this;exact this
   |false =>
    refine OK ag m7 (u:=way.take (way.length - 1)++[x]) (f:=f) (r:=r) (i:=i0) wI.2.2 (by exact BB (t:=tl) dU nofun λ_ _=>by kernel_rfl) (by exact BB (t:=tl) dU nofun λ_ _=>by kernel_rfl) hN λF8 s8 m8 l8=>?_
    have:=h _ F8 _ s8 m8;rw[vG,hf,Bool.false_or]at this;exact this
end
set_option genCtorIdx false in
structure FT where
 N:aw->Option (cY×cY)
 P:List (aw×Int)
 m:Nat
 deriving Nonempty
noncomputable def ry:List D->Option aw
 |[]=>some []
 |d::r=>(BM d).bind λx=>(ry r).map (x.cps.toList::·)
theorem rx (w:aw):ry (gl w)=some w:=by
 induction w with
 |nil=>rfl
 |cons x r ih=>exact w6 ih
theorem uI {l:List D}{w:aw}(h:ry l=some w):l=gl w:=by
 induction l generalizing w with
 |nil=>obtain rfl:=aJ h;rfl
 |cons d r ih =>
  refine bt h λx e1 e2=>gt e2 λw' e3 e4=>?_
  rw[<- e4];rw[eH e1,ih e3];rfl
noncomputable def Qc:Str:=VN "is_"
noncomputable def Ua (t:FT)(a b:D):Option D:=(ET a).bind λl=>(un b).bind λi=>(ry l).bind λway=>gd (Wm way.length 3) (some (.bool (nf t.N i [] way)))
noncomputable def aN (t:FT)(m:Str)(ds:List D):Option D:=gd (d4 m Qc) (Il (Ua t) ds)
theorem CA (t:FT)(way:aw)(i:Int)(h:way.length<=3):aN t Qc [aM way,.int i]=some (.bool (nf t.N i [] way)) :=
 lx (bl.mpr rfl) (show((ry (gl way)).bind λway=>gd (Wm way.length 3) (some (D.bool (nf t.N i [] way))))=_ from(dS (rx way)).trans (lx (Wh h) rfl))
noncomputable def XF (ab:V8)(w:Wi):gJ where
 T:=FT
 At:=λF h v t O=>∃g,gH ab w F h g/\g.N=t.N/\g.P=t.P/\g.m<=t.m/\g.O=O/\v=.ref g.inst
 loc:=by
  rintro F F' h h' v t O ⟨g,x,h1,h2,h3,h4,h5⟩ fl e;exact⟨g,x.keep (λa ha=>e a (h4▸ha)) fl,h1,h2,h3,h4,h5⟩
 alive:=by
  rintro F h v t O ⟨g,x,h1,h2,h3,h4,h5⟩ a ha;exact x.alive a (h4▸ha)
 aa:=aN
structure qQ (hb:Wb)(a:V4)(j:Nat)(xs:List Str)(kw:List Str):Prop where
 ex:∃fd,E4 hb a fd (bD j) xs/\fd.scope.names=vd j/\∀vs us:List VQ,vs.length+kw.length=xs.length->us.length=kw.length->bindArgs fd ⟨vs,kw.zip us⟩=pure (xs.zip (vs++us))
structure wD (hb:Wb):Prop where
 init:qQ hb 83 2 [cu] []
 add:qQ hb 90 3 [cu,lk,dj] []
 fin:qQ hb 97 4 [cu] []
 uns:qQ hb 104 5 [cu,lk] []
 set:qQ hb 111 6 [cu,lk,dj,VN "recursive"] [VN "recursive"]
 is_:qQ hb 118 7 [cu,lk,dj] []
noncomputable def L0:b_:=λ_ _=>none
section
variable {ab:V8}{w:Wi}{hb:Wb}{mg:Str->Option VQ}{k:Nat}{KF:Zo}
theorem uR (B:dT hb mg):gy ab w X0 L0 hb k :=
 pi B (λf ds d _ e=>by exact bg e) (λA E F s env an σ x m p aE pos args y d r Q _ e=>by exact bg e) OB
theorem nX {T:Type}(xs:List Str):∀(ds:List D) (y:Str) (b:aO T),dD (cz xs ds) y=some b->∃d,b=.val d:=by
 induction xs with
 |nil=>exact λ_ _ _ e=>bg e
 |cons x xs ih =>
  intro ds y b e;induction ds with
  |nil=>exact bg e
  |cons d ds=>exact D8 e (λ_ q=>⟨d,q.symm⟩) (ih ds y b)
theorem bJ.entry {A:V7}{F:Fz}{s aR:VP}{env:Yq}{g:Gh}{nm:bc}{xs:List Str}{ds:List D}(am:Am A F s)(c:cE X0 F s env (λ_ _=>False) F ⟨nm,cz xs ds⟩ aR)(x:gH ab w F s.heap g)(mK:∀y,env.cells.lookup y=none) :
  bJ ab w false X0 F s env (λ_ _=>False) F ⟨nm,cz xs ds⟩ aR g where
 c:=c
 inv:=x.keep (λa ha=>by
  obtain⟨o,ho,hq⟩:=x.alive a ha;rw[ho,c.g.keepD am.tab ho (fS hq)]) F.le_refl
 own:=λa ha=>by
  refine⟨?_,λq=>by exact eV q⟩;rintro rfl;obtain⟨o,ho,hq⟩:=x.alive _ ha;rw[c.r.l0]at ho;exact bg ho
 kO:=λ_ _ q=>q.elim
 av:=λy b e=>nX xs ds y b e
 nc:=mK
theorem bJ.entryM {A:V7}{F:Fz}{s aR:VP}{env:Yq}{g:Gh}{nm:bc}{xs:List Str}{ds:List D}(am:Am A F s)(c:cE X0 F s env (λ_ _=>False) F ⟨nm,cz xs ds⟩ aR)(x:gH ab w F s.heap g)(hF:∀a∈g.O,F a=none)(mK:∀y,env.cells.lookup y=none) :
  bJ ab w true X0 F (e_ s g.O) env (λ_ _=>False) F ⟨nm,cz xs ds⟩ aR g:=by
 have m:=bJ.entry am c x mK;have BK:PL∉g.O:=λha=>by
  obtain⟨o,ho,hq⟩:=x.alive _ ha;exact am.tab.neD ho (fS hq) rfl
 exact{ c:=m.c.mask BK,inv:=m.inv,own:=λa ha=>⟨(m.own a ha).1,λ_=>⟨hF a ha,yy ha⟩⟩,kO:=m.kO,av:=m.av,nc:=m.nc }
theorem H9 (B:dT hb mg)(FK:kK hb KF)(FM:wD hb){A:V7}{E:VQ->VP->Prop}{F:Fz}{s:VP}{g:Gh}{way:aw}{i:Int}{v1 v2:VQ}{Q:VQ->VP->Prop}(am:Am A F s)(lv:Lv A 1)(bf:au hb F)(x:gH ab w F s.heap g)(h1:aj F v1 (aM way))(h2:aj F v2 (.int i))(hz:way.length<=3)
  (h:Rt F s (.bool (nf g.N i [] way)) Q):wpAny (model ab w) A (call (.ref 118) [.ref g.inst,v1,v2]) Q E s:=by
 obtain⟨fd,M,hn,om⟩:=FM.is_.ex;refine XC (gC (X:=X0) (k:=0) (vs:=[.ref g.inst,v1,v2]) (ds:=[.opq (.ref g.inst),aM way,.int i]) M B rfl (by rw[hn];kernel_rfl) (om [.ref g.inst,v1,v2] [] rfl rfl) am lv bf (.cons (.opq _) (.cons h1 (.cons h2 .nil))) λA' E' env aR kI re c mK AR=>?_);rw[hn]at c;have m:=bJ.entry am c x mK;refine Hk (Φ:=L0) (uR B) kI re bf FK m hz λK1 F1 σ1 s1 m1=>?_
 exact h _ F1 s1 m1.c.g (.bool _)
theorem Js (B:dT hb mg)(FK:kK hb KF)(FM:wD hb):hU ab w (XF ab w) hb 1:=by
 intro t m ds d e;refine ip e λhm e=>?_
 obtain rfl:=bl.mp hm;obtain⟨a,b,rfl,e⟩:=wt e;refine bt e λl e1 e=>bt e λi e2 e=>bt e λway e3 e=>ip e λhz e4=>?_
 obtain rfl:=aJ e4
 cases mG e1
 cases dR e2;clear e1;obtain rfl:=uI e3;have hz:=V0 hz;obtain⟨fd,M,hn,om⟩:=FM.is_.ex;obtain⟨o,ho,hd⟩:=M.obj;refine⟨118,o,fd,ho,hd,?_,?_⟩
 ·rintro A E F s v O pl Q ⟨g,x,g1,g2,g3,g4,rfl⟩ am bf hq
  exact ky FK bf am x FK.mis FK.fis nofun nofun hq
 ·rintro A F s v O vs Q E ⟨g,x,g1,g2,g3,g4,rfl⟩ am lv bf hv hr
  obtain⟨v1,us,rfl,uz,hv⟩:=hv.cons_inv;obtain⟨v2,us,rfl,hZ,HB⟩:=hv.cons_inv;obtain rfl:=HB.nil_inv;exact H9 B FK FM am lv bf x uz hZ hz (by rw[g1];exact hr)
end
noncomputable def fy:Str:=VN "set"
inductive yJ (x y:Str):V9->Prop
 |mk {p1 p2 p3 k1 q1 k2 q2 k3 q3 r1 r2 r3 r4 r5 r6 r7}:yJ x y (.Assign [.Subscript (.Name x p1) (.Name y p2) p3] (.Dict [some (.Constant (.str kF) k1 q1),some (.Constant (.str kR) k2 q2),some (.Constant (.str kN) k3 q3)] [.Call (.Name fy r1) [] [] r2,.Call (.Name fy r3) [] [] r4,.Dict [] [] r5] r6) r7)
theorem AF {x y:Str}{st:V9}(h:yJ x y st):∃p1 p2 p3 k1 q1 k2 q2 k3 q3 r1 r2 r3 r4 r5 r6 r7,st=.Assign [.Subscript (.Name x p1) (.Name y p2) p3] (.Dict [some (.Constant (.str kF) k1 q1),some (.Constant (.str kR) k2 q2),some (.Constant (.str kN) k3 q3)] [.Call (.Name fy r1) [] [] r2,.Call (.Name fy r3) [] [] r4,.Dict [] [] r5] r6) r7:=by induction h;exact⟨_,_,_,_,_,_,_,_,_,_,_,_,_,_,_,_,rfl⟩
section
variable {ab:V8}{w:Wi}{mu:Bool}{Φ:b_}{hb:Wb}{mg:Str->Option VQ}{k:Nat}{A:V7}{E:VQ->VP->Prop}{af F F':Fz}{ae s s':VP}{env:Yq}{K K':V4->Xi->Prop}{g g':Gh}{KF:Zo}{σ σ':az X0.T}
theorem mv (c:cE X0 af ae env K F σ s){a:V4}(h:s.heap.get? a=none):ae.heap.get? a=none/\F a=none/\a≠env.locals/\∀o,¬ K a o:=by
 refine⟨c.g.noneAt h,?_,?_,λo q=>?_⟩
 ·cases e:F a with
  |none=>rfl
  |some o=>rw[c.g.fz _ _ e]at h;cases h
 ·rintro rfl
  obtain⟨m,o,es,ep,ho,_⟩:=c.r.ns;exact bo h ho
 ·rw[(c.kk a o q).1]at h;cases h
theorem t8 {h:Wb}{a:V4}(ha:h.objs.size<=a):h.get? a=none:=by
 cases e:h.get? a with
 |none=>rfl
 |some o=>exact absurd (Wy e) (Nat.not_lt.mpr ha)
theorem kU (w:Wi)(ab:V8){h:Wb}{a:V4}(hg:h.get? a=some (aX w)):h.SetOf (intKind ab w) a (λ_=>false) 0 :=
 ⟨_,#[],0,_,hg,⟨rfl,rfl,rfl⟩,rfl,λe he=>by simp at he,λk=>by simp,by decide,rfl,rfl⟩
theorem qL (B:dT hb mg)(cX:mg fy=none){p pos:X7}{Q:VQ->VP->Prop}(am:Am A F s)(bf:au hb F)(r:cW X0 ae.heap F env σ s.heap)(hg:js σ.nm fy=true)(h:Q (.ref s.heap.objs.size) { s with heap:=s.heap.push (aX w) }) :
  wpAny (model ab w) A (eval (.Call (.Name fy p) [] [] pos) env) Q E s:=by
 refine lu (fv:=.type "set") (P:=λ_=>True) (λh _=>⟨.machine,.inr (.inl rfl),W0 rfl⟩) ?_;exact dn B am bf r hg (.inr ⟨cX,(show bootBuiltins fy=some (.type "set") by decide +kernel),by decide +kernel⟩) ⟨rfl,trivial,uk h⟩
theorem JP (B:dT hb mg)(cX:mg fy=none)(ag:Am A af ae)(ai:au hb af)(FK:kK hb KF)(m:bJ ab w true X0 af ae env K F σ s g){x y:Str}{st:V9}{u:aw}{a:List Nat}{Q:YF->VP->Prop}(hs:yJ x y st)(hg:js σ.nm fy=true)
  (hx:σ.get x=some (.val (.opq (.ref (g.dOf u))))) (hy:σ.get y=some (.val (.str (ao a)))) (hu:u=[]\/(u.length<=1/\∃p,g.N u=some p)) (hN:g.N (u++[a])=none) (hm:g.m<=1000)
  (h:∀F1 s1 pl,bJ ab w true X0 af ae env K F1 σ s1 (g.new u (ao a) pl)->F.le F1->Q .next s1):wpAny (model ab w) A (exec st env) Q E s:=by
 revert B cX ag ai FK m hs hg hx hy hu hN hm h;delta ab w hb mg A E af F ae s env K g KF σ x y st u a Q;intro B cX ag ai FK m hs hg hx hy hu hN hm h;replace hs:=AF hs;obtain⟨p1,p2,p3,k1,q1,k2,q2,k3,q3,r1,r2,r3,r4,r5,r6,r7,rfl⟩:=hs;have oo:At g u:=hu.imp id λq=>q.2
 refine wpAny_Assign_Subscript (wpAny_Dict_walk (knd:=strKind ab w) rfl rfl (by simp) (show 3<=15 by decide) ?_) (by rfl);have gp:∀{F:Fz} {s:VP} (hf:∀a o,F a=some o->s.heap.get? a=some o) (o:Xi),aA F s F { s with heap:=s.heap.push o }:=λ{F s} hf o=>aA.push0 hf o s.toks
 have am:=ag.at m.c;have bf:=ai.grow m.c.g.fle;have G0:=gp am.fz { cls:=.type "dict",data:=.dict #[] };refine pairTrees_cons_walk (eE ab w λt1 PK=>?_);have G1:=G0.trans (aA.toks G0.fz PK);refine qL B cX (am.grow G1) (bf.grow G1.fle) (m.c.r.grow G1) hg ?_;have G2:=G1.trans (gp G1.fz (aX w));refine pairTrees_cons_walk (eE ab w λt2 oD=>?_);have G3:=G2.trans (aA.toks G2.fz oD);refine qL B cX (am.grow G3) (bf.grow G3.fle) (m.c.r.grow G3) hg ?_;have G4:=G3.trans (gp G3.fz (aX w));refine pairTrees_cons_walk (eE ab w λt3 zv=>?_);have G5:=G4.trans (aA.toks G4.fz zv);refine wpAny_Dict_empty ?_;have G6:=G5.trans (gp G5.fz { cls:=.type "dict",data:=.dict #[] });refine pairTrees_nil_walk ?_;have n0:=Wb.DictOf.new (knd:=strKind ab w) s.heap;have nd:=((n0.push (aX w)).push (aX w)).push { cls:=.type "dict",data:=.dict #[] };refine display_done_str (by rfl) (by
  show[kF,kR,kN].Nodup;decide +kernel) nd λh1 NV BC=>?_
 have e0:=mv m.c (bu s.heap);have c6:=m.c.grow G6;have c7:=λ(tk:Nat)=>c6.mut (b:=s.heap.objs.size) (tk:=tk) (dr:=s.drawn) m.av e0.1 e0.2.1 e0.2.2.1 (λy c q=>by rw[m.nc y]at q;cases q) (λa o q e=>e0.2.2.2 o (e▸q)) BC.extBut
 refine cy (ag.at (c7 _)) (c7 _).r hx λv F8 s8 g8 Uh=>?_
 have c8:=(c7 _).grow g8;refine cy (ag.at c8) c8.r hy λv9 F9 s9 g9 Ug=>?_
 have c9:=c8.grow g9;clear c8;cases Uh
 cases Ug;have Oa:=g8.trans g9;obtain⟨kD,Sn,T8,T7⟩:=m.inv.contAt oo;have x_:∀b o,h1.get? b=some o->lV o.data->s9.heap.get? b=some o:=λb o gn hq=>Oa.keepD (c7 0).r.tab gn (fS hq)
 have LP:∀b o,s.heap.get? b=some o->h1.get? b=some o:=λb o ho=>by
  have cS:b≠s.heap.objs.size:=XI (Wy ho);rw[BC.2 b cS];exact V5 _ (V5 _ (V5 _ (V5 _ ho)))
 have IS:∀b∈g.O,s9.heap.get? b=s.heap.get? b:=λb gn=>by
  obtain⟨o,ho,hq⟩:=m.inv.alive b gn;rw[ho];refine x_ b o ?_ hq;have cS:b≠s.heap.objs.size:=XI (Wy ho);rw[BC.2 b cS];exact V5 _ (V5 _ (V5 _ (V5 _ ho)))
 have k9:∀b o,b≠s.heap.objs.size->(((((s.heap.push { cls:=.type "dict",data:=.dict #[] }).push (aX w)).push (aX w)).push { cls:=.type "dict",data:=.dict #[] }).get? b=some o)->lV o.data->s9.heap.get? b=some o:=λb o gn ho hq=>x_ b o ((BC.2 b gn).trans ho) hq
 generalize hn:s.heap.objs.size=n at *;have hf:(s.heap.push { cls:=.type "dict",data:=.dict #[] }).objs.size=n+1:=by rw[WM,hn]
 have hr:((s.heap.push { cls:=.type "dict",data:=.dict #[] }).push (aX w)).objs.size=n+2:=by rw[WM,hf]
 have hd:(((s.heap.push { cls:=.type "dict",data:=.dict #[] }).push (aX w)).push (aX w)).objs.size=n+3:=by rw[WM,hr]
 have of:s9.heap.get? (n+1)=some (aX w):=k9 _ _ (by lia) (V5 _ (V5 _ (by rw[<- hf];exact Wc _ rfl))) trivial;have or:s9.heap.get? (n+2)=some (aX w):=k9 _ _ (by lia) (V5 _ (by rw[<- hr];exact Wc _ rfl)) trivial;have od:s9.heap.get? (n+3)=some { cls:=.type "dict",data:=.dict #[] }:=k9 _ _ (by lia) (by rw[<- hd];exact Wc _ rfl) trivial;have on:s9.heap.DictOf (strKind ab w) n [(kF,.ref (n+1)),(kR,.ref (n+2)),(kN,.ref (n+3))]:=by
  have e:strPairs [(Yy kF t1,Xg (s.heap.push { cls:=.type "dict",data:=.dict #[] }).objs.size),(Yy kR t2,Xg ((s.heap.push { cls:=.type "dict",data:=.dict #[] }).push (aX w)).objs.size),(Yy kN t3,Xg (((s.heap.push { cls:=.type "dict",data:=.dict #[] }).push (aX w)).push (aX w)).objs.size)]=[(kF,Xg (n+1)),(kR,Xg (n+2)),(kN,Xg (n+3))]:=by rw[hf,hr,hd];rfl
  have NU:h1.DictOf (strKind ab w) n [(kF,.ref (n+1)),(kR,.ref (n+2)),(kN,.ref (n+3))]:=by rw[<- e];exact NV
  refine bC ?_ NU;obtain⟨o,ho,hq⟩:=d8 NU;rw[x_ n o ho hq,ho]
 have fr:∀i,s.heap.get? (n+i)=none:=λi=>t8 (by lia)
 have BD:g.dOf u∈g.O:=m.inv.dO oo;refine wpAny_setItem_pairs (o8 ab w _ _) (bC (IS _ BD) Sn) (λh' eS tV=>?_) (by rw[sizeLine_eq];lia);have cS:∀b,s.heap.get? b=none->b≠g.dOf u:=λb gn e=>by
  obtain⟨o,ho,_⟩:=m.inv.alive _ BD;rw[<- e,gn]at ho;cases ho
 have Qw:gH ab w F h' (g.new u (ao a) ⟨n,n+1,n+2,n+3⟩):=by
  refine m.inv.new hu hN ?_ ?_ ?_ Sn T8 T7 (λb gn Fp=>(tV.2 b Fp).trans (IS b gn)) eS (bC (tV.2 _ (cS _ (fr 0))) on) (kU w ab ((tV.2 _ (cS _ (fr 1))).trans of)) (kU w ab ((tV.2 _ (cS _ (fr 2))).trans or)) ?_
  ·intro b gn
   simp only[Pl.list,V2,Wf,or_false]at gn;clear hn n0 nd NV BC e0 k9 hf hr hd of or od on eS;rcases gn with rfl |rfl |rfl |rfl
   ·exact fr 0
   ·exact fr 1
   ·exact fr 2
   ·exact fr 3
  ·show[n,n+1,n+2,n+3].Nodup
   simp
  ·intro b gn
   have lK:sysModules<n:=by
    obtain⟨o,ho⟩:=FK.sm;rw[<- hn];exact Wy (am.fz _ _ (bf _ _ ho))
   simp only[Pl.list,V2,Wf,or_false]at gn;rcases gn with e |e |e |e
   ·rw[e];exact Xw lK
   ·rw[e];exact Xw (W8 lK (Xm _ _))
   ·rw[e];exact Xw (W8 lK (Xm _ _))
   ·rw[e];exact Xw (W8 lK (Xm _ _))
  ·exact⟨_,#[],0,(tV.2 _ (cS _ (fr 3))).trans od,⟨rfl,rfl,rfl⟩,rfl,(λe he=>by simp at he),.nil,List.nodup_nil⟩
 have Vq:∀i,i<=3->∃o,h1.get? (n+i)=some o:=λi hi=>OV (P:=λi=>∃o,h1.get? (n+i)=some o)
  ((d8 NV).imp λ_ z=>z.1)
  ⟨_,(BC.2 (n+1) (Xw (XT ⋯))).trans (V5 _ (V5 _ (by rw[<- hf];exact Wc _ rfl)))⟩
  ⟨_,(BC.2 (n+2) (Xw (XT ⋯))).trans (V5 _ (by rw[<- hr];exact Wc _ rfl))⟩
  ⟨_,(BC.2 (n+3) (Xw (XT ⋯))).trans (by rw[<- hd];exact Wc _ rfl)⟩ (Yk hi)
 have CX:∀i,i<=3->(n+i)≠env.locals/\(true=true->F9 (n+i)=none/\ae.heap.get? (n+i)=none)/\∀o,¬ K (n+i) o:=λi hi=>by
  obtain⟨q1,q2,q3,q4⟩:=mv m.c (fr i);obtain⟨o,ho⟩:=Vq i hi;exact⟨q3,λ_=>⟨dh Oa q2 ho,q1⟩,q4⟩
 have Nx:∀b,b∈(g.new u (ao a) ⟨n,n+1,n+2,n+3⟩).O->(∃i,i<=3/\b=n+i)\/b∈g.O:=λb gn=>by
  simp only[Gh.new,V2]at gn;rcases gn with e |e |e |e |e
  ·exact .inl ⟨0,by decide,e⟩
  ·exact .inl ⟨1,by decide,e⟩
  ·exact .inl ⟨2,by decide,e⟩
  ·exact .inl ⟨3,by decide,e⟩
  ·exact .inr e
 have S1:∀b∈g.O,F9 b=none:=λb gn=>by
  obtain⟨o,ho,_⟩:=m.inv.alive b gn;exact dh Oa ((m.own b gn).2 rfl).1 (LP b o ho)
 refine h F9 _ ⟨n,n+1,n+2,n+3⟩ ?_ Oa.fle;exact{
  c:=c9.mut (b:=g.dOf u) (dr:=s9.drawn) m.av ((m.own _ BD).2 rfl).2 (S1 _ BD) (m.own _ BD).1 (λy c q=>by rw[m.nc y]at q;cases q) (λa o q e=>m.kO a o q (e▸BD)) tV.extBut
  inv:=Qw.keep (λ_ _=>rfl) Oa.fle
  own:=λb gn=>by
   rcases Nx b gn with⟨i,hi,rfl⟩ |q
   ·exact⟨(CX i hi).1,(CX i hi).2.1⟩
   ·exact⟨(m.own b q).1,λ_=>⟨S1 b q,((m.own b q).2 rfl).2⟩⟩
  kO:=λb o q gn=>by
   rcases Nx b gn with⟨i,hi,rfl⟩ |q'
   ·exact(CX i hi).2.2 o q
   ·exact m.kO b o q q'
  av:=m.av
  nc:=m.nc }
end
set_option backward.match.sparseCases true
noncomputable def CZ:Str:=VN "recursive"
noncomputable def C0:Str:=VN "add"
inductive tT (x y r f:Str):V9->Prop
 |mk {p1 p2 p3 p4 k1 q1 k2 q2 p5 p6 aE p7 pos p8}:VW aE.endLine pos.line=true->tT x y r f (.Expr (.Call (.Attribute (.Subscript (.Subscript (.Name x p1) (.Name y p2) p3) (.IfExp (.Name r p4) (.Constant (.str kR) k1 q1) (.Constant (.str kF) k2 q2) p5) p6) C0 aE) [.Name f p7] [] pos) p8)
theorem vE {x y r f:Str}{st:V9}(h:tT x y r f st):∃p1 p2 p3 p4 k1 q1 k2 q2 p5 p6 aE p7 pos p8,st=.Expr (.Call (.Attribute (.Subscript (.Subscript (.Name x p1) (.Name y p2) p3) (.IfExp (.Name r p4) (.Constant (.str kR) k1 q1) (.Constant (.str kF) k2 q2) p5) p6) C0 aE) [.Name f p7] [] pos) p8/\VW aE.endLine pos.line=true:=by induction h;exact⟨_,_,_,_,_,_,_,_,_,_,_,_,_,_,rfl,by assumption⟩
section
variable {ab:V8}{w:Wi}{mu:Bool}{Φ:b_}{hb:Wb}{mg:Str->Option VQ}{k:Nat}{A:V7}{E:VQ->VP->Prop}{af F F':Fz}{ae s s':VP}{env:Yq}{K K':V4->Xi->Prop}{g g':Gh}{KF:Zo}{σ σ':az X0.T}
set_option tactic.hygienic true in
theorem bJ.two (m:bJ ab w mu X0 af ae env K F σ s g)(S:gy ab w X0 Φ hb k)(ag:Am A af ae)(lv:Lv A k)(ai:au hb af){st:V9}{d1 d2:D}{Q:YF->VP->Prop}(hs:Dt σ.nm st)
  (e1:ev X0.aa Φ 30 σ false (wF st 0)=some d1) (e2:ev X0.aa Φ 30 σ false (wF st 1)=some d2) (h:∀F1 s1,bJ ab w mu X0 af ae env K F1 ((σ.set (L4 st 1) (.val d2)).set (L4 st 0) (.val d1)) s1 g->F.le F1->Q .next s1) :
  wpAny (model ab w) A (exec st env) Q E s:=by
 revert m S ag lv ai hs e1 e2 h;delta ab w mu Φ hb k A E af F ae s env K g σ st d1 d2 Q;intro m S ag lv ai hs e1 e2 h;obtain⟨hs⟩:=hs;rename_i a pa b pb kk tp v1 v2 k2 vp pos;delta a pa b pb kk tp v1 v2 k2 vp pos;intro hs e1 e2 h;have e1:ev X0.aa Φ 30 σ false v1=_:=e1;have e2:ev X0.aa Φ 30 σ false v2=_:=e2;have h:∀F1 s1,bJ ab w mu X0 af ae env K F1 ((σ.set b (.val d2)).set a (.val d1)) s1 g->F.le F1->Q .next s1:=h;have hL:=hs;simp only[V3]at hL;have wa:bW σ.nm a=true:=by
  have:=hL.1.1.1.1.1;exact mj this
 have wb:bW σ.nm b=true:=by
  have:=hL.1.1.1.1.2;exact mj this
 have yV:k5 (λσ b e=>ev X0.aa Φ 30 σ b e) σ [v1,v2]=some [d1,d2]:=Bh e1 e2;have c:=m.c;refine Assign_Tuple_swapped (names:=[a,b]) ?_ (iW ..) (nL c.r (dH e1) (dH e2) hs);refine oF (S 30).1 yV (by simp) (ag.at c) lv (ai.grow c.g.fle) c.r ?_;exists vv,F1,s1;intro g1 hv;have m1:=m.grow g1;obtain⟨t,vs,rfl,ht,hr,_,hsz⟩:=hv.isTup m1.c.g.fz;delta t vs;intro hv ht hr hsz;have KW:([a,b]:List Str).length=vs.size:=by rw[hsz];rfl
 rw[KW];refine unpackItems_tuple ag.hh ht ?_;exists h';intro he;have keep:∀b o,s1.heap.get? b=some o->h'.get? b=some o:=λb o eb=>he b o (XI (Wy eb)) eb
 have m2:=m1.grow (aA.keeps m1.c.g.fz keep s1.toks)
 cases HE:vs.toList with
 |nil=>rw[HE]at hr;clear yV g1 m1 hv hsz m2;cases hr
 |cons u1 us =>
  delta u1 us;intro HE;rw[HE]at hr;clear yV m1 hv hsz HE;cases hr with
  |cons h1 h2 =>
   cases h2 with
   |cons h2 h3 =>
    obtain rfl:=h3.nil_inv;rename_i u2;refine VO (Wq (wpAny_bindName (m2.store wb h2 λs3 m3=>?_)));refine VO (Wq (wpAny_bindName (m3.store wa h1 λs4 m4=>?_)));exact VR (h F1 s4 m4 g1.fle)
theorem JR (S:gy ab w X0 Φ hb k)(lv:Lv A k)(ag:Am A af ae)(ai:au hb af)(m:bJ ab w true X0 af ae env K F σ s g){x y r f:Str}{st:V9}{u:aw}{a:List Nat}{rc:Bool}{i:Int}{p:cY×cY}{Q:YF->VP->Prop}(hs:tT x y r f st)
  (hx:σ.get x=some (.val (.opq (.ref (g.dOf u))))) (hy:σ.get y=some (.val (.str (ao a)))) (hr:σ.get r=some (.val (.bool rc))) (hf:σ.get f=some (.val (.int i))) (hu:At g u) (hp:g.N (u++[a])=some p) (hm:g.m<=1000)
  (h:∀F1 s1,bJ ab w true X0 af ae env K F1 σ s1 (g.add (u++[a]) rc i)->F.le F1->Q .next s1):wpAny (model ab w) A (exec st env) Q E s:=by
 revert S lv ag ai m hs hx hy hr hf hu hp hm h;delta ab w Φ hb k A E af F ae s env K g σ x y r f st u a rc i p Q;intro S lv ag ai m hs hx hy hr hf hu hp hm h;obtain⟨p1,p2,p3,p4,k1,q1,k2,q2,p5,p6,aE,p7,pos,p8,rfl,hl⟩:=vE hs;delta p1 p2 p3 p4 k1 q1 k2 q2 p5 p6 aE p7 pos p8;intro hl hs;obtain⟨f0,r0⟩:=p;delta f0 r0;intro hp;refine Y0 ?_ (dY m.c.r) (by rfl);refine fC (P:=λ_=>True) rfl hl (by simp) rfl rfl ?_;refine nA (nA (m.name ag hx λv F1 s1 m1 l1 hv=>m1.name ag hy λv2 F2 s2 m2 l2 hZ=>?_));revert m1 l1 hv m2 l2 hZ;delta v F1 s1 v2 F2 s2;intro m1 l1 hv m2 l2 hZ;obtain rfl:=hv.opq_inv;obtain⟨_,rfl⟩:=hZ.str_inv;delta w_1;intro hZ;refine EM m2 hu hp λtk=>?_
 delta tk;have m3:=m2.toks tk;have I7:ev X0.aa Φ 30 σ true (.Name r p4)=some (.bool rc):=by
  show PI (σ.get r)=_;rw[hr];rfl
 refine wpAny_IfExp (m3.test (N:=30) S ag lv ai I7 λF4 s4 m4 l4=>?_);delta F4 s4;intro m4 l4;have fin:∀s5 F5 (m5:bJ ab w true X0 af ae env K F5 σ s5 g) (l5:F.le F5),∃fv first,(∀h:Wb,True->∃k,(k=Yj\/k=XN\/k=Xe)/\Looks (model ab w) h (keeperOf fv) k) /\(∀pl Q',Q' (fv,first) s5->wpAny (model ab w) A (getMethod (.ref (if rc then(g.G (u++[a])).r else(g.G (u++[a])).f)) C0 pl) Q' E s5) /\wpAny (model ab w) A (spliced (backTo pos (starEach [.Name f p7] env))) (λvs s2=>True/\wpAny (model ab w) A (call fv (first++vs)) (λv s'=>match v with | .ref _=>False |_=>Q .next s') E s2) E s5:=by
  intro s5 F5 m5 l5;delta s5 F5;intro m5 l5;have z:=m5.inv.node _ f0 r0 hp;have hS:∃n,n<=g.m/\s5.heap.SetOf (intKind ab w) (if rc then(g.G (u++[a])).r else(g.G (u++[a])).f) (if rc then r0 else f0) n:=by
   clear hr I7;induction rc with
   |false=>exact z.fs
   |true=>exact z.rs
  obtain⟨n,hn,hS⟩:=hS;delta n;intro hn hS;refine⟨.builtin "set.add",[.ref (if rc then(g.G (u++[a])).r else(g.G (u++[a])).f)],λh _=>⟨.machine,.inr (.inl rfl),W0 rfl⟩,λpl Q' hq=>getMethod_set_add hS hq,?_⟩;refine ig rfl (m5.name ag hf λv6 F6 s6 m6 l6 QE=>⟨trivial,?_⟩);delta v6 F6 s6;intro m6 l6 QE;obtain⟨_,rfl⟩:=QE.int_inv;delta w_2;intro QE;have z6:=m6.inv.node _ f0 r0 hp;have N0:∃n,n<=g.m/\s6.heap.SetOf (intKind ab w) (if rc then(g.G (u++[a])).r else(g.G (u++[a])).f) (if rc then r0 else f0) n:=by
   clear hS;induction rc with
   |false=>exact z6.fs
   |true=>exact z6.rs
  obtain⟨n6,Uz,N0⟩:=N0;delta n6;intro Uz N0;refine call_set_add (DM ab w _ _) rfl N0 (by show n6+1<4096;lia) λh' QL SU=>?_
  delta h';intro QL SU;have uA:(if rc then(g.G (u++[a])).r else(g.G (u++[a])).f)∈g.O:=by
   clear N0;induction rc with
   |false=>exact m6.inv.inO _ _ z6.of
   |true=>exact m6.inv.inO _ _ z6.or
  have Q4:∀b:Bool,(if b then n6 else n6+1)<=n6+1:=λb=>by induction b<;>simp
  exact h F6 _ (m6.mut (dr:=s6.drawn) uA QL.extBut (m6.inv.add (h':=h') hp rc (i:=i) (n:=if(if rc then r0 else f0) i then n6 else n6+1) (VX (Q4 _) (XB (by assumption))) QL SU) λb gn=>.inl gn) (Fz.le_trans l5 l6)
 clear h;induction rc with
 |true =>
  refine eE ab w λtc oD=>?_
  have m5:=m4.toks oD;refine pN m5 hp (BU _ _ _) λzv=>?_
  exact fin _ F4 (m5.toks zv) (Fz.le_trans (Fz.le_trans l1 l2) l4)
 |false =>
  refine eE ab w λtc oD=>?_
  have m5:=m4.toks oD;refine pN m5 hp (IG _ _ _) λzv=>?_
  exact fin _ F4 (m5.toks zv) (Fz.le_trans (Fz.le_trans l1 l2) l4)
end
set_option backward.match.sparseCases false
noncomputable abbrev NW:=aw->Option (cY×cY)
noncomputable def P2 (N:NW)(u:aw):NW:=λv=>if v=u then some (λ_=>false,λ_=>false)else N v
noncomputable def eO (N:NW)(u:aw):NW:=match N u with |some _=>N |none=>P2 N u
noncomputable def lI (N:NW)(u:aw)(rec:Bool)(i:Int):NW:=λv=>if v=u then(N u).map λp=>if rec then(p.1,λk=>p.2 k||decide (k=i))else(λk=>p.1 k||decide (k=i),p.2)else N v
noncomputable def iZ (N:NW)(way:aw)(rec:Bool)(i:Int):NW:=match way with
 |[a]=>lI (eO N [a]) [a] rec i
 |[a,b]=>lI (eO (eO N [a]) [a,b]) [a,b] rec i
 |_=>N
structure kg (g g':Gh):Prop where
 P:g'.P=g.P
 pobj:g'.pobj=g.pobj
 pa:g'.pa=g.pa
 inst:g'.inst=g.inst
 root:g'.root=g.root
theorem kg.refl (g:Gh):kg g g:=⟨rfl,rfl,rfl,rfl,rfl⟩
theorem kg.trans {a b c:Gh}(x:kg a b)(y:kg b c):kg a c:=⟨y.P.trans x.P,y.pobj.trans x.pobj,y.pa.trans x.pa,y.inst.trans x.inst,y.root.trans x.root⟩
theorem qF (N:NW)(u:aw):∃p,eO N u u=some p:=by
 unfold eO
 cases e:N u with
 |some p=>exact⟨p,e⟩
 |none=>exact⟨_,if_pos rfl⟩
section
variable {ab:V8}{w:Wi}{mu:Bool}{Φ:b_}{hb:Wb}{mg:Str->Option VQ}{k:Nat}{A:V7}{E:VQ->VP->Prop}{af F F':Fz}{ae s s':VP}{env:Yq}{K K':V4->Xi->Prop}{g g':Gh}{KF:Zo}{σ σ':az X0.T}
noncomputable def Nt (y x:Str)(st:V9):Prop:=AG st/\oJ y x (gF st)/\(cQ st).length=1/\yJ x y (ak (cQ st) 0)/\(bT st).length=0
theorem Ca (B:dT hb mg)(cX:mg fy=none)(ag:Am A af ae)(ai:au hb af)(FK:kK hb KF)(m:bJ ab w true X0 af ae env K F σ s g){x y:Str}{st:V9}{u:aw}{a:List Nat}{Q:YF->VP->Prop}(hs:Nt y x st)(hg:js σ.nm fy=true)
  (hx:σ.get x=some (.val (.opq (.ref (g.dOf u))))) (hy:σ.get y=some (.val (.str (ao a)))) (hu:u=[]\/(u.length<=1/\∃p,g.N u=some p)) (hm:g.m<=999)
  (h:∀F1 s1 g2,bJ ab w true X0 af ae env K F1 σ s1 g2->F.le F1->g2.N=eO g.N (u++[a])->kg g g2->g2.m<=g.m+1->g2.dOf u=g.dOf u->Q .next s1):wpAny (model ab w) A (exec st env) Q E s:=by
 revert B cX ag ai FK m hs hg hx hy hu hm h;delta ab w hb mg A E af F ae s env K g KF σ x y st u a Q;intro B cX ag ai FK m hs hg hx hy hu hm h;obtain⟨h1,h2,h3,h4,h5⟩:=hs;have oo:At g u:=hu.imp id λq=>q.2
 refine ii h1 (ur ag ai FK m (u:=u) (a:=a) h2 hy hx oo ?_);exists F1,s1;intro m1 l1;cases hN:g.N (u++[a])with
 |none =>
  refine aI (by lia) (JP B cX ag ai FK m1 (u:=u) (a:=a) h4 hg hx hy hu hN (VX (by assumption) ⋯) ?_);exists F2,s2,pl;intro m2 l2;skip;refine bY (by lia) ?_;have cS:u≠bn u (ao a):=λe=>by
   have:=congrArg Xq e;unfold bn at this;rw[V1,We]at this;lia
  refine h F2 s2 _ m2 (Fz.le_trans l1 l2) ?_ ⟨rfl,rfl,rfl,rfl,rfl⟩ (WD _) ?_
  ·unfold eO
   rw[hN];rfl
  ·clear hx hu h oo hN m2;induction u with
   |nil=>rfl
   |cons b r=>show((g.new (b::r) (ao a) pl).G (b::r)).d=_;simp only[Gh.new,if_neg cS];rfl
 |some p =>
  show wpAny _ A (execs ((bT st).drop 0) env) _ _ _;refine bY (by lia) (h F1 s1 g m1 l1 ?_ (kg.refl g) (Zl _) rfl);unfold eO;rw[hN]
noncomputable def lc (inst:V4)(way:aw)(i:Int)(rc:Bool)(tl:List (Str×aO Unit)):az X0.T:=⟨vd 6,fT cu inst::(lk,.val (aM way))::(dj,.val (.int i))::(CZ,.val (.bool rc))::tl⟩
noncomputable def Qb:Str:=VN "key_parent"
noncomputable def GA (l:aw):Str×aO Unit:=(Qb,.val (aM l))
theorem b6:(bD 6).length=5:=by kernel_rfl
theorem Vl:(cD (ak (bD 6) 2)).length=2:=by kernel_rfl
theorem Cx (S:gy ab w X0 Φ hb k)(B:dT hb mg)(cX:mg fy=none)(ag:Am A af ae)(lv:Lv A k)(ai:au hb af)(FK:kK hb KF){way:aw}{i0:Int}{rc:Bool}{Q:YF->VP->Prop}(m:bJ ab w true X0 af ae env K F (lc g.inst way i0 rc []) s g)(hz:(∃a,way=[a])\/∃a b,way=[a,b])(hm:g.m<=900)
  (h:∀(K1:V4->Xi->Prop) F1 σ1 s1 g1,bJ ab w true X0 af ae env K1 F1 σ1 s1 g1->g1.N=iZ g.N way rc i0->kg g g1->g1.m<=g.m+3->Q .next s1):wpAny (model ab w) A (execs (bD 6) env) Q E s:=by
 revert S B cX ag lv ai FK m hz hm h;delta ab w Φ hb mg k A E af F ae s env K g KF way i0 rc Q;intro S B cX ag lv ai FK m hz hm h;have hl:=b6;have SJ:=Vl;show wpAny _ A (execs ((bD 6).drop 0) env) _ _ _;refine aI ⋯ (sY ag ai FK m (z:=aT) (x:=cu) ∅ nofun nofun ?_);exists F1,s1;intro m1 l1;have fM:(lc g.inst way i0 rc []).set aT (.val (.opq (.ref g.root)))=lc g.inst way i0 rc [fT aT g.root]:=by kernel_rfl
 dsimp only;obtain⟨eX,par,mn,qi,e1,e2⟩:∃eX par,way=par++[eX]/\(par=[]\/∃a,par=[a])/\ev X0.aa Φ 30 (lc g.inst way i0 rc [fT aT g.root]) false (wF (ak (bD 6) 1) 0)=some (aM par)/\ev X0.aa Φ 30 (lc g.inst way i0 rc [fT aT g.root]) false (wF (ak (bD 6) 1) 1)=some (.str (ao eX)):=by
  clear m h m1 fM;rcases hz with⟨a,rfl⟩ |⟨a,b,rfl⟩
  ·exact⟨a,[],rfl,.inl rfl,by kernel_rfl,by kernel_rfl⟩
  ·exact⟨b,[a],rfl,.inr ⟨a,rfl⟩,by kernel_rfl,by kernel_rfl⟩
 delta eX par;intro mn qi e1 e2;refine aI ⋯ (m1.two S ag lv ai (by exact .mk nofun) e1 e2 ?_);exists F2,s2;intro m2 l2;have AM:((lc g.inst way i0 rc [fT aT g.root]).set (L4 (ak (bD 6) 1) 1) (.val (.str (ao eX)))).set (L4 (ak (bD 6) 1) 0) (.val (aM par))=lc g.inst way i0 rc [fT aT g.root,kM fk eX,GA par]:=by kernel_rfl
 have tX:ev X0.aa Φ 30 (lc g.inst way i0 rc [fT aT g.root,kM fk eX,GA par]) false (rl (ak (bD 6) 2))=some (.tup (gl par)):=by kernel_rfl
 have tail:∀(F3:Fz) (s3:VP) (g3:Gh) (tl:List (Str×aO Unit)),bJ ab w true X0 af ae env K F3 (lc g.inst way i0 rc (fT aT (g3.dOf par)::kM fk eX::GA par::tl)) s3 g3->(tl=[]\/∃x,tl=[kM nK x])->(par=[]\/(par.length<=1/\∃p,g3.N par=some p))->kg g g3->g3.m<=g.m+1 ->lI (eO g3.N way) way rc i0=iZ g.N way rc i0->wpAny (model ab w) A (execs ((bD 6).drop 3) env) Q E s3:=by
  exists F3,s3,g3,tl;intro m3 dU SD sm SH hN;refine aI ⋯ (Ca B cX ag ai FK m3 (x:=aT) (y:=fk) (u:=par) (a:=eX) (by exact⟨.mk,.mk,rfl,.mk,rfl⟩) nofun nofun nofun SD (by lia) ?_);exists F4,s4,g4;intro m4 l4 Ji PP QY Jd;skip;have Rm:At g4 par:=by
   rcases SD with e |⟨_,p,e⟩
   ·exact .inl e
   ·delta p;intro e;right
    rw[Ji];unfold eO
    cases e':g3.N (par++[eX])with
    |some _=>exact⟨p,e⟩
    |none =>
     refine⟨p,?_⟩;have cS:par≠par++[eX]:=λq=>by
      have:=congrArg Xq q;rw[V1,We]at this;lia
     show(if par=par++[eX]then _ else g3.N par)=_;rw[if_neg cS,e]
  obtain⟨p,hp⟩:∃p,g4.N (par++[eX])=some p:=by rw[Ji];exact qF _ _
  delta p;intro hp;rw[<- Jd]at m4;delta p;intro hp;refine aI ⋯ (JR S lv ag ai m4 (x:=aT) (y:=fk) (r:=CZ) (f:=dj) (u:=par) (a:=eX) (rc:=rc) (i:=i0) (p:=p) (by exact .mk rfl) nofun nofun nofun nofun Rm hp (by lia) ?_);exists F5,s5;intro m5 l5;skip;refine bY ⋯ ?_;refine h K F5 _ s5 _ m5 ?_ ((sm.trans PP).trans ⟨rfl,rfl,rfl,rfl,rfl⟩) (by show g4.m+1<=_;lia);show lI g4.N (par++[eX]) rc i0=_;rw[Ji,<- mn];exact hN
 refine aI ⋯ (m2.forNames S ag lv ai ∅ tX (λi σ g3=>∃tl,σ=lc g.inst way i0 rc (fT aT (g3.dOf (par.take i))::kM fk eX::GA par::tl)/\((i=0/\tl=[]/\g3=g)\/(i=1/\∃a,par=[a]/\tl=[kM nK a]/\g3.N=eO g.N [a]/\kg g g3/\g3.m<=g.m+1)))
  ⟨[],rfl,.inl ⟨rfl,rfl,rfl⟩⟩ ?_ ?_ ?_)
 ·rintro i d F3 σ1 s3 g3 K' E' iT hd ⟨tl,rfl,hJ⟩ cL m3 l3
  revert hd hJ cL m3 l3;delta i d F3 s3 g3 K' E' iT tl;intro hd hJ cL m3 l3;rcases hJ with⟨rfl,rfl,rfl⟩ |⟨rfl,a,rfl,_⟩
  ·rcases qi with rfl |⟨a,rfl⟩
   ·exact bg hd
   ·delta a;intro mn hd e1 m2 AM tX tail cL;have Rb:d=.str (ao a):=by
     have:(gl [a])[0]?=some (D.str (ao a)):=rfl;obtain rfl:=aJ hd;rfl
    subst Rb;have NZ:bB (lc g3.inst way i0 rc [fT aT (g3.dOf []),kM fk eX,GA [a]]) (ly (ak (bD 6) 2)) (.str (ao a))=some (lc g3.inst way i0 rc [fT aT (g3.dOf []),kM fk eX,GA [a],kM nK a]):=by kernel_rfl
    have Rk:some iT=some (lc g3.inst way i0 rc [fT aT (g3.dOf []),kM fk eX,GA [a],kM nK a]):=cL.symm.trans NZ;obtain rfl:=aJ Rk;show wpAny _ A (execs ((cD (ak (bD 6) 2)).drop 0) env) _ _ _;refine aI ⋯ (Ca B cX ag ai FK m3 (x:=aT) (y:=nK) (u:=[]) (a:=a) (by exact⟨.mk,.mk,rfl,.mk,rfl⟩) nofun nofun nofun (.inl rfl) (VX (by assumption) ⋯) ?_);exists F4,s4,g4;intro m4 l4 Ji PP QY Jd;skip;obtain⟨p,hp⟩:∃p,g4.N ([]++[a])=some p:=by rw[Ji];exact qF _ _
    delta p;intro hp;rw[<- Jd]at m4;delta p;intro hp;refine aI ⋯ (rE ag m4 (z:=aT) (x:=aT) (y:=nK) (u:=[]) (a:=a) (p:=p) ∅ nofun nofun nofun (.inl rfl) hp ?_);exists F5,s5;intro m5 l5;skip;refine bY ⋯ ?_;have DQ:(lc g3.inst way i0 rc [fT aT (g4.dOf []),kM fk eX,GA [a],kM nK a]).set aT (.val (.opq (.ref (g4.dOf ([]++[a])))))=lc g3.inst way i0 rc [fT aT (g4.dOf [a]),kM fk eX,GA [a],kM nK a]:=by kernel_rfl
    rw[DQ]at m5;exact⟨F5,_,g4,m5,Fz.le_trans l4 l5,_,rfl,.inr ⟨rfl,a,rfl,rfl,Ji,PP,QY⟩⟩
  ·exact bg hd
 ·rintro i d σ1 g3 hd ⟨tl,rfl,hJ⟩
  clear m hm h m1 fM e1 e2 m2 AM tX tail;rcases hJ with⟨rfl,rfl,rfl⟩ |⟨rfl,a,rfl,_⟩
  ·exact⟨_,rfl⟩
  ·exact bg hd
 ·rintro F3 σ1 s3 g3 ⟨tl,rfl,hJ⟩ m3 l3
  delta F3 s3 g3 tl;intro hJ m3 l3;dsimp only;clear e1 m2 AM tX;rcases qi with rfl |⟨a,rfl⟩
  ·clear m hm h m1 fM e2;rcases hJ with⟨_,rfl,rfl⟩ |⟨_,a,h1,_⟩
   ·refine tail F3 s3 g3 [] m3 (.inl rfl) (.inl rfl) (kg.refl _) (Zl _) ?_
    rw[mn];rfl
   ·cases h1
  ·rcases hJ with⟨h1,_⟩ |⟨_,a',h1,rfl,hN3,sm3,SH⟩
   ·clear mn tail m3;cases h1
   ·cases h1
    refine tail F3 s3 g3 _ m3 (.inr ⟨a,rfl⟩) (.inr ⟨WD _,by rw[hN3];exact qF _ _⟩) sm3 SH ?_;rw[mn,hN3];rfl
end
section
variable {ab:V8}{w:Wi}{mu:Bool}{X:gJ}{Φ:b_}{hb:Wb}{mg:Str->Option VQ}{k:Nat}{A:V7}{E:VQ->VP->Prop}{af F F' F1:Fz}{ae s s' s1:VP}{env:Yq}{K K':V4->Xi->Prop}{g g':Gh}{KF:Zo}{O:List V4}
theorem aA.after (c:aA af ae F s)(g2:aA F (e_ s O) F1 s1)(hO:∀a∈O,ae.heap.get? a=none)(BK:PL∉O):aA af ae F1 s1 where
 fle:=Fz.le_trans c.fle g2.fle
 keep:=λa o n e=>g2.keep a o n (eA (c.keep a o n e) λha=>by rw[hO a ha]at e;exact bg e)
 tab:=c.tab.trans λo e=>g2.tab o (eA e BK)
 fz:=g2.fz
 fresh:=λa o e=>by
  rcases g2.fresh a o e with q |q
  ·exact c.fresh a o q
  ·right
   by_cases ha:a∈O
   ·exact hO a ha
   ·refine c.noneAt ?_
    cases e':s.heap.get? a with
    |none=>rfl
    |some p=>rw[eA e' ha]at q;exact JS q
 gens:=g2.gens.trans c.gens
 os:=g2.os.trans c.os
theorem aA.aliveM (g2:aA F (e_ s O) F1 s1){a:V4}{o:Xi}(ho:s.heap.get? a=some o)(ha:a∉O)(hn:a≠PL):s1.heap.get? a=some o:=g2.keep a o hn (eA ho ha)
theorem cE.after {σ σ':az X.T}(c:cE X af ae env K F σ s)(g2:aA F (e_ s O) F1 s1)(BK:PL∉O)(hO:∀a∈O,ae.heap.get? a=none/\a≠env.locals/\∀y cc,env.cells.lookup y=some cc->a≠cc)(hK:∀a o,K a o->a∉O)
  (BF:σ'.nm=σ.nm) (fM:∀x b,σ'.get x=some b->(σ.get x=some b/\∃d,b=.val d)\/(∃m t v,b=.flg m t/\aU env s.heap x v/\jw X ae.heap F1 env σ' s1.heap v b)):cE X af ae env K F1 σ' s1:=by
 revert c g2 BK hO hK BF fM;revert af F F1 ae s s1 env K O σ σ';unfold X;exists af,F,F1,ae,s,s1,env,K,O,σ,σ';intro c g2 BK hO hK BF fM;have gg:=c.g.after g2 (λa ha=>(hO a ha).1) BK;have R_:∀{x v},aU env s.heap x v->aU env s1.heap x v:=λ{x v} va=>by
  delta x v;intro va;rcases va with⟨q,m,n,e⟩ |⟨q,cc,l,o,ho,hd⟩
  ·refine .inl ⟨q,m,?_,e⟩
   obtain⟨o,es,ep,ho,r⟩:=n;exact⟨o,es,ep,g2.aliveM ho (λha=>(hO _ ha).2.1 rfl) (Ns.ne c.r.tab ⟨o,es,ep,ho,r⟩),r⟩
  ·exact .inr ⟨q,cc,l,o,g2.aliveM ho (λha=>(hO _ ha).2.2 x cc l rfl) (IsCell.ne c.r.tab ⟨o,ho,hd⟩),hd⟩
 have fF:∀{a o},F a=none->s.heap.get? a=some o->a∉O->F1 a=none:=λ{a o} f ho ha=>by
  cases e:F1 a with
  |none=>rfl
  |some p =>
        rcases g2.fresh _ _ e with q |q
        ·exact bo f q
        ·rw[eA ho ha]at q;exact JS q
 exact{
  t0:=c.t0
  g:=gg
  r:={
   fe:=c.r.fe
   base:=λa o n e=>gg.keep a o n e
   tab:=gg.tab.at c.t0
   cd:=λe=>c.r.cd (BF▸e)
   ns:=by
    obtain⟨m,o,es,ep,ho,r⟩:=c.r.ns;exact⟨m,o,es,ep,g2.aliveM ho (λha=>(hO _ ha).2.1 rfl) (Ns.ne c.r.tab ⟨o,es,ep,ho,r⟩),r⟩
   lF:=by
    obtain⟨m,o,es,ep,ho,r⟩:=c.r.ns;exact fF c.r.lF ho λha=>(hO _ ha).2.1 rfl
   l0:=c.r.l0
   glob:=λx e=>c.r.glob x (BF▸e)
   cf:=λx e=>c.r.cf x (BF▸e)
   cells:=λx cc e=>by
    obtain⟨f,v,o,ho,hd⟩:=c.r.cells x cc e;have hn:cc∉O:=λha=>(hO _ ha).2.2 x cc e rfl
    exact⟨fF f ho hn,v,o,g2.aliveM ho hn (IsCell.ne c.r.tab ⟨o,ho,hd⟩),hd⟩
   kx:=λx=>BF▸c.r.kx x
   wr:=λx e=>c.r.wr x (BF▸e)
   vars:=λx b e=>by
    rcases fM x b e with⟨q,d,rfl⟩ |⟨m,t,v,rfl,va,rb⟩
    ·obtain⟨v,va,rb⟩:=c.r.vars x _ q
     exact⟨v,R_ va,aj.mono g2.fle rb⟩
    ·exact⟨v,R_ va,rb⟩
   apart:=λx y l l' a e1=>by
    rcases fM x _ e1 with⟨_,d,q⟩ |⟨m,t,v,q,_⟩<;>cases q
   one:=λx m t y l e1 e2=>by
    rcases fM y _ e2 with⟨_,d,q⟩ |⟨m,t,v,q,_⟩<;>cases q }
  kk:=λa o q=>by
   obtain⟨h1,h2,h3,fs,h4⟩:=c.kk a o q;exact⟨g2.aliveM h1 (hK a o q) (c.t0.ne0 h3),fF h2 h1 (hK a o q),h3,fs,h4⟩ }
structure oA (ab:V8)(w:Wi)(F:Fz)(s:VP)(g:Gh)(F1:Fz)(s1:VP)(g1:Gh):Prop where
 gr:aA F (e_ s g.O) F1 s1
 inv:gH ab w F1 s1.heap g1
 own:∀a∈g1.O,F1 a=none/\(e_ s g.O).heap.get? a=none
theorem xw (t:cV s.heap)(x:gH ab w F s.heap g):PL∉g.O:=λha=>by
 obtain⟨o,ho,hq⟩:=x.alive _ ha;exact t.neD ho (fS hq) rfl
theorem lm {a:V4}(h:(e_ s O).heap.get? a=none):a∈O\/s.heap.get? a=none:=by
 by_cases ha:a∈O
 ·exact .inl ha
 ·right
  cases e:s.heap.get? a with
  |none=>rfl
  |some o=>rw[eA e ha]at h;exact JS h
theorem bJ.after {σ:az X0.T}(m:bJ ab w true X0 af ae env K F σ s g)(L:oA ab w F s g F1 s1 g'):bJ ab w true X0 af ae env K F1 σ s1 g' where
 c:=m.c.after L.gr (xw m.c.r.tab m.inv) (λa ha=>⟨((m.own a ha).2 rfl).2,(m.own a ha).1,λy cc q=>by rw[m.nc y]at q;exact bg q⟩) m.kO rfl λx b e=>.inl ⟨e,m.av x b e⟩
 inv:=L.inv
 own:=λa ha=>by
  obtain⟨q1,q2⟩:=L.own a ha;rcases lm q2 with q |q
  ·exact⟨(m.own a q).1,λ_=>⟨q1,((m.own a q).2 rfl).2⟩⟩
  ·obtain⟨r1,r2,r3,r4⟩:=mv m.c q
   exact⟨r3,λ_=>⟨q1,r1⟩⟩
 kO:=λa o q ha=>by
  obtain⟨q1,q2⟩:=L.own a ha;rcases lm q2 with q' |q'
  ·exact m.kO a o q q'
  ·exact(mv m.c q').2.2.2 o q
 av:=m.av
 nc:=m.nc
theorem oA.of {σ:az X0.T}(m:bJ ab w true X0 F (e_ s g.O) env K F1 σ s1 g'):oA ab w F s g F1 s1 g':=⟨m.c.g,m.inv,λa ha=>(m.own a ha).2 rfl⟩
theorem Am.mask (am:Am A F s)(x:gH ab w F s.heap g)(hF:∀a∈g.O,F a=none):Am A F (e_ s g.O) :=
 ⟨λa o e=>eA (am.fz a o e) (λha=>by rw[hF a ha]at e;exact bg e),let ⟨o,e,r⟩:=am.tab;⟨o,eA e (xw am.tab x),r⟩,am.pl,am.hh,am.hu⟩
theorem sD (B:dT hb mg)(cX:mg fy=none)(FK:kK hb KF)(FM:wD hb){way:aw}{i:Int}{rc:Bool}{v1 v2 v3:VQ}{Q:VQ->VP->Prop}(am:Am A F s)(lv:Lv A 1)(bf:au hb F)(x:gH ab w F s.heap g)(hF:∀a∈g.O,F a=none)
  (h1:aj F v1 (aM way)) (h2:aj F v2 (.int i)) (h3:aj F v3 (.bool rc)) (hz:(∃a,way=[a])\/∃a b,way=[a,b]) (hm:g.m<=900)
  (h:∀F1 s1 g1,oA ab w F s g F1 s1 g1->g1.N=iZ g.N way rc i->kg g g1->g1.m<=g.m+3->Q .none s1):wpAny (model ab w) A (call (.ref 111) [.ref g.inst,v1,v2] [(CZ,v3)]) Q E s:=by
 obtain⟨fd,M,hn,om⟩:=FM.set.ex;refine XC (gC (X:=X0) (k:=0) (vs:=[.ref g.inst,v1,v2,v3]) (ds:=[.opq (.ref g.inst),aM way,.int i,.bool rc]) M B rfl (by rw[hn];kernel_rfl) (om [.ref g.inst,v1,v2] [v3] rfl rfl) am lv bf (.cons (.opq _) (.cons h1 (.cons h2 (.cons h3 .nil)))) λA' E' env aR kI re c mK AR=>?_);rw[hn]at c;have m:=bJ.entryM am c x hF mK;have RT:Am A' F (e_ s g.O):=kI.mask x hF;refine Cx (Φ:=L0) (uR B) B cX RT re bf FK m hz hm λK1 F1 σ1 s1 g1 m1 hN sm xE=>?_
 exact h F1 s1 g1 (oA.of m1) hN sm xE
end
noncomputable def jJ (N:NW)(u:aw):NW:=λv=>if dz u v then none else N v
noncomputable def M5:Str:=VN "pop"
inductive xi (x y:Str):V9->Prop
 |mk {p1 aE p2 k1 q1 q2 q3 k2 q4 pos p3}:VW aE.endLine pos.line=true->xi x y (.Expr (.Call (.Attribute (.Name x p1) M5 aE) [.Subscript (.Name y p2) (.UnaryOp .USub (.Constant (.int 1) k1 q1) q2) q3,.Constant .none k2 q4] [] pos) p3)
theorem xh {x y:Str}{st:V9}(h:xi x y st):∃p1 aE p2 k1 q1 q2 q3 k2 q4 pos p3,st=.Expr (.Call (.Attribute (.Name x p1) M5 aE) [.Subscript (.Name y p2) (.UnaryOp .USub (.Constant (.int 1) k1 q1) q2) q3,.Constant .none k2 q4] [] pos) p3/\VW aE.endLine pos.line=true:=by induction h;exact⟨_,_,_,_,_,_,_,_,_,_,_,rfl,by assumption⟩
noncomputable def oW (inst:V4)(way:aw)(tl:List (Str×aO Unit)):az X0.T:=⟨vd 5,fT cu inst::(lk,.val (aM way))::tl⟩
section
variable {ab:V8}{w:Wi}{mu:Bool}{Φ:b_}{hb:Wb}{mg:Str->Option VQ}{k:Nat}{A:V7}{E:VQ->VP->Prop}{af F F' F1:Fz}{ae s s' s1:VP}{env:Yq}{K K':V4->Xi->Prop}{g g':Gh}{KF:Zo}{σ σ':az X0.T}
theorem b5:(bD 5).length=3:=by kernel_rfl
theorem Vm:(cD (ak (bD 5) 1)).length=2:=by kernel_rfl
theorem JN (S:gy ab w X0 Φ hb k)(lv:Lv A k)(ag:Am A af ae)(ai:au hb af)(m:bJ ab w true X0 af ae env K F σ s g){x y:Str}{st:V9}{u:aw}{a:List Nat}{Q:YF->VP->Prop}(hs:xi x y st)
  (hx:σ.get x=some (.val (.opq (.ref (g.dOf u))))) (hy:σ.get y=some (.val (aM (u++[a])))) (hu:At g u) (vL:bh (aM (u++[a])) (.int (-1))=some (.str (ao a))) (hm:g.m<=1000)
  (h:∀F1 s1,bJ ab w true X0 af ae env K F1 σ s1 (g.pop u (ao a))->F.le F1->Q .next s1):wpAny (model ab w) A (exec st env) Q E s:=by
 revert S lv ag ai m hs hx hy hu vL hm h;delta ab w Φ hb k A E af F ae s env K g σ x y st u a Q;intro S lv ag ai m hs hx hy hu vL hm h;replace hs:=xh hs;obtain⟨p1,aE,p2,k1,q1,q2,q3,k2,q4,pos,p3,rfl,hl⟩:=hs;delta p1 aE p2 k1 q1 q2 q3 k2 q4 pos p3;intro hl;refine wpAny_Expr_any ?_ (dY m.c.r) (by rfl);refine fC (P:=λ_=>True) rfl hl (by simp) rfl rfl ?_;refine m.name ag hx ?_;exists v,F1,s1;intro m1 l1 hv;obtain rfl:=hv.opq_inv;obtain⟨kD,c1,c2,c3⟩:1:=m1.inv.contAt hu;refine⟨.builtin "dict.pop",[.ref (g.dOf u)],λh _=>⟨.machine,.inr (.inl rfl),W0 rfl⟩,λpl Q' hq=>getMethod_builtin c1.typeIs PySem.F.plainAttrs_dict PySem.F.slot_dict_pop PySem.F.type_dict_pop c1.mapOf.noDict hq,?_⟩;have yV:ev X0.aa Φ 30 σ false (.Subscript (.Name y p2) (.UnaryOp .USub (.Constant (.int 1) k1 q1) q2) q3)=some (.str (ao a)):=by
  show JJ σ _ (σ.get y)=_;rw[hy];exact vL
 refine dk rfl rfl (m1.evs (N:=30) S ag lv ai yV ?_);exists v2,F2,s2;intro m2 l2 hZ;cases hZ;delta t;refine wpAny_Constant_none ⟨trivial,?_⟩;obtain⟨kD,c1,c2,c3⟩:1:=m2.inv.contAt hu;have BD:g.dOf u∈g.O:=m2.inv.dO hu;have NN:g.m<=1000:=hm
 cases hN:g.N (u++[a])with
 |some p =>
  delta p;intro hN;have hv:valueAt kD (ao a)=some (.ref (g.G (u++[a])).n):=by
   have:=c3 (ao a);have e:bn u (ao a)=u++[a]:=rfl;rw[e,hN]at this;exact this
  refine call_meetsIn PySem.F.slot_dict_pop c1.typeIs PySem.F.entry_dict_pop (PySem.F.args_dict_pop_3 _ _ _) (meets_dict_pop_there (strKind ab w) _ (o8 ab w _ _) [.none] (.inr ⟨_,rfl⟩) rfl) ⟨kD,_,c1,(by rw[sizeLine_eq];lia),hv,λh' eS tV=>?_⟩;exact h F2 _ (m2.mut (dr:=s2.drawn) BD tV.extBut (m2.inv.pop (h':=h') hu c2 c3 tV eS) λb gn=>.inl gn) (Fz.le_trans l1 l2)
 |none =>
  have hv:valueAt kD (ao a)=none:=by
   have:=c3 (ao a);have e:bn u (ao a)=u++[a]:=rfl;rw[e,hN]at this;exact this
  refine call_meetsIn PySem.F.slot_dict_pop c1.typeIs PySem.F.entry_dict_pop (PySem.F.args_dict_pop_3 _ _ _) (meets_dict_pop_default (strKind ab w) _ (o8 ab w _ _) (w5 (m2.inv.sys _ BD)) rfl .none) ⟨kD,c1,hv,?_⟩;have m3:=m2.toks (s2.toks+1);exact h F2 _ { c:=m3.c,inv:=m3.inv.pop0 hN,own:=m3.own,kO:=m3.kO,av:=m3.av,nc:=m3.nc } (Fz.le_trans l1 l2)
inductive Du:V9->Prop |mk {p}:Du (.Return none p)
theorem FG (S:gy ab w X0 Φ hb k)(ag:Am A af ae)(lv:Lv A k)(ai:au hb af)(FK:kK hb KF){way:aw}{Q:YF->VP->Prop}(m:bJ ab w true X0 af ae env K F (oW g.inst way []) s g)(hz:(∃a,way=[a])\/∃a b,way=[a,b])(hm:g.m<=900)
  (h:∀(K1:V4->Xi->Prop) F1 σ1 s1 g1 fl,bJ ab w true X0 af ae env K1 F1 σ1 s1 g1->g1.N=jJ g.N way->kg g g1->g1.m<=g.m->(fl=.next\/fl=.ret .none)->Q fl s1):wpAny (model ab w) A (execs (bD 5) env) Q E s:=by
 revert S ag lv ai FK m hz hm h;delta ab w Φ hb k A E af F ae s env K g KF way Q;intro S ag lv ai FK m hz hm h;have hl:=b5;have SJ:=Vm;show wpAny _ A (execs ((bD 5).drop 0) env) _ _ _;refine aI ⋯ (sY ag ai FK m (z:=aT) (x:=cu) ∅ nofun nofun ?_);exists F1,s1;intro m1 l1;have fM:(oW g.inst way []).set aT (.val (.opq (.ref g.root)))=oW g.inst way [fT aT g.root]:=by kernel_rfl
 rw[fM]at m1;dsimp only;obtain⟨eX,par,mn,qi,e1,e2⟩:∃eX par,way=par++[eX]/\(par=[]\/∃a,par=[a])/\ev X0.aa Φ 30 (oW g.inst way [fT aT g.root]) false (rl (ak (bD 5) 1))=some (.tup (gl par))/\bh (aM way) (.int (-1))=some (.str (ao eX)):=by
  clear m h fM m1;rcases hz with⟨a,rfl⟩ |⟨a,b,rfl⟩
  ·exact⟨a,[],rfl,.inl rfl,by kernel_rfl,by kernel_rfl⟩
  ·exact⟨b,[a],rfl,.inr ⟨a,rfl⟩,by kernel_rfl,by kernel_rfl⟩
 delta eX par;intro mn qi e1 e2;refine aI ⋯ (m1.forNames S ag lv ai ∅ e1 (λi σ g3=>g3=g/\∃tl,σ=oW g.inst way (fT aT (g.dOf (par.take i))::tl)/\((i=0/\tl=[])\/(i=1/\∃a p,par=[a]/\tl=[kM nK a]/\g.N [a]=some p)))
  ⟨rfl,[],rfl,.inl ⟨rfl,rfl⟩⟩ ?_ ?_ ?_)
 ·rintro i d F3 σ1 s3 g3 K' E' iT hd ⟨rfl,tl,rfl,hJ⟩ cL m3 l3
  revert hd m hm h m1 fM e1 hJ cL m3 l3;delta i d F3 s3 g3 K' E' iT tl;intro hd m hm h m1 fM e1 hJ cL m3 l3;rcases hJ with⟨rfl,rfl⟩ |⟨rfl,a,p,rfl,_⟩
  ·rcases qi with rfl |⟨a,rfl⟩
   ·exact bg hd
   ·delta a;intro mn e1 hd cL;have Rb:d=.str (ao a):=by
     have:(gl [a])[0]?=some (D.str (ao a)):=rfl;rw[this]at hd;obtain rfl:=aJ hd;rfl
    clear hd;subst Rb;have NZ:bB (oW g3.inst way [fT aT (g3.dOf [])]) (ly (ak (bD 5) 1)) (.str (ao a))=some (oW g3.inst way [fT aT (g3.dOf []),kM nK a]):=by kernel_rfl
    have Rk:some iT=some (oW g3.inst way [fT aT (g3.dOf []),kM nK a]):=cL.symm.trans NZ;clear cL;obtain rfl:=aJ Rk;show wpAny _ A (execs ((cD (ak (bD 5) 1)).drop 0) env) _ _ _;refine aI ⋯ (ii ∅ (ur ag ai FK m3 (x:=nK) (y:=aT) (u:=[]) (a:=a) ∅ nofun nofun (.inl rfl) ?_));exists F4,s4;intro m4 l4;cases hN:g3.N ([]++[a])with
    |none =>
     show wpAny _ A (execs ((cQ (ak (cD (ak (bD 5) 1)) 0)).drop 0) env) _ _ _;have KX:Du (ak (cQ (ak (cD (ak (bD 5) 1)) 0)) 0):=by exact .mk
     refine aI (by rw[show(cQ (ak (cD (ak (bD 5) 1)) 0)).length=1 by kernel_rfl];decide) ?_;revert KX;generalize ak (cQ (ak (cD (ak (bD 5) 1)) 0)) 0=TK;delta TK;intro KX;induction KX;refine wpAny_Return_none ?_;refine h K' F4 _ s4 g3 _ m4 ?_ (kg.refl _) (WD _) (.inr rfl);funext v;unfold jJ
     cases e:dz way v with
     |false=>rfl
     |true =>
      obtain⟨t,rfl⟩:=cK.mp e;simp only[if_true];rw[mn];have:=m4.inv.pre ([eX]++t) [a] (by simp) hN;rw[Ww];exact this
    |some p =>
     delta p;intro hN;show wpAny _ A (execs ((bT (ak (cD (ak (bD 5) 1)) 0)).drop 0) env) _ _ _;refine bY (by rw[show(bT (ak (cD (ak (bD 5) 1)) 0)).length=0 by kernel_rfl];decide) ?_;dsimp only;refine aI ⋯ (rE ag m4 (z:=aT) (x:=aT) (y:=nK) (u:=[]) (a:=a) (p:=p) ∅ nofun nofun nofun (.inl rfl) hN ?_);exists F5,s5;intro m5 l5;dsimp only;refine bY ⋯ ?_;have DQ:(oW g3.inst way [fT aT (g3.dOf []),kM nK a]).set aT (.val (.opq (.ref (g3.dOf ([]++[a])))))=oW g3.inst way [fT aT (g3.dOf [a]),kM nK a]:=by kernel_rfl
     rw[DQ]at m5;exact⟨F5,_,g3,m5,Fz.le_trans l4 l5,rfl,_,rfl,.inr ⟨rfl,a,p,rfl,rfl,hN⟩⟩
  ·exact bg hd
 ·clear m hm h fM m1 e1;rintro i d σ1 g3 hd ⟨rfl,tl,rfl,hJ⟩
  rcases hJ with⟨rfl,rfl⟩ |⟨rfl,a,p,rfl,_⟩
  ·exact⟨_,rfl⟩
  ·exact bg hd
 ·rintro F3 σ1 s3 g3 ⟨rfl,tl,rfl,hJ⟩ m3 l3
  revert m hm h m1 fM e1 hJ m3 l3;delta F3 s3 g3 tl;intro m hm h m1 fM e1 hJ m3 l3;dsimp only;have fin:∀tl,bJ ab w true X0 af ae env K F3 (oW g3.inst way (fT aT (g3.dOf par)::tl)) s3 g3->(tl=[]\/∃x,tl=[kM nK x])->At g3 par->wpAny (model ab w) A (execs ((bD 5).drop 2) env) Q E s3:=by
   intro tl m3 dU oo;delta tl;intro m3 dU;refine aI ⋯ (JN S lv ag ai m3 (x:=aT) (y:=lk) (u:=par) (a:=eX) (by exact .mk rfl) nofun (by rw[<- mn];rcases dU with rfl |⟨x,rfl⟩<;>kernel_rfl) oo (by rw[<- mn];exact e2) (VX (by assumption) ⋯) ?_);exists F4,s4;intro m4 l4;dsimp only;refine bY ⋯ (h K F4 _ s4 _ _ m4 ?_ ⟨rfl,rfl,rfl,rfl,rfl⟩ (WD _) (.inl rfl));show(λv=>if dz (bn par (ao eX)) v then none else g3.N v)=jJ g3.N way;rw[mn];rfl
  clear mn e1;rcases qi with rfl |⟨a,rfl⟩
  ·rcases hJ with⟨_,rfl⟩ |⟨_,a,p,h1,_⟩
   ·exact fin [] m3 (.inl rfl) (.inl rfl)
   ·cases h1
  ·rcases hJ with⟨h1,_⟩ |⟨_,a',p,h1,rfl,hp⟩
   ·clear m3 fin;cases h1
   ·cases h1
    exact fin _ m3 (.inr ⟨a,rfl⟩) (.inr ⟨p,hp⟩)
theorem EJ (B:dT hb mg)(FK:kK hb KF)(FM:wD hb){way:aw}{v1:VQ}{Q:VQ->VP->Prop}(am:Am A F s)(lv:Lv A 1)(bf:au hb F)(x:gH ab w F s.heap g)(hF:∀a∈g.O,F a=none)
  (h1:aj F v1 (aM way)) (hz:(∃a,way=[a])\/∃a b,way=[a,b]) (hm:g.m<=900)
  (h:∀F1 s1 g1,oA ab w F s g F1 s1 g1->g1.N=jJ g.N way->kg g g1->g1.m<=g.m->Q .none s1):wpAny (model ab w) A (call (.ref 104) [.ref g.inst,v1]) Q E s:=by
 obtain⟨fd,zM⟩:=FM.uns.ex;refine XC (gC (X:=X0) (k:=0) (vs:=[.ref g.inst,v1]) (ds:=[.opq (.ref g.inst),aM way]) zM.1 B rfl (by rw[zM.2.1];kernel_rfl) (zM.2.2 [.ref g.inst,v1] [] rfl rfl) am lv bf (.cons (.opq _) (.cons h1 .nil)) λA' E' env aR kI re c mK AR=>?_);rw[zM.2.1]at c;have m:=bJ.entryM am c x hF mK;have RT:=kI.mask x hF;refine FG (Φ:=L0) (uR B) RT re bf FK m hz hm λK1 F1 σ1 s1 g1 fl m1 hN sm xE SP=>?_
 have:=h F1 s1 g1 (oA.of m1) hN sm xE;rcases SP with rfl |rfl<;>exact this
end
inductive xk (x:Str):V9->Prop
 |mk {p1 p2 aE es k1 q1 pos p3}:VW aE.endLine pos.line=true->xk x (.Expr (.Call (.Attribute (.Attribute (.Name x p1) aP p2) C0 aE) [.Tuple es k1 q1] [] pos) p3)
noncomputable def U2 (st:V9):Expr:=bR st
theorem xj {x:Str}{st:V9}(h:xk x st):∃p1 p2 aE es k1 q1 pos p3,st=.Expr (.Call (.Attribute (.Attribute (.Name x p1) aP p2) C0 aE) [.Tuple es k1 q1] [] pos) p3/\VW aE.endLine pos.line=true:=by induction h;exact⟨_,_,_,_,_,_,_,_,rfl,by assumption⟩
noncomputable def Gy (inst:V4)(way:aw)(i:Int):az X0.T:=⟨vd 3,[fT cu inst,(lk,.val (aM way)),(dj,.val (.int i))]⟩
section
variable {ab:V8}{w:Wi}{mu:Bool}{Φ:b_}{hb:Wb}{mg:Str->Option VQ}{k:Nat}{A:V7}{E:VQ->VP->Prop}{af F F' F1:Fz}{ae s s' s1:VP}{env:Yq}{K K':V4->Xi->Prop}{g g':Gh}{KF:Zo}{σ σ':az X0.T}
theorem ir.obj {h:Wb}{a:V4}{P:List (aw×Int)}(x:ir w F h a P):∃o,h.get? a=some o:=by obtain⟨o,_,_,_,z⟩:=x;exact⟨o,z.1⟩
theorem Ir (S:gy ab w X0 Φ hb k)(ag:Am A af ae)(lv:Lv A k)(ai:au hb af)(FK:kK hb KF){way:aw}{i:Int}{Q:YF->VP->Prop}(m:bJ ab w true X0 af ae env K F (Gy g.inst way i) s g)(cS:way≠[])(hz:g.P.length<=70)
  (h:∀F1 s1 g1,bJ ab w true X0 af ae env K F1 (Gy g.inst way i) s1 g1->g1.N=g.N->g1.P=(way,i)::g.P->g1.inst=g.inst->g1.m=g.m->Q .next s1):wpAny (model ab w) A (execs (bD 3) env) Q E s:=by
 have hl:(bD 3).length=1:=by kernel_rfl
 have he:ev X0.aa Φ 30 (Gy g.inst way i) false (U2 (ak (bD 3) 0))=some (cU (way,i)):=by kernel_rfl
 obtain⟨p1,p2,aE,es,k1,q1,pos,p3,fj,DY⟩:=xj (show xk cu (ak (bD 3) 0) by exact .mk rfl);show wpAny _ A (execs ((bD 3).drop 0) env) _ _ _;refine aI ⋯ ?_;rw[fj]at he ⊢
 have he:ev X0.aa Φ 30 (Gy g.inst way i) false (.Tuple es k1 q1)=some (cU (way,i)):=he;refine wpAny_Expr_any ?_ (dY m.c.r) (by rfl);refine fC (P:=λ_=>True) rfl DY (by simp) rfl rfl ?_;refine m.attr ag ai FK (.inr ⟨rfl,rfl⟩) nofun λF1 s1 m1 l1=>?_
 refine⟨.builtin "set.add",[.ref g.pa],λh _=>⟨.machine,.inr (.inl rfl),W0 rfl⟩,λpl Q' hq=>HQ m1.inv.pend hq,?_⟩;refine ig rfl (m1.evs (N:=30) S ag lv ai he λv2 F2 s2 m2 l2 hZ=>⟨trivial,?_⟩);have ox:=ag.at m2.c;refine Bn hZ ox.fz (by have:=ox.hu;lia) cS m2.inv.pend hz λh' tk N1 tV=>?_
 obtain⟨o',dM⟩:=N1.obj;have K5:=m2.inv.pendTo (h':=h') dM tV N1;dsimp only;refine bY ⋯ ?_;exact h F2 _ _ (m2.mut (dr:=s2.drawn) (m2.inv.inO _ _ m2.inv.o2) tV.extBut K5 λb gn=>.inl gn) rfl rfl rfl rfl
theorem EL (B:dT hb mg)(FK:kK hb KF)(FM:wD hb){way:aw}{i:Int}{v1 v2:VQ}{Q:VQ->VP->Prop}(am:Am A F s)(lv:Lv A 1)(bf:au hb F)(x:gH ab w F s.heap g)(hF:∀a∈g.O,F a=none)
  (h1:aj F v1 (aM way)) (h2:aj F v2 (.int i)) (cS:way≠[]) (hz:g.P.length<=70)
  (h:∀F1 s1 g1,oA ab w F s g F1 s1 g1->g1.N=g.N->g1.P=(way,i)::g.P->g1.inst=g.inst->g1.m=g.m->Q .none s1):wpAny (model ab w) A (call (.ref 90) [.ref g.inst,v1,v2]) Q E s:=by
 obtain⟨fd,M,hn,om⟩:=FM.add.ex;refine XC (gC (X:=X0) (k:=0) (vs:=[.ref g.inst,v1,v2]) (ds:=[.opq (.ref g.inst),aM way,.int i]) M B rfl (by rw[hn];kernel_rfl) (om [.ref g.inst,v1,v2] [] rfl rfl) am lv bf (.cons (.opq _) (.cons h1 (.cons h2 .nil))) λA' E' env aR kI re c mK AR=>?_);rw[hn]at c;have m:=bJ.entryM am c x hF mK;refine Ir (Φ:=L0) (uR B) (kI.mask x hF) re bf FK m cS hz λF1 s1 g1 m1 e1 e2 e3 e4=>?_
 exact h F1 s1 g1 (oA.of m1) e1 e2 e3 e4
end
section
variable {ab:V8}{w:Wi}{A:V7}{E:VQ->VP->Prop}{s:VP}{env:Yq}
theorem T6 {kn:Str}{kv:Expr}{kp:X7}:keywordEach [⟨some kn,kv,kp⟩] env=[(some kn,eval kv env)]:=rfl
theorem nV {o:Expr}{m:Str}{aE pos kp:X7}{e1:Expr}{es:List Expr}{kn:Str}{kv:Expr}{P:Wb->Prop}{Q:VQ->VP->Prop}(iF:attributeBase o m env (eval o env)=eval o env)(hl:VW aE.endLine pos.line=true)(hz:(e1::es).length<=9)
  (fj:starEach (e1::es) env=(false,eval e1 env)::starEach es env) (kE:(backTo pos (starEach (e1::es) env)).any (·.1)=false)
  (h:wpAny (model ab w) A (eval o env) (λv s1=>∃fv first,(∀h,P h->∃k,(k=Yj\/k=XN\/k=Xe)/\Looks (model ab w) h (keeperOf fv) k)/\(∀pl Q',Q' (fv,first) s1->wpAny (model ab w) A (getMethod v m pl) Q' E s1) /\wpAny (model ab w) A (spliced (backTo pos (starEach (e1::es) env))) (λvs s2=>wpAny (model ab w) A (eval kv env) (λu s3=>P s3.heap/\wpAny (model ab w) A (call fv (first++vs) [(kn,u)]) Q E s3) E s2) E s1) E s) :
  wpAny (model ab w) A (eval (.Call (.Attribute o m aE) (e1::es) [⟨some kn,kv,kp⟩] pos) env) Q E s:=by
 delta ab w A E s env o m aE pos kp e1 es kn kv P Q;intro iF hl hz fj kE h;rw[arm_eval_Call,iF];refine VO (Wk h (λv aR gh=>?_) λ_ _ x=>x);delta v aR;intro gh;obtain⟨fv,first,Px⟩:2:=gh;refine VO (Xa ?_);have sn:methodCallForm ((e1::es).length+([⟨some kn,kv,kp⟩]:List Keyword).length) (backTo pos (starEach (e1::es) env)) (backToKw pos (keywordEach [⟨some kn,kv,kp⟩] env))=true:=by
  unfold methodCallForm;have e1:((backTo pos (starEach (e1::es) env)).all λx=>!x.1)=true:=by
   rw[Zm];simp only[Bool.not_not];rw[kE];rfl
  rw[e1];simp only[T6,backToKw,YH,Wu,List.all_cons,List.all_nil,List.isEmpty_cons,WY,if_false,Y_,X5,decide_eq_true_eq,Option.isSome_some,VY,WI];simp only[VY]at hz ⊢
  lia
 have kS:methodCallPos true o env aE pos=pure pos:=by
  unfold methodCallPos;have:(aE.endLine==pos.line)=true:=by rw[beq_iff_eq];exact V_ hl
  simp[this]
 unfold methodCall calleeOf;rw[sn];simp only[if_true];refine VO (Wq (Px.2.1 _ _ ?_));refine VO (WC kS ?_);refine callWith_of (P:=P) (by rw[kE];rfl) Px.1 ?_;refine evalArgs_kw2 rfl ?_ fj;refine Wk Px.2.2 (λvs s2 x=>?_) λ_ _ x=>x
 refine kwAll_cons (Wk x (λu s3 y=>?_) λ_ _ x=>x);exact kwAll_nil ⟨y.1,y.2⟩
end
noncomputable def M6:Str:=VN "finalize_pending"
inductive pZ (o f1 f2:Str):V9->Prop
 |mk {p1 aE p2 p3 kv kp pos p4}:VW aE.endLine pos.line=true->pZ o f1 f2 (.Expr (.Call (.Attribute (.Name o p1) fy aE) [.Name f1 p2,.Name f2 p3] [⟨some CZ,kv,kp⟩] pos) p4)
noncomputable def T5:Expr->Expr | .Call _ _ ks _=>(ks.head?.map (·.value)).getD zE |_=>zE
noncomputable def Kw:V9->Expr | .Expr e _=>T5 e |_=>zE
theorem pY {o f1 f2:Str}{st:V9}(h:pZ o f1 f2 st):∃p1 aE p2 p3 kv kp pos p4,st=.Expr (.Call (.Attribute (.Name o p1) fy aE) [.Name f1 p2,.Name f2 p3] [⟨some CZ,kv,kp⟩] pos) p4/\VW aE.endLine pos.line=true:=by induction h;exact⟨_,_,_,_,_,_,_,_,rfl,by assumption⟩
inductive p9 (x:Str):V9->Prop
 |mk {p1 p2 aE pos p3}:VW aE.endLine pos.line=true->p9 x (.Expr (.Call (.Attribute (.Attribute (.Name x p1) aP p2) (VN "clear") aE) [] [] pos) p3)
inductive xo (x:Str):V9->Prop
 |mk {tg p1 p2 b p3}:xo x (.For tg (.Attribute (.Name x p1) aP p2) b [] p3)
theorem xn {x:Str}{st:V9}(h:xo x st):∃tg p1 p2 b p3,st=.For tg (.Attribute (.Name x p1) aP p2) b [] p3:=by induction h;exact⟨_,_,_,_,_,rfl⟩
noncomputable def Ek (inst:V4)(tl:List (Str×aO Unit)):az X0.T:=⟨vd 4,fT cu inst::tl⟩
noncomputable def ub:NW->List (aw×Int)->NW
 |N,[]=>N
 |N,p::r=>ub (iZ N p.1 false p.2) r
section
variable {ab:V8}{w:Wi}{mu:Bool}{Φ:b_}{hb:Wb}{mg:Str->Option VQ}{k:Nat}{A:V7}{E:VQ->VP->Prop}{af F F' F1:Fz}{ae s s' s1:VP}{env:Yq}{K K':V4->Xi->Prop}{g g':Gh}{KF:Zo}{σ σ':az X0.T}
theorem n7 (p:aw×Int):∀(l:List (aw×Int)) (N:NW),ub N (l++[p])=iZ (ub N l) p.1 false p.2
 |[],N=>rfl
 |q::r,N=>n7 p r _
theorem yZ {v:VQ}{l:List D}(h:aj F v (.tup l)):∃a o vs n,v=.ref a/\F a=some o/\o.data=.seq vs n/\al F vs.toList l:=by
 obtain⟨_,_,_,_,rfl,a,b,c,d,e⟩:=h.tup_inv;exact⟨_,_,_,_,rfl,a,c,e⟩
theorem Jf {v:VQ}{x:Str}(h:aj F v (.str x)):∃t,v=.str x t:=by
 obtain⟨_,rfl⟩:=h.str_inv;exact⟨_,rfl⟩
theorem Jg {v:VQ}{x:Int}(h:aj F v (.int x)):∃t,v=.int x t:=by
 obtain⟨_,rfl⟩:=h.int_inv;exact⟨_,rfl⟩
theorem ie {vs:List VQ}{d:D}{l:List D}(h:al F vs (d::l)):∃v r,vs=v::r/\aj F v d/\al F r l:=by
 cases h with
 |cons a b=>exact⟨_,_,rfl,a,b⟩
theorem DZ {vs:List VQ}(h:al F vs []):vs=[]:=by
 replace h:=h.nil_inv;obtain rfl:=h;rfl
theorem vJ:∀{w1 w2:aw} {vs:List VQ},al F vs (gl w1)->al F vs (gl w2)->w1=w2
 |[],[],_,_,_=>rfl
 |[],b::r,_,h1,h2=>by
  have:=DZ h1;clear h1;subst this;obtain⟨v,r,e,_⟩:=ie h2
  cases e
 |a::r,[],_,h1,h2=>by
  have:=DZ h2;clear h2;subst this;obtain⟨v,r,e,_⟩:=ie h1
  cases e
 |a::r,b::t,_,h1,h2=>by
  obtain⟨v1,r1,e1,x1,y1⟩:=ie h1;obtain⟨v2,r2,e2,x2,y2⟩:=ie h2;rw[e1]at e2;clear e1;cases e2;obtain⟨t1,q1⟩:=Jf x1;obtain⟨t2,q2⟩:=Jf x2;rw[q1]at q2;have e:ao a=ao b:=by injection q2
  have e:a=b:=congrArg (λs:Str=>s.cps.toList) e;rw[e,vJ y1 y2]
theorem AP {v:VQ}{w1 w2:aw}(h1:aj F v (aM w1))(h2:aj F v (aM w2)):w1=w2:=by
 delta F v w1 w2;intro h1 h2;obtain⟨a1,o1,TC,n1,e1,f1,d1,l1⟩:4:=yZ h1;obtain⟨a2,o2,ID,n2,e2,f2,d2,l2⟩:4:=yZ h2;rw[e1]at e2;clear e1;cases e2;replace f2:=cG f1 f2;obtain rfl:=f2;rw[d1]at d2;clear d1;cases d2;exact vJ l1 l2
theorem HG {p q:aw×Int}{v:VQ}(h1:aj F v (cU p))(h2:aj F v (cU q)):p=q:=by
 delta F p q v;intro h1 h2;obtain⟨a1,o1,TC,n1,e1,f1,d1,l1⟩:4:=yZ h1;obtain⟨a2,o2,ID,n2,e2,f2,d2,l2⟩:4:=yZ h2;rw[e1]at e2;cases e2;obtain rfl:=cG f1 f2;rw[d1]at d2;cases d2;obtain⟨u1,r1,q1,x1,y1⟩:2:=ie l1;obtain⟨u2,r2,q2,x2,y2⟩:2:=ie l2;rw[q1]at q2;cases q2;obtain⟨u3,r3,q3,x3,_⟩:2:=ie y1;obtain⟨u4,r4,q4,x4,_⟩:2:=ie y2;rw[q3]at q4;cases q4;obtain⟨t3,z3⟩:1:=Jg x3;obtain⟨t4,z4⟩:1:=Jg x4;rw[z3]at z4;have e:p.2=q.2:=by injection z4
 exact Prod.ext (AP x1 x2) e
theorem FF {P:List (aw×Int)}{es:Array (Int×VQ)}{t:Wa}(T:iR w F P es t)(vals:List VQ):(∀v∈vals,∃e∈es.toList,e.2=v)->∃ps:List (aw×Int),al F vals (ps.map cU)/\∀p∈ps,p∈P:=by
 induction vals with
 |nil =>
  intro _;exact⟨[],.nil,λp hp=>by cases hp⟩
 |cons v r ih =>
  intro h;obtain⟨e,he,rfl⟩:=h v VT;obtain⟨p,hp,hh⟩:=T.of e he;obtain⟨ps,h1,h2⟩:=ih λu hu=>h u (VS _ hu)
  exact⟨p::ps,.cons hh h1,λq hq=>by clear hh;rcases V2.mp hq with rfl |hq;exact hp;exact h2 q hq⟩
end
section
variable {ab:V8}{w:Wi}{A:V7}{E:VQ->VP->Prop}{s:VP}{env:Yq}
theorem ql {o:Expr}{m:Str}{aE pos:X7}{P:Wb->Prop}{Q:VQ->VP->Prop}(iF:attributeBase o m env (eval o env)=eval o env)(hl:VW aE.endLine pos.line=true)
  (h:wpAny (model ab w) A (eval o env) (λv s1=>∃fv first,(∀h,P h->∃k,(k=Yj\/k=XN\/k=Xe)/\Looks (model ab w) h (keeperOf fv) k)/\(∀pl Q',Q' (fv,first) s1->wpAny (model ab w) A (getMethod v m pl) Q' E s1)/\P s1.heap/\wpAny (model ab w) A (call fv (first++[])) Q E s1) E s) :
  wpAny (model ab w) A (eval (.Call (.Attribute o m aE) [] [] pos) env) Q E s:=by
 rw[arm_eval_Call,iF];refine VO (Wk h (λv aR gh=>?_) λ_ _ x=>x);obtain⟨fv,first,hk,HJ,hp,QI⟩:=gh;refine VO (Xa ?_);have sn:methodCallForm (([]:List Expr).length+([]:List Keyword).length) (backTo pos (starEach [] env)) (backToKw pos (keywordEach [] env))=true:=rfl;have kS:methodCallPos true o env aE pos=pure pos:=by
  unfold methodCallPos;have:(aE.endLine==pos.line)=true:=by rw[beq_iff_eq];exact V_ hl
  simp[this]
 refine VO (Wq (HJ _ _ ?_));refine VO (WC kS ?_);refine callWith_of (P:=P) rfl hk ?_;exact evalArgs_kw_nil rfl (wpAny_evalAll_nil ⟨hp,QI⟩)
end
noncomputable def gD (way:aw):Prop:=(∃a,way=[a])\/∃a b,way=[a,b]
theorem tL {x:Str}{st:V9}(h:p9 x st):∃p1 p2 aE pos p3,st=.Expr (.Call (.Attribute (.Attribute (.Name x p1) aP p2) (VN "clear") aE) [] [] pos) p3/\VW aE.endLine pos.line=true:=by induction h;exact⟨_,_,_,_,_,rfl,by assumption⟩
section
variable {ab:V8}{w:Wi}{mu:Bool}{Φ:b_}{hb:Wb}{mg:Str->Option VQ}{k:Nat}{A:V7}{E:VQ->VP->Prop}{af F F' F1:Fz}{ae s s' s1:VP}{env:Yq}{K K':V4->Xi->Prop}{g g':Gh}{KF:Zo}{σ σ':az X0.T}
theorem K3 {vs:List VQ}{ds:List D}(h:al F vs ds){v:VQ}(hv:v∈vs):∃d∈ds,aj F v d:=by
 induction vs generalizing ds with
 |nil=>cases hv
 |cons u r ih =>
  cases h with
  |cons h1 h2 =>
   rcases V2.mp hv with rfl |hv
   ·exact⟨_,VT,h1⟩
   ·obtain⟨d,hd,hh⟩:=ih h2 hv
    exact⟨d,VS _ hd,hh⟩
theorem NR {vs:List VQ}{ds:List D}(h:al F vs ds){i:Nat}{v:VQ}(hv:vs[i]?=some v):∃d,ds[i]?=some d/\aj F v d:=by
 have lK:=(Wd.mp hv).1;have:i<ds.length:=by rw[<- h.length];exact lK
 obtain⟨u,hu,hh⟩:=h.get i ds[i] (Wr this);replace hu:=cG hv hu;obtain rfl:=hu;exact⟨_,Wr this,hh⟩
theorem FS (S:gy ab w X0 Φ hb k)(B:dT hb mg)(cX:mg fy=none)(FK:kK hb KF)(FM:wD hb)(ag:Am A af ae)(lv:Lv A 1)(ux:Lv A k)(ai:au hb af)(m:bJ ab w true X0 af ae env K F σ s g){st:V9}{o f1 f2:Str}{way:aw}{i:Int}{rc:Bool}{Q:YF->VP->Prop}(hs:pZ o f1 f2 st)
  (ho:σ.get o=some (.val (.opq (.ref g.inst)))) (h1:σ.get f1=some (.val (aM way))) (h2:σ.get f2=some (.val (.int i))) (h3:ev X0.aa Φ 30 σ false (Kw st)=some (.bool rc)) (hz:gD way) (hm:g.m<=900)
  (h:∀F1 s1 g1,bJ ab w true X0 af ae env K F1 σ s1 g1->F.le F1->g1.N=iZ g.N way rc i->kg g g1->g1.m<=g.m+3->Q .next s1):wpAny (model ab w) A (exec st env) Q E s:=by
 obtain⟨p1,aE,p2,p3,kv,kp,pos,p4,rfl,hl⟩:=pY hs;have h3:ev X0.aa Φ 30 σ false kv=some (.bool rc):=h3;obtain⟨fd,M,hn,om⟩:=FM.set.ex;obtain⟨ob,ed,hd⟩:=M.obj;refine Y0 ?_ (dY m.c.r) (by rfl);refine nV (P:=λh=>h.get? 111=some ob) rfl hl (by simp) rfl rfl ?_;refine m.name ag ho λv F1 s1 m1 l1 hv=>?_
 obtain rfl:=hv.opq_inv;have qO:=ag.at m1.c;refine⟨.ref 111,[.ref g.inst],λh hq=>⟨.frame,.inl rfl,d6 hq hd⟩,λpl Q' hq=>ky FK (ai.grow m1.c.g.fle) qO m1.inv FK.ms FK.fs nofun nofun hq,?_⟩;refine dk rfl rfl (m1.name ag h1 λv2 F2 s2 m2 l2 hZ=>m2.name ag h2 λv3 F3 s3 m3 l3 HB=>?_);refine m3.evs (N:=30) S ag ux ai h3 λv4 F4 s4 m4 l4 NA=>?_
 have Oy:=ag.at m4.c;have On:=ai.grow m4.c.g.fle;refine⟨Oy.fz _ _ (On _ _ ed),?_⟩;refine sD B cX FK FM Oy lv On m4.inv (λa ha=>((m4.own a ha).2 rfl).1) (hZ.mono (Fz.le_trans l3 l4)) (HB.mono l4) NA hz hm λF5 s5 g5 L hN sm QX=>?_
 exact h F5 s5 g5 (m4.after L) (Fz.le_trans (Fz.le_trans l1 l2) (Fz.le_trans l3 (Fz.le_trans l4 L.gr.fle))) hN sm QX
noncomputable def Qk (p:aw×Int):List (Str×aO Unit):=[(lk,.val (aM p.1)),(dj,.val (.int p.2))]
structure PJ (g g1:Gh):Prop where
 pa:g1.pa=g.pa
 pobj:g1.pobj=g.pobj
 P:g1.P=g.P
theorem Cw (A:V7){o:Xi}{es:Array (Int×VQ)}{ep:Nat}{t:Wa}{I:V4}{vals:List VQ}{ps:List (aw×Int)}(hd:g.pobj.data=.set es ep t):LZ ab w A I (ps.map cU) (PJ g) (λF h i=>iO w F h I g.pa es ep t vals i/\al F vals (ps.map cU)) where
 obj:=λ{F h i} x=>by
  obtain⟨first,ho⟩:=x.1.obj;exact⟨_,_,ho,rfl,_,rfl,by decide⟩
 keep:=λx fl e=>⟨x.1.keep e fl,x.2.mono fl⟩
 next:=λ{F s i g1 E Q} am fI it x pj item fin=>by
  have ho:s.heap.get? g.pa=some g.pobj:=by rw[<- pj.pa,<- pj.pobj];exact x.pobj
  obtain⟨o',wH,H2,t',dM,mL,eS,T⟩:=x.pend;rw[pj.pa,ho]at dM;replace dM:=aJ dM;clear mL;obtain rfl:=dM;rw[hd]at eS
  cases eS;refine GK am.hh am.fz it.1 ho hd T (λv h' hv mJ hs=>?_) λh' hn he=>?_
  ·obtain⟨d,Mw⟩:=NR it.2 hv
   exact item d v h' s.toks Mw.1 Mw.2 ⟨mJ,it.2⟩ hs
  ·refine fin h' ?_ he
   rw[Xc]at hn ⊢
   rw[<- it.2.length];exact hn
theorem b4:(bD 4).length=2:=by kernel_rfl
theorem HW (S:gy ab w X0 Φ hb k)(B:dT hb mg)(cX:mg fy=none)(FK:kK hb KF)(FM:wD hb)(ag:Am A af ae)(lv:Lv A 1)(ux:Lv A k)(ai:au hb af){Q:YF->VP->Prop}(m:bJ ab w true X0 af ae env K F (Ek g.inst []) s g)(hP:∀p∈g.P,gD p.1)(hz:g.P.length<=70)(hm:g.m+3*g.P.length<=890)
  (h:∀F1 σ1 s1 g1 ps,bJ ab w true X0 af ae env K F1 σ1 s1 g1->(∀p,p∈ps↔p∈g.P)->g1.N=ub g.N ps->g1.P=[]->g1.inst=g.inst->g1.m<=g.m+3*g.P.length->Q .next s1):wpAny (model ab w) A (execs (bD 4) env) Q E s:=by
 revert S B cX FK FM ag lv ux ai m hP hz hm h;delta ab w Φ hb mg k A E af F ae s env K g KF Q;intro S B cX FK FM ag lv ux ai m hP hz hm h;have hl:=b4;obtain⟨tg,p1,p2,b,p3,fj⟩:5:=xn (show xo cu (ak (bD 4) 0) by exact .mk);have K7:ly (ak (bD 4) 0)=tg/\cD (ak (bD 4) 0)=b:=by rw[fj];exact⟨rfl,rfl⟩
 show wpAny _ A (execs ((bD 4).drop 0) env) _ _ _;refine aI ⋯ ?_;rw[fj];refine wpAny_For (m.attr ag ai FK (.inr ⟨rfl,rfl⟩) nofun λF1 s1 m1 l1=>?_) (by intro _;rfl);delta F1 s1;intro m1 l1;obtain⟨o,es,ep,t,ho,mL,hd,T⟩:4:=m1.inv.pend;have QR:o=g.pobj:=by
  have:=m1.inv.pobj;rw[ho]at this;obtain rfl:=aJ this;rfl
 subst QR;refine Hj m1.c.g.fz ho mL hd T ?_;exists I,s2,F2,vals;intro gr fI I0 it DU;have m2:=m1.grow gr;have T2:=T.mono gr.fle;obtain⟨ps,O6,tU⟩:=FF T2 vals λv hv=>by
  obtain⟨e,wI⟩:=Wz.mp (DU.mem_iff.mp hv);exact⟨e,wI.1,wI.2⟩
 delta ps;intro O6 tU;have Q6:∀p,p∈ps↔p∈g.P:=λp=>⟨tU p,λhp=>by
  obtain⟨e,wI⟩:=T2.has p hp;obtain⟨d,eS,UJ⟩:=K3 O6 (DU.mem_iff.mpr (Wz.mpr ⟨e,wI.1,rfl⟩));obtain⟨q,hq,rfl⟩:=Wz.mp eS;rw[HG wI.2 UJ];exact hq⟩
 have dC:ps.length<=g.P.length:=by
  have e1:=O6.length;have e2:=DU.length_eq;have e3:=T.few;simp only[VZ,WA]at e1 e2;lia
 refine m2.loop ag (Cw A (o:=g.pobj) (vals:=vals) (ps:=ps) hd) (λi σ g1=>PJ g g1/\g1.inst=g.inst/\g1.N=ub g.N (ps.take i)/\g1.m<=g.m+3*i/\∃tl,σ=Ek g.inst tl/\(tl=[]\/∃p,tl=Qk p)) (λ_ _ _ q=>q.1) ⟨it,O6⟩ fI (m1.c.g.noneAt I0) (λa o q e=>by
   have:=(m1.c.kk a o q).1;rw[e,I0]at this;exact bg this) ⟨⟨rfl,rfl,rfl⟩,rfl,rfl,WD _,[],rfl,.inl rfl⟩ ?_ ?_ ?_
 ·rintro i d F3 σ1 s3 g1 K' E' iT eS ⟨pj,uA,hN,xE,tl,rfl,dU⟩ cL m3 l3
  revert eS pj uA hN xE dU cL m3 l3;delta i d F3 s3 g1 K' E' iT tl;intro eS pj uA hN xE dU cL m3 l3;rw[W3]at eS;refine gt eS λp hp zz=>?_;delta p;intro hp zz;clear eS;subst zz
  have lK:=(Wd.mp hp).1;have NZ:bB (Ek g.inst tl) tg (cU p)=some (Ek g.inst (Qk p)):=by
   rw[<- K7.1];exact Ar (t:=tl) dU nofun λ_=>by kernel_rfl
  rw[NZ]at cL;obtain rfl:=aJ cL;rw[<- K7.2];show wpAny _ A (execs ((cD (ak (bD 4) 0)).drop 0) env) _ _ _;refine aI (by skip;decide) (FS S B cX FK FM ag lv ux ai m3 (o:=cu) (f1:=lk) (f2:=dj) (way:=p.1) (i:=p.2) (rc:=false) (by exact .mk rfl) (by rw[uA];kernel_rfl) nofun nofun nofun (hP p (tU p (Yg hp))) (by lia) λF4 s4 g4 m4 l4 Ji sm QY=>?_);refine bY (by skip;decide) ?_;refine⟨F4,_,g4,m4,l4,⟨sm.pa.trans pj.pa,sm.pobj.trans pj.pobj,sm.P.trans pj.P⟩,sm.inst.trans uA,?_,by lia,_,rfl,.inr ⟨p,rfl⟩⟩;rw[Ji,hN,List.take_add_one,hp,Option.toList_some,n7]
 ·rintro i d σ1 g1 eS ⟨pj,uA,hN,xE,tl,rfl,dU⟩
  rw[W3]at eS;refine gt eS λp hp zz=>?_;rw[<- zz]
  refine⟨Ek g.inst (Qk p),?_⟩;rw[<- K7.1];exact Ar (t:=tl) dU nofun λ_=>by kernel_rfl
 ·rintro F3 σ1 s3 g1 ⟨pj,uA,hN,xE,tl,rfl,dU⟩ m3 l3
  revert pj uA hN xE dU m3 l3;delta F3 s3 g1 tl;intro pj uA hN xE dU m3 l3;rw[VZ]at hN xE;delta tl;intro dU m3;rw[List.take_length]at hN;dsimp only;obtain⟨q1,q2,aE,pos,q3,IC⟩:5:=tL (show p9 cu (ak (bD 4) 1) by exact .mk rfl);refine aI ⋯ ?_;rw[IC.1];refine Y0 ?_ (dY m3.c.r) (by rfl);refine ql (P:=λ_=>True) rfl IC.2 ?_;refine m3.attr ag ai FK (.inr ⟨rfl,rfl⟩) (by rw[uA];exact Ar (t:=tl) dU nofun λ_=>by kernel_rfl) ?_;exists F4,s4;intro m4 l4;refine⟨.builtin "set.clear",[.ref g1.pa],λh _=>⟨.machine,.inr (.inl rfl),W0 rfl⟩,λpl Q' hq=>A3 m4.inv.pend hq,trivial,?_⟩;refine wg m4.inv.pend λh' d N1 tV=>?_
  obtain⟨o',dM⟩:=N1.obj;have K5:=m4.inv.pendTo (h':=h') dM tV N1;refine bY ⋯ ?_;exact h F4 _ _ _ ps (m4.mut (tk:=s4.toks) (dr:=d) (m4.inv.inO _ _ m4.inv.o2) tV.extBut K5 λb gn=>.inl gn) Q6 hN rfl uA (by show g1.m<=_;lia)
theorem EK (B:dT hb mg)(cX:mg fy=none)(FK:kK hb KF)(FM:wD hb){Q:VQ->VP->Prop}(am:Am A F s)(lv:Lv A 2)(bf:au hb F)(x:gH ab w F s.heap g)(hF:∀a∈g.O,F a=none)(hP:∀p∈g.P,gD p.1)(hz:g.P.length<=70)(hm:g.m+3*g.P.length<=890)
  (h:∀F1 s1 g1 ps,oA ab w F s g F1 s1 g1->(∀p,p∈ps↔p∈g.P)->g1.N=ub g.N ps->g1.P=[]->g1.inst=g.inst->g1.m<=g.m+3*g.P.length->Q .none s1):wpAny (model ab w) A (call (.ref 97) [.ref g.inst]) Q E s:=by
 obtain⟨fd,zM⟩:=FM.fin.ex;refine XC (gC (X:=X0) (k:=1) (vs:=[.ref g.inst]) (ds:=[.opq (.ref g.inst)]) zM.1 B rfl (by rw[zM.2.1];kernel_rfl) (zM.2.2 [.ref g.inst] [] rfl rfl) am lv bf (.cons (.opq _) .nil) λA' E' env aR kI re c mK AR=>?_);rw[zM.2.1]at c;have m:=bJ.entryM am c x hF mK;refine HW (Φ:=L0) (k:=1) (uR B) B cX FK FM (kI.mask x hF) re re bf m hP hz hm λF1 σ1 s1 g1 ps m1 e1 e2 e3 e4 e5=>?_
 exact h F1 s1 g1 ps (oA.of m1) e1 e2 e3 e4 e5
end
inductive tN (x a:Str):V9->Prop
 |mk {p1 p2 p3 p4}:tN x a (.Assign [.Attribute (.Name x p1) a p2] (.Dict [] [] p3) p4)
theorem vB {x a:Str}{st:V9}(h:tN x a st):∃p1 p2 p3 p4,st=.Assign [.Attribute (.Name x p1) a p2] (.Dict [] [] p3) p4:=by induction h;exact⟨_,_,_,_,rfl⟩
inductive tM (x a f:Str):V9->Prop
 |mk {p1 p2 p3 p4 p5}:tM x a f (.Assign [.Attribute (.Name x p1) a p2] (.Call (.Name f p3) [] [] p4) p5)
theorem vA {x a f:Str}{st:V9}(h:tM x a f st):∃p1 p2 p3 p4 p5,st=.Assign [.Attribute (.Name x p1) a p2] (.Call (.Name f p3) [] [] p4) p5:=by induction h;exact⟨_,_,_,_,_,rfl⟩
noncomputable def M3 (inst:V4):az X0.T:=⟨vd 2,[fT cu inst]⟩
theorem pM {inst:V4}{x:Str}{b:aO Unit}(h:(M3 inst).get x=some b):x=cu/\b=.val (.opq (.ref inst)):=by
 have h:dD [fT cu inst] x=some b:=h;exact D8 h (λp q=>⟨p.symm,q.symm⟩) bg
section
variable {ab:V8}{w:Wi}{hb:Wb}{mg:Str->Option VQ}{k:Nat}{A:V7}{E:VQ->VP->Prop}{af F F' F1:Fz}{ae s s' s1:VP}{env:Yq}{K K':V4->Xi->Prop}{g g':Gh}{KF:Zo}
structure Bz (F:Fz)(s2:VP)(env:Yq)(n inst:V4)(s:VP)(rd:List (V4×Xi)):Prop where
 c:cE X0 F (e_ s2 [n]) env (λ_ _=>False) F (M3 inst) s
 nw:News (hideAll s2.heap [n,PL]) env.locals s.heap rd
 fr:∃m,Fr (hideAll s2.heap [n,PL]) env.locals s.heap m
 tb:∃o,(PL,o)∈rd/\qP o
theorem Bz.self {s2:VP}{n inst:V4}{rd:List (V4×Xi)}(x:Bz F s2 env n inst s rd):∃v,aU env s.heap cu v/\v=.ref inst:=by
 delta F s env s2 n inst rd;intro x;obtain⟨v,va,rb⟩:=x.c.r.vars cu (.val (.opq (.ref inst))) nofun
 cases rb;exact⟨_,va,rfl⟩
theorem Bz.remake {s2:VP}{n inst:V4}{rd:List (V4×Xi)}(x:Bz F s2 env n inst s rd)(am:Am A F s2)(hn:F n=none)(I9:n≠PL)(mK:∀y,env.cells.lookup y=none){h':Wb}{tk:Nat}{yu:List (V4×Xi)}(BK:∃o,(PL,o)∈yu/\qP o)(N':News (hideAll s2.heap [n,PL]) env.locals h' yu)
  (F':∀m,Fr (hideAll s2.heap [n,PL]) env.locals s.heap m->Fr (hideAll s2.heap [n,PL]) env.locals h' m):Bz F s2 env n inst { s with heap:=h',toks:=tk } yu:=by
 revert x am hn I9 mK BK N' F';delta A F s env s2 n inst rd h' tk yu;intro x am hn I9 mK BK N' F';obtain⟨m,f0⟩:1:=x.fr;have f1:=F' m f0;obtain⟨oP,O7,NC⟩:1:=BK;have MG:h'.get? PL=some oP:=(N' _ O7).1;have keep:∀a o,a≠PL->(e_ s2 [n]).heap.get? a=some o->h'.get? a=some o:=λa o cS e=>f1.keep a o (hideAll_get [n,PL] (jN e) (by
  intro hm;clear x hn I9 N' F' f0 f1;rcases V2.mp hm with rfl |hm
  ·rw[yy VT]at e;cases e
  ·exact cS (WR.mp hm)))
 refine⟨⟨x.c.t0,?_,?_,λ_ _ q=>q.elim⟩,N',⟨m,f1⟩,⟨oP,O7,NC⟩⟩
 ·exact⟨F.le_refl,keep,λo e=>⟨oP,MG,λ_=>NC⟩,λa o e=>by
   have h2:=am.fz a o e;have cS:a≠PL:=by rintro rfl;rw[am.pl]at e;cases e
   exact keep a o cS (eA h2 (by
    intro hm;rw[WR]at hm;clear x I9 N' F' f0 f1 keep;subst hm;exact bo hn e)),λ_ _ e=>.inl e,x.c.g.gens,x.c.g.os⟩
 ·exact{
   fe:=x.c.r.fe
   base:=λa o cS e=>keep a o cS e
   tab:=⟨oP,MG,NC⟩
   cd:=x.c.r.cd
   ns:=⟨m,f1.ns⟩
   lF:=x.c.r.lF
   l0:=x.c.r.l0
   glob:=x.c.r.glob
   cf:=x.c.r.cf
   cells:=λy c q=>by rw[mK y]at q;cases q
   kx:=x.c.r.kx
   wr:=x.c.r.wr
   vars:=λy b e=>by
    obtain⟨rfl,rfl⟩:=pM e;obtain⟨v,va,rb⟩:=x.c.r.vars cu _ e;refine⟨v,?_,rb⟩;rcases va with⟨q,m',n',e'⟩ |⟨q,cc,l,_⟩
    ·have:=Ns.unique n' f0.ns
     clear f0;subst this;exact .inl ⟨q,_,f1.ns,e'⟩
    ·rw[mK _]at l;cases l
   apart:=λy z l l' a e1=>by obtain⟨_,q⟩:=pM e1;clear x e1;cases q
   one:=λy m t z l e1=>by obtain⟨_,q⟩:=pM e1;clear x e1;cases q }
theorem Bz.inst_at {s2:VP}{n inst:V4}{rd:List (V4×Xi)}(x:Bz F s2 env n inst s rd){o:Xi}(h:s2.heap.get? inst=some o)(h1:inst≠n)(h2:inst≠PL):s.heap.get? inst=some o:=by
 obtain⟨m,f0⟩:=x.fr;exact f0.keep _ _ (hideAll_get [n,PL] h (by simp[h1,h2]))
theorem yO {s2:VP}{n inst:V4}{cC:List (V4×Xi)}{es:List DictEntry}{kk:Nat}(FK:kK hb KF)(x:Bz F s2 env n inst s ((n,dictOf es kk)::cC))(am:Am A F s2)(bf:au hb F)(hn:F n=none)(I9:n≠PL)(mK:∀y,env.cells.lookup y=none)(Q5:s2.heap.get? inst=some (instObj 121 n))(Q7:inst≠n)(Ja:inst≠PL)(DT:∀p∈cC,p.1≠n)
  {name:Str} {v:VQ} {wH:List DictEntry} {Sm:Nat} {Q:Unit->VP->Prop} (ht:takerIn KF 121 name=some none) (hl:(getL name es).isSome=true) (e:(putL name (Xu.keyHash w.params name) (.str name (s.toks+1)) v es,putN name es kk)=(wH,Sm)) (hz:wH.length<=1000)
  (h:∀h' tk,Bz F s2 env n inst { s with heap:=h',toks:=tk } ((n,dictOf wH Sm)::cC)->Q () { s with heap:=h',toks:=tk }):wpAny (model ab w) A (setAttr (.ref inst) name v) Q E s:=by
 obtain⟨m,f0⟩:=x.fr;have OA:KF.In (hideAll s2.heap [n,PL]):=λa o q=>by
  have h1:=bf _ _ (FK.inn a o q);refine hideAll_get [n,PL] (am.fz _ _ h1) ?_;intro hm;clear x I9 Q5 Q7 DT h f0;rcases V2.mp hm with rfl |hm
  ·exact bo hn h1
  ·rw[WR.mp hm,am.pl]at h1;clear q;cases h1
 have I:InstAt s.heap inst (instObj 121 n) 121 (some (dictOf es kk)):=⟨x.inst_at Q5 Q7 Ja,rfl,rfl,(x.nw _ VT).1⟩;refine set_dict f0 OA x.nw I rfl FK.sa FK.po ht FK.hd hl e (.head DT) hz λh' F' N'=>h h' _ (x.remake am hn I9 mK ?_ N' λm' f'=>?_)
 ·obtain⟨o,ho,Sz⟩:=x.tb
  rcases V2.mp ho with q |q
  ·clear x hn Q5 Q7 DT hl e h f0 OA I F' N' ho Sz;cases q;exact absurd rfl I9
  ·exact⟨o,VS _ q,Sz⟩
 ·have:=Ns.unique f'.ns f0.ns
  clear f0;subst this;exact F'
theorem Bz.push {s2:VP}{n inst:V4}{p:V4×Xi}{cC:List (V4×Xi)}(x:Bz F s2 env n inst s (p::cC))(o:Xi)(ho:o.isFreed=false:=by rfl):Bz F s2 env n inst { s with heap:=s.heap.push o } (p::(s.heap.objs.size,o)::cC):=by
 obtain⟨m,f⟩:=x.fr;refine⟨x.c.grow (aA.push0 x.c.g.fz o s.toks),λq hq=>(x.nw.push f o ho) q ?_,⟨m,f.push o⟩,?_⟩
 ·clear x;rcases V2.mp hq with rfl |hq
  ·exact VS _ VT
  ·rcases V2.mp hq with rfl |hq
   ·exact VT
   ·exact VS _ (VS _ hq)
 ·obtain⟨o',h1,h2⟩:=x.tb
  refine⟨o',?_,h2⟩;rcases V2.mp h1 with q |q
  ·rw[q];exact VT
  ·exact VS _ (VS _ q)
theorem Gv (h1 h2:Int)(t1 t2:Tok)(a b:VQ)(k:Nat):(dictOf (putL aP h2 (.str aP t2) b (putL aF h1 (.str aF t1) a [])) k).data=.dict #[⟨h1,.str aF t1,a⟩,⟨h2,.str aP t2,b⟩] k:=by kernel_rfl
theorem xY (B:dT hb mg)(cX:mg fy=none)(FK:kK hb KF)(FM:wD hb){Q:VQ->VP->Prop}(am:Am A F s)(lv:Lv A 3)(bf:au hb F)
  (h:∀s1 g,aA F s F s1->gH ab w F s1.heap g->(∀a∈g.O,F a=none/\s.heap.get? a=none)->g.N=(λ_=>none)->g.P=[]->g.m=0->Q (.ref g.inst) s1):wpAny (model ab w) A (call (.ref 121) []) Q E s:=by
 revert B cX FK FM am lv bf h;delta ab w hb mg A E F s KF Q;intro B cX FK FM am lv bf h;obtain⟨hp,gs,dr,tk,os⟩:=s;delta hp gs dr tk os;intro am h;have X:KF.In hp:=FK.inn.keeps (bf.keep am.fz);refine XC (make_core (makes_of X FK.mks) (looks_findIn X FK.mi) (λself=>bind_fn X self FK.fi) (.inl rfl) ?_);have G:aA F ⟨hp,gs,dr,tk,os⟩ F ⟨(hp.push emptyDict).push (instObj 121 hp.objs.size),gs,dr,tk,os⟩:=(aA.push0 (s:=⟨hp,gs,dr,tk,os⟩) am.fz emptyDict tk).trans (aA.push0 (s:=⟨hp.push emptyDict,gs,dr,tk,os⟩) (aA.push0 (s:=⟨hp,gs,dr,tk,os⟩) am.fz emptyDict tk).fz (instObj 121 hp.objs.size) tk);generalize Fk:(⟨(hp.push emptyDict).push (instObj 121 hp.objs.size),gs,dr,tk,os⟩:VP)=s2 at *;delta s2;intro Fk G;have hw:(Code.builtin "type.__call__" ⟨[.ref 121],[]⟩).weight=1:=by kernel_rfl
 have VI:(Code.builtin "type.__call__" ⟨[.ref 121],[]⟩).cUnits<=50:=by decide +kernel
 have qO:=am.grow G;have ox:Am (A.under (.builtin "type.__call__" ⟨[.ref 121],[]⟩)) F s2:=⟨qO.fz,qO.tab,qO.pl,qO.hh,by
  have:=lv.u;show A.units+(Code.builtin "type.__call__" ⟨[.ref 121],[]⟩).cUnits<=9000;lia⟩
 have Qf:Lv (A.under (.builtin "type.__call__" ⟨[.ref 121],[]⟩)) 2:=⟨by
  have:=lv.d;show A.depth+(Code.builtin "type.__call__" ⟨[.ref 121],[]⟩).weight+2<1000;rw[hw];omega,by
  have:=lv.u;show A.units+(Code.builtin "type.__call__" ⟨[.ref 121],[]⟩).cUnits+100*2<=9000;lia⟩
 obtain⟨fd,M,Jb,om⟩:1:=FM.init.ex;generalize hn:hp.objs.size=n at *;delta n;intro hn Fk;have o1:s2.heap.get? n=some emptyDict:=by
  rw[<- Fk,<- hn];exact V5 _ (Wc _ rfl)
 have o2:s2.heap.get? (n+1)=some (instObj 121 n):=by
  rw[<- Fk];have:(hp.push emptyDict).objs.size=n+1:=by rw[WM,hn]
  rw[<- this];exact Wc _ rfl
 have f1:hp.get? n=none:=t8 (by lia);have f2:hp.get? (n+1)=none:=t8 (by lia);have nP:n≠PL:=qO.tab.neD o1 (by intro fs q;cases q);have iP:n+1≠PL:=qO.tab.neD o2 (by intro fs q;cases q);have nF:F n=none:=by
  cases e:F n with
  |none=>rfl
  |some o=>have:=am.fz _ _ e;exact bo f1 this
 refine gC (X:=X0) (k:=1) (vs:=[.ref (n+1)]) (ds:=[.opq (.ref (n+1))]) M B rfl (by rw[Jb];kernel_rfl) (om [.ref (n+1)] [] rfl rfl) ox Qf bf (.cons (.opq _) .nil) ?_;exists A',E',env,aR;intro kI re c mK AR;rw[Jb]at c;obtain⟨oP,O7,NC⟩:1:=c.r.tab;have Sl:∀a o,s2.heap.get? a=some o->a≠env.locals:=λa o ho e=>by
  subst e;rw[c.r.l0]at ho;exact bg ho
 have i1:Bz F s2 env n (n+1) aR [(n,dictOf [] 0),(PL,oP)]:=by
  refine⟨c.mask (by simpa using nP.symm),?_,?_,⟨oP,by simp,NC⟩⟩
  ·intro p SE
   simp only[V2,Wf,or_false]at SE;rcases SE with rfl |rfl
   ·exact⟨c.g.keep _ _ nP o1,Sl _ _ o1,hideAll_none _ (by simp)⟩
   ·obtain⟨o',dM,_⟩:=qO.tab
    exact⟨O7,Sl _ _ dM,hideAll_none _ (by simp)⟩
  ·obtain⟨m,hm⟩:=c.r.ns
   refine⟨m,hm,λb o e=>?_,by rw[hideAll_size,AR];exact WD _⟩;have gn:b≠PL:=by
    rintro rfl;rw[hideAll_none [n,PL] (by simp)]at e;exact bg e
   exact c.g.keep b o gn (of_hideAll _ e)
 have hl:(bD 2).length=2:=by kernel_rfl
 obtain⟨p1,p2,p3,p4,fj⟩:4:=vB (show tN cu aF (ak (bD 2) 0) by exact .mk);obtain⟨VB,VA,Vz,Vy,Vx,Ul⟩:5:=vA (show tM cu aP fy (ak (bD 2) 1) by exact .mk);have Ig:au hb F:=bf;show wpAny _ A' (execs ((bD 2).drop 0) env) _ _ _;refine aI ⋯ ?_;refine plainObj_wpAny_Assign_Attribute (wpAny_Dict_empty ?_) (by rfl);have i2:=i1.push emptyDict;obtain⟨v,va,rfl⟩:=i2.self;refine bL i2.c.r va ?_;refine yO FK i2 kI bf nF nP mK o2 (Xw (WE n)) iP (λq hq=>?_) FK.tF rfl rfl (V0 rfl) λh1 PK i3=>?_
 ·simp only[V2,Wf,or_false]at hq
  rcases hq with rfl |rfl
  ·exact λe=>by
    have:=Wy (c.g.keep _ _ nP o1);rw[show n=aR.heap.objs.size from e.symm]at this;exact X4 _ this
  ·exact nP.symm
 delta h1 PK;intro i3;generalize QP:aR.heap.objs.size=r0 at *;delta r0;intro QP i2 i3;skip;refine aI ⋯ ?_;have Pt:Am A' F _:=⟨i3.c.g.fz,i3.c.r.tab,kI.pl,kI.hh,kI.hu⟩;refine plainObj_wpAny_Assign_Attribute (qL B cX Pt bf i3.c.r nofun ?_) (by rfl);have i4:=i3.push (aX w);obtain⟨v,va,rfl⟩:=i4.self;refine bL i4.c.r va ?_;have UH:∀t,(Yy aF t).isStr aP=false:=λt=>by kernel_rfl
 refine yO FK i4 kI bf nF nP mK o2 (Xw (WE n)) iP (λq hq=>?_) FK.tP nofun rfl (V0 nofun) λh2 oD i5=>?_
 ·delta q;intro hq;simp only[V2,Wf,or_false]at hq
  rcases hq with rfl |rfl |rfl
  ·exact λe=>by
    have:=Wy (i3.nw _ VT).1;rw[show n=h1.objs.size from e.symm]at this;exact X4 _ this
  ·exact λe=>by
    have:=Wy (c.g.keep _ _ nP o1);rw[QP,show r0=n from e]at this;exact X4 _ this
  ·exact nP.symm
 delta h2 oD;intro i5;dsimp only;refine bY ⋯ ?_;refine⟨rfl,?_⟩;have Qi:n+1<r0:=by rw[<- QP];exact Wy (c.g.keep _ _ iP o2)
 have OW:r0<h1.objs.size:=Wy (i3.nw (r0,emptyDict) (by simp)).1;have gI:=(i5.nw _ VT).1;have gP:=(i5.nw (h1.objs.size,aX w) (by simp)).1;have gR:=(i5.nw (r0,emptyDict) (by simp)).1;have gO:=i5.inst_at o2 (Xw (WE n)) iP;generalize Uv:h1.objs.size=p0 at *;delta p0;intro Uv i4 i5 OW gI gP;have qg:sysModules<n:=by
  obtain⟨o,ho⟩:1:=FK.sm;rw[<- hn];exact Wy (am.fz _ _ (bf _ _ ho))
 have NF:h2.DictOf (strKind ab w) r0 []:=⟨_,#[],0,gR,⟨rfl,rfl,rfl⟩,rfl,(λe he=>by simp at he),.nil,List.nodup_nil⟩;have e1:∀{a b:V4},a<b->b≠a:=λq=>Xw q
 have l2:n+1<p0:=X2 Qi OW;have l3:n<r0:=X2 (WE n) Qi;have l4:n<p0:=X2 l3 OW;have kX:∀a,n<=a->hp.get? a=none:=λa ha=>t8 (by lia)
 have GG:=G.after i5.c.g (λa ha=>by rw[WR]at ha;rw[ha];exact f1) (by simpa using nP.symm);refine h _ ⟨λ_=>none,[],0,n+1,n,r0,p0,aX w,λ_=>default,λa=>if a=n+1 then some ([],0)else if a=n then some ([],1)else if a=p0 then some ([],2)else if a=r0 then some ([],3)else none,[n+1,n,p0,r0]⟩ GG ?_ ?_ rfl rfl rfl
 ·exact{
   inst:=gO
   idict:=⟨_,_,_,_,_,_,gI,Gv _ _ _ _ _ _ _⟩
   pobj:=gP
   pend:=w4 F gP
   root:=⟨[],NF,WD _,λk=>rfl⟩
   node:=λu f r q=>by exact bg q
   pre:=λu v _ _=>rfl
   o0:=if_pos rfl
   o1:=by
    show(if n=n+1 then _ else if n=n then _ else _)=_;rw[if_neg (XI (WE n)),if_pos rfl]
   o2:=by
    show(if p0=n+1 then _ else if p0=n then _ else if p0=p0 then _ else _)=_;rw[if_neg (e1 l2),if_neg (e1 l4),if_pos rfl]
   o3:=by
    show(if r0=n+1 then _ else if r0=n then _ else if r0=p0 then _ else if r0=r0 then _ else _)=_;rw[if_neg (e1 Qi),if_neg (e1 l3),if_neg (XI OW),if_pos rfl]
   inO:=λa p q=>by
    delta a p;intro q;have q:(if a=n+1 then some (([],0):aw×Nat)else if a=n then some ([],1)else if a=p0 then some ([],2)else if a=r0 then some ([],3)else none)=some p:=q;show a∈[n+1,n,p0,r0];split at q
    ·rename_i e;rw[e];simp
    ·split at q
     ·rename_i e;rw[e];simp
     ·split at q
      ·rename_i e;rw[e];simp
      ·split at q
       ·rename_i e;rw[e];simp
       ·exact bg q
   alive:=λa ha=>by
    have ha:a∈[n+1,n,p0,r0]:=ha;simp only[V2,Wf,or_false]at ha;rcases ha with rfl |rfl |rfl |rfl
    ·exact⟨_,gO,trivial⟩
    ·exact⟨_,gI,trivial⟩
    ·exact⟨_,gP,trivial⟩
    ·exact⟨_,gR,trivial⟩
   sys:=λa ha=>by
    have ha:a∈[n+1,n,p0,r0]:=ha;simp only[V2,Wf,or_false]at ha;rcases ha with e |e |e |e
    ·rw[e];exact e1 (X2 qg (WE n))
    ·rw[e];exact e1 qg
    ·rw[e];exact e1 (X2 qg l4)
    ·rw[e];exact e1 (X2 qg l3) }
 ·exists a;intro ha
  have ha:a∈[n+1,n,p0,r0]:=ha;have Pe:n<=a:=by
   simp only[V2,Wf,or_false]at ha;rcases ha with e |e |e |e
   ·rw[e];exact Zl n
   ·rw[e];exact WD n
   ·rw[e];exact XZ l4
   ·rw[e];exact XZ l3
  refine⟨?_,kX a Pe⟩
  cases e:F a with
  |none=>rfl
  |some o=>have:=am.fz _ _ e;rw[kX a Pe]at this;exact bg this
end
noncomputable def bw (N:NW)(v:aw):cY×cY:=(N v).getD (λ_=>false,λ_=>false)
noncomputable def eQ (way v:aw):Bool:=lM way v||(!v.isEmpty&&lM way.dropLast v)
noncomputable def eN (N:NW)(P:List (aw×Int)):NW:=λv=>match(N v).isSome||P.any λp=>eQ p.1 v with
 |true=>some (λk=>(bw N v).1 k||P.any (λp=>lM p.1 v&&decide (p.2=k)),(bw N v).2)
 |false=>none
theorem En (N:NW):eN N []=N:=by
 funext v;unfold eN bw
 cases e:N v with
 |none=>rfl
 |some p =>
  clear e;obtain⟨f,r⟩:=p;simp
theorem nv (N:NW)(P:List (aw×Int))(v:aw):(eN N P v).isSome=((N v).isSome||P.any λp=>eQ p.1 v):=by
 unfold eN
 cases(N v).isSome||P.any λp=>eQ p.1 v<;>rfl
theorem rz {way v:aw}(h:lM way v=true):eQ way v=true:=by unfold eQ;rw[h];rfl
theorem qD (N:NW)(P:List (aw×Int))(v:aw):bw (eN N P) v=(λk=>(bw N v).1 k||P.any (λp=>lM p.1 v&&decide (p.2=k)),(bw N v).2):=by
 delta N P v;have key:eN N P v=match(N v).isSome||P.any λp=>eQ p.1 v with
  |true=>some (λk=>(bw N v).1 k||P.any (λp=>lM p.1 v&&decide (p.2=k)),(bw N v).2)
  |false=>none:=rfl
 show(eN N P v).getD _=_;rw[key]
 cases e:(N v).isSome||P.any λp=>eQ p.1 v with
 |true=>rfl
 |false =>
  rw[Bool.or_eq_false_iff]at e;have e1:N v=none:=by cases q:N v with
   |none=>rfl
   |some p=>rw[q]at e;cases e.1
  have e2:∀k,(P.any λp=>lM p.1 v&&decide (p.2=k))=false:=λk=>by
   rw[List.any_eq_false]at e ⊢
   intro p hp hq;have:=e.2;rw[V3]at hq;exact this p hp (rz hq.1)
  have e3:bw N v=(λ_=>false,λ_=>false):=by unfold bw;rw[e1];rfl
  rw[e3];simp only[Option.getD_none,e2,Bool.or_self]
theorem Bf (N:NW)(P Q:List (aw×Int)):eN (eN N P) Q=eN N (P++Q):=by
 delta N P Q;funext v;delta v;show(match(eN N P v).isSome||Q.any λp=>eQ p.1 v with
  |true=>some (λk=>(bw (eN N P) v).1 k||Q.any (λp=>lM p.1 v&&decide (p.2=k)),(bw (eN N P) v).2)
  |false=>none)=_
 rw[nv,qD];show _=(match(N v).isSome||(P++Q).any λp=>eQ p.1 v with
  |true=>some (λk=>(bw N v).1 k||(P++Q).any (λp=>lM p.1 v&&decide (p.2=k)),(bw N v).2)
  |false=>none)
 simp only[List.any_append,Bool.or_assoc]
theorem Eo (N:NW){P Q:List (aw×Int)}(h:∀p,p∈P↔p∈Q):eN N P=eN N Q:=by
 have key:∀f:aw×Int->Bool,P.any f=Q.any f:=λf=>by
  rw[Bool.eq_iff_iff,Yz,Yz];exact⟨λ⟨p,hp,q⟩=>⟨p,(h p).mp hp,q⟩,λ⟨p,hp,q⟩=>⟨p,(h p).mpr hp,q⟩⟩
 funext v;unfold eN;rw[key];simp only[key]
theorem oR (v:aw):lM v v=true:=cZ.mpr rfl
theorem oS {u v:aw}(h:u≠v):lM u v=false:=by
 cases e:lM u v with
 |false=>rfl
 |true=>exact absurd (cZ.mp e) h
theorem j8 (N:NW)(u:aw):eO N u u=some (bw N u):=by
 unfold eO bw
 cases e:N u with
 |some p=>simp only[e,Option.getD_some]
 |none=>show(if u=u then _ else _)=_;rw[if_pos rfl];rfl
theorem qG (N:NW){u v:aw}(h:v≠u):eO N u v=N v:=by
 unfold eO
 cases e:N u with
 |some p=>rfl
 |none=>exact if_neg h
theorem jc (N:NW)(u v:aw):bw (eO N u) v=bw N v:=by
 by_cases h:v=u
 ·subst h
  show(eO N v v).getD _=_;rw[j8];rfl
 ·show(eO N u v).getD _=_
  rw[qG N h];rfl
theorem Cc {N:NW}{v:aw}{p:cY×cY}(h:N v=some p):some (bw N v)=N v:=by unfold bw;rw[h];rfl
theorem ua (N:NW)(way:aw)(i:Int)(v:aw):eN N [(way,i)] v=match(N v).isSome||eQ way v with
  |true=>some (λk=>(bw N v).1 k||(lM way v&&decide (i=k)),(bw N v).2)
  |false=>none:=by
 unfold eN;simp only[List.any_cons,List.any_nil,Bool.or_false]
theorem y5 (N:NW){way v:aw}(i:Int)(h1:way≠v)(h2:eQ way v=false):eN N [(way,i)] v=N v:=by
 rw[ua,h2,oS h1]
 cases e:N v with
 |none=>rfl
 |some p =>
  simp only[Option.isSome_some,Bool.true_or,X8,Bool.or_false];exact(Cc e).trans e
theorem Em (N:NW)(way:aw)(i:Int):eN N [(way,i)] way=some (λk=>(bw N way).1 k||decide (k=i),(bw N way).2):=by
 rw[ua,rz (oR way),oR,Bool.or_true];simp only[X5];congr 2;funext k;congr 1;exact decide_eq_decide.mpr eq_comm
theorem Gi (N:NW){way:aw}(h:gD way)(i:Int):iZ N way false i=eN N [(way,i)]:=by
 revert h;delta N way i;intro h;rcases h with⟨a,rfl⟩ |⟨a,b,rfl⟩
 ·delta a;funext v
  delta v;show(if v=[a]then(eO N [a] [a]).map _ else eO N [a] v)=_;by_cases e:v=[a]
  ·subst e
   rw[if_pos rfl,j8,Em];rfl
  ·rw[if_neg e,qG N e,y5 N i (W6 e)]
   unfold eQ;rw[oS (W6 e)];clear e;induction v with
   |nil=>rfl
   |cons x r=>rfl
 ·delta a b;funext v
  delta v;show(if v=[a,b]then(eO (eO N [a]) [a,b] [a,b]).map _ else eO (eO N [a]) [a,b] v)=_;by_cases e:v=[a,b]
  ·subst e
   rw[if_pos rfl,j8,jc,Em];rfl
  ·rw[if_neg e,qG _ e]
   by_cases e2:v=[a]
   ·subst e2
    rw[j8,ua];have t:eQ [a,b] [a]=true:=by
     unfold eQ;rw[show([a,b]:aw).dropLast=[a]from rfl,oR,Wt];exact .inr rfl
    rw[t,Bool.or_true,oS (W6 e)];simp only[X8,Bool.or_false]
   ·rw[qG N e2,y5 N i (W6 e)]
    unfold eQ;rw[oS (W6 e),show([a,b]:aw).dropLast=[a]from rfl,oS (W6 e2),Bool.and_false];rfl
theorem v5 (N:NW):∀(ps:List (aw×Int)),(∀p∈ps,gD p.1)->ub N ps=eN N ps
 |[],_=>(En N).symm
 |p::r,h=>by
  rw[show ub N (p::r)=ub (iZ N p.1 false p.2) r from rfl,Gi N (h p VT),v5 _ r λq hq=>h q (VS _ hq),Bf];rfl
noncomputable def aV:Str:=VN "flags"
section
variable {ab:V8}{w:Wi}{Φ:b_}{hb:Wb}{mg:Str->Option VQ}{k:Nat}{A:V7}{E:VQ->VP->Prop}{af F F1:Fz}{ae s s1:VP}{env:Yq}{K:V4->Xi->Prop}{g g1:Gh}{KF:Zo}{σ:az (XF ab w).T}
structure OJ (ab:V8)(w:Wi)(F:Fz)(ae s:VP)(env:Yq)(x:Str)(t:FT)(g:Gh):Prop where
 va:aU env s.heap x (.ref g.inst)
 inv:gH ab w F s.heap g
 N:g.N=t.N
 P:g.P=t.P
 m:g.m<=t.m
 own:∀a∈g.O,F a=none/\a≠env.locals/\(∀y c,env.cells.lookup y=some c->a≠c)/\ae.heap.get? a=none
theorem vO (c:cE (XF ab w) af ae env K F σ s){x:Str}{t:FT}(hf:σ.get x=some (.flg true t)):∃g,OJ ab w F ae s env x t g:=by
 obtain⟨v,va,O,⟨g,inv,h1,h2,h3,rfl,rfl⟩,hz⟩:=c.r.vars x _ hf;exact⟨g,va,inv,h1,h2,h3,λa ha=>⟨(hz a ha).1,(hz a ha).2.1,(hz a ha).2.2.1,(hz a ha).2.2.2 rfl⟩⟩
theorem kA (c:cE (XF ab w) af ae env K F σ s){x:Str}{t t':FT}(hf:σ.get x=some (.flg true t))(fM:∀y b,y≠x->σ.get y=some b->∃d,b=.val d)(H:OJ ab w F ae s env x t g)(L:oA ab w F s g F1 s1 g1)(hi:g1.inst=g.inst)(hN:g1.N=t'.N)(hP:g1.P=t'.P)(hm:g1.m<=t'.m) :
  cE (XF ab w) af ae env K F1 (σ.up x (.flg true t')) s1:=by
 revert c hf fM H L hi hN hP hm;delta ab w af F F1 ae s s1 env K g g1 σ x t t';intro c hf fM H L hi hN hP hm;refine c.after L.gr (xw c.r.tab H.inv) (λa ha=>⟨(H.own a ha).2.2.2,(H.own a ha).2.1,(H.own a ha).2.2.1⟩) (λa o q ha=>?_) rfl λy b e=>?_
 ·obtain⟨q1,_,_,fs,q4⟩:=c.kk a o q
  obtain⟨o',dM,hq⟩:=H.inv.alive a ha;rw[q1]at dM;clear q q1;cases dM;rw[q4]at hq;exact hq
 ·delta y b;intro e;rw[az.get_up]at e
  by_cases hy:y=x
  ·clear fM;subst hy
   rw[if_pos rfl,hf]at e;clear hf;cases e;refine .inr ⟨true,t',_,rfl,H.va,g1.O,⟨g1,L.inv,hN,hP,hm,rfl,by rw[hi]⟩,?_⟩;exists a;intro ha;obtain⟨q1,q2⟩:=L.own a ha;rcases lm q2 with q |q
   ·exact⟨q1,(H.own a q).2.1,(H.own a q).2.2.1,λ_=>(H.own a q).2.2.2⟩
   ·refine⟨q1,?_,λy cc l e=>?_,λ_=>c.g.noneAt q⟩
    ·clear ha q1 q2;rintro rfl
     obtain⟨m,o,es,ep,ho,_⟩:=c.r.ns;exact bo q ho
    ·subst e
     obtain⟨_,v,o,ho,_⟩:=c.r.cells y a l;exact bo q ho
  ·rw[if_neg hy]at e
   exact .inl ⟨e,fM y b hy e⟩
theorem GX (S:gy ab w (XF ab w) Φ hb k)(B:dT hb mg)(cX:mg fy=none)(FK:kK hb KF)(FM:wD hb)(ag:Am A af ae)(lv:Lv A 1)(ux:Lv A k)(ai:au hb af)(c:cE (XF ab w) af ae env K F σ s){st:V9}{o f1 f2:Str}{t:FT}{way:aw}{i:Int}{rc:Bool}{Q:YF->VP->Prop}(hs:pZ o f1 f2 st)
  (hf:σ.get o=some (.flg true t)) (fM:∀y b,y≠o->σ.get y=some b->∃d,b=.val d) (h1:σ.get f1=some (.val (aM way))) (h2:σ.get f2=some (.val (.int i))) (h3:ev (XF ab w).aa Φ 30 σ false (Kw st)=some (.bool rc)) (hz:gD way) (hm:t.m<=900)
  (h:∀F1 s1,cE (XF ab w) af ae env K F1 (σ.up o (.flg true ⟨iZ t.N way rc i,t.P,t.m+3⟩)) s1->F.le F1->Q .next s1):wpAny (model ab w) A (exec st env) Q E s:=by
 obtain⟨p1,aE,p2,p3,kv,kp,pos,p4,rfl,hl⟩:=pY hs;have h3:ev (XF ab w).aa Φ 30 σ false kv=some (.bool rc):=h3;obtain⟨fd,M,hn,om⟩:=FM.set.ex;obtain⟨ob,ed,hd⟩:=M.obj;obtain⟨g,H⟩:=vO c hf;refine Y0 ?_ (dY c.r) (by rfl);refine nV (P:=λh=>h.get? 111=some ob) rfl hl (by simp) rfl rfl ?_;refine bL c.r H.va ?_;have am:=ag.at c;refine⟨.ref 111,[.ref g.inst],λh hq=>⟨.frame,.inl rfl,d6 hq hd⟩,λpl Q' hq=>ky FK (ai.grow c.g.fle) am H.inv FK.ms FK.fs nofun nofun hq,?_⟩;refine dk rfl rfl (cy am c.r h1 λv2 F2 s2 g2 hZ=>?_);have c2:=c.grow g2;refine cy (ag.at c2) c2.r h2 λv3 F3 s3 g3 HB=>?_
 have c3:=c2.grow g3;refine(S 30).1 A E F3 s3 env ae.heap σ kv _ _ h3 (ag.at c3) ux (ai.grow c3.g.fle) c3.r λv4 F4 s4 g4 NA=>?_
 have c4:=c3.grow g4;have Oy:=ag.at c4;have On:=ai.grow c4.g.fle;obtain⟨g',H'⟩:=vO c4 hf;have uA:g'.inst=g.inst:=by
  have e:=aU.unique H'.va (H.va.grow c.r.tab (g2.trans (g3.trans g4)).ext);injection e
 refine⟨Oy.fz _ _ (On _ _ ed),?_⟩;rw[<- uA];refine sD B cX FK FM Oy lv On H'.inv (λa ha=>(H'.own a ha).1) (hZ.mono (Fz.le_trans g3.fle g4.fle)) (HB.mono g4.fle) NA hz (by have:=H'.m;lia) λF5 s5 g5 L hN sm QX=>?_
 exact h F5 s5 (kA c4 hf fM H' L sm.inst (by rw[hN,H'.N]) (sm.P.trans H'.P) (by have:=H'.m;show g5.m<=t.m+3;lia)) (Fz.le_trans g2.fle (Fz.le_trans g3.fle (Fz.le_trans g4.fle L.gr.fle)))
end
inductive Hp (o m:Str):V9->Prop
 |mk {p1 aE pos p4}:VW aE.endLine pos.line=true->Hp o m (.Expr (.Call (.Attribute (.Name o p1) m aE) [] [] pos) p4)
theorem DC {o m:Str}{st:V9}(h:Hp o m st):∃p1 aE pos p4,st=.Expr (.Call (.Attribute (.Name o p1) m aE) [] [] pos) p4/\VW aE.endLine pos.line=true:=by induction h;exact⟨_,_,_,_,rfl,by assumption⟩
inductive Ho (o m f1:Str):V9->Prop
 |mk {p1 aE p2 pos p4}:VW aE.endLine pos.line=true->Ho o m f1 (.Expr (.Call (.Attribute (.Name o p1) m aE) [.Name f1 p2] [] pos) p4)
theorem DB {o m f1:Str}{st:V9}(h:Ho o m f1 st):∃p1 aE p2 pos p4,st=.Expr (.Call (.Attribute (.Name o p1) m aE) [.Name f1 p2] [] pos) p4/\VW aE.endLine pos.line=true:=by induction h;exact⟨_,_,_,_,_,rfl,by assumption⟩
inductive Hn (o m f1 f2:Str):V9->Prop
 |mk {p1 aE p2 p3 pos p4}:VW aE.endLine pos.line=true->Hn o m f1 f2 (.Expr (.Call (.Attribute (.Name o p1) m aE) [.Name f1 p2,.Name f2 p3] [] pos) p4)
theorem DA {o m f1 f2:Str}{st:V9}(h:Hn o m f1 f2 st):∃p1 aE p2 p3 pos p4,st=.Expr (.Call (.Attribute (.Name o p1) m aE) [.Name f1 p2,.Name f2 p3] [] pos) p4/\VW aE.endLine pos.line=true:=by induction h;exact⟨_,_,_,_,_,_,rfl,by assumption⟩
noncomputable def M4:Str:=VN "unset_all"
noncomputable def IQ:Str:=VN "add_pending"
section
variable {ab:V8}{w:Wi}{Φ:b_}{hb:Wb}{mg:Str->Option VQ}{k:Nat}{A:V7}{E:VQ->VP->Prop}{af F F1:Fz}{ae s s1:VP}{env:Yq}{K:V4->Xi->Prop}{g g1:Gh}{KF:Zo}{σ:az (XF ab w).T}
theorem GW (B:dT hb mg)(FK:kK hb KF)(FM:wD hb)(ag:Am A af ae)(lv:Lv A 1)(ai:au hb af)(c:cE (XF ab w) af ae env K F σ s){st:V9}{o f1:Str}{t:FT}{way:aw}{Q:YF->VP->Prop}(hs:Ho o M4 f1 st)
  (hf:σ.get o=some (.flg true t)) (fM:∀y b,y≠o->σ.get y=some b->∃d,b=.val d) (h1:σ.get f1=some (.val (aM way))) (hz:gD way) (hm:t.m<=900)
  (h:∀F1 s1,cE (XF ab w) af ae env K F1 (σ.up o (.flg true ⟨jJ t.N way,t.P,t.m⟩)) s1->F.le F1->Q .next s1):wpAny (model ab w) A (exec st env) Q E s:=by
 obtain⟨p1,aE,p2,pos,p4,rfl,hl⟩:=DB hs;obtain⟨fd,M,hn,om⟩:=FM.uns.ex;obtain⟨ob,ed,hd⟩:=M.obj;obtain⟨g,H⟩:=vO c hf;refine Y0 ?_ (dY c.r) (by rfl);refine fC (P:=λh=>h.get? 104=some ob) rfl hl (by simp) rfl rfl ?_;refine bL c.r H.va ?_;have am:=ag.at c;refine⟨.ref 104,[.ref g.inst],λh hq=>⟨.frame,.inl rfl,d6 hq hd⟩,λpl Q' hq=>ky FK (ai.grow c.g.fle) am H.inv FK.mu FK.fu nofun nofun hq,?_⟩;refine ig rfl (cy am c.r h1 λv2 F2 s2 g2 hZ=>?_);have c2:=c.grow g2;have ox:=ag.at c2;have Ig:=ai.grow c2.g.fle;obtain⟨g',H'⟩:=vO c2 hf;have uA:g'.inst=g.inst:=by
  have e:=aU.unique H'.va (H.va.grow c.r.tab g2.ext);injection e
 refine⟨ox.fz _ _ (Ig _ _ ed),?_⟩;rw[<- uA];refine EJ B FK FM ox lv Ig H'.inv (λa ha=>(H'.own a ha).1) hZ hz (by have:=H'.m;lia) λF5 s5 g5 L hN sm QX=>?_
 exact h F5 s5 (kA c2 hf fM H' L sm.inst (by rw[hN,H'.N]) (sm.P.trans H'.P) (by have:=H'.m;show g5.m<=t.m;lia)) (Fz.le_trans g2.fle L.gr.fle)
theorem G8 (B:dT hb mg)(FK:kK hb KF)(FM:wD hb)(ag:Am A af ae)(lv:Lv A 1)(ai:au hb af)(c:cE (XF ab w) af ae env K F σ s){st:V9}{o f1 f2:Str}{t:FT}{way:aw}{i:Int}{Q:YF->VP->Prop}(hs:Hn o IQ f1 f2 st)
  (hf:σ.get o=some (.flg true t)) (fM:∀y b,y≠o->σ.get y=some b->∃d,b=.val d) (h1:σ.get f1=some (.val (aM way))) (h2:σ.get f2=some (.val (.int i))) (cS:way≠[]) (hz:t.P.length<=70)
  (h:∀F1 s1,cE (XF ab w) af ae env K F1 (σ.up o (.flg true ⟨t.N,(way,i)::t.P,t.m⟩)) s1->F.le F1->Q .next s1):wpAny (model ab w) A (exec st env) Q E s:=by
 obtain⟨p1,aE,p2,p3,pos,p4,rfl,hl⟩:=DA hs;obtain⟨fd,M,hn,om⟩:=FM.add.ex;obtain⟨ob,ed,hd⟩:=M.obj;obtain⟨g,H⟩:=vO c hf;refine Y0 ?_ (dY c.r) (by rfl);refine fC (P:=λh=>h.get? 90=some ob) rfl hl (by simp) rfl rfl ?_;refine bL c.r H.va ?_;have am:=ag.at c;refine⟨.ref 90,[.ref g.inst],λh hq=>⟨.frame,.inl rfl,d6 hq hd⟩,λpl Q' hq=>ky FK (ai.grow c.g.fle) am H.inv FK.ma FK.fa nofun nofun hq,?_⟩;refine dk rfl rfl (cy am c.r h1 λv2 F2 s2 g2 hZ=>?_);have c2:=c.grow g2;refine cy (ag.at c2) c2.r h2 λv3 F3 s3 g3 HB=>?_
 have c3:=c2.grow g3;have Pt:=ag.at c3;have Td:=ai.grow c3.g.fle;obtain⟨g',H'⟩:=vO c3 hf;have uA:g'.inst=g.inst:=by
  have e:=aU.unique H'.va (H.va.grow c.r.tab (g2.trans g3).ext);injection e
 refine⟨Pt.fz _ _ (Td _ _ ed),?_⟩;rw[<- uA];refine EL B FK FM Pt lv Td H'.inv (λa ha=>(H'.own a ha).1) (hZ.mono g3.fle) HB cS (by rw[H'.P];exact hz) λF5 s5 g5 L e1 e2 e3 e4=>?_
 exact h F5 s5 (kA c3 hf fM H' L e3 (e1.trans H'.N) (by rw[e2,H'.P]) (by rw[e4];exact H'.m)) (Fz.le_trans g2.fle (Fz.le_trans g3.fle L.gr.fle))
theorem G7 (B:dT hb mg)(cX:mg fy=none)(FK:kK hb KF)(FM:wD hb)(ag:Am A af ae)(lv:Lv A 2)(ai:au hb af)(c:cE (XF ab w) af ae env K F σ s){st:V9}{o:Str}{t:FT}{Q:YF->VP->Prop}(hs:Hp o M6 st)
  (hf:σ.get o=some (.flg true t)) (fM:∀y b,y≠o->σ.get y=some b->∃d,b=.val d) (hP:∀p∈t.P,gD p.1) (hz:t.P.length<=70) (hm:t.m+3*t.P.length<=890)
  (h:∀F1 s1,cE (XF ab w) af ae env K F1 (σ.up o (.flg true ⟨eN t.N t.P,[],t.m+3*t.P.length⟩)) s1->F.le F1->Q .next s1):wpAny (model ab w) A (exec st env) Q E s:=by
 obtain⟨p1,aE,pos,p4,rfl,hl⟩:=DC hs;obtain⟨fd,M,hn,om⟩:=FM.fin.ex;obtain⟨ob,ed,hd⟩:=M.obj;obtain⟨g,H⟩:=vO c hf;refine Y0 ?_ (dY c.r) (by rfl);refine ql (P:=λh=>h.get? 97=some ob) rfl hl ?_;refine bL c.r H.va ?_;have am:=ag.at c;have bf:=ai.grow c.g.fle;refine⟨.ref 97,[.ref g.inst],λh hq=>⟨.frame,.inl rfl,d6 hq hd⟩,λpl Q' hq=>ky FK bf am H.inv FK.mf FK.ff nofun nofun hq,am.fz _ _ (bf _ _ ed),?_⟩;refine EK B cX FK FM am lv bf H.inv (λa ha=>(H.own a ha).1) (by rw[H.P];exact hP) (by rw[H.P];exact hz) (by rw[H.P];have:=H.m;lia) λF5 s5 g5 ps L e1 e2 e3 e4 e5=>?_
 refine h F5 s5 (kA c hf fM H L e4 ?_ e3 (by rw[H.P]at e5;have:=H.m;show g5.m<=t.m+3*t.P.length;lia)) L.gr.fle;rw[e2,H.N];rw[H.P]at e1;rw[v5 _ ps λp hp=>hP p ((e1 p).mp hp)];exact Eo _ e1
theorem GZ (B:dT hb mg)(cX:mg fy=none)(Rf:mg Av=some (.ref 121))(FK:kK hb KF)(FM:wD hb)(ag:Am A af ae)(lv:Lv A 3)(ai:au hb af)(c:cE (XF ab w) af ae env K F σ s){st:V9}{o:Str}{Q:YF->VP->Prop}(hs:yN o Av st)
  (hg:js σ.nm Av=true) (hw:bW σ.nm o=true) (fM:∀y b,σ.get y=some b->∃d,b=.val d)
  (h:∀F1 s1,cE (XF ab w) af ae env K F1 (σ.set o (.flg true ⟨λ_=>none,[],0⟩)) s1->F.le F1->Q .next s1):wpAny (model ab w) A (exec st env) Q E s:=by
 obtain⟨p1,p2,p3,p4,rfl⟩:=sj hs;have am:=ag.at c;have bf:=ai.grow c.g.fle;refine W2 ?_ (by rfl);refine lu (fv:=.ref 121) (P:=λh=>KF.In h) (λh X=>keeps_K FK.kc h X) ?_;refine dn B am bf c.r hg (.inl Rf) ⟨rfl,FK.inn.keeps (bf.keep am.fz),?_⟩;refine xY B cX FK FM am lv bf λs1 g G inv hO hN hP hm=>?_
 have c1:=c.grow G;have AY:jw (XF ab w) ae.heap F env σ s1.heap (.ref g.inst) (.flg true ⟨λ_=>none,[],0⟩):=by
  refine⟨g.O,⟨g,inv,hN,hP,by rw[hm];exact WD 0,rfl,rfl⟩,λa ha=>?_⟩;obtain⟨q1,q2⟩:=hO a ha;refine⟨q1,?_,λy cc l e=>?_,λ_=>c.g.noneAt q2⟩
  ·rintro rfl
   obtain⟨m,o,es,ep,ho,_⟩:=c.r.ns;exact bo q2 ho
  ·subst e
   obtain⟨_,v,o,ho,_⟩:=c.r.cells y a l;exact bo q2 ho
 refine fx c1.r hw (bd:=aO.flg true (⟨λ_=>none,[],0⟩:FT)) AY (λ_ e=>by cases e) (λ_ e=>by cases e) (λm t _ y l e=>by obtain⟨d,q⟩:=fM y _ e;cases q) λh' tk b ob gG ed oj hs b0 bF r'=>?_
 exact h F _ (c1.assign (cq.same ed oj hs) (λa o q=>hs.extBut a o (by rintro rfl;exact bo bF q) (c1.g.fz a o q)) r') F.le_refl
end
noncomputable def nu:V9:=ak (aZ 18) 1
noncomputable def sF:List V9:=cQ (ak (cD nu) 0)
noncomputable def mx:V9:=ak (bT (ak (cD nu) 0)) 2
noncomputable def sA:List V9:=cQ (ak (cD mx) 0)
noncomputable def sU:List V9:=cQ (ak (bT (ak (cD mx) 0)) 0)
noncomputable def sS:List V9:=bT (ak (bT (ak (cD mx) 0)) 0)
theorem Nf:sF.length=1:=by kernel_rfl
theorem Nh:sA.length=1:=by kernel_rfl
theorem Nc:sU.length=1:=by kernel_rfl
theorem Nd:sS.length=1:=by kernel_rfl
theorem TO:Hp aV M6 (ak sF 0):=.mk rfl
noncomputable def lY:Str:=VN "way"
theorem TP:Hn aV IQ lY dj (ak sA 0):=.mk rfl
theorem TM:Ho aV M4 lY (ak sU 0):=.mk rfl
theorem TN:pZ aV lY dj (ak sS 0):=.mk rfl
noncomputable def Ds:aO FT->Bool | .val _=>true |_=>false
theorem xe {b:aO FT}(h:Ds b=true):∃d,b=.val d:=by induction b<;>first |exact⟨_,rfl⟩ |exact eV h
noncomputable def dg (x:Str):List (Str×aO FT)->Bool
 |[]=>true
 |p::r=>(Ds p.2||d4 p.1 x)&&dg x r
theorem wY {x:Str}{l:List (Str×aO FT)}(h:dg x l=true)(y:Str)(b:aO FT)(hy:y≠x)(e:dD l y=some b):∃d,b=.val d:=by
 induction l with
 |nil=>exact bg e
 |cons p r ih =>
  obtain⟨h1,h2⟩:=VU.mp h;refine D8 e (λp1 q=>?_) (ih h2);clear ih e;subst q;exact(Bool.or_eq_true_iff.mp h1).elim xe λq=>absurd (p1.symm.trans (bl.mp q)) hy
noncomputable def Od:Option (aO FT)->Option FT |some b=>(match b with | .flg m t=>a_ (some t) none m |_=>none) |none=>none
theorem Eh {b:Option (aO FT)}{t:FT}(h:Od b=some t):b=some (.flg true t):=by
 induction b with
 |none=>exact bg h
 |some b=>induction b with
  |flg m u=>induction m with
   |true=>exact congrArg (λt=>some (aO.flg true t)) (aJ h)
   |false=>exact bg h
  |_=>exact bg h
open Classical in
noncomputable def kQ (Φ:b_)(σ:az FT)(l:List V9):Rs FT :=
 gd (dg aV σ.vs) ((Od (σ.get aV)).bind λt =>
  if l=sF then(if(∀p∈t.P,gD p.1)/\t.P.length<=70/\t.m+3*t.P.length<=890 then some (σ.up aV (.flg true ⟨eN t.N t.P,[],t.m+3*t.P.length⟩),.next)else none)
  else(BV (σ.get lY)).bind λd=>(ET d).bind λws=>(ry ws).bind λway=>if gD way then
   (if l=sU then(if t.m<=900 then some (σ.up aV (.flg true ⟨jJ t.N way,t.P,t.m⟩),.next)else none)
   else(BV (σ.get dj)).bind λd=>(un d).bind λi =>
    if l=sA then(if t.P.length<=70 then some (σ.up aV (.flg true ⟨t.N,(way,i)::t.P,t.m⟩),.next)else none)
    else if l=sS then((ev aN Φ 30 σ false (Kw (ak sS 0))).bind λd=>(BN d).bind λrc=>if t.m<=900 then some (σ.up aV (.flg true ⟨iZ t.N way rc i,t.P,t.m+3⟩),.next)else none)
    else none)else none)
section
variable {ab:V8}{w:Wi}{Φ:b_}{hb:Wb}{mg:Str->Option VQ}{k:Nat}{A:V7}{af:Fz}{ae:VP}{env:Yq}{KF:Zo}
theorem J9 {way:aw}(h:gD way):way≠[]:=by
 rcases h with⟨a,rfl⟩ |⟨a,b,rfl⟩<;>simp
theorem kt {l:List V9}(hl:l.length=1){E:VQ->VP->Prop}{s:VP}{Q:YF->VP->Prop}(h:wpAny (model ab w) A (exec (ak l 0) env) Q E s)(hQ:∀f s',Q f s'->Q f s')(hn:True):wpAny (model ab w) A (execs l env) Q E s:=by
 refine aI (by lia) (Wk h (λf s' x=>?_) λ_ _ x=>x);induction f with
 |next=>exact bY (by lia) x
 |brk=>exact x
 |cont=>exact x
 |ret v=>exact x
noncomputable def RV (Φ:b_)(σ:az FT)(l:List V9)(t:FT)(σ':az FT):Prop :=
 (l=sF/\((∀p∈t.P,gD p.1)/\t.P.length<=70/\t.m+3*t.P.length<=890)/\σ.up aV (.flg true ⟨eN t.N t.P,[],t.m+3*t.P.length⟩)=σ') \/∃way,σ.get lY=some (.val (aM way))/\gD way/\((l=sU/\t.m<=900/\σ.up aV (.flg true ⟨jJ t.N way,t.P,t.m⟩)=σ') \/∃i,σ.get dj=some (.val (.int i))/\((l=sA/\t.P.length<=70/\σ.up aV (.flg true ⟨t.N,(way,i)::t.P,t.m⟩)=σ') \/(l=sS/\∃rc,ev aN Φ 30 σ false (Kw (ak sS 0))=some (.bool rc)/\t.m<=900/\σ.up aV (.flg true ⟨iZ t.N way rc i,t.P,t.m+3⟩)=σ')))
theorem Dd {Φ:b_}{σ σ':az FT}{l:List V9}{fl:Fl}(e:kQ Φ σ l=some (σ',fl)):fl=.next/\dg aV σ.vs=true/\∃t,σ.get aV=some (.flg true t)/\RV Φ σ l t σ':=by
 delta Φ σ σ' l fl;intro e;refine ip e λho e=>bt e ?_
 exists t;intro hf e;have hf:=Eh hf;by_cases hl:l=sF
 ·rw[if_pos hl]at e
  refine jr e λhc e=>?_
  obtain⟨e1,rfl⟩:=cJ e;exact⟨rfl,ho,t,hf,.inl ⟨hl,hc,e1⟩⟩
 rw[if_neg hl]at e;refine bt e λd HA e=>bt e λws e2 e=>bt e λway jt e=>jr e λhz e=>?_
 have HA:σ.get lY=some (.val (aM way)):=by rw[oV HA,mG e2,uI jt];rfl
 by_cases hl:l=sU
 ·rw[if_pos hl]at e
  refine jr e λhm e=>?_
  obtain⟨e1,rfl⟩:=cJ e;exact⟨rfl,ho,t,hf,.inr ⟨way,HA,hz,.inl ⟨hl,hm,e1⟩⟩⟩
 rw[if_neg hl]at e;refine bt e λd hi e=>bt e λi e3 e=>?_
 have hi:σ.get dj=some (.val (.int i)):=by rw[oV hi,dR e3]
 by_cases hl:l=sA
 ·rw[if_pos hl]at e
  refine jr e λhm e=>?_
  obtain⟨e1,rfl⟩:=cJ e;exact⟨rfl,ho,t,hf,.inr ⟨way,HA,hz,.inr ⟨i,hi,.inl ⟨hl,hm,e1⟩⟩⟩⟩
 rw[if_neg hl]at e;refine jr e λhl e=>bt e λd QO e=>bt e λrc e4 e=>jr e λhm e=>?_
 obtain⟨e1,rfl⟩:=cJ e;exact⟨rfl,ho,t,hf,.inr ⟨way,HA,hz,.inr ⟨i,hi,.inr ⟨hl,rc,by rw[QO,gx e4],hm,e1⟩⟩⟩⟩
theorem uT (S:gy ab w (XF ab w) Φ hb k)(B:dT hb mg)(cX:mg fy=none)(FK:kK hb KF)(FM:wD hb)(ag:Am A af ae)(lv:Lv A 2)(ux:Lv A k)(ai:au hb af):ya ab w (XF ab w) A af ae env (kQ Φ):=by
 delta ab w Φ hb mg k A af ae env KF;intro S B cX FK FM ag lv ux ai;exists E,K,F,σ,σ',s,l,fl,Q;intro e c h;obtain⟨rfl,ho,t,hf,C⟩:=Dd e;delta t;intro hf C;clear e;have fM:∀y b,y≠aV->σ.get y=some b->∃d,b=.val d:=λy b hy q=>wY ho y b hy q
 have Qg:Lv A 1:=lv.le ⋯;rcases C with⟨rfl,hc,rfl⟩ |⟨way,HA,hz,⟨rfl,hm,rfl⟩ |⟨i,hi,⟨rfl,hm,rfl⟩ |⟨rfl,rc,QO,hm,rfl⟩⟩⟩
 ·exact kt Nf (G7 B cX FK FM ag lv ai c TO hf fM hc.1 hc.2.1 hc.2.2 λF1 s1 c1 l1=>h F1 s1 .next c1 l1 .next) (λ_ _ x=>x) trivial
 ·exact kt Nc (GW B FK FM ag Qg ai c TM hf fM HA hz hm λF1 s1 c1 l1=>h F1 s1 .next c1 l1 .next) (λ_ _ x=>x) trivial
 ·exact kt Nh (G8 B FK FM ag Qg ai c TP hf fM HA hi (J9 hz) hm λF1 s1 c1 l1=>h F1 s1 .next c1 l1 .next) (λ_ _ x=>x) trivial
 ·exact kt Nd (GX S B cX FK FM ag Qg ux ai c TN hf fM HA hi QO hz hm λF1 s1 c1 l1=>h F1 s1 .next c1 l1 .next) (λ_ _ x=>x) trivial
end
noncomputable def jq (Φ:b_):Nat->az FT->List V9->Rs FT
 |0=>kQ Φ
 |n+1=>λσ l=>(kQ Φ σ l).elim (eT (bQ aN Φ 30 (jq Φ n)) σ l) some
section
variable {ab:V8}{w:Wi}{Φ:b_}{hb:Wb}{mg:Str->Option VQ}{k:Nat}{A:V7}{af:Fz}{ae:VP}{env:Yq}{KF:Zo}
theorem Ck (S:gy ab w (XF ab w) Φ hb k)(B:dT hb mg)(cX:mg fy=none)(FK:kK hb KF)(FM:wD hb)(ag:Am A af ae)(lv:Lv A 2)(ux:Lv A k)(ai:au hb af)(n:Nat):ya ab w (XF ab w) A af ae env (jq Φ n):=by
 induction n with
 |zero=>exact uT S B cX FK FM ag lv ux ai
 |succ n ih =>
  intro E K F σ σ' s l fl Q e c h;have e:(kQ Φ σ l).elim (eT (bQ aN Φ 30 (jq Φ n)) σ l) some=some (σ',fl):=e
  cases hr:kQ Φ σ l with
  |some r=>rw[hr]at e;exact uT S B cX FK FM ag lv ux ai E K F σ σ' s l fl Q (hr.trans e) c h
  |none=>rw[hr]at e;exact ta (ko S ag ux ai ih) E K F σ σ' s l fl Q e c h
end
noncomputable def bH (r:Rl)(t:FT)(way:aw):FT :=
 match VW r.kind 3,VW r.kind 2 with
 |true,_=>⟨t.N,(way,r.flag)::t.P,t.m⟩
 |false,true=>⟨jJ t.N way,t.P,t.m⟩
 |false,false=>⟨iZ t.N way (VW r.kind 1) r.flag,t.P,t.m+3⟩
noncomputable def jV (W:List aw)(r:Rl):List aw:=W.filter λway=>ga (eJ (r.items.map jL)) (d5 way)
noncomputable def ew (W:List aw)(t:FT)(r:Rl):FT:=match VW r.kind 4 with
 |true=>⟨eN t.N t.P,[],t.m+3*t.P.length⟩
 |false=>(jV W r).foldl (bH r) t
noncomputable def vm (W:List aw)(rs:List Rl):FT:=rs.foldl (ew W) ⟨λ_=>none,[],0⟩
theorem AA {Φ:b_}{σ:az FT}{l:List V9}(h:sf (ak l 0)=true\/l.length≠1):kQ Φ σ l=none:=by
 delta Φ σ l;intro h;have n1:l≠sF:=by
  rintro rfl;rcases h with h |h
  ·rw[show sf (ak sF 0)=false by kernel_rfl]at h;cases h
  ·exact h Nf
 have n2:l≠sU:=by
  rintro rfl;rcases h with h |h
  ·rw[show sf (ak sU 0)=false by kernel_rfl]at h;cases h
  ·exact h Nc
 have n3:l≠sA:=by
  rintro rfl;rcases h with h |h
  ·rw[show sf (ak sA 0)=false by kernel_rfl]at h;cases h
  ·exact h Nh
 have n4:l≠sS:=by
  rintro rfl;rcases h with h |h
  ·rw[show sf (ak sS 0)=false by kernel_rfl]at h;cases h
  ·exact h Nd
 cases hx:kQ Φ σ l with
 |none=>rfl
 |some r =>
  delta r;intro hx;refine ip hx λ_ e=>bt e ?_
  exists t;intro _ e;rw[if_neg n1]at e;refine bt e λd _ e=>bt e λws _ e=>bt e λway _ e=>jr e λ_ e=>?_
  rw[if_neg n2]at e;refine bt e λd _ e=>bt e λi _ e=>?_
  rw[if_neg n3,if_neg n4]at e;exact bg e
theorem jP {Φ:b_}{n:Nat}{σ:az FT}{l:List V9}(h:sf (ak l 0)=true\/l.length≠1):jq Φ (n+1) σ l=eT (bQ aN Φ 30 (jq Φ n)) σ (l.drop 0):=by
 show(kQ Φ σ l).elim _ some=_;rw[AA h];rfl
noncomputable def TX:Expr->Str | .Attribute _ m _=>m |_=>WT
noncomputable def TW:Expr->Str | .Call f _ _ _=>TX f |_=>WT
noncomputable def oh:V9->Str | .Expr e _=>TW e |_=>WT
theorem P5:sU≠sF:=λh=>by
 have a:d4 (oh (ak sU 0)) (oh (ak sF 0))=false:=by kernel_rfl
 rw[h,bl.mpr rfl]at a;exact oY a
theorem Qa:sA≠sF:=λh=>by
 have a:d4 (oh (ak sA 0)) (oh (ak sF 0))=false:=by kernel_rfl
 rw[h,bl.mpr rfl]at a;exact oY a
theorem P8:sS≠sF:=λh=>by
 have a:d4 (oh (ak sS 0)) (oh (ak sF 0))=false:=by kernel_rfl
 rw[h,bl.mpr rfl]at a;exact oY a
theorem P_:sA≠sU:=λh=>by
 have a:d4 (oh (ak sA 0)) (oh (ak sU 0))=false:=by kernel_rfl
 rw[h,bl.mpr rfl]at a;exact oY a
theorem P7:sS≠sU:=λh=>by
 have a:d4 (oh (ak sS 0)) (oh (ak sU 0))=false:=by kernel_rfl
 rw[h,bl.mpr rfl]at a;exact oY a
theorem P9:sS≠sA:=λh=>by
 have a:d4 (oh (ak sS 0)) (oh (ak sA 0))=false:=by kernel_rfl
 rw[h,bl.mpr rfl]at a;exact oY a
section
variable {Φ:b_}{σ:az FT}{t:FT}
theorem Kr (ho:dg aV σ.vs=true)(hf:σ.get aV=some (.flg true t))(h1:∀p∈t.P,gD p.1)(h2:t.P.length<=70)(h3:t.m+3*t.P.length<=890):kQ Φ σ sF=some (σ.up aV (.flg true ⟨eN t.N t.P,[],t.m+3*t.P.length⟩),.next):=by
 refine lx ho ((dS (a:=t) (by rw[hf];rfl)).trans ?_);rw[if_pos rfl,if_pos ⟨h1,h2,h3⟩]
open Classical in
theorem xb (ho:dg aV σ.vs=true)(hf:σ.get aV=some (.flg true t)){way:aw}(hw:σ.get lY=some (.val (aM way)))(hk:gD way){l:List V9}(hl:l≠sF){r:Rs FT}(k:(if l=sU then(if t.m<=900 then some (σ.up aV (.flg true ⟨jJ t.N way,t.P,t.m⟩),.next)else none)
   else(BV (σ.get dj)).bind λd=>(un d).bind λi =>
    if l=sA then(if t.P.length<=70 then some (σ.up aV (.flg true ⟨t.N,(way,i)::t.P,t.m⟩),.next)else none)
    else if l=sS then((ev aN Φ 30 σ false (Kw (ak sS 0))).bind λd=>(BN d).bind λrc=>if t.m<=900 then some (σ.up aV (.flg true ⟨iZ t.N way rc i,t.P,t.m+3⟩),.next)else none)
    else none)=r):kQ Φ σ l=r:=by
 refine lx ho ((dS (a:=t) (by rw[hf];rfl)).trans ?_);rw[if_neg hl];refine(dS (a:=aM way) (by rw[hw];rfl)).trans ((dS (a:=way) (rx way)).trans ?_);rw[if_pos hk];exact k
theorem Kp (ho:dg aV σ.vs=true)(hf:σ.get aV=some (.flg true t)){way:aw}(hw:σ.get lY=some (.val (aM way)))(hk:gD way)(h3:t.m<=900):kQ Φ σ sU=some (σ.up aV (.flg true ⟨jJ t.N way,t.P,t.m⟩),.next) :=
 xb ho hf hw hk P5 (by rw[if_pos rfl,if_pos h3])
theorem Ks (ho:dg aV σ.vs=true)(hf:σ.get aV=some (.flg true t)){way:aw}(hw:σ.get lY=some (.val (aM way))){i:Int}(hi:σ.get dj=some (.val (.int i)))(hk:gD way)(h3:t.P.length<=70):kQ Φ σ sA=some (σ.up aV (.flg true ⟨t.N,(way,i)::t.P,t.m⟩),.next):=by
 refine xb ho hf hw hk Qa ?_;rw[if_neg P_];exact(dS (a:=D.int i) (by rw[hi];rfl)).trans ((if_pos rfl).trans (if_pos h3))
theorem Kq (ho:dg aV σ.vs=true)(hf:σ.get aV=some (.flg true t)){way:aw}(hw:σ.get lY=some (.val (aM way))){i:Int}(hi:σ.get dj=some (.val (.int i))){rc:Bool}(hr:ev aN Φ 30 σ false (Kw (ak sS 0))=some (.bool rc))(hk:gD way)(h3:t.m<=900):kQ Φ σ sS=some (σ.up aV (.flg true ⟨iZ t.N way rc i,t.P,t.m+3⟩),.next):=by
 refine xb ho hf hw hk P8 ?_;rw[if_neg P7];exact(dS (a:=D.int i) (by rw[hi];rfl)).trans ((if_neg P9).trans ((if_pos rfl).trans ((dS hr).trans (if_pos h3))))
theorem kC {n:Nat}{l:List V9}{r:az FT×Fl}(h:kQ Φ σ l=some r):jq Φ n σ l=some r:=by
 induction n with
 |zero=>exact h
 |succ n =>
  show(kQ Φ σ l).elim _ some=_;rw[h];rfl
end
noncomputable def hV (rs:List Rl)(W:List aw)(t:FT)(ks:List (Str×aO FT)):az FT :=
 ⟨dZ 18,(VN "rules",.val (jz rs))::(VN "ways",.val (nH W))::(aV,.flg true t)::ks⟩
noncomputable def jm (r:Rl)(tl:List (Str×aO FT)):List (Str×aO FT):=Nj r.kind::Pn r.flag::Fi r.items::tl
noncomputable def gc (k:Nat):List Nat:=(jL k).txt
noncomputable def lJ (l:List Nat):Str×aO FT:=(VN "pieces",.val (.lst (gl (l.map gc))))
noncomputable def mI (R:List kh):Str×aO FT:=(VN "runs",.val (.lst (R.map aG)))
noncomputable def lL (w:aw):Str×aO FT:=(lY,.val (aM w))
noncomputable def E0 (tw:List (Str×aO FT)):Prop:=tw=[]\/∃w,tw=[lL w]
theorem Di (rs:List Rl)(W:List aw)(t:FT)(r:Rl)(l:List Nat)(R:List kh)(w:aw):dg aV (hV rs W t (jm r [lJ l,mI R,lL w])).vs=true:=by kernel_rfl
theorem BR (Φ:b_)(n:Nat)(rs:List Rl)(W:List aw)(t:FT)(r:Rl)(l:List Nat)(R:List kh)(w:aw)(hk:gD w)(hP:t.P.length<=70)(hm:t.m<=900) :
  jq Φ (n+2) (hV rs W t (jm r [lJ l,mI R,lL w])) (cD mx)=some (hV rs W (bH r t w) (jm r [lJ l,mI R,lL w]),.next):=by
 delta Φ n rs W t r l R w;intro hk hP hm;have ho:=Di rs W t r l R w;have hf:(hV rs W t (jm r [lJ l,mI R,lL w])).get aV=some (.flg true t):=by kernel_rfl
 have hw:(hV rs W t (jm r [lJ l,mI R,lL w])).get lY=some (.val (aM w)):=by kernel_rfl
 have hi:(hV rs W t (jm r [lJ l,mI R,lL w])).get dj=some (.val (.int r.flag)):=by kernel_rfl
 have Sy:∀t',(hV rs W t (jm r [lJ l,mI R,lL w])).up aV (.flg true t')=hV rs W t' (jm r [lJ l,mI R,lL w]):=λt'=>by kernel_rfl
 have e3:ev aN Φ 29 (hV rs W t (jm r [lJ l,mI R,lL w])) false (gF (ak (cD mx) 0))=bZ .Eq (.int (r.kind:Int)) (.int ((3:Nat):Int)):=by kernel_rfl
 have e2:ev aN Φ 29 (hV rs W t (jm r [lJ l,mI R,lL w])) false (gF (ak (bT (ak (cD mx) 0)) 0))=bZ .Eq (.int (r.kind:Int)) (.int ((2:Nat):Int)):=by kernel_rfl
 have e1:ev aN Φ 30 (hV rs W t (jm r [lJ l,mI R,lL w])) false (Kw (ak sS 0))=bZ .Eq (.int (r.kind:Int)) (.int ((1:Nat):Int)):=by kernel_rfl
 rw[ny]at e1 e2 e3;have e3:=aH nofun e3 rfl;have e2:=aH nofun e2 rfl;have PU:=Ks (Φ:=Φ) ho hf hw hi hk hP;have PS:=Kp (Φ:=Φ) ho hf hw hk hm;have PT:=Kq (Φ:=Φ) ho hf hw hi e1 hk hm;rw[Sy]at PU PS PT;generalize fM:hV rs W t (jm r [lJ l,mI R,lL w])=σ at *;delta σ;intro fM ho hf hw hi Sy _ _ e1 e3 e2 PU PS PT;have Pa:(cD mx).length=1:=by kernel_rfl
 have HH:(bT (ak (cD mx) 0)).length=1:=by kernel_rfl
 rw[jP (.inl nofun)];refine ah ⋯ (σ1:=hV rs W (bH r t w) (jm r [lJ l,mI R,lL w])) ?_ (aD ⋯)
 cases q3:VW r.kind 3 with
 |true =>
  rw[q3]at e3;rw[bj ∅ e3,show bH r t w=⟨t.N,(w,r.flag)::t.P,t.m⟩ by unfold bH;rw[q3]];exact kC PU
 |false =>
  rw[q3]at e3;rw[bj ∅ e3];show jq Φ (n+1) σ (bT (ak (cD mx) 0))=_;rw[jP (.inl nofun)];refine ah ⋯ ?_ (aD ⋯)
  cases q2:VW r.kind 2 with
  |true =>
   rw[q2]at e2;rw[bj ∅ e2,show bH r t w=⟨jJ t.N w,t.P,t.m⟩ by unfold bH;rw[q3,q2]];exact kC PS
  |false =>
   rw[q2]at e2;rw[bj ∅ e2,show bH r t w=⟨iZ t.N w (VW r.kind 1) r.flag,t.P,t.m+3⟩ by unfold bH;rw[q3,q2]];exact kC PT
theorem yf (r:Rl)(t:FT)(w:aw):(bH r t w).P.length<=t.P.length+1/\(bH r t w).m+3*(bH r t w).P.length<=t.m+3*t.P.length+3:=by
 unfold bH
 cases VW r.kind 3 with
 |true=>simp only[VY];lia
 |false=>cases VW r.kind 2<;>dsimp only<;>lia
theorem B7 (r:Rl)(t:FT)(w:aw)(hw:gD w)(h:∀p∈t.P,gD p.1):∀p∈(bH r t w).P,gD p.1:=by
 unfold bH
 cases VW r.kind 3 with
 |true =>
  intro p hp;rcases V2.mp hp with rfl |hp
  ·exact hw
  ·exact h p hp
 |false=>cases VW r.kind 2<;>exact h
theorem BS (Φ:b_)(n:Nat)(rs:List Rl)(W:List aw)(r:Rl)(l:List Nat)(R:List kh)(H:List aw):∀(t:FT) (tw:List (Str×aO FT)),E0 tw->(∀w∈H,gD w)->t.P.length+H.length<=70->t.m+3*t.P.length+3*H.length<=890 ->∃JA,E0 JA/\iH (jq Φ (n+2)) (ly mx) (cD mx) (hV rs W t (jm r (lJ l::mI R::tw))) (H.map aM)=some (hV rs W (H.foldl (bH r) t) (jm r (lJ l::mI R::JA)),.next):=by
 delta Φ n rs W r l R H;induction H with
 |nil =>
  intro t tw h _ _ _;exact⟨tw,h,rfl⟩
 |cons w H ih =>
  delta w H;intro ih;intro t tw h hH hP hm;delta t tw;intro h hP hm;simp only[VY]at hP hm;have e0:bB (hV rs W t (jm r (lJ l::mI R::tw))) (ly mx) (aM w)=some (hV rs W t (jm r [lJ l,mI R,lL w])):=by
   rcases h with rfl |⟨w0,rfl⟩<;>kernel_rfl
  have e1:=BR Φ n rs W t r l R w (hH w VT) (by lia) (by lia);have:=yf r t w;obtain⟨JA,h',e2⟩:=ih (bH r t w) [lL w] (.inr ⟨w,rfl⟩) (λx hx=>hH x (VS _ hx)) (by lia) (by lia);exact⟨JA,h',fN e0 e1 e2⟩
theorem Lo (r:Rl)(H:List aw):∀(t:FT),(H.foldl (bH r) t).P.length<=t.P.length+H.length/\(H.foldl (bH r) t).m+3*(H.foldl (bH r) t).P.length<=t.m+3*t.P.length+3*H.length:=by
 induction H with
 |nil =>
  intro t;simp
 |cons w H ih =>
  intro t;have a:=ih (bH r t w);have b:=yf r t w;simp only[List.foldl_cons,VY];exact Tv ‹_› ‹_›
theorem HT (r:Rl)(H:List aw):∀(t:FT),(∀w∈H,gD w)->(∀p∈t.P,gD p.1)->∀p∈(H.foldl (bH r) t).P,gD p.1:=by
 induction H with
 |nil =>
  intro t _ h;exact h
 |cons w H ih =>
  intro t hH h;exact ih (bH r t w) (λx hx=>hH x (VS _ hx)) (B7 r t w (hH w VT) h)
theorem tn (k:Nat):(jL k).ok :=
 XR k (.inl rfl) λk=>XR k trivial λk=>XR k (.inr rfl) λk=>XR k (by decide:0<4) λk=>XR k trivial λk=>XR k (by decide:1<4) λk=>XR k (by decide:2<4) λk=>XR k trivial λ_=>(by decide:3<4)
noncomputable def lE:List V9:=bT (ak (cD nu) 0)
noncomputable def E1 (tl:List (Str×aO FT)):Prop:=tl=[]\/∃l R tw,tl=lJ l::mI R::tw/\E0 tw
section
variable {Φ:b_}
theorem Dh (n:Nat)(rs:List Rl)(W:List aw)(t:FT)(r:Rl)(hr:∀k∈r.items,k<9)(hz:r.items.length<=1000)(tl:List (Str×aO FT))(dU:E1 tl) :
  bQ aN Φ 30 (jq Φ n) (hV rs W t (jm r tl)) (ak lE 0)=some (hV rs W t (jm r (match tl with |[]=>[lJ r.items] |_::q=>lJ r.items::q)),.next):=by
 revert hr hz dU;delta Φ n rs W t r tl;intro hr hz dU;have hi:ev aN Φ 30 (hV rs W t (jm r tl)) false (eU (bR (ak lE 0))).iter=some (.lst (aq r.items)):=by kernel_rfl
 have hc:comp (λσ b e=>ev aN Φ 30 σ b e) (uy (bR (ak lE 0))) [eU (bR (ak lE 0))] (di (ln (bR (ak lE 0))) (hV rs W t (jm r tl))) (aq r.items)=some ((r.items.filter λ_=>true).map λk=>.str (ao (gc k))):=by
  refine cM (enc:=λ(k:Nat)=>D.int (k:Int)) nofun ?_;exists k;intro hk;refine⟨⟨(ln (bR (ak lE 0))).names,[(VN "item",.val (.int k))]⟩,by kernel_rfl,iv nofun,λ_=>?_⟩;have:=hr k hk;exact Bt nofun nofun nofun nofun nofun nofun nofun nofun nofun k this
 rw[List.filter_eq_self.mpr λ_ _=>rfl]at hc;rw[Ep (by exact .mk nofun) hi rfl hc (by rw[VZ];lia)];have:(r.items.map λk=>D.str (ao (gc k)))=gl (r.items.map gc):=by
  unfold gl;rw[XJ];rfl
 rw[this];clear hi hc;rcases dU with rfl |⟨l,R,tw,rfl,rfl |⟨w,rfl⟩⟩<;>kernel_rfl
noncomputable def yA:Str:=(aS 15).name
noncomputable def w9:Str:=(aS 17).name
noncomputable def Qh:Str:=(aS 3).name
theorem Dg (n:Nat)(rs:List Rl)(W:List aw)(t:FT)(r:Rl)(tw:List (Str×aO FT))(Ui:E0 tw)(R0:Option (List kh)){x y:List Nat}{R:List kh}(hj:iD (VN "join") (.str (VN "")) [.lst (gl (r.items.map gc))]=some (.str (ao x)))
  (h1:Φ Qh [.str (ao x)]=some (.str (ao y))) (h2:Φ yA [.str (ao y)]=some (.lst (R.map aG))) :
  bQ aN Φ 30 (jq Φ n) (hV rs W t (jm r (lJ r.items::(match R0 with |none=>[] |some R0=>mI R0::tw)))) (ak lE 1)=some (hV rs W t (jm r (lJ r.items::mI R::(match R0 with |none=>[] |some _=>tw))),.next):=by
 have hv:ev aN Φ 30 (hV rs W t (jm r (lJ r.items::(match R0 with |none=>[] |some R0=>mI R0::tw)))) false (bR (ak lE 1))=some (.lst (R.map aG)):=by
  refine mB (x:=.str (ao y)) (by exact .mk rfl) nofun nofun ?_ (by rw[show oO (bR (ak lE 1))=yA by kernel_rfl];exact h2);refine mB (x:=.str (ao x)) (by exact .mk rfl) nofun nofun (Eq.trans (b:=iD (VN "join") (.str (VN "")) [.lst (gl (r.items.map gc))]) nofun hj) ?_;rw[show oO (wi (bR (ak lE 1)) 0)=Qh by kernel_rfl];exact h1
 rw[fY (by exact .mk rfl) nofun hv];clear hv;induction R0 with
 |none=>kernel_rfl
 |some R0=>rcases Ui with rfl |⟨w,rfl⟩<;>kernel_rfl
noncomputable def OZ:Expr:=rl mx
noncomputable def PA (R:List kh)(w:aw):az FT:=⟨(ln OZ).names,[mI R,(VN "one",.val (aM w))]⟩
theorem Kv (rs:List Rl)(W:List aw)(hW:∀w∈W,Fc w=true)(nW:W.length<=100)(t:FT)(r:Rl)(l:List Nat)(R:List kh)(tw:List (Str×aO FT))(h:∀w∈W,Φ w9 [.lst (R.map aG),.str (ao (d5 w))]=some (.bool (ga R (d5 w)))) :
  ev aN Φ 30 (hV rs W t (jm r (lJ l::mI R::tw))) false OZ=some (.lst ((W.filter λw=>ga R (d5 w)).map aM)):=by
 have hi:ev aN Φ 29 (hV rs W t (jm r (lJ l::mI R::tw))) false (eU OZ).iter=some (.lst (W.map aM)):=by kernel_rfl
 refine kZ (by exact .mk nofun) hi (its:=W.map aM) rfl ?_ (by rw[VZ];refine VX (Wj _ _) (VX (by assumption) ⋯));refine cM nofun λw hw=>⟨PA R w,by kernel_rfl,eR nofun ?_,λ_=>by kernel_rfl⟩
 refine aH (d:=.bool (ga R (d5 w))) nofun (mA (x:=.lst (R.map aG)) (y:=.str (ao (d5 w))) (by exact .mk rfl) nofun nofun nofun (Eq.trans (b:=iD (VN "join") (.str (VN ".")) [aM w]) nofun (ve (hW w hw))) ?_) rfl;rw[show oO (gf (eU OZ) 0)=w9 by kernel_rfl];exact h w hw
end
theorem xc (l:List (List Nat)):Yi (VN "") (l.map ao)=ao l.flatten:=by
 have e0:VN "" = ao []:=by decide +kernel
 rw[e0];induction l with
 |nil=>rfl
 |cons x r ih =>
  induction r with
  |nil=>simp[Yi]
  |cons y r =>
   simp only[Wu,Yi]at ih ⊢
   rw[ih,ku,ku];simp
theorem Aj (k:Nat):(gc k).length<=4:=by
 rcases Nat.lt_or_ge k 9 with h |h
 ·exact Bt (P:=λk=>(gc k).length<=4) ⋯ ⋯ ⋯ ⋯ ⋯ ⋯ ⋯ ⋯ ⋯ k h
 ·obtain⟨m,rfl⟩:=Nat.exists_eq_add_of_le' h
  show(Pc.txt (.br 3)).length<=4;decide
theorem C5 {l:List Nat}(h:l.length<=3):iD (VN "join") (.str (VN "")) [.lst (gl (l.map gc))]=some (.str (ao (ib (l.map jL)))):=by
 have hs:∀l:List Nat,(((l.map gc).map ao).map (·.length)).sum<=4*l.length:=by
  intro l;induction l with
  |nil=>simp
  |cons x r ih =>
   have hx:(ao (gc x)).length<=4:=Aj x;simp only[Wu,List.sum_cons,VY];lia
 have:=hs l;show nQ (VN "join") (VN "") (gl (l.map gc))=_;unfold nQ;rw[if_pos ⟨by decide +kernel,by decide +kernel⟩];unfold gl;rw[iV,Wg,if_pos (by simp only[VZ]at *;lia),xc];unfold ib;rw[XJ];rfl
noncomputable def fL (l:List Nat):Prop:=l≠[]/\l.length<=3/\∀k∈l,k<9
structure yb (Φ:b_):Prop where
 tr:∀l,fL l->Φ Qh [.str (ao (ib (l.map jL)))]=some (.str (ao (gL (l.map jL))))
 runs:∀l,fL l->Φ yA [.str (ao (gL (l.map jL)))]=some (.lst ((eJ (l.map jL)).map aG))
 takes:∀l,fL l->∀w,Fc w=true->Φ w9 [.lst ((eJ (l.map jL)).map aG),.str (ao (d5 w))]=some (.bool (ga (eJ (l.map jL)) (d5 w)))
structure wB (W:List aw):Prop where
 ok:∀w∈W,Fc w=true
 two:∀w∈W,gD w
 len:W.length<=12
noncomputable def OG (ks tl:List (Str×aO FT)):Prop:=(ks=[]/\tl=[])\/∃r0,ks=jm r0 tl/\E1 tl
theorem OG.tl {ks tl:List (Str×aO FT)}(h:OG ks tl):E1 tl:=by
 rcases h with⟨_,rfl⟩ |⟨_,_,h⟩
 ·exact .inl rfl
 ·exact h
theorem vM (W:List aw)(r:Rl):(jV W r).length<=W.length:=Wj _ _
theorem Ab {Φ:b_}(Iy:yb Φ)(n:Nat)(rs:List Rl){W:List aw}(hW:wB W)(t:FT)(r:Rl)(hr:fL r.items)(ks tl:List (Str×aO FT))(jA:OG ks tl)(hp:∀p∈t.P,gD p.1)(hP:t.P.length<=58)(hm:t.m+3*t.P.length<=800) :
  ∃σ1,bB (hV rs W t ks) (ly nu) (dQ r)=some σ1/\∃c_ fH,OG c_ fH/\jq Φ (n+4) σ1 (cD nu)=some (hV rs W (ew W t r) c_,.next):=by
 have e0:bB (hV rs W t ks) (ly nu) (dQ r)=some (hV rs W t (jm r tl)):=by
  rcases jA with⟨rfl,rfl⟩ |⟨r0,rfl,rfl |⟨l,R,tw,rfl,rfl |⟨w,rfl⟩⟩⟩<;>kernel_rfl
 refine⟨_,e0,?_⟩;have Pa:(cD nu).length=1:=by kernel_rfl
 have O_:lE.length=3:=by kernel_rfl
 have e4:ev aN Φ 29 (hV rs W t (jm r tl)) false (gF (ak (cD nu) 0))=bZ .Eq (.int (r.kind:Int)) (.int ((4:Nat):Int)):=by kernel_rfl
 rw[ny]at e4;have e4:=aH nofun e4 rfl
 cases q:VW r.kind 4 with
 |true =>
  rw[q]at e4;refine⟨jm r tl,tl,.inr ⟨r,rfl,jA.tl⟩,?_⟩;rw[jP (.inl nofun)];refine ah ⋯ ?_ (aD ⋯);rw[bj ∅ e4];refine kC ?_;have ho:dg aV (hV rs W t (jm r tl)).vs=true:=by
   clear e0;rcases jA.tl with rfl |⟨l,R,tw,rfl,rfl |⟨w,rfl⟩⟩<;>kernel_rfl
  refine(Kr ho nofun hp (VX (by assumption) ⋯) (VX (by assumption) ⋯)).trans ?_;have:ew W t r=⟨eN t.N t.P,[],t.m+3*t.P.length⟩:=by unfold ew;rw[q]
  rw[this];generalize eN t.N t.P=N';generalize t.m+3*t.P.length=m';kernel_rfl
 |false =>
  rw[q]at e4;have fj:ew W t r=(jV W r).foldl (bH r) t:=by unfold ew;rw[q]
  have hj:=C5 (l:=r.items) hr.2.1;obtain⟨Fg,L5,htw2,f0,f1⟩:∃Fg L5,E0 L5/\bQ aN Φ 30 (jq Φ (n+2)) (hV rs W t (jm r tl)) (ak lE 0)=some (hV rs W t (jm r (lJ r.items::Fg)),.next) /\bQ aN Φ 30 (jq Φ (n+2)) (hV rs W t (jm r (lJ r.items::Fg))) (ak lE 1)=some (hV rs W t (jm r (lJ r.items::mI (eJ (r.items.map jL))::L5)),.next):=by
   have h0:=Dh (Φ:=Φ) (n+2) rs W t r hr.2.2 (by have:=hr.2.1;lia) tl jA.tl;clear e0;rcases jA.tl with rfl |⟨l,R,tw,rfl,h⟩
   ·exact⟨[],[],.inl rfl,h0,Dg (Φ:=Φ) (n+2) rs W t r [] (.inl rfl) none hj (Iy.tr _ hr) (Iy.runs _ hr)⟩
   ·exact⟨mI R::tw,tw,h,h0,Dg (Φ:=Φ) (n+2) rs W t r tw h (some R) hj (Iy.tr _ hr) (Iy.runs _ hr)⟩
  have hi:=Kv (Φ:=Φ) rs W hW.ok (by have:=hW.len;lia) t r r.items (eJ (r.items.map jL)) L5 λw hw=>Iy.takes _ hr w (hW.ok w hw)
  have hH:=vM W r;have VK:=hW.len;obtain⟨JA,IB⟩:=BS Φ n rs W r r.items (eJ (r.items.map jL)) (jV W r) t L5 htw2 (λw hw=>hW.two w (Xj.mp hw).1) (by lia) (by lia);have g2:bQ aN Φ 30 (jq Φ (n+2)) (hV rs W t (jm r (lJ r.items::mI (eJ (r.items.map jL))::L5))) (ak lE 2)=some (hV rs W (ew W t r) (jm r (lJ r.items::mI (eJ (r.items.map jL))::JA)),.next):=by
   rw[fj];exact(my (st:=mx) ∅ hi (its:=(jV W r).map aM) rfl).trans IB.2
  refine⟨_,_,.inr ⟨r,rfl,.inr ⟨r.items,eJ (r.items.map jL),JA,rfl,IB.1⟩⟩,?_⟩;rw[jP (.inl nofun)];refine ah ⋯ ?_ (aD ⋯);rw[bj ∅ e4];show jq Φ (n+2+1) _ lE=_;rw[jP (.inr (by rw[O_];decide))];exact ah ⋯ f0 (ah ⋯ f1 (ah ⋯ g2 (aD ⋯)))
theorem yg {W:List aw}(hW:wB W)(t:FT)(r:Rl)(h:∀p∈t.P,gD p.1):(ew W t r).P.length<=t.P.length+12/\(ew W t r).m+3*(ew W t r).P.length<=t.m+3*t.P.length+36/\∀p∈(ew W t r).P,gD p.1:=by
 unfold ew
 cases VW r.kind 4 with
 |true=>exact⟨by simp,by simp,λp hp=>by cases hp⟩
 |false =>
  dsimp only;have a:=Lo r (jV W r) t;have b:=vM W r;have c:=hW.len;exact⟨by lia,Tu ‹_› b c,HT r (jV W r) t (λw hw=>hW.two w (Xj.mp hw).1) h⟩
theorem Ac {Φ:b_}(Iy:yb Φ)(n:Nat)(rs:List Rl){W:List aw}(hW:wB W)(L:List Rl):∀(t:FT) (ks tl:List (Str×aO FT)),(∀r∈L,fL r.items)->OG ks tl->(∀p∈t.P,gD p.1)->t.P.length+12*L.length<=70->t.m+3*t.P.length+36*L.length<=800 ->∃c_,iH (jq Φ (n+4)) (ly nu) (cD nu) (hV rs W t ks) (L.map dQ)=some (hV rs W (L.foldl (ew W) t) c_,.next):=by
 revert Iy hW;delta Φ n rs W L;intro Iy hW;induction L with
 |nil =>
  intro t ks tl _ _ _ _ _;exact⟨ks,rfl⟩
 |cons r L ih =>
  delta r L;intro ih;intro t ks tl hL hk hp hP hm;delta t ks tl;intro hk hp hP hm;simp only[VY]at hP hm;obtain⟨σ1,e0,Dk,B3,yU,e1⟩:=Ab Iy n rs hW t r (hL r VT) ks tl hk hp (by lia) (by lia);obtain⟨a,b,c⟩:=yg hW t r hp;obtain⟨Kx,e2⟩:=ih (ew W t r) Dk B3 (λx hx=>hL x (VS _ hx)) yU c (by lia) (by lia);exact⟨Kx,fN e0 e1 e2⟩
theorem CC {aa:FT->Str->List D->Option D}{l:List Pc}(hp:∀p∈l,p.ok)(h1:l≠[])(h3:l.length<=3):iB aa yA [.str (ao (gL l))]=some (.lst ((eJ l).map aG)):=by
 have g:=qn hp h1 h3;simp only[qo,V3]at g;obtain⟨⟨⟨⟨⟨⟨⟨⟨⟨⟨g1,g2⟩,g3⟩,g4⟩,g5⟩,g6⟩,g7⟩,g8⟩,g9⟩,g10⟩,g11⟩:=g;rw[ce.mp g7];have tk:∀ts,oX ts=true->(∀k∈ts,k.ok=true)/\ts.length<=20:=λts h=>by
  unfold oX at h;rw[V3]at h;exact⟨dP h.1,by have:=V0 h.2;omega⟩
 obtain⟨a1,a2⟩:=tk _ g8;unfold B5 eJ;generalize(bU (d9 l [])).1.map sT=ts at *;generalize(bU (d9 l [])).2=G at *;clear g6 g5 g4 g3 g1;induction G with
 |nil=>exact Ap ts a1 a2
 |cons gg gs =>
  have Fy:=tk _ g10;have:=Ao (aa:=aa) ts (rX (gg::gs)) (v_ (gg::gs)) a1 a2 (λts O3=>tk ts (dP g9 ts O3)) (by have:=V0 g11;omega) Fy.1 Fy.2;exact this
theorem CE {l:List Pc}(hp:∀p∈l,p.ok)(h1:l≠[])(h3:l.length<=3):∀r∈eJ l,r.length<=1000:=by
 have g:=qn hp h1 h3;simp only[qo,V3]at g;obtain⟨⟨⟨⟨⟨⟨⟨⟨⟨⟨g1,g2⟩,g3⟩,g4⟩,g5⟩,g6⟩,g7⟩,g8⟩,g9⟩,g10⟩,g11⟩:=g;have tk:∀ts,oX ts=true->(dX ts).length<=1000:=λts h=>by
  unfold oX at h;rw[V3]at h;have:=V0 h.2;unfold dX;rw[VZ];lia
 unfold eJ;generalize(bU (d9 l [])).1.map sT=ts at *;generalize(bU (d9 l [])).2=G at *;intro r hr;clear g11 g6 g5 g4 g3 g1;cases G with
 |nil =>
  rw[WR]at hr;subst hr;exact tk _ g8
 |cons gg gs =>
  simp only[Yx,V2,YK,Wz,Wf,or_false]at hr;rcases hr with rfl |⟨q,hq,rfl⟩ |rfl
  ·exact tk _ g8
  ·exact tk q (dP g9 q hq)
  ·exact tk _ g10
theorem GY:yb (ge aN) where
 tr:=λl h=>Gx ⟨λp hp=>by replace hp:=Wz.mp hp;obtain⟨k,_,rfl⟩:=hp;exact tn k,by simpa using h.1,by rw[VZ];exact h.2.1,rfl⟩
 runs:=λl h=>by
  exact CC (λp hp=>by replace hp:=Wz.mp hp;obtain⟨k,_,rfl⟩:=hp;exact tn k) (by simpa using h.1) (by rw[VZ];exact h.2.1)
 takes:=λl h w hw=>by
  exact Al _ (CE (λp hp=>by replace hp:=Wz.mp hp;obtain⟨k,_,rfl⟩:=hp;exact tn k) (by simpa using h.1) (by rw[VZ];exact h.2.1)) (ao (d5 w)) (by show(d5 w).length<=20;have:=yc hw;lia)
inductive KE (x:Str):Expr->Prop
 |mk {p}:KE x (.Name x p)
theorem Dx {x:Str}{e:Expr}(h:KE x e):∃p,e=.Name x p:=by induction h;exact⟨_,rfl⟩
section
variable {ab:V8}{w:Wi}{hb:Wb}{mg:Str->Option VQ}{KF:Zo}
structure uu (hb:Wb)(mg:Str->Option VQ)(KF:Zo):Prop where
 set:mg fy=none
 cls:mg Av=some (.ref 121)
 K:kK hb KF
 M:wD hb
theorem Ko (H:kj hb mg)(G:uu hb mg KF){a:V4}{fd:Xp}(Df:il hb mg (aS 18).name a fd (aZ 18) (dK 18))(hn:fd.scope.names=dZ 18){rs:List Rl}(hr:∀r∈rs,fL r.items)(ml:rs.length<=5){W:List aw}(hW:wB W)
  {A:V7} {E:VQ->VP->Prop} {F:Fz} {s:VP} {vs:List VQ} {Q:VQ->VP->Prop} (am:Am A F s) (lv:Lv A 5) (bf:au hb F) (hv:al F vs [jz rs,nH W])
  (h:∀F' s' v,aA F s F' s'->(∃O,(XF ab w).At F' s'.heap v (vm W rs) O/\∀a∈O,F' a=none/\s.heap.get? a=none)->Q v s'):wpAny (model ab w) A (call (.ref a) vs) Q E s:=by
 have S:=IJ (ab:=ab) (w:=w) (X:=XF ab w) H (Js H.B G.K G.M);refine iz (X:=XF ab w) (k:=4) Df H.B nofun am lv bf hv λA' E' env aR kI re c=>?_
 rw[hn]at c;have hl:(aZ 18).length=3:=by kernel_rfl
 have T1:Lv A' 3:=re.le ⋯;have Qf:Lv A' 2:=re.le ⋯;show wpAny _ A' (execs ((aZ 18).drop 0) env) _ _ _;refine aI ⋯ ?_;refine GZ H.B G.set G.cls G.K G.M kI T1 bf c (o:=aV) ∅ nofun nofun (λy b e=>nX _ _ y b e) λF1 s1 c1 l1=>?_
 have e0:(⟨dZ 18,cz (dK 18) [jz rs,nH W]⟩:az FT).set aV (.flg true ⟨λ_=>none,[],0⟩)=hV rs W ⟨λ_=>none,[],0⟩ []:=by kernel_rfl
 rw[show(⟨dZ 18,cz (dK 18) [jz rs,nH W]⟩:az (XF ab w).T).set aV (.flg true ⟨λ_=>none,[],0⟩)=hV rs W ⟨λ_=>none,[],0⟩ []from e0]at c1;refine aI ⋯ ?_;obtain⟨c_,e1⟩:=Ac GY 1 rs hW rs ⟨λ_=>none,[],0⟩ [] [] hr (.inl ⟨rfl,rfl⟩) (λp hp=>by cases hp) (by simp only[WI];lia) (by simp only[WI];lia);have hi:ev aN (ge aN) 30 (hV rs W ⟨λ_=>none,[],0⟩ []) false (rl nu)=some (.lst (rs.map dQ)):=by kernel_rfl
 have e2:bQ aN (ge aN) 30 (jq (ge aN) 5) (hV rs W ⟨λ_=>none,[],0⟩ []) nu=some (hV rs W (vm W rs) c_,.next):=(my ∅ hi rfl).trans e1;refine ko S kI re bf (Ck S H.B G.set G.K G.M kI Qf re bf 5) E' _ F1 _ _ s1 nu .next _ e2 c1 λF2 s2 f2 c2 l2 o2=>?_
 cases o2;refine aI ⋯ (mr ∅ ?_);obtain⟨p,hp⟩:=Dx (show KE aV (rP (ak (aZ 18) 2)) by exact .mk);rw[hp];have hf:(hV rs W (vm W rs) c_).get aV=some (.flg true (vm W rs)):=by kernel_rfl
 obtain⟨g,Hd⟩:=vO c2 hf;refine bL c2.r Hd.va ?_;exact h F2 s2 _ c2.g ⟨g.O,⟨g,Hd.inv,Hd.N,Hd.P,Hd.m,rfl,rfl⟩,λa ha=>⟨(Hd.own a ha).1,(Hd.own a ha).2.2.2⟩⟩
end
noncomputable def rW:Str:=VN "standing"
noncomputable def lj:D:=.tup (gl rV)
noncomputable def sq (ns:List Int)(rs:List Rl)(t:FT)(S:List Se)(ks:List (Str×aO FT)):az FT :=
 ⟨dZ 21,(VN "script",.val (.lst (ns.map D.int)))::(VN "names",.val lj)::(VN "rules",.val (jz rs))::(VN "ways",.val (nH bG))::(aV,.flg true t)::(rW,.val (.lst (S.map ft)))::ks⟩
noncomputable def mD (S:List Se)(w:aw):List Nat:=(S.filter λs=>lM s.way w||(s.below&&lM s.way (w.take s.way.length))).map (·.flag)
noncomputable def zf (l:List Nat):Str×aO FT:=(VN "due",.val (.lst (aq l)))
noncomputable def qw:V9:=ak (aZ 21) 3
noncomputable def L_:Expr:=bR (ak (cD qw) 0)
noncomputable def FN:Expr:=gF (ak (cD qw) 1)
noncomputable def Po (w:aw)(s:Se):az FT:=⟨(ln L_).names,[(lY,.val (aM w)),(VN "one",.val (aM s.way)),(dj,.val (.int s.flag)),(VN "below",.val (.bool s.below))]⟩
section
variable {Φ:b_}
theorem y_ (a b:aw):bZ .Eq (aM a) (aM b)=some (.bool (lM a b)):=by
 show(H1 (aM a) (aM b)).map D.bool=_;rw[Ex];rfl
theorem N_ (ns:List Int)(rs:List Rl)(t:FT)(S:List Se)(hS:S.length<=5000)(w:aw)(tl:List (Str×aO FT))(dU:tl=[]\/∃l,tl=[zf l]) :
  ev aN Φ 30 (sq ns rs t S (lL w::tl)) false L_=some (.lst (aq (mD S w))):=by
 have hi:ev aN Φ 29 (sq ns rs t S (lL w::tl)) false (eU L_).iter=some (.lst (S.map ft)):=by kernel_rfl
 have HL:aq (mD S w)=(S.filter λs=>lM s.way w||(s.below&&lM s.way (w.take s.way.length))).map λs=>D.int s.flag:=by
  unfold aq mD;rw[XJ];rfl
 rw[HL];refine kZ (by exact .mk nofun) hi (its:=S.map ft) rfl ?_ (by rw[VZ];exact VX (Wj _ _) (VX (by assumption) ⋯));refine cM nofun λs hs=>⟨Po w s,by kernel_rfl,eR nofun ?_,λ_=>by kernel_rfl⟩
 have a0:ev aN Φ 27 (Po w s) false (fg (gf (eU L_) 0) 0)=bZ .Eq (aM s.way) (aM w):=by kernel_rfl
 rw[y_]at a0;have b1:ev aN Φ 26 (Po w s) false (fg (fg (gf (eU L_) 0) 1) 1)=(cx none (some ((gl s.way).length:Nat)) (aM w)).bind λd=>bZ .Eq (aM s.way) d:=by kernel_rfl
 have hc:cx none (some ((gl s.way).length:Nat)) (aM w)=some (aM (w.take s.way.length)):=by
  unfold aM gl;rw[VZ,rA,List.map_take]
 rw[hc,Wg,y_]at b1;have B:=dv (aa:=aN) (Φ:=Φ) (n:=27) (σ:=Po w s) (e:=fg (gf (eU L_) 0) 1) (a:=s.below) ∅ nofun λ_=>aH nofun b1 rfl
 exact j6 ∅ (aH nofun a0 rfl) λ_=>B
noncomputable def OY:Expr:=LG FN
noncomputable def OX:Expr:=RD FN
noncomputable def R8 (t:FT)(w:aw)(k:Nat):az FT:=⟨(ln OY).names,[(aV,.flg false t),(lY,.val (aM w)),(dj,.val (.int k))]⟩
noncomputable def R7 (l:List Nat)(k:Nat):az FT:=⟨(ln OX).names,[zf l,(dj,.val (.int k))]⟩
theorem qI {f:Fn FT}{elt:Expr}{g:V6}{σi:az FT}{b:Nat->Bool}(kX:ja σi g.target=true)(Pd:g.ifs=[])
  (h:∀k∈[0,1],∃σ',bB σi g.target (.int (k:Nat))=some σ'/\f σ' false elt=some (.bool (b k))):comp f elt [g] σi (aq [0,1])=some [.bool (b 0),.bool (b 1)]:=by
 have:=cM (f:=f) (elt:=elt) (gg:=g) (σi:=σi) (L:=[0,1]) (enc:=λ(k:Nat)=>D.int (k:Int)) (p:=λ_=>true) (g:=λk=>.bool (b k)) kX λk hk=>by
  obtain⟨σ',e1,e2⟩:=h k hk;exact⟨σ',e1,iv Pd,λ_=>e2⟩
 exact this
theorem DN (k:Nat)(l:List Nat):bZ .In (.int (k:Int)) (.lst (aq l))=some (.bool (et k l)):=by
 show((((D.int (k:Int)).toPy pz).bind λ_=>DO (.int (k:Int)) (aq l))).map D.bool=_;rw[yP];rfl
theorem Lk (ns:List Int)(rs:List Rl)(t:FT)(S:List Se)(w:aw)(hw:w.length<=3)(l:List Nat)(h:∀k∈[0,1],nf t.N (k:Nat) [] w=et k l) :
  ev aN Φ 30 (sq ns rs t S [lL w,zf l]) true FN=some (.bool false):=by
 have ix:ev aN Φ 27 (sq ns rs t S [lL w,zf l]) false (eU OY).iter=some (.tup (aq [0,1])):=by kernel_rfl
 have iy:ev aN Φ 27 (sq ns rs t S [lL w,zf l]) false (eU OX).iter=some (.tup (aq [0,1])):=by kernel_rfl
 have hx:ev aN Φ 28 (sq ns rs t S [lL w,zf l]) false OY=some (.lst [.bool (nf t.N ((0:Nat):Int) [] w),.bool (nf t.N ((1:Nat):Int) [] w)]):=by
  refine kZ (by exact .mk nofun) ix (its:=aq [0,1]) rfl (qI (b:=λk=>nf t.N (k:Nat) [] w) nofun nofun λk hk=>⟨R8 t w k,by kernel_rfl,?_⟩) (by simp);have:ev aN Φ 27 (R8 t w k) false (uy OY)=aN t Qc [aM w,.int k]:=by kernel_rfl
  show ev aN Φ 27 _ _ _=_;rw[this,CA t w k hw]
 have hy:ev aN Φ 28 (sq ns rs t S [lL w,zf l]) false OX=some (.lst [.bool (et 0 l),.bool (et 1 l)]):=by
  refine kZ (by exact .mk nofun) iy (its:=aq [0,1]) rfl (qI (b:=λk=>et k l) nofun nofun λk hk=>⟨R7 l k,by kernel_rfl,?_⟩) (by simp);have:ev aN Φ 27 (R7 l k) false (uy OX)=bZ .In (.int (k:Int)) (.lst (aq l)):=by kernel_rfl
  show ev aN Φ 27 _ _ _=_;rw[this,DN]
 refine aH nofun (nx (d:=.bool false) ∅ hx hy ?_) rfl;rw[h 0 (by simp),h 1 (by simp),show RE FN=.NotEq by kernel_rfl]
 cases et 0 l<;>cases et 1 l<;>rfl
noncomputable def OC (ks tl:List (Str×aO FT)):Prop:=(ks=[]/\tl=[])\/∃w l,ks=[lL w,zf l]/\tl=[zf l]
theorem Lj (n:Nat)(ns:List Int)(rs:List Rl)(t:FT)(S:List Se)(hS:S.length<=5000)(w:aw)(hw:w.length<=3)(ks tl:List (Str×aO FT))(hk:OC ks tl)(h:∀k∈[0,1],nf t.N (k:Nat) [] w=et k (mD S w)) :
  ∃σ1,bB (sq ns rs t S ks) (ly qw) (aM w)=some σ1/\aW aN Φ 30 (n+2) σ1 (cD qw)=some (sq ns rs t S [lL w,zf (mD S w)],.next):=by
 have dU:tl=[]\/∃l,tl=[zf l]:=by
  rcases hk with⟨_,rfl⟩ |⟨_,l,_,rfl⟩
  ·exact .inl rfl
  ·exact .inr ⟨l,rfl⟩
 refine⟨sq ns rs t S (lL w::tl),by clear dU;rcases hk with⟨rfl,rfl⟩ |⟨_,l,rfl,rfl⟩<;>kernel_rfl,?_⟩;have hl:(cD qw).length=2:=by kernel_rfl
 have f0:bQ aN Φ 30 (aW aN Φ 30 (n+1)) (sq ns rs t S (lL w::tl)) (ak (cD qw) 0)=some (sq ns rs t S [lL w,zf (mD S w)],.next):=by
  refine(v7 (by exact .mk nofun) (N_ ns rs t S hS w tl dU)).trans ?_;exact Ar (t:=tl) dU nofun λ_=>by kernel_rfl
 rw[aC];refine ah ⋯ f0 (ah ⋯ ?_ (aD ⋯));rw[bj ∅ (Lk ns rs t S w hw _ h)];show aW aN Φ 30 (n+1) _ (bT (ak (cD qw) 1))=_;have VH:(bT (ak (cD qw) 1)).length=0:=by kernel_rfl
 rw[aC];exact aD ⋯
theorem Ll (n:Nat)(ns:List Int)(rs:List Rl)(t:FT)(S:List Se)(hS:S.length<=5000)(L:List aw):∀(ks tl:List (Str×aO FT)),(∀w∈L,w.length<=3/\∀k∈[0,1],nf t.N (k:Nat) [] w=et k (mD S w))->OC ks tl ->∃c_,iH (aW aN Φ 30 (n+2)) (ly qw) (cD qw) (sq ns rs t S ks) (L.map aM)=some (sq ns rs t S c_,.next):=by
 revert hS;delta Φ n ns rs t S L;intro hS;induction L with
 |nil =>
  intro ks tl _ _;exact⟨ks,rfl⟩
 |cons w L ih =>
  intro ks tl hL hk;obtain⟨h1,h2⟩:=hL w VT;obtain⟨σ1,e0,e1⟩:=Lj (Φ:=Φ) n ns rs t S hS w h1 ks tl hk h2;obtain⟨c_,e2⟩:=ih [lL w,zf (mD S w)] [zf (mD S w)] (λx hx=>hL x (VS _ hx)) (.inr ⟨w,_,rfl,rfl⟩);exact⟨c_,fN e0 e1 e2⟩
end
inductive yH (a b f g x y:Str):V9->Prop
 |mk {pa pb kk tp pf px py pc u v pg pu pv pd k2 vp pos}:yH a b f g x y (.Assign [.Tuple [.Name a pa,.Name b pb] kk tp] (.Tuple [.Call (.Name f pf) [.Name x px,.Name y py] [] pc,.Call (.Name g pg) [.Name u pu,.Name v pv] [] pd] k2 vp) pos)
theorem AD {a b f g x y:Str}{st:V9}(h:yH a b f g x y st):∃pa pb kk tp pf px py pc u v pg pu pv pd k2 vp pos,st=.Assign [.Tuple [.Name a pa,.Name b pb] kk tp] (.Tuple [.Call (.Name f pf) [.Name x px,.Name y py] [] pc,.Call (.Name g pg) [.Name u pu,.Name v pv] [] pd] k2 vp) pos:=by induction h;exact⟨_,_,_,_,_,_,_,_,_,_,_,_,_,_,_,_,_,rfl⟩
section
variable {ab:V8}{w:Wi}{Φ:b_}{hb:Wb}{mg:Str->Option VQ}{k:Nat}{A:V7}{E:VQ->VP->Prop}{af F F1:Fz}{ae s s1:VP}{env:Yq}{K:V4->Xi->Prop}{KF:Zo}{σ:az (XF ab w).T}
theorem Hb (S:gy ab w (XF ab w) Φ hb k)(B:dT hb mg)(ag:Am A af ae)(lv:Lv A 5)(ux:Lv A k)(ai:au hb af)(c:cE (XF ab w) af ae env K F σ s){st:V9}{a b f g x y:Str}{ad:V4}{ob:Xi}{fd:Xp}{d1 d2 d3:D}{t:FT}{Q:YF->VP->Prop}(hs:yH a b f g x y st)
  (nU:(gT σ.nm a||gT σ.nm b)=true) (Md:bW σ.nm a=true) (Mc:bW σ.nm b=true) (fM:∀y b,σ.get y=some b->∃d,b=.val d) (hg:js σ.nm f=true) (hx:σ.get x=some (.val d1)) (hy:σ.get y=some (.val d2)) (h3:ev aN Φ 30 σ false (wF st 1)=some d3)
  (hf:mg f=some (.ref ad)) (ed:hb.get? ad=some ob) (hd:ob.data=.func fd)
  (jh:∀{E:VQ->VP->Prop} {F:Fz} {s:VP} {vs:List VQ} {Q:VQ->VP->Prop},Am A F s->au hb F->al F vs [d1,d2] ->(∀F' s' v,aA F s F' s'->(∃O,(XF ab w).At F' s'.heap v t O/\∀a∈O,F' a=none/\s.heap.get? a=none)->Q v s')->wpAny (model ab w) A (call (.ref ad) vs) Q E s)
  (h:∀F1 s1,cE (XF ab w) af ae env K F1 ((σ.set a (.flg true t)).set b (.val d3)) s1->F.le F1->Q .next s1):wpAny (model ab w) A (exec st env) Q E s:=by
 revert S B ag lv ux ai c hs nU Md Mc fM hg hx hy h3 hf ed hd jh h;delta ab w Φ hb mg k A E af F ae s env K σ st a b f g x y ad ob fd d1 d2 d3 t Q;intro S B ag lv ux ai c hs nU Md Mc fM hg hx hy h3 hf ed hd jh h;obtain⟨pa,pb,kk,tp,pf,px,py,pc,u,v,pg,pu,pv,pd,k2,vp,pos,rfl⟩:=AD hs;delta pa pb kk tp pf px py pc u v pg pu pv pd k2 vp pos;intro hs h3;have h3:ev (XF ab w).aa Φ 30 σ false (.Call (.Name g pg) [.Name u pu,.Name v pv] [] pd)=some d3:=h3;refine Assign_Tuple (wpAny_Tuple (dk rfl rfl ?_)) (iW ..) (lO c.r rfl rfl nU);have am:=ag.at c;have bf:=ai.grow c.g.fle;refine qm (fv:=.ref ad) (P:=λh=>h.get? ad=some ob) rfl rfl (λh hq=>⟨.frame,.inl rfl,d6 hq hd⟩) ?_;refine dn B am bf c.r hg (.inl hf) ⟨rfl,?_⟩;refine dk rfl rfl (cy am c.r hx ?_);exists v1,F1,s1;intro g1 uz;have c1:=c.grow g1;refine cy (ag.at c1) c1.r hy ?_;exists v2,F2,s2;intro g2 hZ;have c2:=c1.grow g2;have ox:=ag.at c2;have Ig:=ai.grow c2.g.fle;refine⟨ox.fz _ _ (Ig _ _ ed),?_⟩;refine jh ox Ig (.cons (uz.mono g2.fle) (.cons hZ .nil)) ?_;exists F3,s3,vf;intro g3 oo;obtain⟨O,wJ⟩:1:=oo;have c3:=c2.grow g3;refine(S 30).1 A E F3 s3 env ae.heap σ _ _ _ h3 (ag.at c3) ux (ai.grow c3.g.fle) c3.r ?_;exists v4,F4,s4;intro g4 NA;have c4:=c3.grow g4;refine⟨(by show 2<=sizeLine;decide),?_⟩;have G5:aA F4 s4 F4 { s4 with heap:=s4.heap.push { cls:=.type "tuple",data:=.seq #[vf,v4] },toks:=s4.toks }:=aA.push0 c4.g.fz _ _;have c5:=c4.grow G5;have Tf:=ag.at c5;refine wpAny_assign_Tuple (items:=#[vf,v4]) Tf.hh ⟨_,Wc _ rfl,rfl,_,rfl⟩ rfl rfl λh' he=>?_
 delta h';intro he;have keep:∀b o,(s4.heap.push { cls:=.type "tuple",data:=.seq #[vf,v4] }).get? b=some o->h'.get? b=some o:=λb o eb=>he b o (XI (Wy eb)) eb
 have G6:=aA.keeps Tf.fz keep s4.toks;have c6:=c5.grow G6;have GG:=g4.trans (G5.trans G6);have t3:=c3.r.tab;have HP:(XF ab w).At F4 h' vf t O:=(XF ab w).loc wJ.1 GG.fle λa ha=>by
  obtain⟨o,cn⟩:=(XF ab w).alive wJ.1 a ha;rw[cn.1];exact GG.keepD t3 cn.1 (fS cn.2)
 have AY:jw (XF ab w) ae.heap F4 env σ h' vf (.flg true t):=by
  refine⟨O,HP,?_⟩;exists a;intro ha;obtain⟨q1,q2⟩:=wJ.2 a ha;obtain⟨o,ho,hq⟩:1:=(XF ab w).alive wJ.1 a ha;refine⟨dh GG q1 ho,?_,λy cc l e=>?_,λ_=>c2.g.noneAt q2⟩
  ·clear ha q1 ho;rintro rfl
   obtain⟨m,o,es,ep,cn⟩:=c2.r.ns;exact bo q2 cn.1
  ·subst e
   obtain⟨_,v,o,cn⟩:=c2.r.cells y a l;exact bo q2 cn.1
 show wpAny _ _ (holding _ (assign (.Name a pa) env vf) >>=λ_=>assignInOrder ((assignEach [.Name b pb] env).map (·.2)) [v4]) _ E _;refine VO (Wq (XU ?_));refine fx c6.r Md (bd:=aO.flg true t) AY (λ_ e=>by clear S c nU Md Mc fM hg hx hy jh h c1 c2 wJ c3 c4 c5 c6 HP AY;cases e) (λ_ e=>by clear S c nU Md Mc fM hg hx hy jh h c1 c2 wJ c3 c4 c5 c6 HP AY;cases e) (λm t _ y l e=>by obtain⟨d,q⟩:=fM y _ e;clear S c nU Md Mc fM hg hx hy jh h c1 c2 wJ c3 c4 c5 c6 HP AY e;cases q) ?_;exists h7,tk,b7,VC;intro gG NI oj QM b0 bF r';show wpAny _ _ (holding _ (assign (.Name b pb) env v4) >>=λ_=>assignInOrder [] []) _ E _;refine VO (Wq (XU ?_));refine gN (c6.assign (tk:=tk) (cq.same NI oj QM) (λa o q=>QM.extBut a o (by clear gG NI QM b0;rintro rfl;exact bo bF q) (c6.g.fz a o q)) r') Mc NA λs8 c8=>?_
 exact VR (h F4 s8 c8 (Fz.le_trans (Fz.le_trans g1.fle g2.fle) (Fz.le_trans g3.fle g4.fle)))
end
inductive IV (nm:bc):V9->Prop
 |mk {a pa b pb kk tp v1 v2 k2 vp q}:(dB nm a&&dB nm b&&VW pb.line pa.line&&!(d4 a b)&&!(foldedForSure 8 v1&&foldedForSure 8 v2)&&!(constantsAlone 8 v1&&constantsAlone 8 v2))=false->(gT nm a||gT nm b)=true->IV nm (.Assign [.Tuple [.Name a pa,.Name b pb] kk tp] (.Tuple [v1,v2] k2 vp) q)
noncomputable def TG:V9->List Expr | .Assign ts _ _=>PD (ts.getD 0 zE) |_=>[]
set_option tactic.hygienic true in
theorem Lw {T:Type}{aa:T->Str->List D->Option D}{Φ:b_}{N:Nat}{σ σ1:az T}{rec:az T->List V9->Rs T}{st:V9}{d1 d2:D}(hs:IV σ.nm st)(h1:ev aa Φ N σ false (wF st 0)=some d1)(h2:ev aa Φ N σ false (wF st 1)=some d2)(hb:cw σ (TG st) [d1,d2]=some σ1):bQ aa Φ N rec σ st=some (σ1,.next):=by
 obtain⟨hs,Fk⟩:=hs;rename_i a pa b pb kk tp v1 v2 k2 vp q;have h1:ev aa Φ N σ false v1=_:=h1;have h2:ev aa Φ N σ false v2=_:=h2;have hb:cw σ [.Name a pa,.Name b pb] [d1,d2]=_:=hb;refine bE (f:=λσ=>bV aa Φ N σ (.Assign [.Tuple [.Name a pa,.Name b pb] kk tp] (.Tuple [v1,v2] k2 vp) q)) ?_;show a_ _ _ (dB σ.nm a&&dB σ.nm b&&VW pb.line pa.line&&!(d4 a b)&&!(foldedForSure 8 v1&&foldedForSure 8 v2)&&!(constantsAlone 8 v1&&constantsAlone 8 v2))=_;rw[hs];exact lx Fk ((dS h1).trans ((dS h2).trans ((bO _ _).trans ((bO _ _).trans (w6 hb)))))
noncomputable def uH:List aw:=(bG.drop 3).map (·++[[97]])
section
variable {ab:V8}{w:Wi}{hb:Wb}{mg:Str->Option VQ}{KF:Zo}
theorem AC (r:Nat):(eG r).length=1+r % 3:=by unfold eG;rw[VZ,WU]
theorem uZ (ns:List Int):∀r∈eK ns,fL r.items:=by
 intro r hr;replace hr:=Wz.mp hr;obtain⟨x,_,rfl⟩:=hr;show fL (eG _);have hl:=AC (og x / 10);refine⟨λe=>by rw[e]at hl;simp at hl;omega,by lia,λk hk=>?_⟩;obtain⟨j,_,rfl⟩:=Wz.mp hk;exact Zh _ ⋯
theorem Aa (ns:List Int):(eK ns).length<=5:=by
 unfold eK;rw[VZ,Yw];exact Za _ _
theorem iu:wB bG where
 ok:=by decide +kernel
 two:=by
  exists w;intro hw;simp only[bG,rV,Wu,YH,W4,List.flatMap_nil,Yx,YL,WH,V2,Wf,or_false]at hw;rcases hw with rfl |rfl |rfl |rfl |rfl |rfl |rfl |rfl |rfl |rfl |rfl |rfl<;>first |exact .inl ⟨_,rfl⟩ |exact .inr ⟨_,_,rfl⟩
 len:=by decide +kernel
theorem yr {f:Str}{i:Nat}{ds:List D}{d:D}(hn:d4 (aS i).name (aS 3).name=false)(h:iB aN (aS i).name ds=some d):ge aN (aS i).name ds=some d:=by
 unfold ge;rw[hn];exact h
theorem zC (rs:List Rl)(hr:rs.length<=5)(W:List aw)(hW:W.length<=100):(cj rs W).length<=5000:=by
 unfold cj;refine VX (qA _ 100 _ λk _=>o9 rs W hW k) ?_;rw[WU];lia
theorem Kt (H:kj hb mg)(G:uu hb mg KF){aL a:V4}{Rv fd:Xp}(Mq:il hb mg (aS 18).name aL Rv (aZ 18) (dK 18))(QT:Rv.scope.names=dZ 18)(Df:il hb mg (aS 21).name a fd (aZ 21) (dK 21))(hn:fd.scope.names=dZ 21)(ns:List Int)
  (Q0:∀w∈bG++uH,∀k∈[0,1],nf (vm bG (eK ns)).N (k:Nat) [] w=et k (mD (cj (eK ns) bG) w))
  {A:V7} {E:VQ->VP->Prop} {F:Fz} {s:VP} {vs:List VQ} {Q:VQ->VP->Prop} (am:Am A F s) (lv:Lv A 6) (bf:au hb F) (hv:al F vs [.lst (ns.map D.int)]) (h:Rt F s (.bool true) Q):wpAny (model ab w) A (call (.ref a) vs) Q E s:=by
 have S:=IJ (ab:=ab) (w:=w) (X:=XF ab w) H (Js H.B G.K G.M);refine iz (X:=XF ab w) (k:=5) Df H.B nofun am lv bf hv λA' E' env aR kI Qe c=>?_
 rw[hn]at c;have Kg:Lv A' 4:=Qe.le ⋯;have hl:(aZ 21).length=5:=by kernel_rfl
 have hr:=uZ ns;have ml:=Aa ns;generalize hrs:eK ns=rs at *;have TU:ge aN (aS 13).name [.lst (ns.map D.int)]=some (jz rs):=by
  rw[<- hrs];exact yr (f:=(aS 13).name) nofun (Aq ns)
 have TS:ge aN (aS 20).name [jz rs,nH bG]=some (.lst ((cj rs bG).map ft)) :=
  yr (f:=(aS 20).name) nofun (An rs (λr hm=>⟨(hr r hm).1,(hr r hm).2.2⟩) (VX (by assumption) ⋯) bG iu.ok ⋯)
 have UV:=zC rs ml bG ⋯;generalize cj rs bG=St at *;have e0:bQ aN (ge aN) 30 (aW aN (ge aN) 30 1) (⟨dZ 21,[(VN "script",.val (.lst (ns.map D.int)))]⟩:az FT) (ak (aZ 21) 0)=some (⟨dZ 21,[(VN "script",.val (.lst (ns.map D.int))),(VN "names",.val lj),(VN "rules",.val (jz rs))]⟩,.next):=by
  refine Lw (d1:=lj) (d2:=jz rs) (by exact .mk nofun nofun) nofun (mB (x:=.lst (ns.map D.int)) (by exact .mk rfl) nofun nofun nofun ?_) nofun;rw[show oO (wF (ak (aZ 21) 0) 1)=(aS 13).name by kernel_rfl];exact TU
 have e1:bQ aN (ge aN) 30 (aW aN (ge aN) 30 1) (⟨dZ 21,[(VN "script",.val (.lst (ns.map D.int))),(VN "names",.val lj),(VN "rules",.val (jz rs))]⟩:az FT) (ak (aZ 21) 1)=some (⟨dZ 21,[(VN "script",.val (.lst (ns.map D.int))),(VN "names",.val lj),(VN "rules",.val (jz rs)),(VN "ways",.val (nH bG))]⟩,.next):=by
  rw[fY (d:=nH bG) (by exact .mk rfl) nofun nofun];kernel_rfl
 show wpAny _ A' (execs ((aZ 21).drop 0) env) _ _ _;refine aI ⋯ (ko S kI Kg bf (km S kI Kg bf 1) E' _ F _ _ aR _ .next _ e0 c λF1 s1 f1 c1 l1 o1=>?_)
 cases o1;refine aI ⋯ (ko S kI Kg bf (km S kI Kg bf 1) E' _ F1 _ _ s1 _ .next _ e1 c1 λF2 s2 f2 c2 l2 o2=>?_)
 cases o2;obtain⟨ob,ed,hd⟩:=Mq.obj;have h3:ev aN (ge aN) 30 (⟨dZ 21,[(VN "script",.val (.lst (ns.map D.int))),(VN "names",.val lj),(VN "rules",.val (jz rs)),(VN "ways",.val (nH bG))]⟩:az FT) false (wF (ak (aZ 21) 2) 1)=some (.lst (St.map ft)):=by
  refine mA (x:=jz rs) (y:=nH bG) (by exact .mk rfl) nofun nofun nofun nofun ?_;rw[show oO (wF (ak (aZ 21) 2) 1)=(aS 20).name by kernel_rfl];exact TS
 refine aI ⋯ (Hb (x:=VN "rules") (y:=VN "ways") (d1:=jz rs) (d2:=nH bG) (t:=vm bG rs) S H.B kI Qe Kg bf c2 (show yH aV rW (VN "_law_led") (VN "_law_standing") _ _ (ak (aZ 21) 2) by exact .mk) nofun nofun nofun ?_ nofun nofun nofun h3 Mq.at_ ed hd
  (λam bf hv h=>Ko H G Mq QT hr ml iu am Qe bf hv h) λF3 s3 c3 l3=>?_)
 ·intro y b e
  have e:dD [(VN "script",aO.val (.lst (ns.map D.int))),(VN "names",.val lj),(VN "rules",.val (jz rs)),(VN "ways",.val (nH bG))] y=some b:=e;exact D8 e (λ_ q=>⟨_,q.symm⟩) λe=>D8 e (λ_ q=>⟨_,q.symm⟩) λe=>D8 e (λ_ q=>⟨_,q.symm⟩) λe=>D8 e (λ_ q=>⟨_,q.symm⟩) bg
 ·generalize vm bG rs=t at *
  have c3:cE (XF ab w) F s env (λ_ _=>False) F3 (sq ns rs t St []) s3:=c3;have hi:ev aN (ge aN) 30 (sq ns rs t St []) false (rl qw)=some (.lst ((bG++uH).map aM)):=by kernel_rfl
  obtain⟨c_,e3⟩:=Ll (Φ:=ge aN) 1 ns rs t St UV (bG++uH) [] [] (λw hw=>⟨(show ∀w∈bG++uH,w.length<=3 by decide +kernel) w hw,Q0 w hw⟩) (.inl ⟨rfl,rfl⟩);have e3:bQ aN (ge aN) 30 (aW aN (ge aN) 30 3) (sq ns rs t St []) (ak (aZ 21) 3)=some (sq ns rs t St c_,.next):=(my ∅ hi rfl).trans e3;have e4:bQ aN (ge aN) 30 (aW aN (ge aN) 30 3) (sq ns rs t St c_) (ak (aZ 21) 4)=some (sq ns rs t St c_,.ret (.bool true)):=j1 ∅ nofun;have e5:=ah (l:=aZ 21) (i:=3) ⋯ e3 (bS (i:=4) ⋯ e4);refine ta (ko S kI Kg bf (km S kI Kg bf 3)) E' _ F3 _ _ s3 _ (.ret (.bool true)) _ e5 c3 λF5 s5 f5 c5 l5 o5=>?_
  cases o5 with
  |ret hv=>exact h _ F5 s5 c5.g hv
end
section
variable {rs:List Rl}{r:Rl}{W:List aw}
theorem dp {k:Nat}(h:k<rs.length):aB (rs++[r]) k=aB rs k:=by
 unfold aB;rw[List.getD_eq_getElem?_getD,List.getD_eq_getElem?_getD,Y8 h]
theorem dq:aB (rs++[r]) rs.length=r:=by
 unfold aB;simp
theorem lf {a n:Nat}(h:a<=n):cO a (n+1)=cO a n++[n]:=by
 unfold cO;rw[show n+1 - a=(n - a)+1 from Nat.succ_sub ‹_›,List.range_succ,WZ,Wu,YH,show a+(n - a)=n from Nat.add_sub_of_le ‹_›]
theorem iq {α:Type}{p q:α->Bool}{l:List α}:(∀x∈l,p x=q x)->l.filter p=l.filter q:=by
 induction l with
 |nil =>
  intro _;exact rfl
 |cons x l ih =>
  intro h;rw[Xr,Xr,h x VT,ih λy hy=>h y (VS _ hy)]
theorem qB {α β:Type}{f g:α->List β}{l:List α}:(∀x∈l,f x=g x)->l.flatMap f=l.flatMap g:=by
 induction l with
 |nil =>
  intro _;exact rfl
 |cons x l ih =>
  intro h;rw[W4,W4,h x VT,ih λy hy=>h y (VS _ hy)]
theorem iK {k:Nat}(h:k<rs.length):dN (rs++[r]) k=dN rs k++(if(VW (aB rs k).kind 3&&VW r.kind 4)=true then[rs.length]else[]):=by
 unfold dN;rw[V1,We,lf (XZ h),List.filter_append,dp h];congr 1
 ·refine iq λj hj=>?_
  unfold zj;rw[dp (fA hj).2]
 ·rw[Xr,List.filter_nil]
  unfold zj;rw[dq];have:VW rs.length k=false:=by
   cases e:VW rs.length k with
   |false=>rfl
   |true=>have:=V_ e;lia
  rw[this,Bool.and_false,Bool.false_or]
theorem lH:dN (rs++[r]) rs.length=if XW r.kind 2=true then[rs.length]else[]:=by
 unfold dN;have e0:cO rs.length rs.length=[]:=by unfold cO;simp
 rw[V1,We,lf (WD _),e0,YL,Xr,List.filter_nil,dq];unfold zj;rw[dq];have:(VW r.kind 3&&VW r.kind 4)=false:=by
  cases e:VW r.kind 3 with
  |false=>rfl
  |true=>rw[V_ e];rfl
 have b:VW rs.length rs.length=true:=by simp
 rw[this,b,Bool.or_false,Y_]
theorem GI {a:Nat}(h:a<=rs.length):jo (rs++[r]) W a=jo rs W a++(if VW r.kind 2=true then eC W r else[]):=by
 unfold jo;rw[V1,We,lf h,List.filter_append,List.flatMap_append];congr 1
 ·have e:((cO a rs.length).filter λj=>VW (aB (rs++[r]) j).kind 2)=(cO a rs.length).filter λj=>VW (aB rs j).kind 2 :=
   iq λj hj=>by rw[dp (fA hj).2]
  rw[e];refine qB λj hj=>?_
  rw[dp (fA (Xj.mp hj).1).2]
 ·rw[Xr,List.filter_nil,dq]
  cases VW r.kind 2 with
  |true=>simp[dq]
  |false=>rfl
theorem u9:jo rs W rs.length=[]:=by
 unfold jo cO;simp
theorem wy {w:aw}{l:List aw}:uq w l=true↔w∈l:=by
 induction l with
 |nil =>
  exact⟨λh=>oY h.symm,λh=>nomatch h⟩
 |cons v l ih =>
  rw[show uq w (v::l)=(lM v w||uq w l)from rfl,Wt,cZ,ih,V2,eq_comm]
theorem vT {l:List aw}{w:aw}:nZ l w=true↔w∉l/\w.take 1∉l:=by
 unfold nZ;rw[V3,Wv,Wv,<- Y6,<- Y6,wy,wy]
theorem i7 {s:Se}:s∈cj rs W↔∃k,k<rs.length/\s∈gb rs W k:=by
 unfold cj;rw[List.mem_flatMap];exact⟨Exists.imp λ_ z=>⟨WN.mp z.1,z.2⟩,Exists.imp λ_ z=>⟨WN.mpr z.1,z.2⟩⟩
theorem eL {s:Se}{k:Nat}:s∈gb rs W k↔∃a,(dN rs k).head?=some a/\s.way∈eC W (aB rs k)/\nZ (jo rs W a) s.way=true/\s.flag=(aB rs k).flag/\s.below=VW (aB rs k).kind 1:=by
 unfold gb
 cases dN rs k with
 |nil=>simp
 |cons a l =>
  simp only[List.take_succ_cons,List.take_zero,W4,List.flatMap_nil,WH,Wz,Xj,List.head?_cons,Yl];constructor
  ·rintro⟨w,⟨h1,h2⟩,rfl⟩
   exact⟨a,rfl,h1,h2,rfl,rfl⟩
  ·rintro⟨b,rfl,h1,h2,h3,h4⟩
   refine⟨s.way,⟨h1,h2⟩,?_⟩;clear h1 h2;induction s;simp only at h3 h4;rw[h3,h4]
noncomputable def n8 (rs:List Rl)(W:List aw)(v:aw)(f:Nat):Prop:=∃k,k<rs.length/\VW (aB rs k).kind 3=true/\dN rs k=[]/\v∈eC W (aB rs k)/\f=(aB rs k).flag
theorem jK {v:aw}{f:Nat}:n8 (rs++[r]) W v f↔(VW r.kind 4=false/\n8 rs W v f)\/(VW r.kind 3=true/\v∈eC W r/\f=r.flag):=by
 unfold n8;rw[V1,We];constructor
 ·rintro⟨k,hk,h1,h2,h3,h4⟩
  by_cases q:k<rs.length
  ·rw[dp q]at h1 h3 h4
   rw[iK q,List.append_eq_nil_iff,h1,X5]at h2;refine .inl ⟨?_,k,q,h1,h2.1,h3,h4⟩
   cases e:VW r.kind 4 with
   |false=>rfl
   |true=>rw[e,if_pos rfl]at h2;clear hk h1 h3 h4 q;cases h2.2
  ·have:k=rs.length:=by lia
   clear hk h2 q;subst this;rw[dq]at h1 h3 h4;exact .inr ⟨h1,h3,h4⟩
 ·rintro(⟨h0,k,q,h1,h2,h3,h4⟩ |⟨h1,h3,h4⟩)
  ·refine⟨k,by lia,?_⟩
   rw[dp q,iK q,h0,Bool.and_false,if_neg ⋯,WH];exact⟨h1,h2,h3,h4⟩
  ·refine⟨rs.length,WE _,?_⟩
   rw[dq,lH,if_neg (by rw[V_ h1];decide)];exact⟨h1,rfl,h3,h4⟩
theorem dF {s:Se}:s∈cj (rs++[r]) W↔(s∈cj rs W/\(VW r.kind 2=true->s.way∉eC W r/\s.way.take 1∉eC W r))\/(VW r.kind 4=true/\s.below=false/\n8 rs W s.way s.flag) \/(XW r.kind 2=true/\s.way∈eC W r/\s.flag=r.flag/\s.below=VW r.kind 1):=by
 delta rs r W s;have nT:∀a,a<=rs.length->(nZ (jo (rs++[r]) W a) s.way=true↔nZ (jo rs W a) s.way=true/\(VW r.kind 2=true->s.way∉eC W r/\s.way.take 1∉eC W r)):=λa ha=>by
  delta a;intro ha;rw[GI ha,vT,vT]
  cases VW r.kind 2 with
  |true=>simp only[if_true,YK,not_or,true_implies];exact and_and_and_comm
  |false=>simp
 rw[i7,V1,We];constructor
 ·rintro⟨k,hk,hs⟩
  delta k;intro hk hs;obtain⟨a,h1,h2,h3,h4,h5⟩:=eL.mp hs;delta a;intro h1 h3;by_cases q:k<rs.length
  ·rw[dp q]at h2 h4 h5
   rw[iK q]at h1
   cases hc:dN rs k with
   |cons b l =>
    delta b l;intro hc;rw[hc]at h1;clear hk hs;cases h1;have ha:a<rs.length:=qK (k:=k) (by rw[hc];simp);have R1:=(nT a (XZ ha)).mp h3;exact .inl ⟨i7.mpr ⟨k,q,eL.mpr ⟨a,by rw[hc];rfl,h2,R1.1,h4,h5⟩⟩,R1.2⟩
   |nil =>
    rw[hc,YL]at h1;split at h1
    ·rename_i q2
     rw[V3]at q2;refine .inr (.inl ⟨q2.2,?_,k,q,q2.1,hc,h2,h4⟩);rw[h5,V_ q2.1];rfl
    ·exact bg h1
  ·have:k=rs.length:=by lia
   clear hk hs q;subst this;rw[dq]at h2 h4 h5;rw[lH]at h1;split at h1
   ·rename_i q2
    exact .inr (.inr ⟨q2,h2,h4,h5⟩)
   ·exact bg h1
 ·rintro(⟨h1,h2⟩ |⟨h1,h2,k,q,h3,h4,h5,h6⟩ |⟨h1,h2,h3,h4⟩)
  ·obtain⟨k,q,hs⟩:1:=i7.mp h1
   obtain⟨a,g1,g2,g3,g4,g5⟩:=eL.mp hs;delta a;intro g1 g3;refine⟨k,by lia,eL.mpr ⟨a,?_,?_⟩⟩
   ·rw[iK q]
    cases hc:dN rs k with
    |nil=>rw[hc]at g1;exact bg g1
    |cons b l=>rw[hc]at g1;exact g1
   ·have ha:a<rs.length:=qK (k:=k) (List.mem_of_mem_head? g1)
    rw[dp q];exact⟨g2,(nT a (XZ ha)).mpr ⟨g3,h2⟩,g4,g5⟩
  ·delta k;intro q h3 h4 h5 h6;refine⟨k,by lia,eL.mpr ⟨rs.length,?_,?_⟩⟩
   ·rw[iK q,h4,h3,h1];rfl
   ·rw[dp q,nT _ (WD _),u9]
    refine⟨h5,⟨rfl,λe=>?_⟩,h6,?_⟩
    ·rw[V_ h1]at e;exact eV e
    ·rw[h2,V_ h3];rfl
  ·refine⟨rs.length,WE _,eL.mpr ⟨rs.length,?_,?_⟩⟩
   ·rw[lH,if_pos h1];rfl
   ·rw[dq,nT _ (WD _),u9]
    refine⟨h2,⟨rfl,λe=>?_⟩,h3,h4⟩;rw[V_ e]at h1;exact eV h1
end
theorem sI (M:NW)(u v:aw)(rc:Bool)(i:Int):(lI M u rc i v).isSome=(M v).isSome:=by
 unfold lI;by_cases h:v=u
 ·subst h
  rw[if_pos rfl,Option.isSome_map]
 ·rw[if_neg h]
theorem wA (M:NW)(u v:aw)(rc:Bool)(i:Int)(h:(M u).isSome=true):bw (lI M u rc i) v=if v=u then(if rc then((bw M u).1,λk=>(bw M u).2 k||decide (k=i))else(λk=>(bw M u).1 k||decide (k=i),(bw M u).2))else bw M v:=by
 by_cases e:v=u
 ·subst e
  rw[if_pos rfl];show(lI M v rc i v).getD _=_;unfold lI;rw[if_pos rfl];obtain⟨p,hp⟩:=Yp.mp h;unfold bw;rw[hp];induction rc<;>rfl
 ·rw[if_neg e]
  show(lI M u rc i v).getD _=_;unfold lI;rw[if_neg e];rfl
theorem gW (N:NW)(u v:aw):(eO N u v).isSome=((N v).isSome||decide (v=u)):=by
 by_cases h:v=u
 ·subst h
  rw[j8];simp
 ·rw[qG N h];simp[h]
theorem uX (N:NW){way:aw}(h:gD way)(rc:Bool)(i:Int)(v:aw):bw (iZ N way rc i) v=if v=way then(if rc then((bw N way).1,λk=>(bw N way).2 k||decide (k=i))else(λk=>(bw N way).1 k||decide (k=i),(bw N way).2))else bw N v:=by
 rcases h with⟨a,rfl⟩ |⟨a,b,rfl⟩
 ·show bw (lI (eO N [a]) [a] rc i) v=_
  rw[wA _ _ _ _ _ (by rw[gW];simp),jc,jc]
 ·show bw (lI (eO (eO N [a]) [a,b]) [a,b] rc i) v=_
  rw[wA _ _ _ _ _ (by rw[gW];simp),jc,jc,jc,jc]
theorem rM (N:NW){way:aw}(h:gD way)(rc:Bool)(i:Int)(v:aw):(iZ N way rc i v).isSome=true↔(N v).isSome=true\/v=way\/v=way.take 1:=by
 rcases h with⟨a,rfl⟩ |⟨a,b,rfl⟩
 ·show(lI (eO N [a]) [a] rc i v).isSome=true↔_
  rw[sI,gW];simp
 ·show(lI (eO (eO N [a]) [a,b]) [a,b] rc i v).isSome=true↔_
  rw[sI,gW,gW];simp only[Wt,decide_eq_true_eq,List.take_succ_cons,List.take_zero];exact⟨λh=>h.elim (λh=>h.elim .inl λh=>.inr (.inr h)) λh=>.inr (.inl h),λh=>h.elim (λh=>.inl (.inl h)) λh=>h.elim .inr λh=>.inl (.inr h)⟩
noncomputable abbrev LX:=aw->Int->Bool->Prop
structure iN (N:NW)(L:LX):Prop where
 f:∀v k,(bw N v).1 k=true↔L v k false
 r:∀v k,(bw N v).2 k=true↔L v k true
 par:∀a b,(N [a,b]).isSome=true->(N [a]).isSome=true
 dom:∀v,(N v).isSome=true->gD v
theorem iN.congr {N:NW}{L L':LX}(x:iN N L)(h:∀v k b,L v k b↔L' v k b):iN N L':=⟨λv k=>(x.f v k).trans (h _ _ _),λv k=>(x.r v k).trans (h _ _ _),x.par,x.dom⟩
theorem CQ {w:aw}(h:gD w):gD (w.take 1):=by
 rcases h with⟨a,rfl⟩ |⟨a,b,rfl⟩
 ·exact .inl ⟨a,rfl⟩
 ·exact .inl ⟨a,rfl⟩
theorem iN.set {N:NW}{L:LX}(x:iN N L){way:aw}(h:gD way)(rc:Bool)(i:Int):iN (iZ N way rc i) (λv k b=>L v k b\/(v=way/\k=i/\b=rc)) where
 f:=λv k=>by
  rw[uX N h,<- x.f v k];by_cases e:v=way
  ·clear h;subst e
   rw[if_pos rfl]
   cases rc<;>simp
  ·rw[if_neg e];simp[e]
 r:=λv k=>by
  rw[uX N h,<- x.r v k];by_cases e:v=way
  ·clear h;subst e
   rw[if_pos rfl]
   cases rc<;>simp
  ·rw[if_neg e];simp[e]
 par:=λa b q=>by
  rw[rM N h]at q ⊢
  rcases q with q |q |q
  ·exact .inl (x.par a b q)
  ·rw[<- q];exact .inr (.inr rfl)
  ·rcases h with⟨c,rfl⟩ |⟨c,d,rfl⟩<;>cases q
 dom:=λv q=>by
  rw[rM N h]at q;rcases q with q |rfl |rfl
  ·exact x.dom v q
  ·exact h
  ·exact CQ h
theorem u8 (N:NW)(u v:aw):bw (jJ N u) v=if dz u v=true then(λ_=>false,λ_=>false)else bw N v:=by
 unfold bw jJ;by_cases h:dz u v=true
 ·rw[if_pos h,if_pos h];rfl
 ·rw[if_neg h,if_neg h]
theorem rS (N:NW)(u v:aw):(jJ N u v).isSome=true↔dz u v=false/\(N v).isSome=true:=by
 unfold jJ
 cases dz u v<;>simp
theorem iN.pop {N:NW}{L:LX}(x:iN N L){u:aw}:iN (jJ N u) (λv k b=>L v k b/\dz u v=false) where
 f:=λv k=>by
  rw[u8,<- x.f v k]
  cases dz u v<;>simp
 r:=λv k=>by
  rw[u8,<- x.r v k]
  cases dz u v<;>simp
 par:=λa b q=>by
  rw[rS]at q ⊢
  refine⟨?_,x.par a b q.2⟩
  cases e:dz u [a]with
  |false=>rfl
  |true =>
   obtain⟨t,ht⟩:=cK.mp e;have:dz u [a,b]=true:=cK.mpr ⟨t++[b],by rw[<- Ww,<- ht];rfl⟩;rw[this]at q;cases q.1
 dom:=λv q=>x.dom v (rS N u v |>.mp q).2
theorem zs {way:aw}(h:gD way){a b:List Nat}(q:eQ way [a,b]=true):way=[a,b]:=by
 unfold eQ at q;rw[Wt,V3,cZ,cZ]at q;rcases q with q |⟨_,q⟩
 ·exact q
 ·rcases h with⟨c,rfl⟩ |⟨c,d,rfl⟩<;>cases q
theorem B2 {way v:aw}(h:gD way)(q:eQ way v=true):gD v:=by
 unfold eQ at q;rw[Wt,V3,cZ,cZ]at q;rcases q with rfl |⟨q0,rfl⟩
 ·exact h
 ·rcases h with⟨c,rfl⟩ |⟨c,d,rfl⟩
  ·exact eV q0
  ·exact .inl ⟨c,rfl⟩
theorem Im {P:List (aw×Int)}{v:aw}{k:Int}:(P.any λp=>lM p.1 v&&decide (p.2=k))=true↔(v,k)∈P:=by
 rw[Yz];constructor
 ·rintro⟨⟨w,i⟩,hp,q⟩
  rw[V3,cZ,decide_eq_true_eq]at q;obtain⟨rfl,rfl⟩:=q;exact hp
 ·intro h
  exact⟨_,h,by rw[V3,cZ,decide_eq_true_eq];exact⟨rfl,rfl⟩⟩
theorem iN.fin {N:NW}{L:LX}(x:iN N L){P:List (aw×Int)}(hP:∀p∈P,gD p.1):iN (eN N P) (λv k b=>L v k b\/(b=false/\(v,k)∈P)) where
 f:=λv k=>by
  rw[qD,<- x.f v k];show((bw N v).1 k||_)=true↔_;rw[Wt,Im];simp
 r:=λv k=>by
  rw[qD,<- x.r v k];simp
 par:=λa b q=>by
  rw[nv,Wt,Yz]at q ⊢
  rcases q with q |⟨p,hp,q⟩
  ·exact .inl (x.par a b q)
  ·refine .inr ⟨p,hp,?_⟩
   rw[zs (hP p hp) q];unfold eQ;rw[Wt,V3,cZ,cZ];exact .inr ⟨rfl,rfl⟩
 dom:=λv q=>by
  rw[nv,Wt,Yz]at q;rcases q with q |⟨p,hp,q⟩
  ·exact x.dom v q
  ·exact B2 (hP p hp) q
theorem iN.start:iN (λ_=>none) (λ_ _ _=>False):=⟨λv k=>by simp[bw],λv k=>by simp[bw],λa b q=>(by exact eV q),λv q=>(by exact eV q)⟩
theorem Ee {r:Rl}(h3:VW r.kind 3=false)(h2:VW r.kind 2=false)(H:List aw):∀(t:FT) (L:LX),(∀w∈H,gD w)->iN t.N L->iN (H.foldl (bH r) t).N (λv k b=>L v k b\/(v∈H/\k=r.flag/\b=VW r.kind 1))/\(H.foldl (bH r) t).P=t.P:=by
 induction H with
 |nil =>
  intro t L _ x;exact⟨x.congr λv k b=>by simp,rfl⟩
 |cons w H ih =>
  intro t L hH x;have e:bH r t w=⟨iZ t.N w (VW r.kind 1) r.flag,t.P,t.m+3⟩:=by unfold bH;rw[h3,h2]
  obtain⟨a,b⟩:=ih (bH r t w) _ (λx hx=>hH x (VS _ hx)) (by rw[e];exact x.set (hH w VT) (VW r.kind 1) r.flag);refine⟨a.congr λv k b=>?_,b.trans (by rw[e])⟩;rw[V2,or_assoc,or_and_right]
theorem Ef {r:Rl}(h3:VW r.kind 3=false)(h2:VW r.kind 2=true)(H:List aw):∀(t:FT) (L:LX),iN t.N L->iN (H.foldl (bH r) t).N (λv k b=>L v k b/\∀u∈H,dz u v=false)/\(H.foldl (bH r) t).P=t.P:=by
 induction H with
 |nil =>
  intro t L x;exact⟨x.congr λv k b=>by simp,rfl⟩
 |cons w H ih =>
  intro t L x;have e:bH r t w=⟨jJ t.N w,t.P,t.m⟩:=by unfold bH;rw[h3,h2]
  obtain⟨a,b⟩:=ih (bH r t w) _ (by rw[e];exact x.pop);refine⟨a.congr λv k b=>?_,b.trans (by rw[e])⟩;rw[and_assoc,List.forall_mem_cons]
theorem Eg {r:Rl}(h3:VW r.kind 3=true)(H:List aw):∀(t:FT),(H.foldl (bH r) t).N=t.N/\∀p,p∈(H.foldl (bH r) t).P↔p∈t.P\/(p.1∈H/\p.2=r.flag):=by
 revert h3;delta r H;intro h3;induction H with
 |nil =>
  intro t;exact⟨rfl,λp=>by simp⟩
 |cons w H ih =>
  delta w H;intro ih;exists t;have e:bH r t w=⟨t.N,(w,r.flag)::t.P,t.m⟩:=by unfold bH;rw[h3]
  obtain⟨a,b⟩:=ih (bH r t w);refine⟨a.trans (by rw[e]),λp=>(b p).trans ?_⟩;delta p;rw[e];simp only[V2];constructor
  ·rintro((rfl |h) |⟨h,q⟩)
   ·exact .inr ⟨.inl rfl,rfl⟩
   ·exact .inl h
   ·exact .inr ⟨.inr h,q⟩
  ·rintro(h |⟨rfl |h,q⟩)
   ·exact .inl (.inr h)
   ·exact .inl (.inl (Prod.ext rfl q))
   ·exact .inr ⟨h,q⟩
theorem u6 {H:List aw}{v:aw}(hH:∀w∈H,gD w)(hv:gD v):(∀u∈H,dz u v=false)↔v∉H/\v.take 1∉H:=by
 delta H v;intro hH hv;constructor
 ·intro h
  refine⟨λq=>?_,λq=>?_⟩
  ·have:=h v q
   rw[cK.mpr ⟨[],by simp⟩]at this;cases this
  ·have:=h _ q
   rw[cK.mpr ⟨v.drop 1,(List.take_append_drop 1 v).symm⟩]at this;cases this
 ·rintro⟨h1,h2⟩ u hu
  delta u;intro hu;cases e:dz u v with
  |false=>rfl
  |true =>
   obtain⟨t,ht⟩:1:=cK.mp e;exfalso;rcases hH u hu with⟨a,rfl⟩ |⟨a,b,rfl⟩
   ·apply h2
    rw[ht];exact hu
   ·delta a b;intro hu e ht;clear h2 e;rcases hv with⟨c,rfl⟩ |⟨c,d,rfl⟩
    ·clear hu h1;cases ht
    ·cases ht
     exact h1 hu
structure oz (W:List aw)(rs:List Rl)(t:FT):Prop where
 T:iN t.N (λv k b=>∃s∈cj rs W,s.way=v/\(s.flag:Int)=k/\s.below=b)
 P:∀v k,(v,k)∈t.P↔∃f:Nat,k=(f:Int)/\n8 rs W v f
 ok:∀p∈t.P,gD p.1
theorem mP {rs:List Rl}{W:List aw}{s:Se}(h:s∈cj rs W):s.way∈W:=by
 obtain⟨k,_,hs⟩:=i7.mp h;obtain⟨a,z9⟩:=eL.mp hs;exact(Xj.mp z9.2.1).1
theorem oz.step {W:List aw}{rs:List Rl}{t:FT}(x:oz W rs t)(hW:wB W){r:Rl}(hk:r.kind<5)(hh:jV W r=eC W r):oz W (rs++[r]) (ew W t r):=by
 revert x hW hk hh;delta W rs t r;intro x hW hk hh;have hH:∀w∈eC W r,gD w:=λw hw=>hW.two w (Xj.mp hw).1
 have OT:=(yg hW t r x.ok).2.2
 cases q4:VW r.kind 4 with
 |true =>
  have e:ew W t r=⟨eN t.N t.P,[],t.m+3*t.P.length⟩:=by unfold ew;rw[q4]
  have k4:=V_ q4;have k2:VW r.kind 2=false:=by rw[k4];rfl
  have kb:XW r.kind 2=false:=by rw[k4];rfl
  have k3:VW r.kind 3=false:=by rw[k4];rfl
  refine⟨?_,λv k=>?_,OT⟩
  ·rw[e]
   refine(x.T.fin x.ok).congr ?_;exists v,k,b;constructor
   ·rintro(⟨s,hs,h1,h2,h3⟩ |⟨rfl,hm⟩)
    ·exact⟨s,dF.mpr (.inl ⟨hs,λq=>by exact dw q k2⟩),h1,h2,h3⟩
    ·obtain⟨f,rfl,hp⟩:=(x.P v k).mp hm
     exact⟨⟨v,f,false⟩,dF.mpr (.inr (.inl ⟨q4,rfl,hp⟩)),rfl,rfl,rfl⟩
   ·rintro⟨s,hs,rfl,rfl,rfl⟩
    delta s;intro hs;rcases dF.mp hs with⟨hs,_⟩ |⟨_,h1,h2⟩ |⟨h1,_⟩
    ·exact .inl ⟨s,hs,rfl,rfl,rfl⟩
    ·exact .inr ⟨h1,(x.P _ _).mpr ⟨_,rfl,h2⟩⟩
    ·exact dw h1 kb
  ·delta v k;rw[e]
   constructor
   ·intro h;cases h
   ·rintro⟨f,rfl,hp⟩
    delta f;intro hp;rcases jK.mp hp with⟨h,_⟩ |⟨h,_⟩
    ·exact dw q4 h
    ·exact dw h k3
 |false =>
  have e:ew W t r=(eC W r).foldl (bH r) t:=by unfold ew;rw[q4];show(jV W r).foldl _ _=_;rw[hh]
  cases q3:VW r.kind 3 with
  |true =>
   obtain⟨hN,hP⟩:=Eg q3 (eC W r) t;have k3:=V_ q3;have k2:VW r.kind 2=false:=by rw[k3];rfl
   have kb:XW r.kind 2=false:=by rw[k3];rfl
   refine⟨?_,λv k=>?_,OT⟩
   ·rw[e,hN]
    refine x.T.congr ?_;exists v,k,b;constructor
    ·rintro⟨s,hs,h⟩
     exact⟨s,dF.mpr (.inl ⟨hs,λq=>by exact dw q k2⟩),h⟩
    ·rintro⟨s,hs,h⟩
     delta s;intro hs h;rcases dF.mp hs with⟨hs,_⟩ |⟨h1,_⟩ |⟨h1,_⟩
     ·exact⟨s,hs,h⟩
     ·exact dw h1 q4
     ·exact dw h1 kb
   ·delta v k;rw[e,hP,x.P]
    constructor
    ·rintro(⟨f,rfl,hp⟩ |⟨h1,rfl⟩)
     ·exact⟨f,rfl,jK.mpr (.inl ⟨q4,hp⟩)⟩
     ·exact⟨_,rfl,jK.mpr (.inr ⟨q3,h1,rfl⟩)⟩
    ·rintro⟨f,rfl,hp⟩
     delta f;intro hp;rcases jK.mp hp with⟨_,hp⟩ |⟨_,h1,rfl⟩
     ·exact .inl ⟨f,rfl,hp⟩
     ·exact .inr ⟨h1,rfl⟩
  |false =>
   have I8:∀v f,n8 (rs++[r]) W v f↔n8 rs W v f:=λv f=>by
    rw[jK,q4,q3];simp
   cases q2:VW r.kind 2 with
   |true =>
    obtain⟨hT,hP⟩:=Ef q3 q2 (eC W r) t _ x.T;have kb:XW r.kind 2=false:=by rw[(V_ q2)];rfl
    refine⟨?_,λv k=>by rw[e,hP,x.P];simp only[I8],OT⟩;rw[e];refine hT.congr ?_;exists v,k,b;constructor
    ·rintro⟨⟨s,hs,rfl,h⟩,hf⟩
     delta s;intro hs h hf;exact⟨s,dF.mpr (.inl ⟨hs,λ_=>(u6 hH (hW.two _ (mP hs))).mp hf⟩),rfl,h⟩
    ·rintro⟨s,hs,rfl,h⟩
     delta s;intro hs h;rcases dF.mp hs with⟨hs,hf⟩ |⟨h1,_⟩ |⟨h1,_⟩
     ·exact⟨⟨s,hs,rfl,h⟩,(u6 hH (hW.two _ (mP hs))).mpr (hf q2)⟩
     ·exact dw h1 q4
     ·exact dw h1 kb
   |false =>
    have RZ:=Ee q3 q2 (eC W r) t _ hH x.T;have kb:XW r.kind 2=true:=by
     have n4:r.kind≠4:=λh=>by rw[h]at q4;exact oY q4
     have n3:r.kind≠3:=λh=>by rw[h]at q3;exact oY q3
     have n2:r.kind≠2:=λh=>by rw[h]at q2;exact oY q2
     exact Wh (by lia)
    refine⟨?_,λv k=>by rw[e,RZ.2,x.P];simp only[I8],OT⟩;rw[e];refine RZ.1.congr ?_;exists v,k,b;constructor
    ·rintro(⟨s,hs,h⟩ |⟨h1,rfl,rfl⟩)
     ·exact⟨s,dF.mpr (.inl ⟨hs,λq=>by exact dw q q2⟩),h⟩
     ·exact⟨⟨v,r.flag,VW r.kind 1⟩,dF.mpr (.inr (.inr ⟨kb,h1,rfl,rfl⟩)),rfl,rfl,rfl⟩
    ·rintro⟨s,hs,rfl,rfl,rfl⟩
     delta s;intro hs;rcases dF.mp hs with⟨hs,_⟩ |⟨h1,_⟩ |⟨_,h1,h2,h3⟩
     ·exact .inl ⟨s,hs,rfl,rfl,rfl⟩
     ·exact dw h1 q4
     ·exact .inr ⟨h1,by rw[h2],h3⟩
theorem oz.steps {W:List aw}(hW:wB W)(L:List Rl):∀(rs:List Rl) (t:FT),(∀r∈L,r.kind<5/\jV W r=eC W r)->oz W rs t->oz W (rs++L) (L.foldl (ew W) t):=by
 induction L with
 |nil =>
  intro rs t _ x;rw[WH];exact x
 |cons r L ih =>
  intro rs t hL x;have h:=hL r VT;have:=ih (rs++[r]) (ew W t r) (λy hy=>hL y (VS _ hy)) (x.step hW h.1 h.2);rw[Ww]at this;exact this
theorem oz.start (W:List aw):oz W [] ⟨λ_=>none,[],0⟩ where
 T:=iN.start.congr λv k b=>by simp[cj]
 P:=λv k=>by simp[n8]
 ok:=λp hp=>by cases hp
theorem Bu {items:List Nat}(h:fL items):zn items=true:=by
 delta items;intro h;obtain⟨h1,h2,h3⟩:=h;have nn:∀k,k<9->k∈q_:=λk hk=>by
  exact Bt (P:=λk=>k∈q_) ⋯ ⋯ ⋯ ⋯ ⋯ ⋯ ⋯ ⋯ ⋯ k hk
 have k:∀k∈items,k∈q_:=λk q=>nn k (h3 k q)
 clear nn h3;induction items with
 |nil=>exact absurd rfl h1
 |cons a l _ =>
  delta a l;intro iU h1 h2 k;clear h1;induction l with
  |nil=>exact dP LS a (k a VT)
  |cons b l _ =>
   delta b l;intro _ iU h2 k;induction l with
   |nil=>exact dP (dP LR a (k a VT)) b (k b (VS _ VT))
   |cons c l _ =>
    delta c l;intro _ _ iU h2 k;induction l with
    |nil=>exact dP (dP (LQ a (k a VT)) b (k b (VS _ VT))) c (k c (VS _ (VS _ VT)))
    |cons d l _=>exact absurd (WQ (WQ (WQ h2))) (Nat.not_succ_le_zero _)
theorem AT {r:Rl}(h:fL r.items):jV bG r=eC bG r:=by
 exact iq λw hw=>eq_of_beq (dP (Bu h) w hw)
theorem EX {k:Nat}{l:List Nat}:et k l=true↔k∈l:=by
 induction l with
 |nil =>
  exact⟨λh=>oY h.symm,λh=>nomatch h⟩
 |cons d l ih =>
  rw[show et k (d::l)=(VW d k||et k l)from rfl,Wt,ih,V2,Nat.beq_eq,eq_comm]
theorem H3 {S:List Se}{w:aw}{k:Nat}:et k (mD S w)=true↔∃s∈S,s.flag=k/\(s.way=w\/(s.below=true/\s.way=w.take s.way.length)):=by
 delta S w k;rw[EX];unfold mD;rw[Wz];constructor
 ·rintro⟨s,hs,rfl⟩
  obtain⟨h1,h2⟩:=Xj.mp hs;rw[Wt,V3,cZ,cZ]at h2;exact⟨s,h1,rfl,h2⟩
 ·rintro⟨s,hs,rfl,h⟩
  exact⟨s,Xj.mpr ⟨hs,by rw[Wt,V3,cZ,cZ];exact h⟩,rfl⟩
section
variable {W:List aw}{rs:List Rl}{t:FT}
theorem IP (N:NW)(u:aw)(k:Int):(match N u with |none=>false |some p=>p.1 k||p.2 k)=((bw N u).1 k||(bw N u).2 k):=by
 unfold bw
 cases N u<;>rfl
theorem lX {N:NW}{u:aw}(h:¬ (N u).isSome=true):bw N u=(λ_=>false,λ_=>false):=by
 unfold bw
 cases e:N u with
 |none=>rfl
 |some p=>rw[e]at h;exact absurd rfl h
theorem Qq (N:NW)(a:List Nat)(k:Int):nf N k [] [a]=((bw N [a]).1 k||(bw N [a]).2 k):=IP N [a] k
theorem Qp {N:NW}(par:∀a b,(N [a,b]).isSome=true->(N [a]).isSome=true)(a b:List Nat)(k:Int):nf N k [] [a,b]=((bw N [a]).2 k||((bw N [a,b]).1 k||(bw N [a,b]).2 k)):=by
 revert par;delta N a b k;intro par;show(match N [a]with |none=>false |some p=>p.2 k||(match N [a,b]with |none=>false |some p=>p.1 k||p.2 k))=_;rw[IP];by_cases h:(N [a]).isSome=true
 ·obtain⟨p,hp⟩:=Yp.mp h
  have e:bw N [a]=p:=by unfold bw;rw[hp];rfl
  rw[e,hp]
 ·have h2:¬ (N [a,b]).isSome=true:=λq=>h (par a b q)
  rw[lX h,lX h2]
  cases e:N [a]with
  |none=>rfl
  |some p=>rw[e]at h;exact absurd rfl h
theorem Qo {N:NW}(par:∀a b,(N [a,b]).isSome=true->(N [a]).isSome=true)(a b c:List Nat)(hn:N [a,b,c]=none)(k:Int):nf N k [] [a,b,c]=((bw N [a]).2 k||(bw N [a,b]).2 k):=by
 revert par hn;delta N a b c k;intro par hn;show(match N [a]with |none=>false |some p=>p.2 k||(match N [a,b]with |none=>false |some p=>p.2 k||(match N [a,b,c]with |none=>false |some p=>p.1 k||p.2 k)))=_;rw[hn];by_cases h:(N [a]).isSome=true
 ·obtain⟨p,hp⟩:1:=Yp.mp h
  have e:bw N [a]=p:=by unfold bw;rw[hp];rfl
  rw[e,hp]
  cases q:N [a,b]with
  |none=>unfold bw;rw[q];rfl
  |some p2=>unfold bw;rw[q];simp
 ·have h2:¬ (N [a,b]).isSome=true:=λq=>h (par a b q)
  rw[lX h,lX h2]
  cases e:N [a]with
  |none=>rfl
  |some p=>rw[e]at h;exact absurd rfl h
theorem oz.law (hW:wB W)(x:oz W rs t)(w:aw)(hw:gD w\/∃a b c,w=[a,b,c])(k:Nat):nf t.N (k:Nat) [] w=et k (mD (cj rs W) w):=by
 revert hW x hw;delta W rs t w k;intro hW x hw;rw[Bool.eq_iff_iff,H3];have F:∀v,(bw t.N v).1 (k:Int)=true↔∃s∈cj rs W,s.way=v/\s.flag=k/\s.below=false:=λv=>by
  rw[x.T.f v k];simp only[Int.natCast_inj]
 have R:∀v,(bw t.N v).2 (k:Int)=true↔∃s∈cj rs W,s.way=v/\s.flag=k/\s.below=true:=λv=>by
  rw[x.T.r v k];simp only[Int.natCast_inj]
 have two:∀s∈cj rs W,gD s.way:=λs hs=>hW.two _ (mP hs)
 rcases hw with(⟨a,rfl⟩ |⟨a,b,rfl⟩) |⟨a,b,c,rfl⟩
 ·delta a;rw[Qq,Wt,F,R]
  constructor
  ·rintro(⟨s,hs,h1,h2,_⟩ |⟨s,hs,h1,h2,_⟩)<;>exact⟨s,hs,h2,.inl h1⟩
  ·rintro⟨s,hs,h1,h⟩
   have jt:s.way=[a]:=by
    rcases h with h |⟨_,h⟩
    ·exact h
    ·rcases two s hs with⟨c,e⟩ |⟨c,d,e⟩<;>rw[e]at h
     ·rw[e,h];rfl
     ·clear e;cases h
   cases q:s.below with
   |false=>exact .inl ⟨s,hs,jt,h1,q⟩
   |true=>exact .inr ⟨s,hs,jt,h1,q⟩
 ·delta a b;rw[Qp x.T.par,Wt,Wt,F,R,R]
  constructor
  ·rintro(⟨s,hs,h1,h2,h3⟩ |⟨s,hs,h1,h2,_⟩ |⟨s,hs,h1,h2,_⟩)
   ·exact⟨s,hs,h2,.inr ⟨h3,by rw[h1];rfl⟩⟩
   ·exact⟨s,hs,h2,.inl h1⟩
   ·exact⟨s,hs,h2,.inl h1⟩
  ·rintro⟨s,hs,h1,h⟩
   delta s;intro hs h1 h;have key:s.way=[a,b]->(∃s∈cj rs W,s.way=[a,b]/\s.flag=k/\s.below=false)\/∃s∈cj rs W,s.way=[a,b]/\s.flag=k/\s.below=true:=λjt=>by
    cases q:s.below with
    |false=>exact .inl ⟨s,hs,jt,h1,q⟩
    |true=>exact .inr ⟨s,hs,jt,h1,q⟩
   rcases h with h |⟨q,h⟩
   ·exact .inr (key h)
   ·rcases two s hs with⟨c,e⟩ |⟨c,d,e⟩
    ·rw[e]at h
     exact .inl ⟨s,hs,by rw[e,h];rfl,h1,q⟩
    ·rw[e]at h
     exact .inr (key (by rw[e,h];rfl))
 ·delta a b c;have hn:t.N [a,b,c]=none:=by
   cases e:t.N [a,b,c]with
   |none=>rfl
   |some p =>
    rcases x.T.dom _ (show(t.N [a,b,c]).isSome=true by rw[e];rfl)with⟨_,q⟩ |⟨_,_,q⟩<;>cases q
  rw[Qo x.T.par a b c hn,Wt,R,R];constructor
  ·rintro(⟨s,hs,h1,h2,h3⟩ |⟨s,hs,h1,h2,h3⟩)<;>exact⟨s,hs,h2,.inr ⟨h3,by rw[h1];rfl⟩⟩
  ·rintro⟨s,hs,h1,h |⟨q,h⟩⟩
   ·rcases two s hs with⟨d,e⟩ |⟨d,e',e⟩<;>rw[e]at h<;>cases h
   ·rcases two s hs with⟨d,e⟩ |⟨d,e',e⟩
    ·rw[e]at h
     exact .inl ⟨s,hs,by rw[e,h];rfl,h1,q⟩
    ·rw[e]at h
     exact .inr ⟨s,hs,by rw[e,h];rfl,h1,q⟩
end
theorem Ai (ns:List Int):∀w∈bG++uH,∀k∈[0,1],nf (vm bG (eK ns)).N (k:Nat) [] w=et k (mD (cj (eK ns) bG) w):=by
 delta ns;intro w hw k _;have hr:=uZ ns;have hk:∀r∈eK ns,r.kind<5:=λr hr=>by
  obtain⟨x,_,rfl⟩:=Wz.mp hr;exact Zh _ ⋯
 have x:=oz.steps iu (eK ns) [] ⟨λ_=>none,[],0⟩ (λr h=>⟨hk r h,AT (hr r h)⟩) (oz.start _);refine x.law iu w ?_ k;rcases YK.mp hw with h |h
 ·exact .inl (iu.two w h)
 ·skip
  obtain⟨u,hu,rfl⟩:=Wz.mp h;delta u;intro hu hw h;simp only[bG,rV,Wu,YH,W4,List.flatMap_nil,Yx,YL,WH,List.drop_succ_cons,YY,V2,Wf,or_false]at hu;clear hw h;rcases hu with rfl |rfl |rfl |rfl |rfl |rfl |rfl |rfl |rfl<;>exact .inr ⟨_,_,_,rfl⟩
section
open PySem.Builtin.Re
theorem cA {α:Type}{o:Option α}{k:α->Bool}(h:tx o k=true):∃a,o=some a/\k a=true:=by
 cases o with
 |none=>exact eV h
 |some a=>exact⟨a,rfl,h⟩
theorem A8 {d:Data}{f:Xp}(h:Jl d=some f):d=.func f:=by cases d<;>first |exact bg h |exact congrArg _ (aJ h)
theorem jZ {d:Data}{f:Array VQ}(h:oL d=some f):d=.fields f:=by cases d<;>first |exact bg h |exact congrArg _ (aJ h)
theorem zU {d:Data}{f:Array VQ×Nat}(h:IK d=some f):d=.seq f.1 f.2:=by cases d<;>first |exact bg h |(obtain rfl:=aJ h;rfl)
theorem xT {d:Data}{f:Array DictEntry×Nat}(h:EA d=some f):d=.dict f.1 f.2:=by cases d<;>first |exact bg h |(obtain rfl:=aJ h;rfl)
theorem uN {v:VQ}{x:Str}(h:JL v=some x):∃t,v=.str x t:=by cases v<;>first |exact bg h |exact⟨_,by rw[<- aJ h]⟩
theorem qe {v:VQ}{x:Int}(h:Hu v=some x):∃t,v=.int x t:=by cases v<;>first |exact bg h |exact⟨_,by rw[<- aJ h]⟩
theorem CJ {v:VQ}{x:V4}(h:MV v=some x):v=.ref x:=by cases v<;>first |exact bg h |exact congrArg _ (aJ h)
theorem p_ {v:VQ}(h:Hm v=true):v=.none:=by cases v<;>first |exact eV h |rfl
end
theorem HU {h:Wb}{a:V4}{x:Mp}(e:Lr h a=some x):∃o fd,h.get? a=some o/\o.data=.func fd/\Ru fd=x :=
 bt e λo e1 e=>gt e λf e2 e=>⟨o,f,e1,A8 e2,e⟩
theorem H7 {h hb:Wb}(hk:∀a o,a≠PL->h.get? a=some o->hb.get? a=some o){q:Str}{a:V4}(ha:a - 1≠PL)(e:Om h q a=true):hb.CodeRec (.ref (a - 1)) q:=by
 revert hk ha e;delta h hb q a;intro hk ha e;obtain⟨o,ho,e⟩:1:=cA e;obtain⟨vs,hd,e⟩:1:=cA e;obtain⟨v,hv,e⟩:1:=cA e;obtain⟨x,hx,e⟩:1:=cA e;obtain rfl:=of_decide_eq_true e;replace hx:=uN hx;obtain⟨t,rfl⟩:=hx;exact⟨_,o,vs,t,rfl,hk _ _ ha ho,jZ hd,hv⟩
noncomputable def MP (sc:YB)(xs:List Str):Bool:=(match sc.kind with | .function=>true |_=>false)&&!sc.isCoroutine&&!sc.isGenerator&&vV sc.names xs
noncomputable def bP (ps:Zk)(xs kw:List Str):Prop:=∀(fd:Xp),fd.params=ps->fd.defaults=.none->fd.kwdefaults=.none->∀vs us:List VQ,vs.length+kw.length=xs.length->us.length=kw.length->bindArgs fd ⟨vs,kw.zip us⟩=pure (xs.zip (vs++us))
theorem yx {h hb:Wb}(hk:∀a o,a≠PL->h.get? a=some o->hb.get? a=some o){q:Str}{r:DefRec}{a:V4}{xs kw:List Str}(h1:a≠PL)(h2:a - 1≠PL)(hf:Lr h a=some (Ls q r a))(hc:Om h q a=true)(hs:MP r.scope xs=true)(om:bP r.params xs kw) :
  ∃fd,(∃o,hb.get? a=some o/\o.data=.func fd)/\hb.CodeRec fd.code fd.qualname/\fd.body=.stmts r.body/\fd.closure=[]/\fd.globals=mainGlobals/\fd.builtins=builtinsNs/\fd.scope=r.scope/\fd.code=.ref (a - 1)/\fd.scope.kind=.function/\fd.scope.isCoroutine=false/\fd.scope.isGenerator=false/\vV fd.scope.names xs=true /\∀vs us:List VQ,vs.length+kw.length=xs.length->us.length=kw.length->bindArgs fd ⟨vs,kw.zip us⟩=pure (xs.zip (vs++us)):=by
 obtain⟨o,fd,ho,hd,e⟩:=HU hf;unfold Ls Ru at e;simp only[Yo]at e;obtain⟨e1,e2,e3,e4,e5,e6,e7,e8,e9,RB⟩:=e;unfold MP at hs;simp only[V3,Wv]at hs;obtain⟨⟨⟨s1,s2⟩,s3⟩,s4⟩:=hs;have s1:r.scope.kind=.function:=by
  clear s2 s3 s4;generalize r.scope.kind=k at s1
  cases k<;>first |rfl |exact eV s1
 refine⟨fd,⟨o,hk _ _ h1 ho,hd⟩,?_,e3,e6,e5,RB,e4,e9,by rw[e4];exact s1,by rw[e4];exact s2,by rw[e4];exact s3,by rw[e4];exact s4,om fd e2 e7 e8⟩;rw[e9,e1];exact H7 hk h2 hc
theorem LD {h hb:Wb}(hk:∀a o,a≠PL->h.get? a=some o->hb.get? a=some o){mg:Str->Option VQ}{i:Nat}{a:V4}(hm:mg (aS i).name=some (.ref a))(h1:a≠PL)(h2:a - 1≠PL)(hf:Lr h a=some (Ls (aS i).name (aS i) a))(hc:Om h (aS i).name a=true)(hs:MP (aS i).scope (dK i)=true)(om:bP (aS i).params (dK i) [])
  (yW:fW (dZ i) dy=true->a - 1=CT):∃fd,il hb mg (aS i).name a fd (aZ i) (dK i)/\fd.scope.names=dZ i:=by
 revert hk hm h1 h2 hf hc hs om yW;delta h hb mg i a;intro hk hm h1 h2 hf hc hs om yW;obtain⟨fd,a1,a2,a3,a4,a5,a6,a7,a8,a9,Vv,Vu,Vt,Vs⟩:1:=yx (kw:=[]) hk h1 h2 hf hc hs om;refine⟨fd,⟨hm,a1,a2,a3,a4,a5,a6,a9,Vv,Vu,Vt,λq=>?_,λvs hv=>?_⟩,by rw[a7];rfl⟩
 ·rw[a7]at q
  rw[a8,yW q]
 ·have:=Vs vs [] (by simpa using hv) rfl
  rw[WH]at this;exact this
noncomputable abbrev M8 (ps:Zk)(fd:Xp):Xp:=⟨fd.name,fd.qualname,ps,fd.body,fd.scope,fd.globals,fd.closure,.none,.none,fd.doc,fd.pyModule,fd.annotations,fd.code,fd.closureTuple,fd.builtins⟩
theorem tD {ps:Zk}{fd:Xp}(e1:fd.params=ps)(e2:fd.defaults=.none)(e3:fd.kwdefaults=.none):fd=M8 ps fd:=by
 obtain⟨_,_,_,_,_,_,_,_,_,_,_,_,_,_,_⟩:=fd;simp only at e1 e2 e3;subst e1 e2 e3;rfl
theorem x6 {ps:Zk}{xs:List Str}(hx:xs.length=1)(h:∀(fd:Xp) (a:VQ),bindArgs (M8 ps fd) ⟨[a],[]⟩=pure (xs.zip [a])):bP ps xs []:=by
 intro fd e1 e2 e3 vs us hv hu;rw[hx]at hv;replace hv:=YG.mp hv;obtain⟨a,rfl⟩:=hv;replace hu:=XS hu;obtain rfl:=hu;rw[tD e1 e2 e3];exact h fd a
theorem x5 {ps:Zk}{xs:List Str}(hx:xs.length=2)(h:∀(fd:Xp) (a b:VQ),bindArgs (M8 ps fd) ⟨[a,b],[]⟩=pure (xs.zip [a,b])):bP ps xs []:=by
 intro fd e1 e2 e3 vs us hv hu;rw[hx]at hv;obtain⟨a,b,rfl⟩:=GV hv;obtain rfl:=XS hu;rw[tD e1 e2 e3];exact h fd a b
theorem Ic {ps:Zk}{xs:List Str}(hx:xs.length=3)(h:∀(fd:Xp) (a b c:VQ),bindArgs (M8 ps fd) ⟨[a,b,c],[]⟩=pure (xs.zip [a,b,c])):bP ps xs []:=by
 intro fd e1 e2 e3 vs us hv hu;rw[hx]at hv;obtain⟨a,b,c,rfl⟩:=Kj hv;obtain rfl:=XS hu;rw[tD e1 e2 e3];exact h fd a b c
theorem RI {ps:Zk}{xs:List Str}{x:Str}(hx:xs.length=4)(h:∀(fd:Xp) (a b c d:VQ),bindArgs (M8 ps fd) ⟨[a,b,c],[(x,d)]⟩=pure (xs.zip [a,b,c,d])):bP ps xs [x]:=by
 intro fd e1 e2 e3 vs us hv hu;rw[hx]at hv;replace hv:=Kj (Nat.succ.inj hv);obtain⟨a,b,c,rfl⟩:=hv;replace hu:=YG.mp hu;obtain⟨d,rfl⟩:=hu;rw[tD e1 e2 e3];exact h fd a b c d
theorem Vj:bP (aS 3).params (dK 3) []:=x6 nofun λfd a=>by kernel_rfl
theorem Vi:bP (aS 6).params (dK 6) []:=x6 nofun λfd a=>by kernel_rfl
theorem Vh:bP (aS 8).params (dK 8) []:=Ic nofun λfd a b c=>by kernel_rfl
theorem Vg:bP (aS 9).params (dK 9) []:=x5 nofun λfd a b=>by kernel_rfl
theorem RR:bP (aS 13).params (dK 13) []:=x6 nofun λfd a=>by kernel_rfl
theorem RQ:bP (aS 14).params (dK 14) []:=x5 nofun λfd a b=>by kernel_rfl
theorem RP:bP (aS 15).params (dK 15) []:=x6 nofun λfd a=>by kernel_rfl
theorem RO:bP (aS 16).params (dK 16) []:=Ic nofun λfd a b c=>by kernel_rfl
theorem RN:bP (aS 17).params (dK 17) []:=x5 nofun λfd a b=>by kernel_rfl
theorem RM:bP (aS 18).params (dK 18) []:=x5 nofun λfd a b=>by kernel_rfl
theorem RL:bP (aS 19).params (dK 19) []:=x5 nofun λfd a b=>by kernel_rfl
theorem RK:bP (aS 20).params (dK 20) []:=x5 nofun λfd a b=>by kernel_rfl
theorem RJ:bP (aS 21).params (dK 21) []:=x6 nofun λfd a=>by kernel_rfl
theorem Vf:bP (m9 2).params [cu] []:=x6 nofun λfd a=>by kernel_rfl
theorem Ve:bP (m9 3).params [cu,lk,dj] []:=Ic nofun λfd a b c=>by kernel_rfl
theorem Vd:bP (m9 4).params [cu] []:=x6 nofun λfd a=>by kernel_rfl
theorem Vc:bP (m9 5).params [cu,lk] []:=x5 nofun λfd a b=>by kernel_rfl
theorem Vb:bP (m9 6).params [cu,lk,dj,VN "recursive"] [VN "recursive"]:=RI nofun λfd a b c d=>by kernel_rfl
theorem Va:bP (m9 7).params [cu,lk,dj] []:=Ic nofun λfd a b c=>by kernel_rfl
theorem LY {h:Wb}{a:V4}{o:Xi}{l:List V4}(e:(l.filterMap λa=>(h.get? a).map λo=>(a,o)).lookup a=some o):h.get? a=some o/\a∈l:=by
 delta h a o l;intro e;induction l with
 |nil=>exact bg e
 |cons b l ih =>
  delta b l;intro ih e;rw[Yt]at e
  cases q:h.get? b with
  |none =>
   rw[q]at e;exact(ih e).imp_right (VS _)
  |some p =>
   rw[q]at e;by_cases hb:a=b
   ·subst hb
    rw[Xz,List.lookup_cons_self]at e;exact⟨q.trans e,VT⟩
   ·rw[Xz,XE,beq_eq_false_iff_ne.mpr hb]at e
    exact(ih e).imp_right (VS _)
section
variable {h hb:Wb}{mg:Str->Option VQ}
theorem OH (hk:∀a o,a≠PL->h.get? a=some o->hb.get? a=some o):(By h).In hb:=λa o e=>by
 obtain⟨h1,h2⟩:=LY e;refine hk a o ?_ h1;clear e h1;rintro rfl;exact absurd h2 (by decide +kernel)
theorem Ei (hk:∀a o,a≠PL->h.get? a=some o->hb.get? a=some o)(e:Ej (By h)=true)(hs:(h.get? sysModules).isSome=true):kK hb (By h)/\CodeHd hb CT PL:=by
 unfold Ej at e;simp only[V3,decide_eq_true_eq]at e;obtain⟨⟨⟨⟨⟨⟨⟨⟨⟨⟨⟨⟨⟨⟨⟨⟨⟨e1,e2⟩,e3⟩,e4⟩,e5⟩,e6⟩,e7⟩,e8⟩,e9⟩,RB⟩,e11⟩,e12⟩,e13⟩,e14⟩,e15⟩,e16⟩,e17⟩,e18⟩:=e;have ty:∀i a,(i,a)∈LW->typeIn (By h) (.ref a)=some (.type "function"):=λi a hm=>of_decide_eq_true (dP e16 (i,a) hm)
 obtain⟨o,ho⟩:=Yp.mp hs;have X:=OH hk;exact⟨⟨X,e1,e2,e3,e4,e5,e6,e7,e8,e9,RB,e11,e12,e13,e14,e15,ty 2 83 ⋯,ty 3 90 ⋯,ty 4 97 ⋯,ty 5 104 ⋯,ty 6 111 ⋯,ty 7 118 ⋯,⟨o,hk _ _ ⋯ ho⟩,e17⟩,codeHd_of_K X e18⟩
theorem CM {l:List VQ}(e:MZ l=true):∃x0 x1 t2 t6,l=[x0,x1,.int 1 t2,.none,.none,.ref 35,.int 0 t6]:=by
 delta l;intro e;cases l with
 |nil=>exact eV e
 |cons x0 l=>delta x0 l;intro e;cases l with
  |nil=>exact eV e
  |cons x1 l=>delta x1 l;intro e;cases l with
   |nil=>exact eV e
   |cons a l=>delta a l;intro e;cases l with
    |nil=>exact eV e
    |cons b l=>delta b l;intro e;cases l with
     |nil=>exact eV e
     |cons c l=>delta c l;intro e;cases l with
      |nil=>exact eV e
      |cons d l=>delta d l;intro e;induction l with
       |nil=>exact eV e
       |cons v l =>
        delta v l;intro _ e;obtain⟨h0,h⟩:=VU.mp e;obtain⟨h1,h⟩:=VU.mp h;obtain⟨h2,h⟩:=VU.mp h;obtain⟨h3,h⟩:=VU.mp h;obtain⟨h4,h5⟩:=VU.mp h;obtain⟨i,h1,q1⟩:1:=cA h1;obtain⟨j,h4,q4⟩:1:=cA h4;obtain⟨k,h5,q5⟩:1:=cA h5;obtain⟨t2,h1⟩:1:=qe h1;obtain⟨t6,h5⟩:1:=qe h5;exact⟨x0,x1,t2,t6,by rw[List.isEmpty_iff.mp h0,h1,p_ h2,p_ h3,CJ h4,h5,of_decide_eq_true q1,of_decide_eq_true q4,of_decide_eq_true q5]⟩
theorem Gz (hk:∀a o,a≠PL->h.get? a=some o->hb.get? a=some o)(e:M0 h=true):k6 hb:=by
 delta h hb;intro hk e;obtain⟨e1,e2⟩:=VU.mp e;constructor
 ·obtain⟨o,ho,e⟩:1:=cA e1
  obtain⟨c1,e⟩:=VU.mp e;obtain⟨c2,e⟩:=VU.mp e;obtain⟨vs,hd,e⟩:1:=cA e;obtain⟨x0,x1,t2,t6,hv⟩:4:=CM e;exact⟨o,x0,x1,t2,t6,hk _ _ ⋯ ho,of_decide_eq_true c1,of_decide_eq_true c2,(jZ hd).trans (congrArg _ (X6.mp hv))⟩
 ·obtain⟨o,ho,e⟩:1:=cA e2
  obtain⟨vs,hd,e⟩:1:=cA e;exact⟨o,vs.1,vs.2,hk _ _ ⋯ ho,zU hd,X6.mp (of_decide_eq_true e)⟩
theorem GQ (hk:∀a o,a≠PL->h.get? a=some o->hb.get? a=some o)(e:M_ h=true)(ab:V8)(w:Wi):∃f t,hb.MapOf (intKind ab w) 45 f/\f 97=none/\f 46=some (.str (ao [92,46]) t):=by
 revert hk e;delta h hb ab w;intro hk e;obtain⟨o,ho,e⟩:1:=cA e;obtain⟨c1,e⟩:=VU.mp e;obtain⟨c2,e⟩:=VU.mp e;obtain⟨c3,e⟩:=VU.mp e;obtain⟨es,hd,e⟩:1:=cA e;obtain⟨e3,e⟩:=VU.mp e;obtain⟨e4,e⟩:=VU.mp e;obtain⟨v,hv,e⟩:1:=cA e;obtain⟨x,hx,e⟩:1:=cA e;obtain rfl:=of_decide_eq_true e;obtain⟨t,rfl⟩:=uN hx;delta t;intro hv e hx;refine⟨findBy VQ.isInt es.1,t,⟨_,es.1,es.2,hk _ _ ⋯ ho,⟨of_decide_eq_true c1,of_decide_eq_true c2,XG (of_decide_eq_true c3)⟩,xT hd,λen SQ=>?_,λk=>rfl⟩,of_decide_eq_true e4,hv⟩;delta en;intro SQ;obtain⟨k,hk,q⟩:1:=cA (Wp.mp e3 en (Y3.mpr SQ));obtain⟨t2,Mg⟩:1:=qe hk;refine⟨k,?_,of_decide_eq_true q⟩;show VQ.isInt k en.key=true;rw[Mg];exact beq_self_eq_true k
theorem yd (e:MH h=true):h.get? PL=some (tabObj #[]):=by
 obtain⟨o,ho,e⟩:=cA e;obtain⟨c1,e⟩:=VU.mp e;obtain⟨c2,e⟩:=VU.mp e;obtain⟨c3,e⟩:=VU.mp e;obtain⟨vs,hd,e9⟩:=cA e;obtain⟨c,d,dt,sl⟩:=o;rw[ho];have h1:c=.none:=p_ c1;have h2:d=none:=of_decide_eq_true c2;have h3:sl=#[]:=XG (of_decide_eq_true c3);have h4:dt=.fields vs:=jZ hd;rw[h1,h2,h3,h4,XG (of_decide_eq_true e9)]
theorem Ie (hn:∀x∈["len", "range", "min", "max", "isinstance", "str", "object", "set"],mg (VN x)=none)(f:Str)(b:Bi)(e:jv f=some b):mg f=none:=by
 rcases wn e with⟨rfl,_⟩ |⟨rfl,_⟩ |⟨rfl,_⟩ |⟨rfl,_⟩<;>exact hn _ ⋯
noncomputable def Jm (p:Nat×V4):Bool:=MP (aS p.1).scope (dK p.1)&&!(VW p.2 PL)&&!(VW (p.2 - 1) PL)&&(!(fW (dZ p.1) dy)||VW (p.2 - 1) CT)
theorem Lq:Jt.all Jm=true:=by kernel_rfl
theorem CY {a b:Nat}(h:VW a b=false):a≠b:=by rintro rfl;simp at h
structure RX (hb:Wb)(mg:Str->Option VQ)(KF:Zo):Prop where
 F:kj hb mg
 G:uu hb mg KF
 led:∃fd,il hb mg (aS 18).name 163 fd (aZ 18) (dK 18)/\fd.scope.names=dZ 18
 law:∃fd,il hb mg (aS 21).name 178 fd (aZ 21) (dK 21)/\fd.scope.names=dZ 21
theorem HM {w:Wi}(hk:∀a o,a≠PL->h.get? a=some o->hb.get? a=some o)(hY:Yh h=Ya w)(BF:OU mg=true)(hg:hb.Ns mainGlobals mg)(Fp:∃mb,hb.Ns builtinsNs mb/\∀x:Str,x≠ "__name__" -> mb x=bootBuiltins x)(NP:hb.NoLimit)(NY:hb.BuiltinsAt mg PL) :
  RX hb mg (By h)/\h.get? PL=some (tabObj #[]):=by
 delta h hb mg w;intro hk hY BF hg Fp NP NY;have y1:∀p∈Jt,Lr h p.2=some (Ls (aS p.1).name (aS p.1) p.2):=List.map_inj_left.mp (congrArg (·.1) hY);have y2:∀p∈LW,Lr h p.2=some (Ls (mq p.1) (m9 p.1) p.2):=List.map_inj_left.mp (congrArg (·.2.1) hY);have y3:EY h=true:=congrArg (·.2.2) hY;unfold EY at y3;simp only[V3]at y3;obtain⟨⟨⟨⟨⟨⟨z1,z2⟩,z3⟩,z4⟩,z5⟩,z6⟩,z7⟩:=y3;unfold OU at BF;simp only[V3,decide_eq_true_eq]at BF;obtain⟨⟨⟨⟨n1,n2⟩,n3⟩,n4⟩,n5⟩:=BF;have nn:∀x∈["len", "range", "min", "max", "isinstance", "str", "object", "set"],mg (VN x)=none:=λx hx=>Option.isNone_iff_eq_none.mp (dP n5 x hx)
 have D:∀i a,(i,a)∈Jt->bP (aS i).params (dK i) []->∃fd,il hb mg (aS i).name a fd (aZ i) (dK i)/\fd.scope.names=dZ i:=λi a hm om=>by
  delta i a;intro hm om;have c:=dP Lq (i,a) hm;unfold Jm at c;simp only[V3,Wv,Wt]at c;obtain⟨⟨⟨c1,c2⟩,c3⟩,c4⟩:=c;refine LD hk (of_decide_eq_true (dP n1 (i,a) hm)) (CY c2) (CY c3) (y1 (i,a) hm) (dP z1 (i,a) hm) c1 om λq=>?_
  rcases c4 with c4 |c4
  ·exact dw q c4
  ·exact V_ c4
 have Mt:∀i a xs kw,(i,a)∈LW->a≠PL->a - 1≠PL->MP (m9 i).scope xs=true->fW (vd i) dy=false->bP (m9 i).params xs kw->qQ hb a i xs kw:=λi a xs kw hm h1 h2 hs tU om=>by
  delta i a xs kw;intro hm h1 h2 hs tU om;obtain⟨fd,a1,BA⟩:1:=yx hk h1 h2 (y2 (i,a) hm) (dP z2 (i,a) hm) hs om;exact⟨fd,⟨a1,BA.1,BA.2.1,BA.2.2.1,BA.2.2.2.1,BA.2.2.2.2.1,BA.2.2.2.2.2.2.2.1,BA.2.2.2.2.2.2.2.2.1,BA.2.2.2.2.2.2.2.2.2.1,BA.2.2.2.2.2.2.2.2.2.2.1,by rw[BA.2.2.2.2.2.1];exact tU⟩,by rw[BA.2.2.2.2.2.1];rfl,BA.2.2.2.2.2.2.2.2.2.2.2⟩
 obtain⟨FK,chd⟩:=Ei hk z3 z7;have B:dT hb mg:=⟨hg,Fp,Ie nn,NP,chd,NY⟩;refine⟨⟨⟨B,λi hi=>?_,⟨n4,λab w=>GQ hk z5 ab w,nn _ (by simp),nn _ (by simp),nn _ (by simp)⟩,⟨55,D 6 55 ⋯ Vi⟩,n2,Gz hk z4,⟨43,D 3 43 ⋯ Vj⟩⟩,⟨nn _ (by simp),n3,FK,?_⟩,D 18 163 ⋯ RM,D 21 178 ⋯ RJ⟩,yd z6⟩
 ·delta i;intro hi;simp only[cT,V2,Wf,or_false]at hi
  rcases hi with rfl |rfl |rfl |rfl |rfl |rfl |rfl |rfl |rfl
  ·exact⟨151,D 16 151 ⋯ RO⟩
  ·exact⟨137,D 14 137 ⋯ RQ⟩
  ·exact⟨158,D 17 158 ⋯ RN⟩
  ·exact⟨144,D 15 144 ⋯ RP⟩
  ·exact⟨62,D 8 62 ⋯ Vh⟩
  ·exact⟨69,D 9 69 ⋯ Vg⟩
  ·exact⟨130,D 13 130 ⋯ RR⟩
  ·exact⟨168,D 19 168 ⋯ RL⟩
  ·exact⟨173,D 20 173 ⋯ RK⟩
 ·exact⟨Mt 2 83 _ _ ⋯ ⋯ ⋯ nofun nofun Vf,Mt 3 90 _ _ ⋯ ⋯ ⋯ nofun nofun Ve,Mt 4 97 _ _ ⋯ ⋯ ⋯ nofun nofun Vd,Mt 5 104 _ _ ⋯ ⋯ ⋯ nofun nofun Vc,Mt 6 111 _ _ ⋯ ⋯ ⋯ nofun nofun Vb,Mt 7 118 _ _ ⋯ ⋯ ⋯ nofun nofun Va⟩
end
noncomputable def J2:OpenRow:=Zp.row
noncomputable def Tg (mg:Str->Option VQ)(_:Wb):Prop:=OU mg=true
noncomputable def Tj (w:Wi)(h:Wb):Prop:=∃an:Wb,(∀b o,an.get? b=some o->h.get? b=some o)/\Yh an=Ya w
theorem Ht {R:WRecords}{xs:List WData}:WShape.hasItems R xs .int=true->∃ns:List Int,xs=ns.map .int:=by
 delta R xs;induction xs with
 |nil =>
  intro _;exact⟨[],rfl⟩
 |cons x xs ih =>
  intro e;have e:(WShape.has R x .int&&WShape.hasItems R xs .int)=true:=e;have e:=VU.mp e;obtain⟨ns,rfl⟩:=ih e.2
  cases x with
  |int i=>exact⟨i::ns,rfl⟩
  |_=>exact eV e.1
theorem xC {R:WRecords}{cl:Str->Option V4}{h:Wb}{F:Fz}{ns:List Int}:∀{vs:List VQ} {as:List V4},ReadsAllW R cl h vs (ns.map .int) as->al F vs (ns.map D.int):=by
 delta R cl h F ns;induction ns with
 |nil =>
  intro vs as x
  cases x;exact .nil
 |cons n ns ih =>
  delta n ns;intro ih;intro vs as x
  cases x with
  |cons a b =>
   cases a;exact .cons (.int _ _) (ih b)
theorem Ik {args:List WData}(h:J2.toRowW.claim.pre args=true):∃ns:List Int,args=[.list (ns.map .int)]/\ns.length<=63:=by
 obtain⟨h1,h2⟩:=pre_splitW h;have h1:WShape.hasAll [] args [.list .int]=true:=h1
 cases args with
 |nil=>exact eV h1
 |cons x r =>
  have h1:(WShape.has [] x (.list .int)&&WShape.hasAll [] r [])=true:=h1;have h1:=VU.mp h1
  cases r with
  |cons y r=>exact eV h1.2
  |nil =>
   replace h1:=h1.1;clear h
   cases x with
   |list xs =>
    have h1:(WShape.hasItems [] xs .int||false)=true:=h1;rw[Bool.or_false]at h1;obtain⟨ns,rfl⟩:=Ht h1;refine⟨ns,rfl,?_⟩;clear h1;have h3:WTm.holds [] (.and (.not (.lt (.lit (.int 63)) (.len (.arg 0)))) (.lit (.bool true))) { args:=[.list (ns.map .int)] }=!(decide ((63:Int)<(ns.map WData.int).length)):=by
     unfold WTm.holds;simp only[WTm.value,Zn,less?,Num.less?,Xz]
     cases decide ((63:Int)<(ns.map WData.int).length)<;>rfl
    have h2:=h3.symm.trans h2;rw[Wv,VZ]at h2;exact Int.ofNat_le.mp (Int.not_lt.mp (of_decide_eq_false h2))
   |_=>exact eV h1
theorem MF {h:Wb}{w:Wi}(hY:Yh h=Ya w):h.get? PL=some (tabObj #[]):=by
 have y3:EY h=true:=congrArg (·.2.2) hY;unfold EY at y3;simp only[V3]at y3;exact yd y3.1.2
theorem qa {h:Wb}(x:CodeHd h CT PL)(hP:h.get? PL=some (tabObj #[])):isCodeTable h PL:=(x.tab hP).isCodeTable
set_option tactic.hygienic true in
theorem FE {kwd:List (Str×Expr)}:WalkO qv pT Tg Tj J2.toRowW (aS 21) kwd λf vs=>PySem.call f vs:=by
 delta kwd;intro w ae aR mg mb G Y a o pm cd doc dV kV ho hd yW hD K0 hg args vals as HF K2 O4 O1 O9;revert G Y ho hd yW hD K0 hg HF K2 O4 O1 O9;delta w ae aR mg mb a o pm cd doc dV kV args vals as;intro G Y ho hd yW hD K0 hg HF K2 O4 O1 O9;obtain⟨an,Q3,hY⟩:1:=Y;obtain⟨ns,rfl,hz⟩:=Ik HF;delta ns;intro hz HF K2 O4 O1;have hk:∀a o,a≠PL->an.get? a=some o->(hideAll aR.heap [PL]).get? a=some o:=λa o n e=>hideAll_get [PL] (Q3 a o e) (by simpa using n)
 have yU:∀a o,(hideAll aR.heap [PL]).get? a=some o->aR.heap.get? a=some o/\a≠PL:=λa o e=>⟨of_hideAll [PL] e,by rintro rfl;rw[hideAll_none [PL] VT]at e;cases e⟩
 have hx:WV PL aR.heap (hideAll aR.heap [PL]):=λa o n e=>hideAll_get [PL] e (by simpa using n)
 have AZ:=Q3 _ _ (MF hY);have bmain:(hideAll aR.heap [PL]).BuiltinsAt mg PL:=by
  obtain⟨bm,ob,b1,b2,b3,b4,b5,b6⟩:2:=G.T.bmain;have cS:bm≠mainGlobals:=by
   rintro rfl;obtain⟨o',es,ep,dM,eS,_⟩:3:=G.T.g;obtain rfl:=cG b3 dM;rw[b6]at eS;cases eS
  have SF:bm≠PL:=by
   rintro rfl;obtain rfl:=cG AZ b3
   cases b4
  exact⟨bm,ob,b1,b2,cS,SF,hx _ _ SF b3,b4,b5,b6⟩
 have lim:(hideAll aR.heap [PL]).NoLimit:=by
  obtain⟨mc,n1,n2⟩:1:=G.T.nolimit;exact⟨mc,n1.extBut hx ⋯,n2⟩
 obtain⟨Hd,BK⟩:=HM (w:=w) hk hY G.X (G.T.g.extBut hx ⋯) ⟨mb,G.T.b.extBut hx ⋯,G.T.builtins⟩ lim bmain;obtain⟨Rv,Mq,QT⟩:1:=Hd.led;obtain⟨fd,Df,hn⟩:1:=Hd.law;have ea:a=178:=by
  have:=K0.symm.trans Df.at_;injection this with this
  injection this
 subst ea;have am:Am callerA (λb=>if b=PL then none else aR.heap.get? b) aR:={
  fz:=λb p e=>by
   by_cases q:b=PL
   ·rw[if_pos q]at e;cases e
   ·rw[if_neg q]at e;exact e
  tab:=⟨_,AZ,#[],rfl,trivial⟩
  pl:=if_pos rfl
  hh:=rfl
  hu:=by decide }
 have bf:au (hideAll aR.heap [PL]) (λb=>if b=PL then none else aR.heap.get? b):=λb p e=>by
  obtain⟨e1,e2⟩:=yU b p e;show(if b=PL then none else _)=_;rw[if_neg e2,e1]
 have hv:al (λb=>if b=PL then none else aR.heap.get? b) vals [.lst (ns.map D.int)]:=by
  clear G yW hD O9 Q3 O1 hk hx bmain lim;cases O4 with
  |cons r1 r2 =>
   clear yU Hd Mq Df am bf;cases r2
   cases r1 with
   |list e1 e2 e3 e4 =>
    rename_i l ol vs n as';refine .cons (.lst (o:=ol) (vs:=vs) (n:=n) ?_ e2 e3 (by rw[VZ];lia) (xC e4)) .nil;show(if l=PL then none else _)=_;rw[if_neg,e1];rintro rfl;rw[AZ]at e1;clear e3;cases e1
    cases e2
 refine Kt Hd.F Hd.G Mq QT Df hn ns (Ai ns) am ⟨by decide,by decide⟩ bf hv ?_;exists v,F',s';intro g HC;cases HC;refine⟨.inl ⟨.bool true,.bool true,[],rfl,λcls=>rfl,.bool true,?_,λ_=>⟨List.nodup_nil,λa ha=>by cases ha⟩⟩,⟨λb p e=>?_,λb p e=>?_⟩,g.os,?_⟩
 ·kernel_rfl
 ·delta b p;intro e;by_cases q:b=PL
  ·subst q
   rw[AZ]at e
   cases e;obtain⟨o',dM,ht⟩:=g.tab _ AZ;replace ht:=ht ⟨#[],rfl,trivial⟩;obtain⟨ps,rfl,_⟩:=ht;refine .inr (.inl ⟨?_,rfl,#[],ps,rfl,?_⟩)
   ·exact qa (Hd.F.B.chd.keeps λb o e=>(yU b o e).1) AZ
   ·rw[dM]
    simp
  ·exact .inl (g.keep b p q e)
 ·by_cases q:b=PL
  ·subst q
   obtain⟨o',dM,_⟩:=g.tab _ e;exact⟨o',dM⟩
  ·exact⟨p,g.keep b p q e⟩
 ·exact AllBare.of_eq (g.gens.trans hg)
set_option tactic.hygienic true
set_option maxHeartbeats 8000000 in
theorem NH:Zp.Holds:=by
 w_on
 refine holds_law nofun λPQ=>?_
 exact PySem.W.holds_open (r:=J2) (q:=qv) (loose:=pT) (Xt:=Xt) (XP:=Tg) (Yf:=Yf) (Ya:=Ya) (YP:=Tj) (N:=4506) (d:=aS 21) (kwd:=[]) left (λw s e=>⟨s.heap,λ_ _ e=>e,e⟩) (λw h h' ⟨an,k,e⟩ k'=>⟨an,λb o q=>k' b o (k b o q),e⟩)
  (λs e=>(VU.mp e).1) (λ_ _ _ x _=>x) nofun nofun nofun (λs e=>recFacts_of (VU.mp e).2) (by rfl) PQ (by decide +kernel) ⟨rfl,rfl,rfl,rfl,rfl,by decide +kernel⟩ ⟨[.list []],by decide +kernel,by decide +kernel⟩ FE
end Mine
theorem PySem.Challenge.cw_ij0171_01_holds : PySem.Challenge.rw_ij0171_01.Holds := by
  exact Mine.NH
