import PyProof.Rows.All
import Wide.All
import OpenK.AllK
import Wide.FinOn
import KE.KSortAsk
import KE.KDictSum
import KE.KTurns
import KE.LcTurns
import PyProof.Rows.Range3
import KE.KUnpack
import KE.KAssignIn
import PyProof.DictValues
import PyProof.EnumMake
import PyProof.TupleOfGen
import PyProof.TypeOfCall
import PyProof.Rows.ExtendIn
import PyProof.ExcAttrAll.IndexError
import Lean
import PySem.Challenge.RW_rt0078_03
set_option Elab.async false
set_option genSizeOf false
set_option genInjectivity false
set_option compiler.extract_closed false
set_option linter.all false
set_option maxRecDepth 100000
set_option maxHeartbeats 8000000
open PySem PySem.W PyProof.Rows
set_option genCtorIdx false
set_option bootstrap.genMatcherCode false
namespace Mine.Internal
set_option tactic.hygienic false
local macro_rules | `(⋯) => `(by kernel_rfl)
local macro_rules | `(tactic| cases $h:ident) => `(tactic| first | contradiction | (replace $h:ident := Option.some.inj $h; subst $h) | (injection $h with h1 h2; subst h1; subst h2) | (injection $h with h1; subst h1) | subst $h | cases ($h))
section
theorem ay7 {n j k:Nat} (h:n - j=k+1):n - (j+1)=k:=congrArg Nat.pred h
theorem bt9 {n j k:Nat} (h:n - j=k+1):j < n:=Nat.lt_of_sub_eq_succ h
theorem eh6 {n j k:Nat} (h:n - j<=k+1):n - (j+1)<=k:=Nat.pred_le_pred h
theorem du6 {n i:Nat} (h:i < n):n - i=n - (i+1)+1:=(Nat.sub_add_cancel (Nat.sub_pos_of_lt h)).symm
noncomputable def prog:Program:=PySem.Challenge.pw_rt0078_03
noncomputable abbrev D:=PyData
noncomputable abbrev Calls:=String->List D->Option D
set_option genCtorIdx true in
inductive aa3 where | fr | own | lock | cap
 deriving DecidableEq
set_option genCtorIdx true in
inductive BF where | len | sorted | min | max | divmod
set_option genCtorIdx true in
inductive MF where | startswith | endswith | rstrip | rfind | split | join | get
noncomputable def aj3 (x:Str):Bool:=x != ("__debug__":Str) && x != ("__classdict__":Str)
noncomputable def d8 (sc:Scope) (x:Str):Option Nat:=match sc.names.lookup x with
 | some .local | some .cell | some .free=>if aj3 x then sc.names.findIdx? (·.1 == x) else none
 | _=>none
noncomputable def i5 (sc:Scope) (x:Str):Bool:=sc.names.lookup x == some .globalImplicit && aj3 x
noncomputable def j5 (sc:Scope) (x:Str):Option Nat:=match sc.names.lookup x with
 | some .local | some .cell=>d8 sc x
 | _=>none
noncomputable def ad3 (inner outer:Scope):List (Option Nat):=inner.names.map λ (n,k)=>if k == .free then d8 outer n else none
noncomputable def aa0 (e:Expr):Bool:=e.ctorIdx != 7
noncomputable def ej7:ScopeKind->Bool | .function=>true | _=>false
noncomputable def ay4 (inner outer:Scope) (iter:Expr):Bool:=
 ej7 inner.kind && decide ((inner.names.map (·.1)).Nodup) && aa0 iter &&
  inner.names.all λ (x,k)=>if k == .free then (outer.names.lookup x == some .cell || outer.names.lookup x == some .free) && aj3 x else true
noncomputable def aa3.ownish:aa3->Bool
 | .own | .lock=>true
 | _=>false
noncomputable abbrev Slot:=Option (aa3×D)
noncomputable abbrev Rho:=List Slot
noncomputable def Rho.get (r:Rho) (i:Nat):Slot:=(r[i]?).getD none
noncomputable def aa3.isOwn:aa3->Bool | .own=>true | _=>false
noncomputable def Rho.frz (r:Rho) (i:Nat):Rho:=match r.get i with
 | some (.own,d)=>r.set i (some (.fr,d))
 | _=>r
noncomputable def sz (n:Nat):Bool:=n<=16777216
noncomputable def ao2:D->Option Int | .int i=>some i | _=>none
noncomputable def u6:D->Option Str | .str i=>some i | _=>none
noncomputable def w8:D->Option (List D) | .list l=>some l | _=>none
noncomputable def dc3:D->Option (List D) | .tuple l=>some l | _=>none
noncomputable def es3:D->Option Bool | .bool b=>some b | _=>none
noncomputable def isB (b:Bool):D->Bool | .bool c=>b == c | _=>false
noncomputable def az1:D->Option (List (D×D)) | .dict l=>some l | _=>none
noncomputable def gd {α:Type} (c:Bool) (o:Option α):Option α:=bif c then o else none
noncomputable def one {α:Type}:List α->Option α | [a]=>some a | _=>none
noncomputable def two {α:Type}:List α->Option (α×α) | [a,b]=>some (a,b) | _=>none
inductive dp9 {α β:Type} (o:Option α) (f:α->Option β) (b:β):Prop
 | mk (a:α) (h1:o=some a) (h2:f a=some b):dp9 o f b
theorem am1 {α:Type} {p:α->Bool} {l:List α} (h:l.all p=true):∀ x∈l,p x=true:=by simpa using h
@[elab_as_elim] theorem cb6 {α:Type} {l:List α} {P:List α->Prop} (e:l.length=0) (h:P []):P l:=by
 cases l with
 | nil=>exact h
 | cons=>exact nomatch e
@[elab_as_elim] theorem ap9 {α:Type} {n:Nat} {l:List α} {P:List α->Prop} (e:l.length=n+1) (h:∀ a t,t.length=n->P (a :: t)):P l:=by
 cases l with
 | nil=>exact nomatch e
 | cons a t=>exact h a t (Nat.succ.inj e)
theorem a6 {α β:Type} {o:Option α} {f:α->Option β} {b:β} (h:(o >>= f)=some b):dp9 o f b:=by
 cases o with
 | none=>cases h
 | some a=>exact ⟨a,rfl,h⟩
theorem i4 {α:Type} {c:Bool} {o:Option α} {a:α} (h:gd c o=some a):c=true/\o=some a:=by
 cases c
 ·cases h
 ·exact ⟨rfl,h⟩
theorem al3 {α:Type} {o p:Option α} {a:α} (h:o.or p=some a):o=some a\/p=some a:=by
 cases o
 ·exact .inr h
 ·exact .inl h
theorem am8 {d:D} {i:Int} (h:ao2 d=some i):d = .int i:=by cases d <;> cases h;rfl
theorem l9 {d:D} {i:Str} (h:u6 d=some i):d = .str i:=by cases d <;> cases h;rfl
theorem r8 {d:D} {i:List D} (h:w8 d=some i):d = .list i:=by cases d <;> cases h;rfl
theorem ef5 {d:D} {i:List D} (h:dc3 d=some i):d = .tuple i:=by cases d <;> cases h;rfl
theorem ed7 {b:Bool} {d:D} (h:isB b d=true):d = .bool b:=by
 cases d with
 | bool c=>rw [eq_of_beq h]
 | _=>cases h
theorem ap2 {d:D} {i:List (D×D)} (h:az1 d=some i):d = .dict i:=by cases d <;> cases h;rfl
theorem ak1 {α:Type} {l:List α} {a:α} (h:one l=some a):l=[a]:=by
 match l,h with
 | [_],h=>cases h;rfl
theorem bp2 {α:Type} {l:List α} {p:α×α} (h:two l=some p):l=[p.1,p.2]:=by
 cases l with
 | nil=>exact nomatch h
 | cons a l=>
 cases l with
 | nil=>exact nomatch h
 | cons b l=>
 cases l with
 | nil=>exact congrArg (λ p:α×α=>[p.1,p.2]) (Option.some.inj h)
 | cons=>exact nomatch h
noncomputable def an4 {α:Type} (f:Int->Int->Option α) (a b:D):Option α:=do
 let x <- ao2 a
 let y <- ao2 b
 f x y
noncomputable def az0 {α:Type} (f:Str->Str->Option α) (a b:D):Option α:=do
 let x <- u6 a
 let y <- u6 b
 f x y
inductive On2 {α β γ:Type} (c:α->D) (e:β->D) (f:α->β->Option γ) (a b:D) (r:γ):Prop
 | mk (x:α) (y:β) (h1:a=c x) (h2:b=e y) (h:f x y=some r):On2 c e f a b r
theorem cm7 {α:Type} {f:Int->Int->Option α} {a b:D} {r:α} (h:an4 f a b=some r):On2 .int .int f a b r:=by
 obtain ⟨x,h1,h⟩:=a6 h
 obtain ⟨y,h2,h⟩:=a6 h
 exact ⟨x,y,am8 h1,am8 h2,h⟩
theorem as5 {α:Type} {f:Str->Str->Option α} {a b:D} {r:α} (h:az0 f a b=some r):On2 .str .str f a b r:=by
 obtain ⟨x,h1,h⟩:=a6 h
 obtain ⟨y,h2,h⟩:=a6 h
 exact ⟨x,y,l9 h1,l9 h2,h⟩
mutual
noncomputable def ltD:D->D->Bool
 | .int a,d=>((ao2 d).map λ b=>decide (a < b)).getD false
 | .str a,d=>((u6 d).map λ b=>decide (a.cps.toList < b.cps.toList)).getD false
 | .list xs,d=>((w8 d).map λ ys=>by8 xs ys).getD false
 | _,_=>false
noncomputable def by8:List D->List D->Bool
 | [],l=>!l.isEmpty
 | x :: xs,l=>match l with
  | []=>false
  | y :: ys=>bif PyData.eqv x y then by8 xs ys else ltD x y
end
theorem du5 (a b:List D):ltD (.list a) (.list b)=by8 a b:=rfl
noncomputable def isStr:D->Bool | .str _=>true | _=>false
noncomputable def av8:D->Bool | .list l=>l.all isStr | _=>false
noncomputable def leB (a b:D):Bool:=!ltD b a
noncomputable def al7 (d:D):Bool:=(do let l <- w8 d;let p <- two l;let _ <- u6 p.1;(u6 p.2).map λ _=>true).getD false
noncomputable def bi0:List D->Bool
 | []=>true
 | d :: r=>r.all (λ e=>!PyData.eqv d e) && bi0 r
noncomputable def bg6 (l:List D):Option (List D):=
 if decide (l.length < 64) && (l.all isStr || (l.all al7 && (decide (l.length<=6) && bi0 l))) && SeqAt.shaped (.list l) then some (l.mergeSort leB) else none
noncomputable def eh1:List D->Option D
 | []=>none
 | d :: r=>if (d :: r).all av8 then some (r.foldl (λ m x=>if ltD x m then x else m) d) else none
noncomputable def ei2:List D->Option D
 | []=>none
 | d :: r=>if (d :: r).all av8 then some (r.foldl (λ m x=>if ltD m x then x else m) d) else none
noncomputable def eqK (a b:D):Bool:=((do let x <- u6 a;let y <- u6 b;some (x == y)):Option Bool).getD false
noncomputable def z8:D->Bool | .str _=>true | _=>false
noncomputable def bc6 (kvs:List (D×D)) (k:D):Option D:=(kvs.find? λ e=>eqK e.1 k).map (·.2)
noncomputable def ag8 (kvs:List (D×D)) (k v:D):List (D×D):=
 if kvs.any λ e=>eqK e.1 k then kvs.map λ e=>if eqK e.1 k then (e.1,v) else e else kvs ++ [(k,v)]
noncomputable def cm0 (b:List (D×D)) (e:D×D):Bool:=((bc6 b e.1).map (PyData.eqv e.2)).getD false
noncomputable def am3 (a b:List (D×D)):Bool:=a.length == b.length && a.all (cm0 b)
noncomputable def aw1 (a:List (D×D)):Bool:=a.all λ e=>z8 e.1 && SeqAt.shaped e.2
noncomputable def eqM (a b:D):Option Bool:=do
 let x <- az1 a
 let y <- az1 b
 gd (aw1 x && aw1 y) (some (am3 x y))
noncomputable def eqD (a b:D):Option Bool:=(az0 (λ x y=>some (x == y)) a b).or (gd (SeqAt.shaped a && SeqAt.shaped b) (some (PyData.eqv a b)))
noncomputable def inL (a b:D):Option Bool:=do let l <- w8 b;gd (SeqAt.shaped a && SeqAt.shaped (.list l)) (some (l.any λ y=>PyData.eqv y a))
noncomputable def inD (a b:D):Option Bool:=(az0 (λ x y=>some (Txt.contains y x)) a b).or ((inL a b).or
 (do let l <- az1 b;gd (z8 a) (some (bc6 l a).isSome)))
noncomputable def bb7 (op:CmpOp) (a b:D):Option Bool:=match op with
 | .Eq=>(eqD a b).or (eqM a b)
 | .NotEq=>(eqD a b).map (!·)
 | .In=>inD a b
 | .NotIn=>(inL a b).map (!·)
 | _=>none
noncomputable def small (i:Int):Bool:=decide (i.natAbs < 2 ^ 60)
noncomputable def dl1 (a b:D):Option D:=(an4 (λ x y=>some (.int (x+y))) a b).or (az0 (λ x y=>gd (sz (x.length+y.length)) (some (.str (x ++ y)))) a b)
noncomputable def ew6 (a b:D):Option D:=(dl1 a b).or (do let x <- w8 a;let y <- w8 b;gd (sz (x.length+y.length)) (some (.list (x ++ y))))
noncomputable def ev9 (a b:D):Option D:=do
 let x <- u6 a
 let y <- ao2 b
 gd (decide (0<=y) && (decide (y<=1048576) && x.length == 1)) (some (.str ⟨Array.replicate y.toNat (x.cps.getD 0 0)⟩))
noncomputable def bf4 (op:Operator) (a b:D):Option D:=match op with
 | .Add=>ew6 a b
 | .Sub=>an4 (λ x y=>some (.int (x - y))) a b
 | .Mult=>ev9 a b
 | .FloorDiv=>an4 (λ x y=>gd (decide (0 < y) && (small x && small y)) (some (.int (x.fdiv y)))) a b
 | .Mod=>an4 (λ x y=>gd (decide (0 < y)) (some (.int (x.fmod y)))) a b
 | .RShift=>an4 (λ x y=>gd (decide (0<=y) && decide (y<=64)) (some (.int (x.fdiv (2 ^ y.toNat))))) a b
 | .BitAnd=>an4 (λ x y=>gd (y == 1) (some (.int (x.fmod 2)))) a b
 | _=>none
noncomputable def ay6:D->Option Bool
 | .bool b=>some b
 | .int i=>some (i != 0)
 | .str s=>gd (sz s.length) (some (s.length != 0))
 | .tuple l=>gd (sz l.length) (some (!l.isEmpty))
 | _=>none
noncomputable def ea5:D->Option (List D)
 | .list l=>some l
 | .tuple l=>some l
 | _=>none
noncomputable def bz4 (a b:D):Option D:=(do
 let l <- ea5 a
 let i <- ao2 b
 gd (decide (0<=i) && decide (i < 1152921504606846976)) l[i.toNat]?).or (do
 let l <- az1 a
 gd (z8 b && l.all λ e=>z8 e.1) (bc6 l b))
noncomputable def bc0 (a b:D):Option D:=do
 let i <- ao2 b
 (do let l <- w8 a;gd (decide (0<=i) && (decide (i<=16777216) && sz l.length)) (some (PyData.list (l.take i.toNat)))).or
  (do let s <- u6 a;gd (decide (0<=i) && (decide (i<=16777216) && sz s.length)) (some (.str ⟨(s.cps.toList.take i.toNat).toArray⟩)))
noncomputable def co1 (a b:D):Option D:=do
 let i <- ao2 b
 let s <- u6 a
 gd (decide (0<=i) && (decide (i<=16777216) && sz s.length)) (some (.str ⟨(s.cps.toList.drop i.toNat).toArray⟩))
noncomputable def eq4 (d:D):Option D:=(do let l <- w8 d;gd (sz l.length) (some (PyData.int l.length))).or
 (do let s <- u6 d;gd (sz s.length) (some (.int s.length)))
noncomputable def bq0 (d:D):Option (List D):=(do bg6 (<- w8 d)).or
 (do let l <- az1 d;gd ((l.map λ e:D×D=>e.1).all isStr) (bg6 (l.map λ e:D×D=>e.1)))
noncomputable def bfD (f:BF) (ds:List D):Option D:=match f with
 | .len=>do eq4 (<- one ds)
 | .sorted=>do (bq0 (<- one ds)).map PyData.list
 | .min=>do eh1 (<- w8 (<- one ds))
 | .max=>do ei2 (<- w8 (<- one ds))
 | .divmod=>do
  let p <- two ds
  an4 (λ a b=>gd (decide (0 < b) && (small a && small b)) (some (.tuple [.int (a.fdiv b),.int (a.fmod b)]))) p.1 p.2
noncomputable def mbD:MF->Option (Str->Str->Bool)
 | .startswith=>some Txt.startswith
 | .endswith=>some Txt.endswith
 | _=>none
noncomputable def smD (m:MF) (x:Str) (d:D):Option D:=match m with
 | .startswith=>(u6 d).map λ y=>.bool (Txt.startswith x y)
 | .endswith=>(u6 d).map λ y=>.bool (Txt.endswith x y)
 | .rstrip=>do let y <- u6 d;gd (sz x.length) (some (.str (Txt.rstripChars x y)))
 | .rfind=>(u6 d).map λ y=>.int (Txt.rfind x y)
 | .split=>do let y <- u6 d;gd (sz (x.length+2) && y.length == 1) (some (.list ((Txt.split x y).map PyData.str)))
 | .join=>do
  let l <- w8 d
  let ss <- l.mapM u6
  gd (JoinOk x ss && sz l.length) (some (.str (Txt.join x ss)))
 | .get=>none
noncomputable def ew5 (r:D) (ds:List D):Option D:=do
 let kvs <- az1 r
 let p <- two ds
 gd (z8 p.1 && kvs.all (λ e=>z8 e.1)) (some ((bc6 kvs p.1).getD p.2))
noncomputable def de4:MF->Bool | .get=>true | _=>false
noncomputable def mfD (m:MF) (r:D) (ds:List D):Option D:=bif de4 m then ew5 r ds else do
 let x <- u6 r
 let d <- one ds
 smD m x d
noncomputable def inR (n:Int):Bool:=decide (-1048576<=n) && decide (n<=1048576)
noncomputable def cf4 (ds:List D):Option (List D):=do
 let n <- ao2 (<- one ds)
 gd (inR n) (some ((List.range n.toNat).map λ (k:Nat)=>PyData.int ((k:Nat):Int)))
noncomputable def ac2 (n:Nat):List D->List D
 | []=>[]
 | d :: r=>.tuple [.int n,d] :: ac2 (n+1) r
noncomputable def ch5:D->Option (List D)
 | .list l=>some l
 | .tuple l=>some l
 | .str s=>some (s.cps.toList.map λ c=>.str ⟨#[c]⟩)
 | .dict kvs=>gd (kvs.all λ e=>z8 e.1) (some (kvs.map (·.1)))
 | _=>none
noncomputable def ab3:Rho->List Nat->List D->Rho
 | r,[],_=>r
 | r,i :: is,ds=>match ds with
  | []=>r
  | d :: ds=>ab3 (r.set i (some (.fr,d))) is ds
noncomputable def m8 (r:Rho) (tgt:List Nat) (d:D):Option Rho:=
 bif tgt.length == 1 then (do let x <- one tgt;some (r.set x (some (.fr,d)))) else
 (do let ds <- dc3 d;gd (decide (2<=tgt.length) && ds.length == tgt.length) (some (ab3 r tgt ds)))
noncomputable def bj2:Slot->Slot
 | some (m,d)=>some (match m with | .fr=>.fr | _=>.cap,d)
 | none=>none
noncomputable def as7 (r:Rho) (cap:List (Option Nat)):Rho:=cap.map λ o=>bj2 (o.bind r.get)
structure IR where
 tag:Nat
 v:Option Nat
 bl:Bool
 ao:Bool
 sr:Bool
 al:Bool
 fr0:(String->Bool)->Bool
 ev0:Calls->Rho->Option D
 tb:Calls->Rho->Option Bool
 it0:Calls->Rho->Option (List D)
section
variable (U:Calls)
noncomputable def eval (e:IR) (r:Rho):Option D:=bif e.bl then (e.tb U r).map .bool else e.ev0 U r
noncomputable def look (e:IR) (r:Rho):Option D:=match e.v with
 | some i=>(r.get i).map (·.2)
 | none=>eval U e r
noncomputable def ab4 (e:IR) (r:Rho):Option Bool:=bif e.bl || e.ao then e.tb U r else do
 let d <- look U e r
 ay6 d
noncomputable def e9 (e:IR) (r:Rho):Option (List D):=bif e.sr then e.it0 U r else do ch5 (<- look U e r)
noncomputable def ac3:List IR->Rho->Option (List D)
 | [],_=>some []
 | e :: es,r=>do
   let d <- eval U e r
   let ds <- ac3 es r
   some (d :: ds)
noncomputable def aq5:List IR->Rho->Option (List D)
 | [],_=>some []
 | e :: es,r=>do
   let d <- look U e r
   let ds <- aq5 es r
   some (d :: ds)
noncomputable def bj8:List IR->Rho->Option Bool
 | [],_=>some true
 | e :: es,r=>do bif <- ab4 U e r then bj8 es r else some false
noncomputable def orE:List IR->Rho->Option Bool
 | [],_=>some false
 | e :: es,r=>do bif <- ab4 U e r then some true else orE es r
noncomputable def ah1:List IR->Rho->Option Bool
 | [],_=>some true
 | e :: es,r=>do bif <- ab4 U e r then ah1 es r else some false
end
namespace IR
noncomputable def pl (t:Nat) (f:Calls->Rho->Option D):IR:=⟨t,none,false,false,false,false,λ ξ=>false,f,λ ξ ξ=>none,λ ξ ξ=>none⟩
noncomputable def bo (t:Nat) (f:Calls->Rho->Option Bool):IR:=⟨t,none,true,false,false,false,λ ξ=>false,λ ξ ξ=>none,f,λ ξ ξ=>none⟩
noncomputable def so (t:Nat) (a:Bool) (f:Calls->Rho->Option (List D)):IR:=⟨t,none,false,false,true,a,λ ξ=>false,λ ξ ξ=>none,λ ξ ξ=>none,f⟩
end IR
noncomputable def bw3:Slot->Option D
 | some (.fr,d)=>some d
 | _=>none
noncomputable def IR.var (i:Nat):IR:=⟨0,some i,false,false,false,false,λ ξ=>false,λ ξ r=>bw3 (r.get i),λ ξ ξ=>none,λ ξ ξ=>none⟩
noncomputable def IR.none:IR:=.pl 1 λ ξ ξ=>some .none
noncomputable def IR.bool (b:Bool):IR:=.bo 2 λ ξ ξ=>some b
noncomputable def IR.int (i:Int):IR:=.pl 3 λ ξ ξ=>some (.int i)
noncomputable def IR.str (s:Str):IR:=.pl 4 λ ξ ξ=>some (.str s)
noncomputable def IR.list (es:List IR):IR:={ IR.pl 5 λ c r=>do
 let ds <- ac3 c es r
 gd (sz ds.length) (some (.list ds)) with fr0:=λ ξ=>true }
noncomputable def IR.tup (es:List IR):IR:=.pl 6 λ c r=>do
 let ds <- ac3 c es r
 gd (sz ds.length) (some (.tuple ds))
noncomputable def IR.dict (ks vs:List IR):IR:={ IR.pl 7 λ c r=>do
 let ks <- ac3 c ks r
 let vs <- ac3 c vs r
 gd (ks.all z8 && (ks.length == vs.length && decide (ks.length<=15))) (some (.dict ((ks.zip vs).foldl (λ m e=>ag8 m e.1 e.2) []))) with fr0:=λ ξ=>true }
noncomputable def IR.bin (op:Operator) (a b:IR):IR:=.pl 8 λ c r=>do
 let x <- look c a r
 let y <- look c b r
 bf4 op x y
noncomputable def IR.cmp (op:CmpOp) (a b:IR):IR:=.bo 9 λ c r=>do
 let x <- look c a r
 let y <- look c b r
 bb7 op x y
noncomputable def IR.and (es:List IR):IR:=.bo 10 λ c r=>bj8 c es r
noncomputable def IR.or (es:List IR):IR:=.bo 11 λ c r=>orE c es r
noncomputable def IR.andT (es:List IR):IR:={ IR.bo 12 λ c r=>bj8 c es r with bl:=false,ao:=true }
noncomputable def IR.not (a:IR):IR:=.bo 13 λ c r=>(ab4 c a r).map (!·)
noncomputable def IR.ite (x a b:IR):IR:=.pl 14 λ c r=>do bif <- ab4 c x r then eval c a r else eval c b r
noncomputable def IR.idx (a i:IR):IR:=.pl 15 λ c r=>do
 let x <- look c a r
 let y <- look c i r
 bz4 x y
noncomputable def IR.last (a:IR):IR:=.pl 16 λ c r=>do
 let l <- w8 (<- look c a r)
 l.getLast?
noncomputable def IR.upto (a n:IR):IR:=.pl 17 λ c r=>do
 let x <- look c a r
 let y <- look c n r
 bc0 x y
noncomputable def IR.from (a n:IR):IR:=.pl 18 λ c r=>do
 let x <- look c a r
 let y <- look c n r
 co1 x y
noncomputable def IR.bcall (f:BF) (es:List IR):IR:=.pl 19 λ c r=>do bfD f (<- aq5 c es r)
noncomputable def IR.isinst (e:IR) (ty:String):IR:=.bo 20 λ c r=>do
 let _ <- u6 (<- look c e r)
 some false
noncomputable def at9:MF->Bool | .join=>true | _=>false
noncomputable def IR.meth (m:MF) (a:IR) (es:List IR):IR:=⟨21,Option.none,(mbD m).isSome,false,false,false,λ ξ=>false,
 λ c r=>do
  let x <- look c a r
  let ds <- bif at9 m then aq5 c es r else ac3 c es r
  mfD m x ds,
 λ c r=>do
  let f <- mbD m
  let x <- look c a r
  let ds <- ac3 c es r
  az0 (λ x y=>some (f x y)) x (<- one ds),λ ξ ξ=>Option.none⟩
noncomputable def IR.replace (a:IR) (x y:Str):IR:=.pl 22 λ c r=>do
 let s <- u6 (<- look c a r)
 gd ((x != y) && decide (s.length+(s.length+1) * y.length<=16777216)) (some (.str (Txt.replace s x y)))
noncomputable def IR.call (f:String) (es:List IR):IR:={ IR.pl 23 λ c r=>do c f (<- ac3 c es r) with fr0:=λ qc=>qc f }
noncomputable def IR.range (es:List IR):IR:=.so 24 false λ c r=>do cf4 (<- aq5 c es r)
noncomputable def IR.enum (e:IR):IR:=.so 25 true λ c r=>do
 let l <- w8 (<- look c e r)
 some (ac2 0 l)
noncomputable def IR.comp (cap:List (Option Nat)) (tgt:List Nat) (src:IR) (ifs:List IR) (elt:IR):IR:=.pl 26 λ c r=>do
 let its <- e9 c src r
 let ds <- its.mapM λ d=>do
  let r1 <- m8 (as7 r cap) tgt d
  bif <- ah1 c ifs r1 then (eval c elt r1).map some else some Option.none
 gd (sz (ds.filterMap id).length) (some (.list (ds.filterMap id)))
noncomputable def IR.comp2 (cap:List (Option Nat)) (tgt:List Nat) (src:IR) (tgt2:List Nat) (src2:IR) (ifs2:List IR) (elt:IR):IR:=.pl 27 λ c r=>do
 let its <- e9 c src r
 let ds <- its.mapM λ d=>do
  let r1 <- m8 (as7 r cap) tgt d
  let its2 <- e9 c src2 r1
  let ds <- its2.mapM λ d2=>do
   let r2 <- m8 r1 tgt2 d2
   bif <- ah1 c ifs2 r2 then (eval c elt r2).map some else some Option.none
  some (ds.filterMap id)
 gd (sz ds.flatten.length) (some (.list ds.flatten))
noncomputable def IR.dcomp (cap:List (Option Nat)) (tgt:List Nat) (src:IR) (ifs:List IR) (key elt:IR):IR:={ IR.pl 32 λ c r=>do
 let its <- e9 c src r
 let ds <- its.mapM λ d=>do
  let r1 <- m8 (as7 r cap) tgt d
  let k <- eval c key r1
  let v <- eval c elt r1
  some (k,v)
 gd ((ds.all λ e=>z8 e.1) && (ifs.isEmpty && decide (ds.length<=60))) (some (.dict (ds.foldl (λ m e=>ag8 m e.1 e.2) []))) with fr0:=λ ξ=>true }
noncomputable def IR.tupmap (f:String) (e:IR):IR:=.pl 28 λ c r=>do
 let l <- w8 (<- look c e r)
 gd (sz l.length) (do some (.tuple (<- l.mapM λ d=>c f [d])))
set_option genCtorIdx true in
inductive Fl where
 | next | brk | ret (qc:Bool) (d:D)
noncomputable def Rho.put (r:Rho) (x:Nat) (m:aa3) (d:D):Option Rho:=match r.get x with
 | some (.lock,_)=>none
 | _=>if decide (x < r.length) then some (r.set x (some (m,d))) else none
noncomputable def av0:Rho->List Nat->List D->Option Rho
 | r,[],ds=>bif ds.isEmpty then some r else none
 | r,x :: xs,ds=>match ds with
  | []=>none
  | d :: ds=>do av0 (<- r.put x .fr d) xs ds
noncomputable def ad9 (r:Rho) (tgt:List Nat) (d:D):Option Rho:=
 bif tgt.length == 1 then (do r.put (<- one tgt) .fr d) else
 (do let ds <- dc3 d;gd (decide (2<=tgt.length) && ds.length == tgt.length) (av0 r tgt ds))
noncomputable def j8 (f:D->Rho->Option (Fl×Rho)):List D->Rho->Option (Fl×Rho)
 | [],r=>some (.next,r)
 | d :: ds,r=>do
   let p <- f d r
   match p.1 with
   | .next=>j8 f ds p.2
   | .brk=>some (.next,p.2)
   | .ret b v=>some (.ret b v,p.2)
noncomputable def bf2 (r:Rho) (i:Nat):Rho:=match r.get i with
 | some (.own,d)=>r.set i (some (.lock,d))
 | _=>r
noncomputable def ac1 (r:Rho) (e:IR):Rho:=match e.v with
 | some i=>bf2 r i
 | none=>r
noncomputable def dz2:Slot->Slot
 | some (.own,_)=>none
 | s=>s
noncomputable def cl4 (r:Rho) (src:IR):Rho:=bif src.al then r.map dz2 else r
noncomputable def bg5 (r0 r:Rho) (i:Nat):Rho:=match r0.get i with
 | some (.own,_)=>(match r.get i with
  | some (.lock,d)=>r.set i (some (.own,d))
  | _=>r)
 | _=>r
noncomputable def ab8 (r0 r:Rho) (e:IR):Rho:=match e.v with
 | some i=>bg5 r0 r i
 | none=>r
noncomputable def bh1 (qc:String->Bool) (e:IR):Bool:=e.fr0 qc
noncomputable def aw7 (r:Rho) (e:IR):Rho:=match e.v with
 | some y=>r.frz y
 | none=>r
noncomputable def frzFrom (r:Rho):Nat->Rho
 | 0=>r
 | n+1=>frzFrom (r.frz n) n
noncomputable def az4 (r:Rho):Rho:=frzFrom r r.length
noncomputable def az9:Slot->Option D
 | some (.own,d)=>some d
 | _=>none
section
variable (U:Calls)
end
noncomputable abbrev Out:=Option (Fl×Rho)
noncomputable def SI:=Calls->(String->Bool)->Rho->Out
section
variable (U:Calls) (qc:String->Bool)
noncomputable def exec (s:SI) (r:Rho):Out:=s U qc r
noncomputable def et0 (f:Rho->Out) (p:Fl×Rho):Out:=match p.1 with
 | .next=>f p.2
 | .brk=>some (.brk,p.2)
 | .ret b v=>some (.ret b v,p.2)
noncomputable def execs:List SI->Rho->Out
 | [],r=>some (.next,r)
 | s :: ss,r=>do
   let p <- exec U qc s r
   et0 (execs ss) p
end
namespace SI
noncomputable def assign (x:Nat) (own:Bool) (e:IR):SI:=λ U qc r=>do
 let d <- eval U e (aw7 r e)
 let r2 <- (aw7 r e).put x (bif own && bh1 qc e then .own else .fr) d
 some (.next,r2)
noncomputable def unpackS (x:Nat) (cap:List (Option Nat)) (tgt:List Nat) (src:IR) (elt:IR):SI:=λ U ξ r=>do
 let its <- e9 U src r
 let ds <- its.mapM λ d=>do eval U elt (<- m8 (as7 r cap) tgt d)
 let b <- es3 (<- ds.head?)
 gd (ds.all (isB b)) (do some (.next,<- r.put x .fr (.bool b)))
noncomputable def unpack (xs:List Nat) (e:IR):SI:=λ U ξ r=>do
 let ds <- ea5 (<- eval U e r)
 some (.next,<- av0 r xs ds)
noncomputable def aug (x:Nat) (_:Operator) (e:IR):SI:=λ U ξ r=>do
 let d <- look U e r
 let a <- bw3 (r.get x)
 let v <- dl1 a d
 some (.next,<- r.put x .fr v)
noncomputable def augItem (x:Nat) (i:IR) (_:Operator) (e:IR):SI:=λ U ξ r=>do
 let k <- look U i r
 let d <- look U e r
 let l <- w8 (<- az9 (r.get x))
 let j <- ao2 k
 gd (decide (0<=j) && decide (j < 1152921504606846976)) (do
  let old <- l[j.toNat]?
  let v <- an4 (λ a b=>some (a+b)) old d
  some (.next,<- r.put x .own (.list (l.set j.toNat (.int v)))))
noncomputable def append (x:Nat) (e:IR):SI:=λ U ξ r=>do
 let d <- eval U e (aw7 r e)
 let l <- w8 (<- az9 ((aw7 r e).get x))
 gd (sz (l.length+1)) (do some (.next,<- (aw7 r e).put x .own (.list (l ++ [d]))))
noncomputable def insert (x:Nat) (i e:IR):SI:=λ U ξ r=>do
 let j <- ao2 (<- look U i r)
 let d <- eval U e r
 let l <- w8 (<- az9 (r.get x))
 gd (sz (l.length+1) && (decide (0<=j) && decide (j.toNat<=l.length))) (do some (.next,<- r.put x .own (.list (l.insertIdx j.toNat d))))
noncomputable def augList (x:Nat) (e:IR):SI:=λ U ξ r=>do
 let m <- w8 (<- eval U e r)
 let l <- w8 (<- az9 (r.get x))
 gd (sz (l.length+m.length)) (do some (.next,<- r.put x .own (.list (l ++ m))))
noncomputable def setItem (x:Nat) (k e:IR):SI:=λ U ξ r=>do
 let v <- eval U e r
 let y <- look U k r
 let l <- az1 (<- az9 (r.get x))
 gd (z8 y && (l.all (λ e=>z8 e.1) && decide (l.length<=60))) (do some (.next,<- r.put x .own (.dict (ag8 l y v))))
noncomputable def for_ (tgt:List Nat) (src:IR) (body:List SI):SI:=λ U qc r=>do
 let its <- e9 U src (cl4 r src)
 let p <- j8 (λ d r=>do execs U qc body (<- ad9 r tgt d)) its (ac1 r src)
 some (p.1,ab8 r p.2 src)
noncomputable def if_ (c:IR) (a b:List SI):SI:=λ U qc r=>do bif <- ab4 U c r then execs U qc a r else execs U qc b r
noncomputable def ret (e:IR):SI:=λ U ξ r=>match e.v with
 | some x=>do
  let s <- r.get x
  match s.1 with
  | .own=>some (.ret true s.2,r)
  | .fr=>some (.ret false s.2,r)
  | _=>none
 | none=>do
  let d <- eval U e (az4 r)
  some (.ret false d,az4 r)
noncomputable def brk:SI:=λ ξ ξ r=>some (.brk,r)
noncomputable def try_ (body:List SI):SI:=λ U qc r=>execs U qc body r
noncomputable def stuck:SI:=λ ξ ξ ξ=>none
end SI
end
section
open PySem.StrLaws PySem.Builtin PySem.Builtin.Str
noncomputable abbrev cl (x:Str):List Nat:=x.cps.toList
theorem am2 {x y:Str} (h:cl x=cl y):x=y:=by
 obtain ⟨a⟩:=x;obtain ⟨b⟩:=y
 simp only [cl] at h
 have:a=b:=Array.toList_inj.mp h
 rw [this]
noncomputable def mkS (l:List Nat):Str:=⟨l.toArray⟩
@[simp] theorem ej8 (l:List Nat):cl (mkS l)=l:=rfl
@[simp] theorem al5 (x y:Str):cl (x ++ y)=cl x ++ cl y:=by
 show (Str.append x y).cps.toList=_
 simp [Str.append]
theorem ag2 (x:Str):x.length=(cl x).length:=by simp [Str.length]
@[simp] theorem dp8 (l:List Nat):(mkS l).length=l.length:=by simp [ag2]
theorem bm3:("/":Str)=⟨#[47]⟩:=by decide
theorem av9:cl ("/":Str)=[47]:=by rw [bm3]
theorem em4:cl ("":Str)=[]:=by decide
theorem em1:("/":Str)=mkS [47]:=by rw [bm3];rfl
theorem cm1 (x:Str) (i:Nat):StrLaws.At x ("/":Str) x.length i↔(cl x)[i]?=some 47:=by
 rw [bm3];exact subAt_one x 47 i
theorem cc7 (x:Str):Txt.startswith x "/"=decide ((cl x)[0]?=some 47):=by
 unfold Txt.startswith
 have h:=cm1 x 0
 unfold StrLaws.At at h
 by_cases e:(cl x)[0]?=some 47
 ·obtain ⟨h1,h2⟩:=h.mpr e
  rw [h2,decide_eq_true h1,decide_eq_true e];rfl
 ·rw [decide_eq_false e]
  rw [Bool.eq_false_iff]
  intro q
  simp only [Bool.and_eq_true,decide_eq_true_eq] at q
  exact e (h.mp q)
theorem eh0 (x:Str):Txt.endswith x "/"=decide ((cl x).getLast?=some 47):=by
 unfold Txt.endswith
 have hl:("/":Str).length=1:=by rw [bm3];rfl
 have h:=cm1 x (x.length - 1)
 unfold StrLaws.At at h
 rw [hl] at h⊢
 have e2:(cl x).getLast?=(cl x)[x.length - 1]?:=by rw [ag2,List.getLast?_eq_getElem?]
 by_cases e:(cl x).getLast?=some 47
 ·rw [decide_eq_true e]
  obtain ⟨h1,h2⟩:=h.mpr (e2▸e)
  rw [h2]
  have:0+1<=x.length:=by
   rcases Nat.eq_zero_or_pos x.length with q | q
   ·rw [ag2] at q;rw [List.eq_nil_of_length_eq_zero q] at e;cases e
   ·assumption
  simp [this]
 ·rw [decide_eq_false e,Bool.eq_false_iff]
  intro q
  simp only [Bool.and_eq_true,decide_eq_true_eq] at q
  exact e (e2.trans (h.mp ⟨by lia,q.2⟩))
theorem dr9 {x:Str} {u v:List Nat} (h:cl x=u ++ 47 :: v) (hv:47 ∉ v):Txt.rfind x "/"=(u.length:Int):=by
 have hu:(cl x)[u.length]?=some 47:=by rw [h];simp
 unfold Txt.rfind
 rcases last_spec x "/" with ⟨h1,h2⟩ | ⟨i,h1,h2,h3⟩
 ·exact absurd ((cm1 x _).mpr hu) (h2 _)
 ·rw [h1]
  rw [cm1] at h2
  have e:i=u.length:=by
   rcases Nat.lt_trichotomy i u.length with q | q | q
   ·exact absurd ((cm1 x _).mpr hu) (h3 _ q)
   ·exact q
   ·exfalso
    rw [h,List.getElem?_append_right (by exact Nat.le_of_lt ‹_›),List.getElem?_cons] at h2
    rw [if_neg (by lia)] at h2
    exact hv (List.mem_of_getElem? h2)
  rw [e]
theorem dn1 (x:Str):cl (Txt.rstripChars x "/")=((cl x).reverse.dropWhile (· == 47)).reverse:=by
 have hg:("/":Str).cps.contains=λ c=>c == 47:=by
  funext c;rw [bm3];simp [Array.contains]
 unfold Txt.rstripChars
 rw [PyProof.Rows.stripBy_eq,hg]
 unfold strSub stripLo stripHi
 simp only [cl,Bool.false_eq_true,if_false,if_true,List.drop_zero,Array.toList_extract]
 rw [ag2]
 generalize hL:cl x=L
 have:=List.takeWhile_append_dropWhile (p:=λ c=>c == 47) (l:=L.reverse)
 have e:L=(L.reverse.dropWhile (λ c=>c == 47)).reverse ++ (L.reverse.takeWhile (λ c=>c == 47)).reverse:=by
  rw [<- List.reverse_append,this,List.reverse_reverse]
 have hl:=congrArg List.length this
 simp only [List.length_append,List.length_reverse] at hl
 have e2:L.length - (L.reverse.takeWhile (λ c=>c == 47)).length=(L.reverse.dropWhile (λ c=>c == 47)).reverse.length:=by rw [<- hl,Nat.add_sub_cancel_left,List.length_reverse]
 simp only [cl] at hL
 rw [hL,e2]
 simp only [List.extract,Nat.sub_zero,List.drop_zero]
 conv=>lhs;arg 2;rw [e]
 exact List.take_left
theorem ap1 (a b:Str) (r:List Str):cl (Str.join "/" (a :: b :: r))=cl a ++ 47 :: cl (Str.join "/" (b :: r)):=by
 show cl (a ++ "/" ++ Str.join "/" (b :: r))=_
 rw [al5,al5,av9];simp
theorem db4:∀ {a b r r':List Nat},47 ∉ a->47 ∉ b->a ++ 47 :: r=b ++ 47 :: r'->a=b/\r=r'
 | [],[],r,r',_,_,h=>⟨rfl,by simpa using h⟩
 | [],y :: b,r,r',_,hb,h=>by simp at h;exact absurd h.1 (by intro e;subst e;simp at hb)
 | x :: a,[],r,r',ha,_,h=>by simp at h;exact absurd h.1 (by intro e;subst e;simp at ha)
 | x :: a,y :: b,r,r',ha,hb,h=>by
  simp only [List.cons_append,List.cons.injEq] at h
  simp only [List.mem_cons,not_or] at ha hb
  obtain ⟨e1,e2⟩:=db4 ha.2 hb.2 h.2
  exact ⟨by rw [h.1,e1],e2⟩
theorem cq1:∀ {A B:List Str},A≠[]->B≠[]->(∀ a∈A,47 ∉ cl a)->(∀ b∈B,47 ∉ cl b)->cl (Str.join "/" A)=cl (Str.join "/" B)->A=B
 | [],_,h,_,_,_,_=>absurd rfl h
 | _,[],_,h,_,_,_=>absurd rfl h
 | [a],[b],_,_,_,_,h=>by
  have:a=b:=am2 h
  rw [this]
 | [a],b :: c :: r,_,_,ha,_,h=>by
  rw [ap1] at h
  have:=ha a (by simp)
  have h:cl a=cl b ++ 47 :: _:=h
  rw [h] at this;simp at this
 | b :: c :: r,[a],_,_,_,ha,h=>by
  rw [ap1] at h
  have:=ha a (by simp)
  have h:cl b ++ 47 :: _=cl a:=h
  rw [<- h] at this;simp at this
 | a :: b :: r,c :: d :: r',_,_,ha,hb,h=>by
  rw [ap1,ap1] at h
  obtain ⟨e1,e2⟩:=db4 (ha a (by simp)) (hb c (by simp)) h
  have:=cq1 (by simp) (by simp) (λ x hx=>ha x (by simp [hx])) (λ x hx=>hb x (by simp [hx])) e2
  rw [am2 e1,this]
theorem cq4 (y:Str) (l:List Str):Txt.join y l=Str.join y l:=glued_eq_join y l
theorem dw5 (x:Str):Txt.split x "/"≠[]:=by
 unfold Txt.split
 split
 ·simp
 ·split
  ·simp
  ·rw [partsBetween_eq]
   obtain ⟨p,r,e⟩:=partsFrom_ne x ("/":Str).length 0 (occurrences x "/" 0 x.length (x.length+1))
   rw [e];simp
theorem cl3 {x:Str} {A:List Str} (hA:A≠[]) (hf:∀ a∈A,47 ∉ cl a) (h:cl (Str.join "/" A)=cl x):Txt.split x "/"=A:=by
 refine cq1 (dw5 x) hA ?_ hf ?_
 ·rw [bm3];exact split_free x 47
 ·rw [join_split,h]
noncomputable def ba3 (n:Str):Prop:=cl n≠[]/\47 ∉ cl n/\cl n≠[46]/\n.length<=64/\PyData.strOk n=true
noncomputable def pl (l:List Str):List Nat:=l.flatMap λ n=>47 :: cl n
noncomputable def PS (l:List Str):Str:=if l=[] then mkS [47] else mkS (pl l)
noncomputable def et6 (l:List Str):Prop:=(∀ n∈l,ba3 n)/\l.length<=8
theorem av5:PS []="/":=by rw [em1];rfl
theorem ci2 {l:List Str} (h:l≠[]):PS l=mkS (pl l):=by unfold PS;rw [if_neg h]
theorem cw7 (l m:List Str):pl (l ++ m)=pl l ++ pl m:=by unfold pl;rw [List.flatMap_append]
theorem bo3 (l:List Str) (n:Str):pl (l ++ [n])=pl l ++ 47 :: cl n:=by rw [cw7];simp [pl]
theorem ak9 {l:List Str} (h:l≠[]):cl (PS l)=pl l:=by rw [ci2 h];rfl
theorem ck3:∀ {l:List Str},l≠[]->47 :: cl (Str.join "/" l)=pl l
 | [],h=>absurd rfl h
 | [a],_=>by simp [pl,Str.join]
 | a :: b :: r,_=>by
  rw [ap1,ck3 (l:=b :: r) (by simp)]
  simp [pl]
theorem cz5:∀ {l:List Str},(∀ n∈l,ba3 n)->(pl l).length<=65 * l.length
 | [],_=>by simp [pl]
 | a :: r,h=>by
  have:=cz5 (l:=r) λ n hn=>h n (by simp [hn])
  have h2:=(h a (by simp)).2.2.2.1
  rw [ag2] at h2
  have e:pl (a :: r)=47 :: cl a ++ pl r:=by simp [pl]
  rw [e];simp only [List.length_append,List.length_cons] at *;lia
theorem au3 {l:List Str} (h:et6 l):(PS l).length<=600:=by
 by_cases e:l=[]
 ·subst e;rw [av5,em1];simp
 ·rw [ci2 e,dp8]
  have:=cz5 h.1;have:=h.2;lia
theorem dw8 {l:List Str} (h:l≠[]):∃ t,pl l=47 :: t:=by
 cases l with
 | nil=>exact absurd rfl h
 | cons a r=>exact ⟨_,rfl⟩
theorem ev2 (l:List Str):cl (PS l)≠[]:=by
 by_cases e:l=[]
 ·subst e;rw [av5,av9];simp
 ·rw [ak9 e];obtain ⟨t,h⟩:=dw8 e;rw [h];simp
theorem ci3 {l:List Str} (h:∀ n∈l,ba3 n) (hl:l≠[]):∃ t c,pl l=t ++ [c]/\c≠47:=by
 obtain ⟨m,n,rfl⟩:∃ m n,l=m ++ [n]:=⟨l.dropLast,l.getLast hl,(List.dropLast_concat_getLast hl).symm⟩
 obtain ⟨h1,h2,_⟩:=h n (by simp)
 refine ⟨pl m ++ 47 :: (cl n).dropLast,(cl n).getLast h1,?_,λ e=>h2 (e▸List.getLast_mem h1)⟩
 rw [bo3,List.append_assoc,List.cons_append,List.dropLast_concat_getLast]
theorem dd3 {l:List Str} (h:∀ n∈l,ba3 n):Txt.endswith (PS l) "/"=decide (l=[]):=by
 rw [eh0]
 by_cases e:l=[]
 ·subst e;rw [av5,av9];rfl
 ·rw [ak9 e,decide_eq_false e]
  obtain ⟨t,c,q,hc⟩:=ci3 h e
  rw [q];simpa using hc
theorem di5 (l:List Str):Txt.startswith (PS l) "/"=true:=by
 rw [cc7]
 by_cases e:l=[]
 ·subst e;rw [av5,av9];rfl
 ·rw [ak9 e];obtain ⟨t,h⟩:=dw8 e;rw [h];rfl
theorem dj5 {n:Str} (h:ba3 n):Txt.startswith n "/"=false:=by
 rw [cc7,decide_eq_false_iff_not]
 exact λ e=>h.2.1 (List.mem_of_getElem? e)
theorem cr3 (n:Str):PS [] ++ n=PS ([] ++ [n]):=by
 refine am2 ?_
 rw [al5,av5,av9,ak9 (by simp)];simp [pl]
theorem eh7 {l:List Str} (h:l≠[]) (n:Str):PS l ++ ("/" ++ n)=PS (l ++ [n]):=by
 refine am2 ?_
 rw [al5,al5,av9,ak9 h,ak9 (by simp),bo3];rfl
theorem dq9 (l:List Str) {n:Str} (h:ba3 n):Txt.rfind (PS (l ++ [n])) "/"=((pl l).length:Int):=
 dr9 (v:=cl n) (by rw [ak9 (by simp),bo3]) h.2.1
theorem cs2 {l:List Str} (h:∀ n∈l,ba3 n) (hl:l≠[]):Txt.rstripChars (mkS (pl l ++ [47])) "/"=PS l:=by
 refine am2 ?_
 rw [dn1,ak9 hl]
 obtain ⟨t,c,q,hc⟩:=ci3 h hl
 rw [ej8,q];simp [hc]
theorem ay5 {l:List Str} (h:∀ n∈l,ba3 n) (hl:l≠[]):Txt.split (PS l) "/"=mkS [] :: l:=by
 refine cl3 (by simp) (λ a ha=>?_) ?_
 ·rcases List.mem_cons.mp ha with rfl | q
  ·simp
  ·exact (h a q).2.1
 ·obtain ⟨a,r,rfl⟩:=List.exists_cons_of_ne_nil hl
  rw [ap1,ck3 (by simp),ak9 hl];rfl
theorem au8:Txt.split (PS []) "/"=[mkS [],mkS []]:=by
 refine cl3 (by simp) (λ a ha=>?_) ?_
 ·simp at ha;subst ha;simp
 ·rw [ap1,av5,av9];rfl
theorem df3 (l:List Str):"/" ++ Txt.join "/" l=PS l:=by
 refine am2 ?_
 rw [cq4,al5,av9]
 by_cases e:l=[]
 ·subst e;rw [av5,av9];rfl
 ·rw [ak9 e,<- ck3 e];rfl
theorem ec0 {l m:List Str} (hl:∀ n∈l,ba3 n) (hm:∀ n∈m,ba3 n) (h:PS l=PS m):l=m:=by
 by_cases e:l=[] <;> by_cases e2:m=[]
 ·rw [e,e2]
 ·subst e
  have:=ay5 hm e2
  rw [<- h,au8] at this
  have q:m=[mkS []]:=by simpa using this.symm
  subst q
  exact ((hm (mkS []) (by simp)).1 rfl).elim
 ·subst e2
  have:=ay5 hl e
  rw [h,au8] at this
  have q:l=[mkS []]:=by simpa using this.symm
  subst q
  exact ((hl (mkS []) (by simp)).1 rfl).elim
 ·have:=ay5 hl e
  rw [h,ay5 hm e2] at this
  simpa using this.symm
theorem cd2 {x:Str}:PyData.strOk x=true↔∀ c∈cl x,c < 0x110000:=by
 unfold PyData.strOk
 rw [<- Array.all_toList,List.all_eq_true]
 simp only [decide_eq_true_eq]
theorem bs6 {l:List Str} (h:∀ n∈l,ba3 n):PyData.strOk (PS l)=true:=by
 rw [cd2]
 intro c hc
 by_cases e:l=[]
 ·subst e;rw [av5,av9] at hc;simp at hc;subst hc;decide
 ·rw [ak9 e] at hc
  unfold pl at hc
  obtain ⟨n,hn,q⟩:=List.mem_flatMap.mp hc
  rcases List.mem_cons.mp q with rfl | q
  ·decide
  ·exact cd2.mp (h n hn).2.2.2.2 c q
end
section
open PySem.Calls 
noncomputable abbrev Key:=Str
noncomputable abbrev kk (prog:Program) (w:World):KeyKind prog w Key:=strKind prog w
noncomputable abbrev cc6:D->Option Key:=u6
noncomputable abbrev FM:=Addr->Option Obj
noncomputable def FM.le (B B':FM):Prop:=∀ a o,B a=some o->B' a=some o
theorem FM.le.refl (B:FM):B.le B:=λ ξ ξ e=>e
theorem FM.le.trans {A B C:FM} (x:A.le B) (y:B.le C):A.le C:=λ a o e=>y a o (x a o e)
inductive ba1 (c:String) (vs:List Value) (o:Obj):Prop
 | mk (h:o.cls = .type c) (n:Nat) (e:o.data = .seq vs.toArray n):ba1 c vs o
theorem ba1.two {c:String} {vs:List Value} {o:Obj} (x:ba1 c vs o):∃ n,o.data = .seq vs.toArray n:=by obtain ⟨_,n,e⟩:=x;exact ⟨n,e⟩
inductive cg7 (get:Addr->Option Obj) (c:String) (P:List Value->Prop) (v:Value):Prop
 | mk (a:Addr) (o:Obj) (vs:List Value) (e:v = .ref a) (ho:get a=some o) (hs:ba1 c vs o) (hr:P vs):cg7 get c P v
inductive IsI (i:Int) (v:Value):Prop
 | mk (t:Tok) (h:True) (e:v = .int i t):IsI i v
inductive IsS (x:Str) (v:Value):Prop
 | mk (t:Tok) (h:True) (e:v = .str x t):IsS x v
noncomputable def cb7 (_:Tok):Prop:=True
section
variable (prog:Program) (w:World)
mutual
noncomputable def Rd (B:FM):D->Value->Prop
 | .none,v=>v = .none
 | .bool b,v=>v = .bool b
 | .int i,v=>IsI i v
 | .str x,v=>IsS x v
 | .list ds,v=>cg7 B "list" (λ vs=>RdL B ds vs) v
 | .tuple ds,v=>cg7 B "tuple" (λ vs=>RdL B ds vs) v
 | .dict kvs,v=>∃ a o ps,v = .ref a/\B a=some o/\(o.IsDictOf (kk prog w) ps/\a≠sysModules)/\RdK B kvs ps
noncomputable def RdL (B:FM):List D->List Value->Prop
 | [],vs=>vs=[]
 | d :: ds,vs=>∃ v r,vs=v :: r/\Rd B d v/\RdL B ds r
noncomputable def RdK (B:FM):List (D×D)->List (Key×Value)->Prop
 | [],ps=>ps=[]
 | e :: r,ps=>∃ k v r',ps=(k,v) :: r'/\cc6 e.1=some k/\Rd B e.2 v/\RdK B r r'
end
noncomputable def f8 (h:Heap) (B:FM):D->Value->Prop
 | .list ds,v=>cg7 h.get? "list" (λ vs=>RdL prog w B ds vs) v
 | .tuple ds,v=>cg7 h.get? "tuple" (λ vs=>RdL prog w B ds vs) v
 | .dict kvs,v=>∃ a o ps,v = .ref a/\h.get? a=some o/\(o.IsDictOf (kk prog w) ps/\a≠sysModules)/\RdK prog w B kvs ps
 | d,v=>Rd prog w B d v
end
section
variable {w:World}
mutual
theorem Rd.mono {B B':FM} (hB:B.le B'):∀ {d:D} {v:Value},Rd prog w B d v->Rd prog w B' d v
 | .none,_,h=>by exact h
 | .bool _,_,h=>by exact h
 | .int _,_,h=>by exact h
 | .str _,_,h=>by exact h
 | .list ds,v,h=>by
  obtain ⟨a,o,vs,e,ho,hs,hr⟩:=h
  exact ⟨a,o,vs,e,hB _ _ ho,hs,RdL.mono hB hr⟩
 | .tuple ds,v,h=>by
  obtain ⟨a,o,vs,e,ho,hs,hr⟩:=h
  exact ⟨a,o,vs,e,hB _ _ ho,hs,RdL.mono hB hr⟩
 | .dict kvs,v,h=>by
  obtain ⟨a,o,vs,e,ho,hs,hr⟩:=h
  exact ⟨a,o,vs,e,hB _ _ ho,hs,RdK.mono hB hr⟩
theorem RdL.mono {B B':FM} (hB:B.le B'):∀ {ds:List D} {vs:List Value},RdL prog w B ds vs->RdL prog w B' ds vs
 | [],_,h=>by exact h
 | d :: ds,vs,h=>by
  obtain ⟨v,r,e,h1,h2⟩:=h
  exact ⟨v,r,e,Rd.mono hB h1,RdL.mono hB h2⟩
theorem RdK.mono {B B':FM} (hB:B.le B'):∀ {ds:List (D×D)} {vs:List (Key×Value)},RdK prog w B ds vs->RdK prog w B' ds vs
 | [],_,h=>by exact h
 | d :: ds,vs,h=>by
  obtain ⟨k,v,r,e,h0,h1,h2⟩:=h
  exact ⟨k,v,r,e,h0,Rd.mono hB h1,RdK.mono hB h2⟩
end
noncomputable def j4 (B:FM) (h:Heap):Prop:=∀ a o,B a=some o->h.get? a=some o
theorem Rd.top {B:FM} {h:Heap} (k:j4 B h) {d:D} {v:Value} (r:Rd prog w B d v):f8 prog w h B d v:=by
 cases d with
 | none | bool b | int i | str x=>exact r
 | list l=>obtain ⟨a,o,vs,e,ho,x,y⟩:=r;exact ⟨a,o,vs,e,k _ _ ho,x,y⟩
 | tuple l=>obtain ⟨a,o,vs,e,ho,x,y⟩:=r;exact ⟨a,o,vs,e,k _ _ ho,x,y⟩
 | dict l=>obtain ⟨a,o,vs,e,ho,x⟩:=r;exact ⟨a,o,vs,e,k _ _ ho,x⟩
noncomputable def Up (o:Obj) (x:Option Obj):Prop:=x=some o\/((∃ es ep,o.data = .dict es ep)/\o.cls≠.type "dict"/\∃ sl,x=some { o with slots:=sl })
noncomputable def ao6 (o:Obj):Prop:=(∀ es ep,o.data≠.dict es ep)\/o.cls = .type "dict"
theorem Up.solid {o:Obj} {x:Option Obj} (u:Up o x) (h:ao6 o):x=some o:=by
 rcases u with e | ⟨⟨es,ep,e1⟩,e2,_⟩
 ·exact e
 ·rcases h with h | h
  ·exact absurd e1 (h es ep)
  ·exact absurd h e2
theorem Up.ex {o:Obj} {x:Option Obj} (u:Up o x):∃ o',x=some o'/\o'.cls=o.cls/\o'.data=o.data:=by
 rcases u with e | ⟨_,_,sl,e⟩
 ·exact ⟨o,e,rfl,rfl⟩
 ·exact ⟨_,e,rfl,rfl⟩
theorem Up.trans {o:Obj} {x y:Option Obj} (u:Up o x) (v:∀ o',x=some o'->Up o' y):Up o y:=by
 rcases u with e | ⟨e1,e2,sl,e⟩
 ·exact v o e
 ·rcases v _ e with f | ⟨_,_,sl',f⟩
  ·exact .inr ⟨e1,e2,sl,f⟩
  ·exact .inr ⟨e1,e2,sl',f⟩
noncomputable def Old (h h':Heap):Prop:=∀ a o,h.get? a=some o->Up o (h'.get? a)
theorem Old.of {h h':Heap} (k:∀ a o,h.get? a=some o->h'.get? a=some o):Old h h':=λ a o e=>.inl (k a o e)
theorem Old.refl (h:Heap):Old h h:=.of λ ξ ξ e=>e
theorem Old.trans {h h1 h2:Heap} (x:Old h h1) (y:Old h1 h2):Old h h2:=λ a o e=>(x a o e).trans λ o' e'=>y a o' e'
theorem Old.solid {h h':Heap} (x:Old h h') {a:Addr} {o:Obj} (e:h.get? a=some o) (s:ao6 o):h'.get? a=some o:=(x a o e).solid s
theorem Old.ex {h h':Heap} (x:Old h h') {a:Addr} (e:h.get? a≠none):h'.get? a≠none:=by
 cases q:h.get? a with
 | none=>exact absurd q e
 | some o=>obtain ⟨o',e',_⟩:=(x a o q).ex;rw [e'];simp
theorem Old.back {h h':Heap} (x:Old h h') {a:Addr} (e:h'.get? a=none):h.get? a=none:=by
 cases q:h.get? a with
 | none=>rfl
 | some o=>obtain ⟨o',e',_⟩:=(x a o q).ex;rw [e'] at e;cases e
theorem Old.ns {h h':Heap} (x:Old h h') {a:Addr} {m:Str->Option Value} (n:h.Ns a m):h'.Ns a m:=by
 obtain ⟨o,es,ep,e,hd,r⟩:=n
 obtain ⟨o',e',_,hd'⟩:=(x a o e).ex
 exact ⟨o',es,ep,e',hd'.trans hd,r⟩
theorem Old.cell {h h':Heap} (x:Old h h') {c:Addr} {v:Option Value} (n:h.IsCell c v):h'.IsCell c v:=by
 obtain ⟨o,e,hd⟩:=n
 obtain ⟨o',e',_,hd'⟩:=(x c o e).ex
 exact ⟨o',e',hd'.trans hd⟩
theorem ao6.seq {o:Obj} {xs:Array Value} {n:Nat} (e:o.data = .seq xs n):ao6 o:=.inl λ es ep q=>by rw [e] at q;cases q
theorem ao6.fields {o:Obj} {xs:Array Value} (e:o.data = .fields xs):ao6 o:=.inl λ es ep q=>by rw [e] at q;cases q
theorem ba1.solid {c:String} {vs:List Value} {o:Obj} (x:ba1 c vs o):ao6 o:=let ⟨_,_,e⟩:=x;.seq e
theorem Old.list {h h':Heap} (x:Old h h') {a:Addr} {vs:Array Value} (n:h.IsList a vs):h'.IsList a vs:=by
 obtain ⟨o,e,hc,m,hd⟩:=n
 exact ⟨o,x.solid e (.seq hd),hc,m,hd⟩
theorem Old.tup {h h':Heap} (x:Old h h') {a:Addr} {vs:Array Value} (n:h.IsTuple a vs):h'.IsTuple a vs:=by
 obtain ⟨o,e,hc,m,hd⟩:=n
 exact ⟨o,x.solid e (.seq hd),hc,m,hd⟩
theorem af9 {o:Obj} {ps:List (Key×Value)} (x:o.IsDictOf (kk prog w) ps):ao6 o:=let ⟨_,_,e,_⟩:=x;.inr e.1
theorem f8.mono {h h':Heap} {B B':FM} (hh:Old h h') (hB:B.le B') {d:D} {v:Value} (r:f8 prog w h B d v):f8 prog w h' B' d v:=by
 cases d with
 | none | bool b | int i | str x=>exact Rd.mono hB r
 | list l=>obtain ⟨a,o,vs,e,ho,x,y⟩:=r;exact ⟨a,o,vs,e,hh.solid ho x.solid,x,RdL.mono hB y⟩
 | tuple l=>obtain ⟨a,o,vs,e,ho,x,y⟩:=r;exact ⟨a,o,vs,e,hh.solid ho x.solid,x,RdL.mono hB y⟩
 | dict l=>obtain ⟨a,o,vs,e,ho,x,y⟩:=r;exact ⟨a,o,vs,e,hh.solid ho (af9 x.1),x,RdK.mono hB y⟩
structure Gr (B:FM) (h:Heap) (B':FM) (h':Heap):Prop where
 le:B.le B'
 old:Old h h'
 keep:j4 B' h'
 new:∀ a o,B' a=some o->B a=some o\/h.get? a=none
theorem Gr.refl {B:FM} {h:Heap} (k:j4 B h):Gr B h B h:=⟨.refl _,.refl _,k,λ ξ ξ e=>.inl e⟩
theorem Gr.trans {B B1 B2:FM} {h h1 h2:Heap} (x:Gr B h B1 h1) (y:Gr B1 h1 B2 h2):Gr B h B2 h2 where
 le:=x.le.trans y.le
 old:=x.old.trans y.old
 keep:=y.keep
 new:=λ a o e=>by
  rcases y.new a o e with q | q
  ·exact x.new a o q
  ·exact .inr (x.old.back q)
theorem Gr.heap {B:FM} {h h':Heap} (k:j4 B h) (o:∀ a o,h.get? a=some o->h'.get? a=some o):Gr B h B h':=⟨.refl _,.of o,λ a x e=>o a x (k a x e),λ ξ ξ e=>.inl e⟩
noncomputable def FM.add (B:FM) (a:Addr) (o:Obj):FM:=λ b=>if b=a then some o else B b
theorem FM.add_self (B:FM) (a:Addr) (o:Obj):B.add a o a=some o:=by simp [FM.add]
theorem FM.le_add {B:FM} {a:Addr} {o:Obj} (h:∀ o',B a=some o'->o'=o):B.le (B.add a o):=λ b x e=>by
 unfold FM.add
 by_cases q:b=a
 ·subst q;rw [if_pos rfl,h x e]
 ·rw [if_neg q];exact e
theorem g8 {h:Heap} {a:Addr} (q:h.objs.size<=a):h.get? a=none:=by
 cases e:h.get? a with
 | none=>rfl
 | some o=>exact absurd (Heap.lt_size e) (Nat.not_lt.mpr q)
theorem Gr.freeze {B B':FM} {h h':Heap} {a:Addr} {o:Obj} (x:Gr B h B' h') (hn:h.get? a=none) (ho:h'.get? a=some o):Gr B h (B'.add a o) h' where
 le:=x.le.trans (FM.le_add λ o' e=>by have:=x.keep a o' e;rw [ho] at this;exact (Option.some.inj this).symm)
 old:=x.old
 keep:=λ b o' e=>by
  unfold FM.add at e
  by_cases q:b=a
  ·subst q;rw [if_pos rfl] at e;cases e;exact ho
  ·rw [if_neg q] at e;exact x.keep b o' e
 new:=λ b o' e=>by
  unfold FM.add at e
  by_cases q:b=a
  ·subst q;exact .inr hn
  ·rw [if_neg q] at e;exact x.new b o' e
theorem RdL.length {B:FM}:∀ {ds:List D} {vs:List Value},RdL prog w B ds vs->vs.length=ds.length
 | [],vs,h=>by obtain rfl:=h;rfl
 | d :: ds,vs,h=>by
  obtain ⟨v,r,rfl,_,h2⟩:=h
  simp [RdL.length h2]
theorem RdL.nil {B:FM}:RdL prog w B [] []:=rfl
theorem RdL.cons {B:FM} {d:D} {ds:List D} {v:Value} {vs:List Value} (a:Rd prog w B d v) (b:RdL prog w B ds vs):RdL prog w B (d :: ds) (v :: vs):=by exact ⟨v,vs,rfl,a,b⟩
theorem RdL.append {B:FM}:∀ {ds es:List D} {vs ws:List Value},RdL prog w B ds vs->RdL prog w B es ws->RdL prog w B (ds ++ es) (vs ++ ws)
 | [],_,vs,_,h,k=>by obtain rfl:=h;exact k
 | d :: ds,_,vs,_,h,k=>by
  obtain ⟨v,r,rfl,h1,h2⟩:=h
  exact RdL.cons h1 (RdL.append h2 k)
theorem RdL.get {B:FM}:∀ {ds:List D} {vs:List Value} {i:Nat} {d:D},RdL prog w B ds vs->ds[i]?=some d->∃ v,vs[i]?=some v/\Rd prog w B d v
 | [],_,_,_,_,e=>by simp at e
 | d :: ds,vs,0,x,h,e=>by
  obtain ⟨v,r,rfl,h1,_⟩:=h
  simp at e;subst e
  exact ⟨v,rfl,h1⟩
 | d :: ds,vs,i+1,x,h,e=>by
  obtain ⟨v,r,rfl,_,h2⟩:=h
  exact RdL.get (i:=i) (ds:=ds) (vs:=r) h2 (by simpa using e)
theorem RdL.take {B:FM}:∀ (n:Nat) {ds:List D} {vs:List Value},RdL prog w B ds vs->RdL prog w B (ds.take n) (vs.take n)
 | 0,_,_,_=>by simp;exact RdL.nil
 | n+1,[],vs,h=>by obtain rfl:=h;exact RdL.nil
 | n+1,d :: ds,vs,h=>by
  obtain ⟨v,r,rfl,h1,h2⟩:=h
  exact RdL.cons h1 (RdL.take n h2)
theorem RdL.drop {B:FM}:∀ (n:Nat) {ds:List D} {vs:List Value},RdL prog w B ds vs->RdL prog w B (ds.drop n) (vs.drop n)
 | 0,_,_,h=>h
 | n+1,[],vs,h=>by obtain rfl:=h;exact RdL.nil
 | n+1,d :: ds,vs,h=>by
  obtain ⟨v,r,rfl,h1,h2⟩:=h
  exact RdL.drop n h2
theorem RdL.reverse {B:FM}:∀ {ds:List D} {vs:List Value},RdL prog w B ds vs->RdL prog w B ds.reverse vs.reverse
 | [],vs,h=>by obtain rfl:=h;exact RdL.nil
 | d :: ds,vs,h=>by
  obtain ⟨v,r,rfl,h1,h2⟩:=h
  simp only [List.reverse_cons]
  exact RdL.append (RdL.reverse h2) (RdL.cons h1 RdL.nil)
mutual
theorem Rd.reads {B:FM} {h:Heap} (k:j4 B h):∀ {d:D} {v:Value},Rd prog w B d v->SeqAt.shaped d=true\/d.canLay0=true->∃ as,Reads h v d as
 | .none,v,r,_=>by obtain rfl:=r;exact ⟨_,.none⟩
 | .bool b,v,r,_=>by obtain rfl:=r;exact ⟨_,.bool b⟩
 | .int i,v,r,_=>by obtain ⟨t,_,rfl⟩:=r;exact ⟨_,.int i t⟩
 | .str x,v,r,_=>by obtain ⟨t,_,rfl⟩:=r;exact ⟨_,.str x t⟩
 | .list ds,v,r,c=>by
  obtain ⟨a,o,vs,rfl,ho,⟨h1,n,h2⟩,hr⟩:=r
  have c':PyData.canLayAll0 ds=true:=by
   have:PyData.canLay0 (.list ds)=true:=c.elim SeqAt.canLay_of_shaped id
   simpa [PyData.canLay0] using this
  obtain ⟨as,q⟩:=RdL.reads k hr c'
  exact ⟨_,.list (k _ _ ho) h1 h2 (by simpa using q)⟩
 | .tuple ds,v,r,c=>by
  obtain ⟨a,o,vs,rfl,ho,⟨h1,n,h2⟩,hr⟩:=r
  have c':PyData.canLayAll0 ds=true:=by
   have:PyData.canLay0 (.tuple ds)=true:=c.elim SeqAt.canLay_of_shaped id
   simpa [PyData.canLay0] using this
  obtain ⟨as,q⟩:=RdL.reads k hr c'
  exact ⟨_,.tuple (k _ _ ho) h1 h2 (by simpa using q)⟩
 | .dict kvs,v,r,c=>by
  have:PyData.canLay0 (.dict kvs)=true:=c.elim SeqAt.canLay_of_shaped id
  simp [PyData.canLay0] at this
theorem RdL.reads {B:FM} {h:Heap} (k:j4 B h):∀ {ds:List D} {vs:List Value},RdL prog w B ds vs->PyData.canLayAll0 ds=true->∃ as,ReadsAll h vs ds as
 | [],vs,r,_=>by obtain rfl:=r;exact ⟨_,.nil⟩
 | d :: ds,vs,r,c=>by
  obtain ⟨v,r,rfl,h1,h2⟩:=r
  have c':d.canLay0=true/\PyData.canLayAll0 ds=true:=by simpa [PyData.canLayAll0] using c
  obtain ⟨as,q1⟩:=Rd.reads k h1 (.inr c'.1)
  obtain ⟨bs,q2⟩:=RdL.reads k h2 c'.2
  exact ⟨_,.cons q1 q2⟩
end
theorem f8.reads {B:FM} {h:Heap} (k:j4 B h) {d:D} {v:Value} (r:f8 prog w h B d v) (c:SeqAt.shaped d=true):∃ as,Reads h v d as:=by
 have c0:d.canLay0=true:=SeqAt.canLay_of_shaped c
 cases d with
 | list ds=>
  obtain ⟨a,o,vs,rfl,ho,⟨h1,n,h2⟩,hr⟩:=r
  obtain ⟨as,q⟩:=RdL.reads k hr (by simpa [PyData.canLay0] using c0)
  exact ⟨_,.list ho h1 h2 (by simpa using q)⟩
 | tuple ds=>
  obtain ⟨a,o,vs,rfl,ho,⟨h1,n,h2⟩,hr⟩:=r
  obtain ⟨as,q⟩:=RdL.reads k hr (by simpa [PyData.canLay0] using c0)
  exact ⟨_,.tuple ho h1 h2 (by simpa using q)⟩
 | dict kvs=>simp [PyData.canLay0] at c0
 | _=>exact Rd.reads (w:=w) k r (.inl c)
end
end
section
open PySem.Calls PySem.SeqAt
theorem ac8 {α:Type} {M:Model} {A:Around} {E:Value->Shared->Prop} {s:Shared} {Q:α->Shared->Prop} {c:Prop} [Decidable c] {x y:Sem α} (hc:¬ c) (h:wpAny M A y Q E s):wpAny M A (if c then x else y) Q E s:=by rw [if_neg hc];exact h
theorem ah3 {α:Type} {M:Model} {A:Around} {E:Value->Shared->Prop} {s:Shared} {Q:α->Shared->Prop} {c:Prop} [Decidable c] {x y:Sem α} (hc:c) (h:wpAny M A x Q E s):wpAny M A (if c then x else y) Q E s:=by rw [if_pos hc];exact h
structure k6 (s s':Shared):Prop where
 gens:s'.gens=s.gens
 os:s'.os=s.os
 toks:s.toks<=s'.toks
theorem k6.refl (s:Shared):k6 s s:=⟨rfl,rfl,Nat.le_refl _⟩
theorem k6.trans {s s1 s2:Shared} (x:k6 s s1) (y:k6 s1 s2):k6 s s2:=⟨y.gens.trans x.gens,y.os.trans x.os,Nat.le_trans x.toks y.toks⟩
structure Rm (k:Nat) (A:Around):Prop where
 handled:A.handled=none
 depth:A.depth+k<=900
 units:A.units+10 * k+200<=cLine
theorem Rm.le {k j:Nat} {A:Around} (x:Rm k A) (h:j<=k):Rm j A:=⟨x.handled,by have:=x.depth;lia,by have:=x.units;lia⟩
theorem Rm.u {k:Nat} {A:Around} (x:Rm k A) (n:Nat) (h:n<=199):A.units+n < cLine:=by have:=x.units;lia
section
variable (prog:Program) (w:World)
inductive EvP (B:FM) (s:Shared) (d:D) (v:Value) (s':Shared):Prop
 | mk (B':FM) (g:Gr B s.heap B' s'.heap) (r:Rd prog w B' d v) (m:k6 s s'):EvP B s d v s'
inductive LkP (B:FM) (s:Shared) (d:D) (v:Value) (s':Shared):Prop
 | mk (B':FM) (g:Gr B s.heap B' s'.heap) (r:f8 prog w s'.heap B' d v) (m:k6 s s'):LkP B s d v s'
noncomputable def v8 (h:Heap) (a:Addr):Prop:=∀ o,h.get? a=some o->o.dict=none/\o.slots=#[]
inductive FrP (B:FM) (s:Shared) (d:D) (v:Value) (s':Shared):Prop
 | mk (B':FM) (a:Addr) (e:v = .ref a) (g:Gr B s.heap B' s'.heap) (hn:s.heap.get? a=none) (hb:B' a=none) (t:f8 prog w s'.heap B' d v) (m:k6 s s') (hp:v8 s'.heap a):FrP B s d v s'
end
section
variable {w:World}
theorem EvP.look {B:FM} {s:Shared} {d:D} {v:Value} {s':Shared} (h:EvP prog w B s d v s'):LkP prog w B s d v s':=let ⟨B',g,r,m⟩:=h;⟨B',g,r.top g.keep,m⟩
theorem FrP.ev {B:FM} {s:Shared} {d:D} {v:Value} {s':Shared} (h:FrP prog w B s d v s'):EvP prog w B s d v s':=by
 obtain ⟨B',a,rfl,g,hn,hb,t,m,_⟩:=h
 cases d with
 | list ds=>
  obtain ⟨a',o,vs,e,ho,x,y⟩:=t
  cases e
  have hle:B'.le (B'.add a o):=FM.le_add λ o' e=>by rw [hb] at e;cases e
  exact ⟨B'.add a o,g.freeze hn ho,by exact ⟨a,o,vs,rfl,FM.add_self ..,x,y.mono hle⟩,m⟩
 | tuple ds=>
  obtain ⟨a',o,vs,e,ho,x,y⟩:=t
  cases e
  have hle:B'.le (B'.add a o):=FM.le_add λ o' e=>by rw [hb] at e;cases e
  exact ⟨B'.add a o,g.freeze hn ho,by exact ⟨a,o,vs,rfl,FM.add_self ..,x,y.mono hle⟩,m⟩
 | dict ds=>
  obtain ⟨a',o,vs,e,ho,x,y⟩:=t
  cases e
  have hle:B'.le (B'.add a o):=FM.le_add λ o' e=>by rw [hb] at e;cases e
  exact ⟨B'.add a o,g.freeze hn ho,by exact ⟨a,o,vs,rfl,FM.add_self ..,x,y.mono hle⟩,m⟩
 | none=>exact ⟨B',g,t,m⟩
 | bool b=>exact ⟨B',g,t,m⟩
 | int i=>exact ⟨B',g,t,m⟩
 | str x=>exact ⟨B',g,t,m⟩
theorem EvP.after {B B1:FM} {s s1:Shared} {d:D} {v:Value} {s':Shared} (g:Gr B s.heap B1 s1.heap) (m:k6 s s1) (h:EvP prog w B1 s1 d v s'):EvP prog w B s d v s':=
 let ⟨B',g',r,m'⟩:=h;⟨B',g.trans g',r,m.trans m'⟩
theorem LkP.after {B B1:FM} {s s1:Shared} {d:D} {v:Value} {s':Shared} (g:Gr B s.heap B1 s1.heap) (m:k6 s s1) (h:LkP prog w B1 s1 d v s'):LkP prog w B s d v s':=
 let ⟨B',g',r,m'⟩:=h;⟨B',g.trans g',r,m.trans m'⟩
theorem FrP.after {B B1:FM} {s s1:Shared} {d:D} {v:Value} {s':Shared} (g:Gr B s.heap B1 s1.heap) (m:k6 s s1) (h:FrP prog w B1 s1 d v s'):FrP prog w B s d v s':=by
 obtain ⟨B',a,rfl,g',hn,hb,t,m',hp⟩:=h
 refine ⟨B',a,rfl,g.trans g',?_,hb,t,m.trans m',hp⟩
 exact g.old.back hn
theorem EvP.int {B:FM} {s:Shared} {i:Int} {t k:Nat} (kp:j4 B s.heap) (ht:cb7 t) (hk:s.toks<=k):EvP prog w B s (.int i) (.int i t) { s with toks:=k }:=
 ⟨B,Gr.refl kp,by exact ⟨t,ht,rfl⟩,rfl,rfl,hk⟩
theorem EvP.str {B:FM} {s:Shared} {x:Str} {t k:Nat} (kp:j4 B s.heap) (ht:cb7 t) (hk:s.toks<=k):EvP prog w B s (.str x) (.str x t) { s with toks:=k }:=
 ⟨B,Gr.refl kp,by exact ⟨t,ht,rfl⟩,rfl,rfl,hk⟩
theorem EvP.bool {B:FM} {s:Shared} {b:Bool} {k:Nat} (kp:j4 B s.heap) (hk:s.toks<=k):EvP prog w B s (.bool b) (.bool b) { s with toks:=k }:=
 ⟨B,Gr.refl kp,rfl,rfl,rfl,hk⟩
theorem EvP.bool0 {B:FM} {s:Shared} {b:Bool} (kp:j4 B s.heap):EvP prog w B s (.bool b) (.bool b) s:=⟨B,Gr.refl kp,rfl,.refl s⟩
theorem EvP.same {B:FM} {s:Shared} {d:D} {v:Value} (kp:j4 B s.heap) (r:Rd prog w B d v):EvP prog w B s d v s:=⟨B,Gr.refl kp,r,.refl s⟩
theorem dx6 {h:Heap} {o o':Obj} (e:(h.push o).get? h.objs.size=some o'):o=o':=by
 have:=((Heap.get?_eq_some _ _ _).mp e).1
 cases h
 simp [Heap.push] at this
 exact this
theorem EvP.new {B:FM} {s:Shared} {d:D} {o:Obj} {k:Nat} (kp:j4 B s.heap) (hk:s.toks<=k)
  (t:f8 prog w (s.heap.push o) B d (.ref s.heap.objs.size)) (hpl:o.dict=none/\o.slots=#[]):FrP prog w B s d (.ref s.heap.objs.size) { s with heap:=s.heap.push o,toks:=k }:=by
 refine ⟨B,_,rfl,Gr.heap kp λ a x e=>Heap.get?_push_of_some _ e,g8 (Nat.le_refl _),?_,t,⟨rfl,rfl,hk⟩,λ o' e=>dx6 e▸hpl⟩
 cases e:B s.heap.objs.size with
 | none=>rfl
 | some x=>exact absurd (Heap.lt_size (kp _ _ e)) (Nat.lt_irrefl _)
theorem FrP.list {B:FM} {s:Shared} {ds:List D} {vs:List Value} {n k:Nat} (kp:j4 B s.heap) (hk:s.toks<=k) (r:RdL prog w B ds vs) :
  FrP prog w B s (.list ds) (.ref s.heap.objs.size) { s with heap:=s.heap.push { cls:=.type "list",data:=.seq vs.toArray n },toks:=k }:=
 EvP.new kp hk (by exact ⟨_,_,vs,rfl,Heap.get?_push_size _ rfl,⟨rfl,n,rfl⟩,r⟩) ⟨rfl,rfl⟩
theorem FrP.tuple {B:FM} {s:Shared} {ds:List D} {vs:List Value} {n k:Nat} (kp:j4 B s.heap) (hk:s.toks<=k) (r:RdL prog w B ds vs) :
  FrP prog w B s (.tuple ds) (.ref s.heap.objs.size) { s with heap:=s.heap.push { cls:=.type "tuple",data:=.seq vs.toArray n },toks:=k }:=
 EvP.new kp hk (by exact ⟨_,_,vs,rfl,Heap.get?_push_size _ rfl,⟨rfl,n,rfl⟩,r⟩) ⟨rfl,rfl⟩
theorem ba1.isList {h:Heap} {a:Addr} {o:Obj} {vs:List Value} (ho:h.get? a=some o) (x:ba1 "list" vs o):h.IsList a vs.toArray:=⟨o,ho,x.1,x.two⟩
theorem ba1.isTuple {h:Heap} {a:Addr} {o:Obj} {vs:List Value} (ho:h.get? a=some o) (x:ba1 "tuple" vs o):h.IsTuple a vs.toArray:=⟨o,ho,x.1,x.two⟩
theorem ai7 {n:Nat} (h:sz n=true):n<=sizeLine:=by
 unfold sz at h
 rw [sizeLine_eq]
 simpa using h
section
variable {h:Heap} {B:FM} {v:Value}
theorem bq5 {ds:List D}:f8 prog w h B (.list ds) v↔cg7 h.get? "list" (λ vs=>RdL prog w B ds vs) v:=Iff.rfl
theorem cb9 {ds:List D}:f8 prog w h B (.tuple ds) v↔cg7 h.get? "tuple" (λ vs=>RdL prog w B ds vs) v:=Iff.rfl
theorem ei6 {i:Int}:f8 prog w h B (.int i) v↔IsI i v:=Iff.rfl
theorem de6 {i:Str}:f8 prog w h B (.str i) v↔IsS i v:=Iff.rfl
theorem ea2 {i:Bool}:f8 prog w h B (.bool i) v↔v = .bool i:=Iff.rfl
theorem ax1 {i:Int}:Rd prog w B (.int i) v↔IsI i v:=Iff.rfl
theorem bj7 {i:Str}:Rd prog w B (.str i) v↔IsS i v:=Iff.rfl
theorem db8 {i:Bool}:Rd prog w B (.bool i) v↔v = .bool i:=Iff.rfl
theorem bo4 {ds:List D}:Rd prog w B (.list ds) v↔cg7 B "list" (λ vs=>RdL prog w B ds vs) v:=Iff.rfl
theorem dy0 {ds:List D}:Rd prog w B (.tuple ds) v↔cg7 B "tuple" (λ vs=>RdL prog w B ds vs) v:=Iff.rfl
end
theorem b9 {a b:Bool} (h:(a && b)=true):a=true/\b=true:=Bool.and_eq_true_iff.mp h
theorem g7 {a b:Bool} (h1:a=true) (h2:b=true):(a && b)=true:=Bool.and_eq_true_iff.mpr ⟨h1,h2⟩
theorem af8 {α:Type} [BEq α] [LawfulBEq α] {a b:α} (h:(a == b)=true):a=b:=eq_of_beq h
theorem cv6 {y:Int} (h:0 < y):y≠0:=Int.ne_of_gt h
section
variable {A:Around} {E:Value->Shared->Prop} {s:Shared} {B:FM} {a b:Value}
theorem ch4 {ds es:List D} (kp:j4 B s.heap) (ha:f8 prog w s.heap B (.list ds) a) (hb:f8 prog w s.heap B (.list es) b) (hz:sz (ds.length+es.length)=true) :
  wpAny (model prog w) A (binaryOp .Add a b) (FrP prog w B s (.list (ds ++ es))) E s:=by
 obtain ⟨l,o,vs,rfl,ho,x,y⟩:=ha
 obtain ⟨l2,o2,ws,rfl,ho2,x2,y2⟩:=hb
 obtain ⟨⟨cls,dd,data,sl⟩,ho,hc,n,hd⟩:=x.isList ho
 obtain ⟨⟨cls2,dd2,data2,sl2⟩,ho2,hc2,n2,hd2⟩:=x2.isList ho2
 simp only at hc hd hc2 hd2
 subst hc hd hc2 hd2
 have e:vs.toArray ++ ws.toArray=(vs ++ ws).toArray:=by simp
 refine concat_meets ⟨_,ho,rfl⟩ ⟨_,ho2,rfl⟩ noFill_list_add seq_list_add PySem.F.slot_list_add PySem.F.entry_list_add (PySem.F.args_list_add_2 _ _) (list_addW l l2 vs.toArray ws.toArray n n2 dd dd2 sl sl2 (by have:=ai7 hz;rw [<- y.length,<- y2.length] at this;simpa using this)) ⟨ho,ho2,?_⟩
 rw [e]
 exact FrP.list kp (Nat.le_refl _) (y.append y2)
theorem cw6 (i:Int):Builtin.bitAnd i 1=i.fmod 2:=by
 cases i with
 | ofNat n=>
  show ((n &&& 1:Nat):Int)=((n:Nat):Int).fmod 2
  rw [Nat.and_one_is_mod,Int.fmod_eq_emod_of_nonneg _ (by decide)];rfl
 | negSucc n=>
  show (1:Int) - ((1 &&& (- Int.negSucc n - 1).toNat:Nat):Int)=_
  rw [show (- Int.negSucc n - 1).toNat=n from congrArg Int.toNat (Int.add_sub_cancel (n:Int) 1),Nat.and_comm,Nat.and_one_is_mod,Int.fmod_eq_emod_of_nonneg _ (by decide),Int.negSucc_emod n (by decide)];rfl
theorem cu6 {x y:Str} {t u:Nat} (kp:j4 B s.heap) (hs:0 < s.toks) (ht:cb7 t) (hu:cb7 u) (hz:sz (x.length+y.length)=true) :
  wpAny (model prog w) A (binaryOp .Add (.str x t) (.str y u)) (EvP prog w B s (.str (x ++ y))) E s:=by
 have hz':x.length+y.length<=sizeLine:=ai7 hz
 refine P.add_str ?_
 by_cases h1:x.length=0
 ·have:(x.length == 0)=true:=by simp [h1]
  rw [if_pos this]
  have e:x ++ y=y:=by
   have:x.cps=#[]:=Array.size_eq_zero_iff.mp h1
   show Str.mk (x.cps ++ y.cps)=y
   rw [this];simp
  rw [e]
  exact EvP.str kp hu (Nat.le_refl _)
 ·have:¬ (x.length == 0)=true:=by simpa using h1
  rw [if_neg this]
  by_cases h2:y.length=0
  ·have:(y.length == 0)=true:=by simp [h2]
   rw [if_pos this]
   have e:x ++ y=x:=by
    have:y.cps=#[]:=Array.size_eq_zero_iff.mp h2
    show Str.mk (x.cps ++ y.cps)=x
    rw [this];simp
   rw [e]
   exact EvP.str kp ht (Nat.le_refl _)
  ·have:¬ (y.length == 0)=true:=by simpa using h2
   rw [if_neg this]
   refine ⟨?_,?_⟩
   ·rw [Str.length_append];exact hz'
   ·exact EvP.str kp trivial (Nat.le_succ _)
theorem cx6 {x:Str} {t u:Nat} {n:Int} (kp:j4 B s.heap) (hs:0 < s.toks) (ht:cb7 t) (h0:0<=n) (h1:n<=1048576) (hx:x.length=1) :
  wpAny (model prog w) A (binaryOp .Mult (.str x t) (.int n u)) (EvP prog w B s (.str ⟨Array.replicate n.toNat (x.cps.getD 0 0)⟩)) E s:=by
 obtain ⟨⟨l⟩⟩:=x
 obtain ⟨c,rfl⟩:∃ c,l=[c]:=by
  simp [Str.length] at hx
  exact List.length_eq_one_iff.mp hx
 refine P.mul_str (by simp;lia) (λ hn hc=>?_) (λ hn hc=>?_) ?_
 ·simp only [Str.length]
  show ¬ ((1:Int) > (2 ^ 63 - 1) / n)
  have hn':1<=n:=by lia
  have:(1:Int)<=(2 ^ 63 - 1) / n:=by
   rw [Int.le_ediv_iff_mul_le (by assumption)];lia
  lia
 ·unfold Builtin.Str.tooLong
  simp only [Str.length,List.size_toArray,List.length_cons,List.length_nil,Nat.zero_add,Nat.one_mul,sizeLine]
  exact decide_eq_false (by lia)
 ·have key:∀ m:Nat,(List.replicate m (#[c]:Array Nat)).foldl (· ++ ·) #[]=Array.replicate m c:=by
   intro m
   have:∀ (m:Nat) (acc:Array Nat),(List.replicate m (#[c]:Array Nat)).foldl (· ++ ·) acc=acc ++ Array.replicate m c:=by
    intro m
    induction m with
    | zero=>intro acc;simp
    | succ m ih=>intro acc;rw [List.replicate_succ,List.foldl_cons,ih,Array.append_assoc];congr 1;simp [Array.replicate_succ']
   rw [this];simp
  by_cases hn:n < 1
  ·rw [if_pos hn]
   obtain rfl:n=0:=by lia
   refine ⟨by decide,?_⟩
   exact EvP.str kp trivial (Nat.le_succ _)
  ·rw [if_neg hn]
   by_cases h2:n=1
   ·subst h2
    rw [if_pos (by simp)]
    exact EvP.str kp ht (Nat.le_refl _)
   ·rw [if_neg (by simp [h2,Str.length])]
    refine ⟨?_,?_⟩
    ·show (Array.size _)<=_
     rw [key,Array.size_replicate,sizeLine_eq];lia
    ·rw [key]
     exact EvP.str kp trivial (Nat.le_succ _)
theorem aw0 {x y:Int} (h:small y=true):Builtin.divisionGoesByPylong x y=false:=by
 refine PyProof.noPylong_of_log2 ?_
 unfold small at h
 have h':y.natAbs < 2 ^ 60:=by simpa using h
 by_cases h0:y.natAbs=0
 ·rw [h0];decide +kernel
 ·have h30:y.natAbs.log2 < 60:=(Nat.log2_lt h0).mpr h'
  exact Nat.le_trans ‹_› (Nat.le_of_ble_eq_true rfl)
inductive el3 {α:Type} (f:Int->Int->Option α) (a b:Value) (d:α):Prop
 | mk (x y:Int) (t u:Tok) (e1:a = .int x t) (e2:b = .int y u) (h:f x y=some d):el3 f a b d
theorem aq7 {α:Type} {f:Int->Int->Option α} {da db:D} {d:α} (ha:f8 prog w s.heap B da a) (hb:f8 prog w s.heap B db b) (h:an4 f da db=some d):el3 f a b d:=by
 obtain ⟨x,y,rfl,rfl,h⟩:=cm7 h
 obtain ⟨t,ht,rfl⟩:=ha
 obtain ⟨u,hu,rfl⟩:=hb
 exact ⟨x,y,t,u,rfl,rfl,h⟩
theorem em7 {da db d:D} (kp:j4 B s.heap) (hs:0 < s.toks) (ha:f8 prog w s.heap B da a) (hb:f8 prog w s.heap B db b) (h:ew6 da db=some d) :
  wpAny (model prog w) A (binaryOp .Add a b) (EvP prog w B s d) E s:=by
 rcases al3 h with h | h
 ·rcases al3 h with h | h
  ·obtain ⟨x,y,t,u,rfl,rfl,h⟩:=aq7 ha hb h
   cases h
   exact P.add_int (EvP.int kp trivial (Nat.le_succ _))
  ·obtain ⟨x,y,rfl,rfl,h⟩:=as5 h
   obtain ⟨t,ht,rfl⟩:=ha
   obtain ⟨u,hu,rfl⟩:=hb
   obtain ⟨hz,h⟩:=i4 h
   cases h
   exact cu6 kp hs ht hu hz
 ·obtain ⟨x,hx,h⟩:=a6 h
  obtain ⟨y,hy,h⟩:=a6 h
  obtain rfl:=r8 hx
  obtain rfl:=r8 hy
  obtain ⟨hz,h⟩:=i4 h
  cases h
  exact wpAny_mono (ch4 kp ha hb hz) (λ ξ ξ q=>q.ev) λ ξ ξ e=>e
theorem er9 {da db d:D} (kp:j4 B s.heap) (hs:0 < s.toks) (ha:f8 prog w s.heap B da a) (hb:f8 prog w s.heap B db b) (h:ev9 da db=some d) :
  wpAny (model prog w) A (binaryOp .Mult a b) (EvP prog w B s d) E s:=by
 obtain ⟨x,hx,h⟩:=a6 h
 obtain ⟨y,hy,h⟩:=a6 h
 obtain rfl:=l9 hx
 obtain rfl:=am8 hy
 obtain ⟨hc,h⟩:=i4 h
 cases h
 obtain ⟨t,ht,rfl⟩:=ha
 obtain ⟨u,hu,rfl⟩:=hb
 obtain ⟨h1,hc⟩:=b9 hc
 obtain ⟨h2,h3⟩:=b9 hc
 exact cx6 kp hs ht (of_decide_eq_true h1) (of_decide_eq_true h2) (af8 h3)
theorem en3 {op:Operator} {da db d:D} (kp:j4 B s.heap) (hs:0 < s.toks) (ha:f8 prog w s.heap B da a) (hb:f8 prog w s.heap B db b) (h:bf4 op da db=some d) :
  wpAny (model prog w) A (binaryOp op a b) (EvP prog w B s d) E s:=by
 cases op with
 | Add=>exact em7 kp hs ha hb h
 | Mult=>exact er9 kp hs ha hb h
 | Sub=>
  obtain ⟨x,y,t,u,rfl,rfl,h⟩:=aq7 ha hb h
  cases h
  exact P.sub_int (EvP.int kp trivial (Nat.le_succ _))
 | FloorDiv=>
  obtain ⟨x,y,t,u,rfl,rfl,h⟩:=aq7 ha hb h
  obtain ⟨hc,h⟩:=i4 h
  cases h
  exact floordiv_int (cv6 (of_decide_eq_true (b9 hc).1)) (EvP.int kp trivial (Nat.le_succ _)) (Or.inl (aw0 (b9 (b9 hc).2).2))
 | Mod=>
  obtain ⟨x,y,t,u,rfl,rfl,h⟩:=aq7 ha hb h
  obtain ⟨hc,h⟩:=i4 h
  cases h
  exact mod_int' (cv6 (of_decide_eq_true hc)) (EvP.int kp trivial (Nat.le_succ _))
 | RShift=>
  obtain ⟨x,y,t,u,rfl,rfl,h⟩:=aq7 ha hb h
  obtain ⟨hc,h⟩:=i4 h
  cases h
  exact rshift_int (of_decide_eq_true (b9 hc).1) (EvP.int kp trivial (Nat.le_succ _))
 | BitAnd=>
  obtain ⟨x,y,t,u,rfl,rfl,h⟩:=aq7 ha hb h
  obtain ⟨hc,h⟩:=i4 h
  cases h
  cases af8 hc
  exact and_int (cw6 x▸EvP.int kp trivial (Nat.le_succ _))
 | _=>cases h
end
end
end
section
open PySem.Calls PySem.SeqAt
section
variable {w:World} {A:Around} {E:Value->Shared->Prop} {s:Shared} {B:FM} {k:Nat} {a b:Addr}
variable {u v:Value}
inductive en0 (B:FM) (kvs:List (D×D)) (ps:List (Key×Value)) (x:Key):Prop
 | no (h1:bc6 kvs (.str x)=none) (h2:valueAt ps x=none):en0 B kvs ps x
 | yes (e:D) (v:Value) (h1:bc6 kvs (.str x)=some e) (h2:valueAt ps x=some v) (h:Rd prog w B e v):en0 B kvs ps x
theorem bp7 {a:D} {y x:Key} (h:cc6 a=some y):eqK a (.str x)=decide (y=x):=by
 cases l9 h
 show (y == x)=decide (y=x)
 by_cases q:y=x
 ·rw [decide_eq_true q,q,beq_self_eq_true]
 ·rw [decide_eq_false q,beq_eq_false_iff_ne.mpr q]
theorem RdK.find {x:Key}:∀ {kvs:List (D×D)} {ps:List (Key×Value)},RdK prog w B kvs ps->en0 (w:=w) B kvs ps x
 | [],_,h=>by
  cases (h:_=_)
  exact .no rfl rfl
 | e :: r,_,h=>by
  obtain ⟨k',v',r',rfl,h0,h1,h2⟩:=h
  have hk:eqK e.1 (.str x)=decide (k'=x):=bp7 h0
  by_cases q:k'=x
  ·rw [decide_eq_true q] at hk
   exact .yes e.2 v' (congrArg (Option.map _) (List.find?_cons_of_pos (p:=λ e:D×D=>eqK e.1 (.str x)) hk)) (congrArg (Option.map _) (List.find?_cons_of_pos (p:=λ kv:Key×Value=>decide (kv.1=x)) (decide_eq_true q))) h1
  ·rw [decide_eq_false q] at hk
   have a1:bc6 (e :: r) (.str x)=bc6 r (.str x):=congrArg (Option.map _) (List.find?_cons_of_neg (p:=λ e:D×D=>eqK e.1 (.str x)) (ne_true_of_eq_false hk))
   have a2:valueAt ((k',v') :: r') x=valueAt r' x:=congrArg (Option.map _) (List.find?_cons_of_neg (p:=λ kv:Key×Value=>decide (kv.1=x)) (ne_true_of_eq_false (decide_eq_false q)))
   cases RdK.find (x:=x) h2 with
   | no h1 h2=>exact .no (a1.trans h1) (a2.trans h2)
   | yes e v h1 h2 h=>exact .yes e v (a1.trans h1) (a2.trans h2) h
theorem w5 {h:Heap} {a:Addr} {o:Obj} {ps:List (Key×Value)} (ho:h.get? a=some o) (x:o.IsDictOf (kk prog w) ps):h.DictOf (kk prog w) a ps:=Heap.dictOf_iff.mpr ⟨o,ho,x⟩
inductive et1 (B:FM) (x:List (D×D)) (i:Nat) (e:DictEntry):Prop
 | mk (d:D×D) (y:Key) (h1:x[i]?=some d) (h2:cc6 d.1=some y) (h3:(kk prog w).is y e.key=true) (h4:Rd prog w B d.2 e.val):et1 B x i e
theorem ex4 {es:List DictEntry} {ps:List (Key×Value)} (P:Pairs (kk prog w) es ps):∀ {x:List (D×D)} {i:Nat} {e:DictEntry},RdK prog w B x ps->es[i]?=some e->et1 (w:=w) B x i e:=by
 induction P with
 | nil=>intro x i e _ h;simp at h
 | @cons e0 kv es kvs h1 h2 _ ih=>
  intro x i e R h
  cases x with
  | nil=>exact nomatch R
  | cons d x=>
   obtain ⟨k',v',r',q,h0,h3,h4⟩:=R
   injection q with q1 q2
   subst q1 q2
   cases i with
   | zero=>
    have:e0=e:=Option.some.inj h
    subst this
    exact ⟨d,k',rfl,h0,h1,h2▸h3⟩
   | succ i=>
    obtain ⟨d',y,a1,a2,a3,a4⟩:=ih h4 (show es[i]?=some e from h)
    exact ⟨d',y,a1,a2,a3,a4⟩
theorem ed6 {x y:D} {u v:Value} (kp:j4 B s.heap) (hu:A.units+64 < cLine) (ha:Rd prog w B x u) (hb:Rd prog w B y v) (h1:SeqAt.shaped x=true) (h2:SeqAt.shaped y=true):EqAt A s u v (PyData.eqv x y):=by
 obtain ⟨as,ra⟩:=(ha.top kp).reads kp h1
 obtain ⟨bs,rb⟩:=(hb.top kp).reads kp h2
 exact eqAt_reads x y A s u v as bs ra rb (canLay_of_shaped h1) (canLay_of_shaped h2) (room_of_shaped h1 hu)
theorem bb0:∀ {x:List (D×D)} {ps:List (Key×Value)},RdK prog w B x ps->x.length=ps.length
 | [],_,h=>by cases (h:_=_);rfl
 | d :: x,_,h=>by
  obtain ⟨k',v',r',rfl,_,_,h4⟩:=h
  exact congrArg Nat.succ (bb0 h4)
theorem dr5 {x:List (D×D)} {d:D×D} {i:Nat} (h:aw1 x=true) (e:x[i]?=some d):SeqAt.shaped d.2=true:=(b9 (am1 h d (List.mem_of_getElem? e))).2
theorem dt2 {x:List (D×D)} {y:Key} {d:D} (h:aw1 x=true) (e:bc6 x (.str y)=some d):SeqAt.shaped d=true:=by
 obtain ⟨p,h1,rfl⟩:=Option.map_eq_some_iff.mp e
 exact (b9 (am1 h p (List.mem_of_find?_eq_some h1))).2
theorem ct9 {id:String} {oa ob:Obj} {pa pb:List (Key×Value)} {x y:List (D×D)} {Q:Bool->Shared->Prop} (ha:s.heap.get? a=some oa) (hb:s.heap.get? b=some ob) (da:oa.IsDictOf (kk prog w) pa) (db:ob.IsDictOf (kk prog w) pb)
  (na:a≠sysModules) (nb:b≠sysModules) (ra:RdK prog w B x pa) (rb:RdK prog w B y pb) (kp:j4 B s.heap) (fx:aw1 x=true) (fy:aw1 y=true) (hu:A.units+64 < cLine) (hQ:Q (am3 x y) s) :
  wpAny (model prog w) A (Builtin.Dict.samePairs id a b) Q E s:=by
 obtain ⟨ea,epa,xa,dda,ka,prA,ndA⟩:=da
 obtain ⟨eb,epb,xb,ddb,kb,prB,ndB⟩:=db
 have la:ea.size=x.length:=by rw [bb0 ra,<- prA.length];rfl
 have lb:eb.size=y.length:=by rw [bb0 rb,<- prB.length];rfl
 unfold Builtin.Dict.samePairs Builtin.Dict.showsAll
 rw [if_neg (by rw [beq_eq_false_iff_ne.mpr na];exact Bool.false_ne_true),if_neg (by rw [beq_eq_false_iff_ne.mpr nb];exact Bool.false_ne_true)]
 refine wpAny_bind (wpAny_pure (wpAny_bind (wpAny_pure ?_)))
 refine wpAny_bind (wpAny_dictEntries ha dda (wpAny_bind (wpAny_dictEntries hb ddb ?_)))
 unfold am3 at hQ
 by_cases hl:x.length=y.length
 ·rw [beq_iff_eq.mpr hl,Bool.true_and] at hQ
  rw [if_neg (by rw [la,lb,hl];simp)]
  refine wpAny_bind (wpAny_dictEpoch ha dda ?_)
  rw [Std.Legacy.Range.forIn_eq_forIn_range']
  simp only [Std.Legacy.Range.size,Nat.sub_zero,Nat.add_sub_cancel,Nat.div_one]
  refine wpAny_bind (wpAny_forIn_list _ (λ rest b s'=>b.1=none/\s'=s/\∃ i,rest=List.range' i (ea.size - i)/\i<=ea.size/\Q ((x.drop i).all (cm0 y)) s) _ ?_ ?_ _ _ ⟨rfl,rfl,0,by simp,Nat.zero_le _,hQ⟩)
  ·rintro j rest bb s' ⟨hb',rfl,i,hr,hi,hR⟩
   have hlt:i < ea.size:=by
    rcases Nat.lt_or_ge i ea.size with h | h
    ·exact h
    ·rw [Nat.sub_eq_zero_of_le h] at hr;cases hr
   rw [du6 (by assumption),List.range'_succ] at hr
   injection hr with q1 q2
   subst q1
   obtain ⟨d,ky,e1,e2,e3,e4⟩:=ex4 prA (i:=j) (e:=ea[j]) ra (by simp [hlt])
   have hxl:j < x.length:=(List.getElem?_eq_some_iff.mp e1).1
   have e1':x[j]=d:=(List.getElem?_eq_some_iff.mp e1).2
   rw [List.drop_eq_getElem_cons hxl,e1',List.all_cons] at hR
   obtain ⟨ky',h1,h2⟩:=ka ea[j] (Array.getElem_mem hlt)
   have:=(kk prog w).inj _ _ _ h1 e3
   subst this
   refine wpAny_bind (wpAny_dictEntries ha dda ?_)
   rw [Array.getElem?_eq_getElem hlt]
   refine wpAny_bind (wpAny_holding ?_)
   rw [h2]
   refine wpAny_bind (wpAny_dictFind_of (knd:=kk prog w) e3 hb ddb kb ?_)
   have hf:=findBy_of_findIdx? (kk prog w).is eb ky'
   have hv:findBy (kk prog w).is eb ky'=valueAt pb ky':=by rw [<- prB.find,Array.find?_toList];rfl
   rw [hv] at hf
   have hd1:d.1 = .str ky':=l9 e2
   unfold cm0 at hR
   rw [hd1] at hR
   cases hi':eb.findIdx? λ e=>(kk prog w).is ky' e.key with
   | none=>
    rw [hi'] at hf
    cases rb.find (x:=ky') with
    | no n1 n2=>
     rw [n1] at hR
     exact wpAny_pure (wpAny_pure (wpAny_pure hR))
    | yes e v n1 n2 n3=>rw [n2] at hf;cases hf
   | some i'=>
    rw [hi'] at hf
    obtain ⟨hlt',-,-⟩:=Array.findIdx?_eq_some_iff_getElem.mp hi'
    simp only [Array.getElem?_eq_getElem hlt',Option.map_some] at hf
    cases rb.find (x:=ky') with
    | no n1 n2=>rw [n2] at hf;cases hf
    | yes e v n1 n2 n3=>
     rw [n2] at hf
     cases hf
     rw [n1] at hR
     refine wpAny_bind (wpAny_dictEntries hb ddb ?_)
     rw [Array.getElem?_eq_getElem hlt']
     refine wpAny_holding (ed6 (s:=s') kp hu e4 n3 (dr5 fx e1) (dt2 fy n1) prog w _ _ ?_)
     change Q (PyData.eqv d.2 e && (x.drop (j+1)).all (cm0 y)) s' at hR
     cases hq:PyData.eqv d.2 e with
     | false=>
      rw [hq] at hR
      exact wpAny_pure (wpAny_pure hR)
     | true=>
      rw [hq] at hR
      refine wpAny_bind (wpAny_dictEpoch ha dda ?_)
      rw [if_neg (by simp)]
      exact wpAny_pure ⟨rfl,rfl,j+1,q2,hlt,hR⟩
  ·rintro bb s' ⟨hb',rfl,i,hr,hi,hR⟩
   have hge:ea.size<=i:=by
    rcases Nat.lt_or_ge i ea.size with h | h
    ·rw [du6 (by assumption),List.range'_succ] at hr;cases hr
    ·exact h
   rw [List.drop_of_length_le (by lia)] at hR
   rw [hb']
   exact wpAny_pure hR
 ·rw [beq_eq_false_iff_ne.mpr hl,Bool.false_and] at hQ
  rw [if_pos (by rw [la,lb];simpa using hl)]
  exact wpAny_bind (wpAny_rule (wpAny_pure hQ))
theorem ei5 {oa ob:Obj} {pa pb:List (Key×Value)} {x y:List (D×D)} {Q:Value->Shared->Prop} (ha:s.heap.get? a=some oa) (hb:s.heap.get? b=some ob) (da:oa.IsDictOf (kk prog w) pa) (db:ob.IsDictOf (kk prog w) pb)
  (na:a≠sysModules) (nb:b≠sysModules) (ra:RdK prog w B x pa) (rb:RdK prog w B y pb) (kp:j4 B s.heap) (fx:aw1 x=true) (fy:aw1 y=true) (hu:A.units+66 < cLine) (hQ:Q (.bool (am3 x y)) s) :
  wpAny (model prog w) A (richCompare .Eq (.ref a) (.ref b)) Q E s:=by
 have ta:s.TypeIs (.ref a) "dict":=(w5 ha da).mapOf.typeIs
 have tb:s.TypeIs (.ref b) "dict":=(w5 hb db).mapOf.typeIs
 refine wpAny_richCompare_same_room ta tb F.slot_dict_eq (wpAny_call_entry F.slot_dict_eq ta F.entry_dict_eq ?_ (F.args_dict_eq_2 _ _)) (by lia)
 show wpAny _ _ (Builtin.Dict.dictSlotArgs "__eq__" ⟨[.ref a,.ref b],[]⟩ >>= _) _ _ _
 refine wpAny_bind ?_
 unfold Builtin.Dict.dictSlotArgs
 refine wpAny_bind (wpAny_notOrdered_dict ta ?_)
 show wpAny _ _ (pure (Value.ref a,Value.ref b)) _ _ _
 refine wpAny_pure (wpAny_bind (wpAny_isInstance tb F.sub_dict_dict ?_))
 show wpAny _ _ (Builtin.Dict.samePairs _ a b >>= _) _ _ _
 refine wpAny_bind (ct9 ha hb da db na nb ra rb kp fx fy (by show A.units+1+64 < cLine;exact Nat.le_of_lt ‹_›) ?_)
 refine wpAny_pure ⟨_,rfl,nofun,?_⟩
 rw [show (am3 x y == true)=am3 x y by cases am3 x y <;> rfl]
 exact hQ
end
end
section
open PySem.Calls PySem.SeqAt
section
variable {w:World} {A:Around} {E:Value->Shared->Prop} {s:Shared} {B:FM} {k:Nat} {a b:Value}
theorem em6 (n:Str) (t:Tok):(kk prog w).is n (.str n t)=true:=by
 have:Value.isStrOf n (.str n t)=true:=by simp [Value.isStrOf]
 exact this
theorem an0 {d:D} (h:z8 d=true):∃ x,d = .str x:=by cases d <;> first | exact ⟨_,rfl⟩ | cases h
theorem Rd.keyis {x:Key} {v:Value} {C:FM} (r:Rd prog w C (.str x) v):(kk prog w).is x v=true:=by
 obtain ⟨t,_,rfl⟩:=r
 exact em6 _ t
theorem cx7 {a:Addr} (h:a≠sysModules):(a == sysModules)=false:=beq_eq_false_iff_ne.mpr h
theorem dp7 (x y:Str):(x.cps.toList == y.cps.toList)=(x == y):=by
 have:(x == y)=decide (x=y):=by
  by_cases h:x=y
  ·subst h;simp
  ·rw [decide_eq_false h];exact beq_eq_false_iff_ne.mpr h
 rw [this]
 by_cases h:x=y
 ·subst h;simp
 ·rw [decide_eq_false h]
  refine beq_eq_false_iff_ne.mpr λ e=>h ?_
  cases x;cases y;simp at e;simp [e]
theorem dk0 {x y:Str} (kp:j4 B s.heap) (ha:f8 prog w s.heap B (.str x) a) (hb:f8 prog w s.heap B (.str y) b) :
  wpAny (model prog w) A (compareOp .Eq a b) (EvP prog w B s (.bool (x == y))) E s:=by
 obtain ⟨t,ht,rfl⟩:=ha
 obtain ⟨u,hu,rfl⟩:=hb
 exact P.eq_str (by rw [dp7];exact EvP.bool0 kp)
theorem dj2 {x y:Str} (kp:j4 B s.heap) (ha:f8 prog w s.heap B (.str x) a) (hb:f8 prog w s.heap B (.str y) b) :
  wpAny (model prog w) A (compareOp .NotEq a b) (EvP prog w B s (.bool (!(x == y)))) E s:=by
 obtain ⟨t,ht,rfl⟩:=ha
 obtain ⟨u,hu,rfl⟩:=hb
 refine P.ne_str ?_
 have:(x.cps.toList != y.cps.toList)=!(x == y):=by rw [<- dp7];rfl
 rw [this];exact EvP.bool0 kp
theorem ch0 {x y:D} (kp:j4 B s.heap) (rm:Rm k A) (ha:f8 prog w s.heap B x a) (hb:f8 prog w s.heap B y b) (h1:SeqAt.shaped x=true) (h2:SeqAt.shaped y=true) :
  wpAny (model prog w) A (compareOp .Eq a b) (EvP prog w B s (.bool (PyData.eqv x y))) E s:=by
 obtain ⟨as,ra⟩:=ha.reads kp h1
 obtain ⟨bs,rb⟩:=hb.reads kp h2
 exact eq_dataH ra rb h1 h2 (rm.u 64 (by decide)) (EvP.bool0 kp)
theorem ck0 {x y:D} (kp:j4 B s.heap) (rm:Rm k A) (ha:f8 prog w s.heap B x a) (hb:f8 prog w s.heap B y b) (h1:SeqAt.shaped x=true) (h2:SeqAt.shaped y=true) :
  wpAny (model prog w) A (compareOp .NotEq a b) (EvP prog w B s (.bool (!PyData.eqv x y))) E s:=by
 obtain ⟨as,ra⟩:=ha.reads kp h1
 obtain ⟨bs,rb⟩:=hb.reads kp h2
 exact ne_dataH ra rb h1 h2 (rm.u 64 (by decide)) (EvP.bool0 kp)
theorem cy9 {x:D} {l:List D} (kp:j4 B s.heap) (rm:Rm k A) (ha:f8 prog w s.heap B x a) (hb:f8 prog w s.heap B (.list l) b) (h1:SeqAt.shaped x=true) (h2:SeqAt.shaped (.list l)=true) :
  wpAny (model prog w) A (compareOp .In a b) (EvP prog w B s (.bool (l.any λ y=>PyData.eqv y x))) E s:=by
 obtain ⟨as,ra⟩:=ha.reads kp h1
 obtain ⟨bs,rb⟩:=hb.reads kp h2
 exact in_list_reads rb ra (by simpa [PyData.canLay0] using canLay_of_shaped h2) (canLay_of_shaped h1) (room_in_shaped h1 (rm.u 65 (by decide))) (EvP.bool0 kp)
theorem bz1 {x:D} {l:List D} (kp:j4 B s.heap) (rm:Rm k A) (ha:f8 prog w s.heap B x a) (hb:f8 prog w s.heap B (.list l) b) (h1:SeqAt.shaped x=true) (h2:SeqAt.shaped (.list l)=true) :
  wpAny (model prog w) A (compareOp .NotIn a b) (EvP prog w B s (.bool (!l.any λ y=>PyData.eqv y x))) E s:=by
 obtain ⟨as,ra⟩:=ha.reads kp h1
 obtain ⟨bs,rb⟩:=hb.reads kp h2
 exact notIn_list_reads rb ra (by simpa [PyData.canLay0] using canLay_of_shaped h2) (canLay_of_shaped h1) (room_in_shaped h1 (rm.u 65 (by decide))) (EvP.bool0 kp)
theorem cz4 {x:D} {kvs:List (D×D)} (kp:j4 B s.heap) (ha:f8 prog w s.heap B x a) (hb:f8 prog w s.heap B (.dict kvs) b) (hk:z8 x=true) :
  wpAny (model prog w) A (compareOp .In a b) (EvP prog w B s (.bool (bc6 kvs x).isSome)) E s:=by
 obtain ⟨x,rfl⟩:=an0 hk
 obtain ⟨l,o,ps,rfl,ho,⟨hdo,hns⟩,hrk⟩:=hb
 obtain ⟨t,_,rfl⟩:=ha
 refine wpAny_in_of (knd:=kk prog w) (em6 x t) (cx7 hns) (w5 ho hdo).mapOf ?_
 have e:(valueAt ps x).isSome=(bc6 kvs (.str x)).isSome:=by
  cases hrk.find (x:=x) with
  | no e1 e2=>rw [e1,e2];rfl
  | yes e v e1 e2 f2=>rw [e1,e2];rfl
 rw [e]
 exact ⟨B,Gr.refl kp,rfl,rfl,rfl,Nat.le_succ _⟩
theorem dy3 {x y:D} {r:Bool} (h:inL x y=some r):∃ l,y = .list l/\SeqAt.shaped x=true/\SeqAt.shaped (.list l)=true/\r=l.any λ y=>PyData.eqv y x:=by
 obtain ⟨l,hl,h⟩:=a6 h
 obtain rfl:=r8 hl
 obtain ⟨c,h⟩:=i4 h
 cases h
 exact ⟨l,rfl,(b9 c).1,(b9 c).2,rfl⟩
theorem es9 {x y:D} {r:Bool} (kp:j4 B s.heap) (rm:Rm k A) (ha:f8 prog w s.heap B x a) (hb:f8 prog w s.heap B y b) (h:inD x y=some r) :
  wpAny (model prog w) A (compareOp .In a b) (EvP prog w B s (.bool r)) E s:=by
 rcases al3 h with h | h
 ·obtain ⟨x,y,rfl,rfl,h⟩:=as5 h
  obtain ⟨t,ht,rfl⟩:=ha
  obtain ⟨u,hu,rfl⟩:=hb
  cases h
  exact P.in_str (EvP.bool0 kp)
 ·rcases al3 h with h | h
  ·obtain ⟨l,rfl,c1,c2,rfl⟩:=dy3 h
   exact cy9 kp rm ha hb c1 c2
  ·obtain ⟨l,hl,h⟩:=a6 h
   obtain rfl:=ap2 hl
   obtain ⟨c,h⟩:=i4 h
   cases h
   exact cz4 kp ha hb c
theorem et7 {x y:D} {r:Bool} (kp:j4 B s.heap) (rm:Rm k A) (ha:f8 prog w s.heap B x a) (hb:f8 prog w s.heap B y b) (h:eqD x y=some r) :
  wpAny (model prog w) A (compareOp .Eq a b) (EvP prog w B s (.bool r)) E s:=by
 rcases al3 h with h | h
 ·obtain ⟨x,y,rfl,rfl,h⟩:=as5 h
  cases h
  exact dk0 kp ha hb
 ·obtain ⟨c,h⟩:=i4 h
  cases h
  exact ch0 kp rm ha hb (b9 c).1 (b9 c).2
theorem eu6 {x y:D} {r:Bool} (kp:j4 B s.heap) (rm:Rm k A) (ha:f8 prog w s.heap B x a) (hb:f8 prog w s.heap B y b) (h:eqD x y=some r) :
  wpAny (model prog w) A (compareOp .NotEq a b) (EvP prog w B s (.bool (!r))) E s:=by
 rcases al3 h with h | h
 ·obtain ⟨x,y,rfl,rfl,h⟩:=as5 h
  cases h
  exact dj2 kp ha hb
 ·obtain ⟨c,h⟩:=i4 h
  cases h
  exact ck0 kp rm ha hb (b9 c).1 (b9 c).2
theorem ep6 {x y:D} {r:Bool} (kp:j4 B s.heap) (rm:Rm k A) (ha:f8 prog w s.heap B x a) (hb:f8 prog w s.heap B y b) (h:eqM x y=some r) :
  wpAny (model prog w) A (compareOp .Eq a b) (EvP prog w B s (.bool r)) E s:=by
 obtain ⟨dx,q7,h⟩:=a6 h
 obtain ⟨dy,q8,h⟩:=a6 h
 obtain ⟨hc,h⟩:=i4 h
 cases h
 obtain rfl:=ap2 q7
 obtain rfl:=ap2 q8
 obtain ⟨l1,o1,p1,rfl,h1,⟨d1,n1⟩,r1⟩:=ha
 obtain ⟨l2,o2,p2,rfl,h2,⟨d2,n2⟩,r2⟩:=hb
 show wpAny _ _ (richCompare .Eq (.ref l1) (.ref l2)) _ _ _
 exact ei5 h1 h2 d1 d2 n1 n2 r1 r2 kp (b9 hc).1 (b9 hc).2 (rm.u 66 (by decide)) (EvP.bool0 kp)
theorem u9 {α β:Type} {o:Option α} {f:α->β} {b:β} (h:o.map f=some b):∃ a,o=some a/\f a=b:=Option.map_eq_some_iff.mp h
theorem dx4 {op:CmpOp} {x y:D} {r:Bool} (kp:j4 B s.heap) (rm:Rm k A) (ha:f8 prog w s.heap B x a) (hb:f8 prog w s.heap B y b) (h:bb7 op x y=some r) :
  wpAny (model prog w) A (compareOp op a b) (EvP prog w B s (.bool r)) E s:=by
 cases op with
 | Eq=>
  rcases al3 h with h | h
  ·exact et7 kp rm ha hb h
  ·exact ep6 kp rm ha hb h
 | NotEq=>
  obtain ⟨r',h1,rfl⟩:=u9 h
  exact eu6 kp rm ha hb h1
 | In=>exact es9 kp rm ha hb h
 | NotIn=>
  obtain ⟨r',h1,rfl⟩:=u9 h
  obtain ⟨l,rfl,c1,c2,rfl⟩:=dy3 h1
  exact bz1 kp rm ha hb c1 c2
 | _=>cases h
noncomputable def TrP (B:FM) (s:Shared) (r:Bool) (v:Bool) (s':Shared):Prop:=v=r/\Gr B s.heap B s'.heap/\k6 s s'
theorem TrP.same {r:Bool} {n:Nat} (kp:j4 B s.heap) (h:s.toks<=n):TrP B s r r { s with toks:=n }:=⟨rfl,Gr.refl kp,rfl,rfl,h⟩
theorem dp3 {n:Nat} (h:sz n=true):(n:Int) < 2 ^ 63:=by have:n<=16777216:=of_decide_eq_true h;lia
theorem RdL.size_le {B:FM} {l:List D} {vs:List Value} (hr:RdL prog w B l vs) (h:sz l.length=true):vs.toArray.size<=sizeLine:=by
 rw [List.size_toArray,hr.length];exact ai7 h
theorem RdL.size {B:FM} {l:List D} {vs:List Value} (hr:RdL prog w B l vs) (h:sz l.length=true):(vs.toArray.size:Int) < 2 ^ 63:=by
 rw [List.size_toArray,hr.length];exact dp3 h
theorem dn8 {l:List D} {vs:List Value} (hr:RdL prog w B l vs):vs.toArray.isEmpty=l.isEmpty:=by
 cases l with
 | nil=>cases (hr:_=_);rfl
 | cons d l=>obtain ⟨v,r,rfl,_⟩:=hr;rfl
theorem dt9 {x:D} {r:Bool} (kp:j4 B s.heap) (ha:f8 prog w s.heap B x a) (h:ay6 x=some r) :
  wpAny (model prog w) A (truthy a) (TrP B s r) E s:=by
 cases x with
 | bool x=>
  cases h
  obtain rfl:=ha
  exact wpAny_truthy_bool ⟨rfl,Gr.refl kp,.refl s⟩
 | int i=>
  cases h
  obtain ⟨t,ht,rfl⟩:=ha
  exact P.truthy_int ⟨rfl,Gr.refl kp,.refl s⟩
 | str x=>
  obtain ⟨hz,h⟩:=i4 h
  cases h
  obtain ⟨t,ht,rfl⟩:=ha
  refine P.truthy_str (Int.not_le.mpr (dp3 hz)) ?_
  have e:((x.length:Int) != 0)=(x.length != 0):=by
   cases x.length <;> rfl
  rw [e]
  exact TrP.same kp (Nat.le_add_right _ 2)
 | tuple x=>
  obtain ⟨hz,h⟩:=i4 h
  cases h
  obtain ⟨c,o,vs,rfl,ho,hs,hr⟩:=ha
  refine truthy_tuple (hs.isTuple ho) (hr.size hz) ?_
  rw [dn8 hr]
  exact TrP.same kp (Nat.le_add_right _ 2)
 | _=>cases h
end
end
section
open PySem.Calls PySem.SeqAt
section
variable {w:World} {A:Around} {E:Value->Shared->Prop} {s:Shared} {B:FM} {k:Nat} {a b:Value}
theorem bn1 (slice:Expr) (o i:Value):∃ ops,subscripted slice false o i=operate ops (getItem o i):=by
 cases slice with
 | Slice l u st p=>cases st <;> exact ⟨_,rfl⟩
 | _=>exact ⟨_,rfl⟩
theorem ah8 {value slice:Expr} {o i:Value} {T id:String} {Q:Value->Shared->Prop} (hT:s.TypeIs o T)
  (hl:typeLookup (.type T) "__getitem__"=pure (some (.builtin id))) (hg:wpAny (model prog w) A (getItem o i) Q E s):wpAny (model prog w) A (subscriptTail value slice o i) Q E s:=by
 obtain ⟨ops,e⟩:=bn1 slice o i
 exact tail_any hT hl hg e
theorem db5 {d:D} {l:List D} (h:ea5 d=some l):d = .list l\/d = .tuple l:=by
 cases d with
 | list x=>cases h;exact .inl rfl
 | tuple x=>cases h;exact .inr rfl
 | _=>cases h
theorem el4 {i:Int} (h:i < 1152921504606846976):i < 2 ^ 63:=Int.lt_trans h (by decide)
theorem cp3 {value slice:Expr} {kvs:List (D×D)} {y d:D} (kp:j4 B s.heap) (ha:f8 prog w s.heap B (.dict kvs) a) (hb:f8 prog w s.heap B y b) (hk:z8 y=true) (h:bc6 kvs y=some d) :
  wpAny (model prog w) A (subscriptTail value slice a b) (EvP prog w B s d) E s:=by
 obtain ⟨x,rfl⟩:=an0 hk
 obtain ⟨l,o,ps,rfl,ho,⟨hdo,hns⟩,hrk⟩:=ha
 have hm:=(w5 ho hdo).mapOf
 obtain ⟨t,_,rfl⟩:=hb
 cases hrk.find (x:=x) with
 | no e1 e2=>rw [e1] at h;cases h
 | yes e v e1 e2 f2=>
  rw [e1] at h
  cases h
  exact ah8 (T:="dict") hm.typeIs slot_dict_getitem.lookup (wpAny_getItem_of (knd:=kk prog w) (em6 x t) hm e2 ⟨B,Gr.refl kp,f2,rfl,rfl,Nat.le_succ _⟩)
theorem eo7 {value slice:Expr} {x y d:D} (kp:j4 B s.heap) (ha:f8 prog w s.heap B x a) (hb:f8 prog w s.heap B y b) (h:bz4 x y=some d) :
  wpAny (model prog w) A (subscriptTail value slice a b) (EvP prog w B s d) E s:=by
 rcases al3 h with h | h
 case inr=>
  obtain ⟨l,hl,q⟩:=a6 h
  obtain rfl:=ap2 hl
  obtain ⟨hc,q⟩:=i4 q
  exact cp3 kp ha hb (b9 hc).1 q
 obtain ⟨l,hl,q⟩:=a6 h
 obtain ⟨i,hi,q⟩:=a6 q
 obtain rfl:=am8 hi
 obtain ⟨hc,q⟩:=i4 q
 have h0:=of_decide_eq_true (b9 hc).1
 have h1:=el4 (of_decide_eq_true (b9 hc).2)
 obtain ⟨t,ht,rfl⟩:=hb
 rcases db5 hl with rfl | rfl
 ·obtain ⟨l,o,vs,rfl,ho,hs,hr⟩:=ha
  obtain ⟨v,e,hv⟩:=hr.get q
  exact ah8 (hs.isList ho).typeIs slot_list_getitem.lookup (wpAny_getItem_list (hs.isList ho) h0 h1 (vs.getElem?_toArray▸e) (EvP.same kp hv))
 ·obtain ⟨l,o,vs,rfl,ho,hs,hr⟩:=ha
  obtain ⟨v,e,hv⟩:=hr.get q
  obtain ⟨n,rfl⟩:=Int.eq_ofNat_of_zero_le h0
  have hlt:(n:Int) < vs.length:=Int.ofNat_lt.mpr (List.getElem?_eq_some_iff.mp e).1
  have hj:seqIndex? (n:Int) vs.toArray.size=some n:=by
   unfold seqIndex?
   rw [if_neg (Int.not_lt.mpr h0)]
   exact if_pos (g7 (decide_eq_true h0) (decide_eq_true hlt))
  exact ah8 (T:="tuple") ⟨o,ho,hs.1⟩ slot_tuple_getitem.lookup (getItem_tuple (hs.isTuple ho) (Int.le_trans (by decide) h0) h1 hj (vs.getElem?_toArray▸e) (EvP.same kp hv))
theorem bm2 (n:Nat) (len:Nat):Builtin.Str.strSliceIndices (some (n:Int)) none 1 len=(List.range (len - n)).map (λ k=>n+k):=by
 have h1:¬ ((n:Int) < 0):=by lia
 simp only [Builtin.Str.strSliceIndices,sliceRange,h1,if_false,show ((1:Int) > 0)=True from by simp,if_true]
 by_cases h:n < len
 ·have e1:max (0:Int) (min (n:Int) (len:Int))=n:=by lia
  rw [e1,if_pos (by lia)]
  have e3:(((len:Int) - n+1 - 1) / 1).toNat=len - n:=by first | (simp;done) | (simp;lia) | lia
  rw [e3]
  refine List.map_congr_left λ k ξ=>?_
  lia
 ·have e1:max (0:Int) (min (n:Int) (len:Int))=len:=by lia
  have:len - n=0:=by lia
  rw [e1,if_neg (by lia),this];simp
theorem bl9 (n:Nat) (len:Nat):Builtin.Str.strSliceIndices none (some (n:Int)) 1 len=List.range (min n len):=by
 have h1:¬ ((n:Int) < 0):=by lia
 simp only [Builtin.Str.strSliceIndices,sliceRange,h1,if_false,show ((1:Int) > 0)=True from by simp,if_true]
 have e1:max (0:Int) (min (n:Int) (len:Int))=(min n len:Nat):=by
  rcases Nat.le_total n len with q | q
  ·rw [Int.min_eq_left (Int.ofNat_le.mpr q),Nat.min_eq_left q];exact Int.max_eq_right (Int.natCast_nonneg n)
  ·rw [Int.min_eq_right (Int.ofNat_le.mpr q),Nat.min_eq_right q];exact Int.max_eq_right (Int.natCast_nonneg len)
 rw [e1]
 by_cases h:0 < min n len
 ·rw [if_pos (by lia)]
  have e3:((((min n len:Nat):Int) - 0+1 - 1) / 1).toNat=min n len:=by simp
  rw [e3]
  have:(λ (x:Nat)=>((0:Int)+(x:Int) * 1).toNat)=id:=by funext x;simp
  first
   | (rw [this];simp)
   | (conv=>lhs;rw [show (List.range (min n len))=(List.range (min n len)).map id by simp]
      simp)
   | (apply List.ext_getElem <;> simp)
 ·have:min n len=0:=by lia
  rw [this,if_neg (by lia)];simp
theorem bu5 (x:Str) (n:Nat):Txt.slice x none (some (n:Int))=⟨(x.cps.toList.take n).toArray⟩:=by
 have e:(Builtin.Str.strSliceIndices none (some (n:Int)) 1 x.length).filterMap (x.cps[·]?)=x.cps.toList.take n:=by
  rw [bl9]
  have:=StrLaws.picks x.cps.toList (min n x.length) 0 (by first | (simp [Str.length];done) | (simp [Str.length];exact Nat.min_le_right ..))
  simp only [Nat.zero_add,List.map_id',List.drop_zero] at this
  have h2:x.cps.toList.take (min n x.length)=x.cps.toList.take n:=by
   rw [List.take_eq_take_iff];first | (simp [Str.length];done) | (simp [Str.length];lia)
  rw [<- h2,<- this];simp
 unfold Txt.slice
 split
 ·rename_i h
  simp only [beq_self_eq_true,Bool.true_and,beq_iff_eq] at h
  rw [bl9] at h
  simp at h
  obtain ⟨⟨l⟩⟩:=x
  simp [Str.length] at h⊢
  exact (List.take_of_length_le (by lia)).symm
 ·rw [e]
theorem bv9 (x:Str) (n:Nat):Txt.slice x (some (n:Int)) none=⟨(x.cps.toList.drop n).toArray⟩:=by
 have e:(Builtin.Str.strSliceIndices (some (n:Int)) none 1 x.length).filterMap (x.cps[·]?)=x.cps.toList.drop n:=by
  rw [bm2]
  by_cases h:n<=x.length
  ·have:=StrLaws.picks x.cps.toList (x.length - n) n (by simp [Str.length] at h ⊢;lia)
   have h2:(x.cps.toList.drop n).take (x.length - n)=x.cps.toList.drop n:=List.take_of_length_le (by simp [Str.length])
   rw [h2] at this
   rw [<- this];simp
  ·have:x.length - n=0:=by lia
   rw [this]
   have:x.cps.toList.drop n=[]:=List.drop_eq_nil_of_le (by simp [Str.length] at h ⊢;lia)
   rw [this];simp
 unfold Txt.slice
 split
 ·rename_i h
  simp only [beq_self_eq_true,Bool.true_and,beq_iff_eq] at h
  rw [bm2] at h
  simp at h
  obtain ⟨⟨l⟩⟩:=x
  simp [Str.length] at h⊢
  by_cases q:n=0
  ·subst q;simp
  ·have:l.length=0:=by lia
   have:l=[]:=List.length_eq_zero_iff.mp this
   subst this;simp
 ·rw [e]
theorem cp8 {s1:Shared} {c:Prop} [Decidable c] {y z r:Str} {t:Tok} (g:Gr B s.heap B s1.heap) (m:k6 s s1) (hs:0 < s1.toks) (ht:cb7 t) (e:(if c then y else z)=r) (hz:r.length<=sizeLine) :
  (if c then Made.val (.str y t) else Made.str z).post (EvP prog w B s (.str r)) s1:=by
 by_cases hc:c
 ·rw [if_pos hc] at e⊢
  subst e
  exact EvP.after g m (EvP.str g.keep ht (Nat.le_refl _))
 ·rw [if_neg hc] at e⊢
  subst e
  exact ⟨hz,EvP.after g m (EvP.str g.keep trivial (Nat.le_succ _))⟩
theorem bh2 (kp:j4 B s.heap) (vl vu vk:Value) {n:Nat} (hn:s.toks<=n):Gr B s.heap B (s.heap.push { cls:=.type "slice",data:=.fields #[vl,vu,vk] })/\k6 s { s with heap:=s.heap.push { cls:=.type "slice",data:=.fields #[vl,vu,vk] },toks:=n }:=
 ⟨Gr.heap kp λ ξ ξ e=>Heap.get?_push_of_some _ e,rfl,rfl,hn⟩
theorem ee2 {value slice:Expr} {x y d:D} (kp:j4 B s.heap) (hs:0 < s.toks) (ha:f8 prog w s.heap B x a) (hb:f8 prog w s.heap B y b) (h:bc0 x y=some d) :
  wpAny (model prog w) A (subscriptTail value slice a (.ref s.heap.objs.size)) (EvP prog w B s d) E { s with heap:=s.heap.push { cls:=.type "slice",data:=.fields #[.none,b,.none] } }:=by
 obtain ⟨g,m⟩:=bh2 kp .none b .none (Nat.le_refl s.toks)
 obtain ⟨i,hi,q⟩:=a6 h
 obtain rfl:=am8 hi
 obtain ⟨t,ht,rfl⟩:=hb
 rcases al3 q with q | q
 ·obtain ⟨l,hl,q⟩:=a6 q
  obtain rfl:=r8 hl
  obtain ⟨hc,q⟩:=i4 q
  obtain ⟨n,rfl⟩:=Int.eq_ofNat_of_zero_le (of_decide_eq_true (b9 hc).1)
  cases q
  obtain ⟨l,o,vs,rfl,ho,hsq,hr⟩:=ha
  have hl:=(hsq.isList ho).push { cls:=.type "slice",data:=.fields #[.none,.int n t,.none] }
  refine ah8 (Heap.IsList.typeIs (s:={ s with heap:=s.heap.push _ }) hl) slot_list_getitem.lookup ?_
  refine wpAny_getItem_list_slice hl (Heap.IsSliceOf.new ..) .none (.int _ t) .none (by decide) ?_ (by rw [List.size_toArray,hr.length];exact ai7 (b9 (b9 hc).2).2)
  rw [slicePick_upto']
  exact EvP.after g m (FrP.ev (FrP.list g.keep (Nat.le_refl _) (hr.take n)))
 ·obtain ⟨l,hl,q⟩:=a6 q
  obtain rfl:=l9 hl
  obtain ⟨hc,q⟩:=i4 q
  obtain ⟨n,rfl⟩:=Int.eq_ofNat_of_zero_le (of_decide_eq_true (b9 hc).1)
  cases q
  obtain ⟨u,hu,rfl⟩:=ha
  refine ah8 (T:="str") (typeIs_str _ _ u) F.slot_str_getitem.lookup ?_
  refine wpAny_getItem_str_slice (l:=none) (u:=some ((n:Int),t)) (st:=none) ⟨_,Heap.get?_push_size _ rfl,rfl,rfl⟩ rfl ?_
  refine cp8 g m hs hu (bu5 _ n) (Nat.le_trans ?_ (ai7 (b9 (b9 hc).2).2))
  simp [Str.length];exact Nat.min_le_right ..
theorem ec7 {value slice:Expr} {x y d:D} (kp:j4 B s.heap) (hs:0 < s.toks) (ha:f8 prog w s.heap B x a) (hb:f8 prog w s.heap B y b) (h:co1 x y=some d) :
  wpAny (model prog w) A (subscriptTail value slice a (.ref s.heap.objs.size)) (EvP prog w B s d) E { s with heap:=s.heap.push { cls:=.type "slice",data:=.fields #[b,.none,.none] } }:=by
 obtain ⟨g,m⟩:=bh2 kp b .none .none (Nat.le_refl s.toks)
 obtain ⟨i,hi,q⟩:=a6 h
 obtain rfl:=am8 hi
 obtain ⟨t,ht,rfl⟩:=hb
 obtain ⟨l,hl,q⟩:=a6 q
 obtain rfl:=l9 hl
 obtain ⟨hc,q⟩:=i4 q
 obtain ⟨n,rfl⟩:=Int.eq_ofNat_of_zero_le (of_decide_eq_true (b9 hc).1)
 cases q
 obtain ⟨u,hu,rfl⟩:=ha
 refine ah8 (T:="str") (typeIs_str _ _ u) F.slot_str_getitem.lookup ?_
 refine wpAny_getItem_str_slice (l:=some ((n:Int),t)) (u:=none) (st:=none) ⟨_,Heap.get?_push_size _ rfl,rfl,rfl⟩ rfl ?_
 refine cp8 g m hs hu (bv9 _ n) (Nat.le_trans ?_ (ai7 (b9 (b9 hc).2).2))
 simp [Str.length]
end
end
section
open PySem.Calls PySem.SeqAt
structure j6 (env:Env) (sc:Scope):Prop where
 kind:env.scope.kind = .function
 globals:env.globals=mainGlobals
 builtins:env.builtins=builtinsNs
 loc:∀ x,sc.names.lookup x=some .local->env.kindOf x=some .local
 cell:∀ x,sc.names.lookup x=some .cell\/sc.names.lookup x=some .free->env.kindOf x=some .cell\/env.kindOf x=some .free
 glob:∀ x,sc.names.lookup x=some .globalImplicit->env.kindOf x=some .globalImplicit
 cells:∀ x,sc.names.lookup x=some .cell\/sc.names.lookup x=some .free->∃ c,env.cells.lookup x=some c
inductive At (env:Env) (h:Heap) (x:Str) (v:Value):Prop
 | loc (m:Str->Option Value):env.kindOf x=some .local->h.Ns env.locals m->m x=some v->At env h x v
 | cell (c:Addr):env.kindOf x=some .cell\/env.kindOf x=some .free->env.cells.lookup x=some c->h.IsCell c (some v)->At env h x v
theorem At.keeps {env:Env} {h h':Heap} {x:Str} {v:Value} (k:Old h h'):At env h x v->At env h' x v
 | .loc m e hn hv=>.loc m e (k.ns hn) hv
 | .cell c e hc hv=>.cell c e hc (k.cell hv)
theorem At.load {M:Model} {A:Around} {E:Value->Shared->Prop} {s:Shared} {env:Env} {x:Str} {v:Value} {Q:Value->Shared->Prop} {pos:Pos} (hk:env.scope.kind = .function) (hx:aj3 x=true)
  (a:At env s.heap x v) (h:Q v s):wpAny M A (PySem.eval (.Name x pos) env) Q E s:=by
 have h1:(x == ("__debug__":Str))=false:=by
  have:=(Bool.and_eq_true_iff.mp hx).1
  simpa [bne] using this
 have h2:(x == ("__classdict__":Str))=false:=by
  have:=(Bool.and_eq_true_iff.mp hx).2
  simpa [bne] using this
 refine wpAny_Name ?_ h1
 cases a with
 | loc m e hn hv=>exact wpAny_loadName_local hk e hn hv h
 | cell c e hc hv=>
  rcases e with e | e
  ·exact wpAny_loadName_cell hk e hc hv h
  ·exact wpAny_loadName_free hk e hc hv h h2
inductive ey7 (B:FM) (h:Heap) (e:Env):Prop
 | mk (h1:e.scope.kind≠.module) (f o es ep:_) (h2:e.frame=some f) (h3:h.get? f=some o) (h4:o.data = .dict es ep) (h5:o.cls≠.type "dict") (h6:B f=none)
noncomputable def br4 (B:FM) (h:Heap) (l:List Env):Prop:=∀ e∈l,ey7 B h e
inductive Stk (A:Around) (B:FM) (h:Heap):Prop
 | mk (l:_) (h1:A.frames=some l) (h2:br4 B h l)
theorem dh3 {B B':FM} {h h':Heap} (g:Gr B h B' h') {a:Addr} (hb:B a=none) (he:h.get? a≠none):B' a=none:=by
 cases e:B' a with
 | none=>rfl
 | some o=>
  rcases g.new a o e with q | q
  ·rw [hb] at q;cases q
  ·exact absurd q he
theorem br4.step {B B':FM} {h h':Heap} {l:List Env} (x:br4 B h l) (g:Gr B h B' h'):br4 B' h' l:=λ e he=>by
 obtain ⟨k,f,o,es,ep,q1,q2,q3,q4,q5⟩:=x e he
 obtain ⟨o',p1,p2,p3⟩:=(g.old f o q2).ex
 exact ⟨k,f,o',es,ep,q1,p1,p3.trans q3,by rw [p2];exact q4,dh3 g q5 (by rw [q2];simp)⟩
theorem Stk.step {A:Around} {B B':FM} {h h':Heap} (x:Stk A B h) (g:Gr B h B' h'):Stk A B' h':=let ⟨l,e,q⟩:=x;⟨l,e,q.step g⟩
section
variable (prog:Program) (w:World)
inductive eu2 (prog:Program) (w:World) (env:Env) (h:Heap) (B:FM) (m:aa3) (d:D) (x:Str):Prop
 | mk (v:Value) (a:At env h x v) (t:f8 prog w h B d v) (f:m = .fr->Rd prog w B d v):eu2 prog w env h B m d x
structure Rdr (env:Env) (sc:Scope) (r:Rho) (B:FM) (h:Heap):Prop where
 keep:j4 B h
 vars:∀ x i m d,d8 sc x=some i->r.get i=some (m,d)->eu2 prog w env h B m d x
noncomputable def biL:List (Str×Value):=[("len",.builtin "len"),("sorted",.builtin "sorted"),("min",.builtin "min"),("max",.builtin "max"),("sum",.builtin "sum"),("divmod",.builtin "divmod"),("isinstance",.builtin "isinstance"),
  ("range",.type "range"),("enumerate",.type "enumerate"),("zip",.type "zip"),("tuple",.type "tuple"),("map",.type "map"),("set",.type "set"),("bytes",.type "bytes"),("type",.type "type"),("issubclass",.builtin "issubclass"),("str",.type "str"),("IndexError",.type "IndexError")]
structure Glb (qa:Heap) (mg mb:Str->Option Value):Prop where
 g:qa.Ns mainGlobals mg
 b:qa.Ns builtinsNs mb
 nolimit:qa.NoLimit
 bi:∀ x v,(x,v)∈biL->mg x=none/\mb x=some v
theorem bd2 {α β:Type} [BEq α] [LawfulBEq α] {x:α} {b:β}:∀ {l:List (α×β)},l.lookup x=some b->(x,b)∈l
 | (y,d) :: r,h=>by
  rw [List.lookup_cons] at h
  by_cases e:x=y
  ·subst e;rw [beq_self_eq_true] at h;cases h;exact .head _
  ·rw [beq_eq_false_iff_ne.mpr e] at h;exact .tail _ (bd2 h)
theorem Glb.b' {qa:Heap} {mg mb:Str->Option Value} (G:Glb qa mg mb) {x:Str} {v:Value} (h:biL.lookup x=some v):mg x=none/\mb x=some v:=G.bi x v (bd2 h)
structure Ok (qa:Heap) (k:Nat) (A:Around) (env:Env) (sc:Scope) (r:Rho) (B:FM) (s:Shared):Prop where
 rm:Rm k A
 eok:j6 env sc
 rd:Rdr prog w env sc r B s.heap
 base:∀ a o,qa.get? a=some o->B a=some o
 toks:0 < s.toks
 cellE:∀ x c,env.cells.lookup x=some c->∃ v,s.heap.IsCell c v
 stk:Stk A B s.heap
 frE:∀ f,env.frame=some f->s.heap.get? f≠none
end
section
variable {w:World} {qa:Heap} {mg mb:Str->Option Value} {k:Nat} {A:Around} {env:Env} {sc:Scope} {r:Rho} {B:FM} {s:Shared} {E:Value->Shared->Prop}
theorem Rdr.step {B':FM} {h h':Heap} (x:Rdr prog w env sc r B h) (g:Gr B h B' h'):Rdr prog w env sc r B' h' where
 keep:=g.keep
 vars:=λ y i m d hs hr=>by
  obtain ⟨v,a,t,f⟩:=x.vars y i m d hs hr
  exact ⟨v,a.keeps g.old,t.mono g.old g.le,λ q=>(f q).mono g.le⟩
theorem Ok.step {B':FM} {s':Shared} (x:Ok prog w qa k A env sc r B s) (g:Gr B s.heap B' s'.heap) (m:k6 s s'):Ok prog w qa k A env sc r B' s':=
 ⟨x.rm,x.eok,x.rd.step g,λ a o e=>g.le _ _ (x.base a o e),Nat.lt_of_lt_of_le x.toks m.toks,λ y c e=>let ⟨v,q⟩:=x.cellE y c e;⟨v,g.old.cell q⟩,x.stk.step g,λ f hf=>g.old.ex (x.frE f hf)⟩
theorem Ok.keep (x:Ok prog w qa k A env sc r B s):j4 B s.heap:=x.rd.keep
theorem Ok.old (x:Ok prog w qa k A env sc r B s):∀ a o,qa.get? a=some o->s.heap.get? a=some o:=λ a o e=>x.keep a o (x.base a o e)
theorem Ok.big (G:Glb qa mg mb) (x:Ok prog w qa k A env sc r B s):s.heap.objs.size≠sysModules:=by
 obtain ⟨o,_,_,ho,_⟩:=G.g
 have h1:3 < s.heap.objs.size:=Heap.lt_size (x.old _ _ ho)
 intro e
 have h2:s.heap.objs.size=1:=e
 lia
theorem Ok.u {n:Nat} (x:Ok prog w qa k A env sc r B s) (h:n<=199):A.units+n < cLine:=x.rm.u n h
variable (w qa k) (U:String->List D->Option D)
noncomputable def j3 (sc:Scope) (e:PySem.Expr) (ir:IR):Prop:=
 ∀ ⦃A E s env r B d⦄,Ok prog w qa k A env sc r B s->eval U ir r=some d->wpAny (model prog w) A (PySem.eval e env) (EvP prog w B s d) E s
noncomputable def ae1 (sc:Scope) (e:PySem.Expr) (ir:IR):Prop:=
 ∀ ⦃A E s env r B d⦄,Ok prog w qa k A env sc r B s->look U ir r=some d->wpAny (model prog w) A (PySem.eval e env) (LkP prog w B s d) E s
noncomputable def ai4 (sc:Scope) (e:PySem.Expr) (ir:IR):Prop:=
 ∀ ⦃A E s env r B b⦄,Ok prog w qa k A env sc r B s->ab4 U ir r=some b->
  wpAny (model prog w) A (isTrue e env (PySem.eval e env)) (λ v s'=>v=b/\∃ B',Gr B s.heap B' s'.heap/\k6 s s') E s
end
end
section
open PySem.Calls PySem.SeqAt
section
variable {w:World} {qa:Heap} {mg mb:Str->Option Value} {k:Nat} {U:String->List D->Option D} {sc:Scope}
theorem ar0 {b:Bool} {kd:Nat} {pos:Pos}:j3 w qa k U sc (.Constant (.bool b) kd pos) (.bool b):=λ A E s env r B d ok h=>by
 cases h
 exact wpAny_pure (EvP.same ok.keep (rfl))
theorem c9 {i:Int} {kd:Nat} {pos:Pos}:j3 w qa k U sc (.Constant (.int i) kd pos) (.int i):=λ A E s env r B d ok h=>by
 cases h
 exact wpAny_Constant_int (EvP.int ok.keep trivial (Nat.le_succ _))
theorem a8 {i:Str} {kd:Nat} {pos:Pos}:j3 w qa k U sc (.Constant (.str i) kd pos) (.str i):=λ A E s env r B d ok h=>by
 cases h
 exact Constant_str (EvP.str ok.keep trivial (Nat.le_succ _))
theorem cd3 {x:Str} {i:Nat} (h:d8 sc x=some i):aj3 x=true/\sc.names.findIdx? (·.1 == x)=some i:=by
 unfold d8 at h
 have key:(if aj3 x=true then sc.names.findIdx? (·.1 == x) else none)=some i->aj3 x=true/\sc.names.findIdx? (·.1 == x)=some i:=λ h=>by
  by_cases q:aj3 x=true
  ·rw [if_pos q] at h;exact ⟨q,h⟩
  ·rw [if_neg q] at h;cases h
 cases e:sc.names.lookup x with
 | none=>rw [e] at h;exact nomatch h
 | some kd=>
  rw [e] at h
  cases kd with
  | «local» | cell | free=>exact key h
  | _=>exact nomatch h
theorem i9 {x:Str} {i:Nat} (h:d8 sc x=some i):aj3 x=true:=(cd3 h).1
theorem az5 {s:Slot} {d:D} (h:bw3 s=some d):s=some (.fr,d):=by
 cases s with
 | none=>exact nomatch h
 | some p=>
 obtain ⟨m,e⟩:=p
 cases m with
 | fr=>exact congrArg (λ d=>some (aa3.fr,d)) (Option.some.inj h)
 | own | lock | cap=>exact nomatch h
theorem at5 {s:Slot} {d:D} (h:az9 s=some d):s=some (.own,d):=by
 cases s with
 | none=>exact nomatch h
 | some p=>
 obtain ⟨m,e⟩:=p
 cases m with
 | own=>exact congrArg (λ d=>some (aa3.own,d)) (Option.some.inj h)
 | fr | lock | cap=>exact nomatch h
theorem g6 {x:Str} {i:Nat} {pos:Pos} (hs:d8 sc x=some i):j3 w qa k U sc (.Name x pos) (.var i):=λ A E s env r B d ok h=>by
 obtain ⟨v,a,t,f⟩:=ok.rd.vars x i _ _ hs (az5 h)
 exact a.load ok.eok.kind (i9 hs) (EvP.same ok.keep (f rfl))
theorem b7 {x:Str} {i:Nat} {pos:Pos} (hs:d8 sc x=some i):ae1 w qa k U sc (.Name x pos) (.var i):=λ A E s env r B d ok h=>by
 obtain ⟨⟨m,d'⟩,e,rfl⟩:=u9 h
 obtain ⟨v,a,t,f⟩:=ok.rd.vars x i _ _ hs e
 exact a.load ok.eok.kind (i9 hs) ⟨B,Gr.refl ok.keep,t,.refl s⟩
theorem cj3 {ir:IR} {r:Rho} {d:D} (hv:ir.v=none) (h:look U ir r=some d):eval U ir r=some d:=by
 unfold look at h
 rw [hv] at h
 exact h
theorem j3.lk {e:PySem.Expr} {ir:IR} (h:j3 w qa k U sc e ir) (hv:ir.v=none):ae1 w qa k U sc e ir:=λ A E s env r B d ok hd=>
 wpAny_mono (h ok (cj3 hv hd)) (λ ξ ξ q=>q.look) λ ξ ξ e=>e
theorem u0 {e:PySem.Expr} {ir:IR} {A:Around} {E:Value->Shared->Prop} {s:Shared} {env:Env} {r:Rho} {B:FM} {d:D} {Q:Value->Shared->Prop} (h:ae1 w qa k U sc e ir) (ok:Ok prog w qa k A env sc r B s)
  (hd:look U ir r=some d) (hQ:∀ v s' B',Gr B s.heap B' s'.heap->k6 s s'->f8 prog w s'.heap B' d v->Ok prog w qa k A env sc r B' s'->Q v s'):wpAny (model prog w) A (PySem.eval e env) Q E s:=
 wpAny_mono (h ok hd) (λ v s' ⟨B',g,t,m⟩=>hQ v s' B' g m t (ok.step g m)) λ ξ ξ e=>e
theorem al8 {e:PySem.Expr} {ir:IR} {A:Around} {E:Value->Shared->Prop} {s:Shared} {env:Env} {r:Rho} {B:FM} {d:D} {Q:Value->Shared->Prop} (h:j3 w qa k U sc e ir) (ok:Ok prog w qa k A env sc r B s)
  (hd:eval U ir r=some d) (hQ:∀ v s' B',Gr B s.heap B' s'.heap->k6 s s'->Rd prog w B' d v->Ok prog w qa k A env sc r B' s'->Q v s'):wpAny (model prog w) A (PySem.eval e env) Q E s:=
 wpAny_mono (h ok hd) (λ v s' ⟨B',g,t,m⟩=>hQ v s' B' g m t (ok.step g m)) λ ξ ξ e=>e
theorem ae6 {l r':PySem.Expr} {op:Operator} {a b:IR} {pos:Pos} (hl:ae1 w qa k U sc l a) (hr:ae1 w qa k U sc r' b):j3 w qa k U sc (.BinOp l op r' pos) (.bin op a b):=λ A E s env r B d ok h=>by
 obtain ⟨x,hx,h⟩:=a6 h
 obtain ⟨y,hy,h⟩:=a6 h
 refine wpAny_BinOp (u0 hl ok hx λ va s1 B1 g1 m1 t1 ok1=>u0 hr ok1 hy λ vb s2 B2 g2 m2 t2 ok2=>?_)
 exact wpAny_mono (en3 ok2.keep ok2.toks (t1.mono g2.old g2.le) t2 h) (λ v s' q=>(q.after g2 m2).after g1 m1) λ ξ ξ e=>e
noncomputable def TsP (B:FM) (s:Shared) (b:Bool) (v:Bool) (s':Shared):Prop:=v=b/\∃ B',Gr B s.heap B' s'.heap/\k6 s s'
theorem cs1 {s s1:Shared} {A:Around} {E':Value->Shared->Prop} {B B1:FM} {v:Value} {d:D} {b:Bool} (g:Gr B s.heap B1 s1.heap) (m:k6 s s1) (t:f8 prog w s1.heap B1 d v) (h:ay6 d=some b) :
  wpAny (model prog w) A (truthy v) (TsP B s b) E' s1:=
 wpAny_mono (dt9 g.keep t h) (λ _ _ ⟨e,g',m'⟩=>⟨e,B1,g.trans g',m.trans m'⟩) λ ξ ξ e=>e
noncomputable def bh4 (e:PySem.Expr):Bool:=e.ctorIdx != 3 && (e.ctorIdx != 0 && (e.ctorIdx != 5 && e.ctorIdx != 15))
set_option tactic.hygienic true in
theorem aq9 {e:PySem.Expr} {env:Env} {A:Around} {E:Value->Shared->Prop} {s:Shared} {Q:Bool->Shared->Prop} (hp:bh4 e=true)
  (h:wpAny (model prog w) A (PySem.eval e env) (λ v s'=>wpAny (model prog w) A (truthy v) Q E s') E s):wpAny (model prog w) A (isTrue e env (PySem.eval e env)) Q E s:=by
 have:isTrue e env (PySem.eval e env)=(do let v <- PySem.eval e env;standAt e.pos;holding [v] (truthy v)):=by
  cases e <;> first | rfl | cases hp
 rw [this]
 exact wpAny_bind (wpAny_mono h (λ v s' h'=>wpAny_bind (wpAny_standAt (wpAny_holding h'))) λ ξ ξ e=>e)
noncomputable def bg4 (ir:IR):Bool:=!ir.ao && (ir.v.isNone || !ir.bl)
theorem ed3 {ir:IR} {r:Rho} {b:Bool} (hb:ir.bl=true) (h:ab4 U ir r=some b):eval U ir r=some (.bool b):=by
 unfold ab4 at h
 unfold eval
 rw [hb] at h⊢
 exact congrArg (Option.map PyData.bool) h
theorem dy4 {ir:IR} {r:Rho} {b:Bool} (hp:bg4 ir=true) (h:ab4 U ir r=some b):dp9 (look U ir r) ay6 b:=by
 obtain ⟨h1,h2⟩:=b9 hp
 cases hb:ir.bl with
 | false=>
  unfold ab4 at h
  rw [hb,(Bool.not_eq_true' _).mp h1] at h
  exact a6 h
 | true=>
  rw [hb] at h2
  have hv:ir.v=none:=by
   cases hv:ir.v with
   | none=>rfl
   | some i=>rw [hv] at h2;cases h2
  refine ⟨.bool b,?_,rfl⟩
  unfold look
  rw [hv]
  exact ed3 hb h
theorem dw7 {e:PySem.Expr} {ir:IR} (h:ae1 w qa k U sc e ir) (hp:bh4 e=true) (h1:bg4 ir=true):ai4 w qa k U sc e ir:=λ A E s env r B b ok hd=>by
 obtain ⟨d,hd,hb⟩:=dy4 h1 hd
 exact aq9 hp (u0 h ok hd λ v s' B' g m t ξ=>cs1 g m t hb)
theorem j1 {l r':PySem.Expr} {op:CmpOp} {a b:IR} {pos:Pos} (hl:ae1 w qa k U sc l a) (hr:ae1 w qa k U sc r' b) (hm:behindInMarks op r'=false):ai4 w qa k U sc (.Compare l [op] [r'] pos) (.cmp op a b):=λ A E s env r B b ok h=>by
 obtain ⟨x,hx,h⟩:=a6 h
 obtain ⟨y,hy,h⟩:=a6 h
 refine wpAny_isTrue_Compare1 (u0 hl ok hx λ va s1 B1 g1 m1 t1 ok1=>u0 hr ok1 hy λ vb s2 B2 g2 m2 t2 ok2=>?_) hm
 refine wpAny_mono (dx4 ok2.keep ok2.rm (t1.mono g2.old g2.le) t2 h) (λ v s' q'=>?_) λ ξ ξ e=>e
 obtain ⟨B3,g3,t3,m3⟩:=q'
 exact cs1 (g1.trans (g2.trans g3)) (m1.trans (m2.trans m3)) (t3.top g3.keep) rfl
theorem dp2 {x:PySem.Expr} {a:IR} {pos:Pos} (h:ai4 w qa k U sc x a):ai4 w qa k U sc (.UnaryOp .Not x pos) (.not a):=λ A E s env r B b ok hd=>by
 obtain ⟨q,hq,rfl⟩:=u9 hd
 show wpAny _ _ (do return !(<- isTrue x env (PySem.eval x env))) _ _ _
 refine wpAny_bind (wpAny_mono (h ok hq) (λ v s' q'=>wpAny_pure ?_) λ ξ ξ e=>e)
 obtain ⟨rfl,B',g,m⟩:=q'
 exact ⟨rfl,B',g,m⟩
theorem dv4 {c a b:PySem.Expr} {ic ia ib:IR} {pos:Pos} (hc:ai4 w qa k U sc c ic) (ha:j3 w qa k U sc a ia) (hb:j3 w qa k U sc b ib):j3 w qa k U sc (.IfExp c a b pos) (.ite ic ia ib):=λ A E s env r B d ok hd=>by
 obtain ⟨t,ht,hd⟩:=a6 hd
 show wpAny _ _ (do if <- isTrue c env (PySem.eval c env) then PySem.eval a env else PySem.eval b env) _ _ _
 refine wpAny_bind (wpAny_mono (hc ok ht) (λ v s1 q'=>?_) λ ξ ξ e=>e)
 obtain ⟨rfl,B1,g1,m1⟩:=q'
 cases v
 ·exact wpAny_mono (hb (ok.step g1 m1) hd) (λ v s' q=>q.after g1 m1) λ ξ ξ e=>e
 ·exact wpAny_mono (ha (ok.step g1 m1) hd) (λ v s' q=>q.after g1 m1) λ ξ ξ e=>e
inductive b8 {α β:Type} (R:α->β->Prop):List α->List β->Prop
 | nil:b8 R [] []
 | cons {a b as bs}:R a b->b8 R as bs->b8 R (a :: as) (b :: bs)
theorem b8.mono {α β:Type} {R S:α->β->Prop} (h:∀ a b,R a b->S a b) {as:List α} {bs:List β} (q:b8 R as bs):b8 S as bs:=by
 induction q with
 | nil=>exact .nil
 | cons x y ih=>exact .cons (h _ _ x) ih
theorem dq5 {es:List PySem.Expr} {qd:List IR} {A:Around} {E:Value->Shared->Prop} {s:Shared} {env:Env} {r:Rho} {B:FM} {b:Bool} (h:b8 (ai4 w qa k U sc) es qd) (ok:Ok prog w qa k A env sc r B s) (hd:bj8 U qd r=some b) :
  wpAny (model prog w) A (allTrue .And es env) (TsP B s b) E s:=by
 induction h generalizing s B with
 | nil=>exact wpAny_pure ⟨Option.some.inj hd,B,Gr.refl ok.keep,.refl s⟩
 | @cons x ir xs qd hx _ ih=>
  obtain ⟨t,ht,hd⟩:=a6 hd
  show wpAny _ _ (do match BoolOp.And,<- isTrue x env (PySem.eval x env) with | .And,false=>pure false | .Or,true=>pure true | _,_=>allTrue .And xs env) _ _ _
  refine wpAny_bind (wpAny_mono (hx ok ht) (λ v s1 q'=>?_) λ ξ ξ e=>e)
  obtain ⟨rfl,B1,g1,m1⟩:=q'
  cases v
  ·cases hd
   exact wpAny_pure ⟨rfl,B1,g1,m1⟩
  ·exact wpAny_mono (ih (ok.step g1 m1) hd) (λ v s' ⟨e,B',g,m⟩=>⟨e,B',g1.trans g,m1.trans m⟩) λ ξ ξ e=>e
theorem ew4 {es:List PySem.Expr} {qd:List IR} {A:Around} {E:Value->Shared->Prop} {s:Shared} {env:Env} {r:Rho} {B:FM} {b:Bool} (h:b8 (ai4 w qa k U sc) es qd) (ok:Ok prog w qa k A env sc r B s) (hd:orE U qd r=some b) :
  wpAny (model prog w) A (allTrue .Or es env) (TsP B s b) E s:=by
 induction h generalizing s B with
 | nil=>exact wpAny_pure ⟨Option.some.inj hd,B,Gr.refl ok.keep,.refl s⟩
 | @cons x ir xs qd hx _ ih=>
  obtain ⟨t,ht,hd⟩:=a6 hd
  show wpAny _ _ (do match BoolOp.Or,<- isTrue x env (PySem.eval x env) with | .And,false=>pure false | .Or,true=>pure true | _,_=>allTrue .Or xs env) _ _ _
  refine wpAny_bind (wpAny_mono (hx ok ht) (λ v s1 q'=>?_) λ ξ ξ e=>e)
  obtain ⟨rfl,B1,g1,m1⟩:=q'
  cases v
  ·exact wpAny_mono (ih (ok.step g1 m1) hd) (λ v s' ⟨e,B',g,m⟩=>⟨e,B',g1.trans g,m1.trans m⟩) λ ξ ξ e=>e
  ·cases hd
   exact wpAny_pure ⟨rfl,B1,g1,m1⟩
theorem dh4 {es:List PySem.Expr} {qd:List IR} {pos:Pos} (h:b8 (ai4 w qa k U sc) es qd):ai4 w qa k U sc (.BoolOp .And es pos) (.and qd):=λ A E s env r B b ok hd=>dq5 h ok hd
theorem eo9 {es:List PySem.Expr} {qd:List IR} {pos:Pos} (h:b8 (ai4 w qa k U sc) es qd):ai4 w qa k U sc (.BoolOp .Or es pos) (.or qd):=λ A E s env r B b ok hd=>ew4 h ok hd
theorem dg5 {es:List PySem.Expr} {qd:List IR} {pos:Pos} (h:b8 (ai4 w qa k U sc) es qd):ai4 w qa k U sc (.BoolOp .And es pos) (.andT qd):=λ A E s env r B b ok hd=>dq5 h ok hd
end
end
section
open PySem.Calls PySem.SeqAt
section
variable {w:World} {qa:Heap} {mg mb:Str->Option Value} {k:Nat} {U:String->List D->Option D} {sc:Scope}
noncomputable def j9 (e:PySem.Expr):Bool:=e.ctorIdx != 22
theorem d6 {e:PySem.Expr} {rest:List PySem.Expr} {env:Env} (h:j9 e=true):starEach (e :: rest) env=(false,PySem.eval e env) :: starEach rest env:=by
 cases e <;> first | rfl | cases h
theorem l0 {t:Sem Value} {rest:List (Bool×Sem Value)} {pos:Pos}:backTo pos ((false,t) :: rest)=(false,t) :: backTo pos rest:=rfl
theorem au1 {es:List PySem.Expr} {qd:List IR} {A:Around} {E:Value->Shared->Prop} {s:Shared} {env:Env} {r:Rho} {B:FM} {ds:List D} {pos:Pos} {Q:List Value->Shared->Prop} (h:b8 (j3 w qa k U sc) es qd) (hn:es.all j9=true)
  (ok:Ok prog w qa k A env sc r B s) (hd:ac3 U qd r=some ds)
  (hQ:∀ vs s' B',Gr B s.heap B' s'.heap->k6 s s'->RdL prog w B' ds vs->Ok prog w qa k A env sc r B' s'->Q vs s'):wpAny (model prog w) A (spliced (backTo pos (starEach es env))) Q E s:=by
 induction h generalizing s B ds Q with
 | nil=>
  cases hd
  exact spliced_nil (hQ _ _ B (Gr.refl ok.keep) (.refl s) RdL.nil ok)
 | @cons x ir xs qd hx hr ih=>
  obtain ⟨d,h1,hd⟩:=a6 hd
  obtain ⟨ds',h2,hd⟩:=a6 hd
  cases hd
  have hn':=b9 hn
  rw [d6 hn'.1,l0]
  refine spliced_cons (al8 hx ok h1 λ v s1 B1 g1 m1 r1 ok1=>ih hn'.2 ok1 h2 λ vs s2 B2 g2 m2 r2 ok2=>?_)
  exact hQ _ _ B2 (g1.trans g2) (m1.trans m2) (RdL.cons (r1.mono g2.le) r2) ok2
theorem cu5 {es:List PySem.Expr} {qd:List IR} {A:Around} {E:Value->Shared->Prop} {s:Shared} {env:Env} {r:Rho} {B:FM} {ds:List D} {pos:Pos} {Q:List Value->Shared->Prop} (h:b8 (ae1 w qa k U sc) es qd) (hn:es.all j9=true)
  (ok:Ok prog w qa k A env sc r B s) (hd:aq5 U qd r=some ds)
  (hQ:∀ vs s' B',Gr B s.heap B' s'.heap->k6 s s'->b8 (λ d v=>f8 prog w s'.heap B' d v) ds vs->Ok prog w qa k A env sc r B' s'->Q vs s'):wpAny (model prog w) A (spliced (backTo pos (starEach es env))) Q E s:=by
 induction h generalizing s B ds Q with
 | nil=>
  cases hd
  exact spliced_nil (hQ _ _ B (Gr.refl ok.keep) (.refl s) .nil ok)
 | @cons x ir xs qd hx hr ih=>
  obtain ⟨d,h1,hd⟩:=a6 hd
  obtain ⟨ds',h2,hd⟩:=a6 hd
  cases hd
  have hn':=b9 hn
  rw [d6 hn'.1,l0]
  refine spliced_cons (u0 hx ok h1 λ v s1 B1 g1 m1 r1 ok1=>ih hn'.2 ok1 h2 λ vs s2 B2 g2 m2 r2 ok2=>?_)
  exact hQ _ _ B2 (g1.trans g2) (m1.trans m2) (.cons (r1.mono g2.old g2.le) r2) ok2
theorem cg5 {es:List PySem.Expr} {qd:List IR} {pos:Pos} {A:Around} {E:Value->Shared->Prop} {s:Shared} {env:Env} {r:Rho} {B:FM} {d:D} (h:b8 (j3 w qa k U sc) es qd) (hn:es.all j9=true) (ok:Ok prog w qa k A env sc r B s) (hd:eval U (.list qd) r=some d) :
  wpAny (model prog w) A (PySem.eval (.List es pos) env) (FrP prog w B s d) E s:=by
 obtain ⟨ds,h1,hd⟩:=a6 hd
 obtain ⟨hz,hd⟩:=i4 hd
 cases hd
 refine List_ (au1 h hn ok h1 λ vs s1 B1 g1 m1 r1 ok1=>?_)
 exact wpAny_newObj_type (FrP.after g1 m1 (FrP.list g1.keep (Nat.le_refl _) r1)) (r1.size_le hz)
theorem av3 {es:List PySem.Expr} {qd:List IR} {pos:Pos} (h:b8 (j3 w qa k U sc) es qd) (hn:es.all j9=true):j3 w qa k U sc (.List es pos) (.list qd):=λ A E s env r B d ok hd=>
 wpAny_mono (cg5 h hn ok hd) (λ ξ ξ q=>q.ev) λ ξ ξ e=>e
theorem br2 {es:List PySem.Expr} {qd:List IR} {kd:Nat} {pos:Pos} (h:b8 (j3 w qa k U sc) es qd) (hn:es.all j9=true):j3 w qa k U sc (.Tuple es kd pos) (.tup qd):=λ A E s env r B d ok hd=>by
 obtain ⟨ds,h1,hd⟩:=a6 hd
 obtain ⟨hz,hd⟩:=i4 hd
 cases hd
 refine Tuple_ (au1 h hn ok h1 λ vs s1 B1 g1 m1 r1 ok1=>?_)
 exact wpAny_newObj_type (FrP.after g1 m1 (FrP.tuple g1.keep (Nat.le_refl _) r1)).ev (r1.size_le hz)
theorem u7 {v i:PySem.Expr} {a b:IR} {pos:Pos} (hv:ae1 w qa k U sc v a) (hi:ae1 w qa k U sc i b):j3 w qa k U sc (.Subscript v i pos) (.idx a b):=λ A E s env r B d ok hd=>by
 obtain ⟨x,hx,hd⟩:=a6 hd
 obtain ⟨y,hy,hd⟩:=a6 hd
 refine Subscript_ (u0 hv ok hx λ va s1 B1 g1 m1 t1 ok1=>u0 hi ok1 hy λ vb s2 B2 g2 m2 t2 ok2=>?_)
 exact wpAny_mono (eo7 ok2.keep (t1.mono g2.old g2.le) t2 hd) (λ v s' q=>(q.after g2 m2).after g1 m1) λ ξ ξ e=>e
theorem al2 {A:Around} {E:Value->Shared->Prop} {s:Shared} {l u st:Value} {Q:Value->Shared->Prop} (h:Q (.ref s.heap.objs.size) { s with heap:=s.heap.push { cls:=.type "slice",data:=.fields #[l,u,st] } }) :
  wpAny (model prog w) A (newFields "slice" [l,u,st]) Q E s:=wpAny_newObj_type h
theorem bo9 {v n:PySem.Expr} {a b:IR} {p pos:Pos} (hv:ae1 w qa k U sc v a) (hi:ae1 w qa k U sc n b):j3 w qa k U sc (.Subscript v (.Slice none (some n) none p) pos) (.upto a b):=λ A E s env r B d ok hd=>by
 obtain ⟨x,hx,hd⟩:=a6 hd
 obtain ⟨y,hy,hd⟩:=a6 hd
 refine Subscript_ (u0 hv ok hx λ va s1 B1 g1 m1 t1 ok1=>?_)
 show wpAny _ _ (do let l <- (pure .none:Sem Value);let u <- holding [l] (PySem.eval n env);let st <- holding [l,u] (pure .none:Sem Value);newFields "slice" [l,u,st]) _ _ _
 refine wpAny_bind (wpAny_pure (wpAny_bind (wpAny_holding (u0 hi ok1 hy λ vb s2 B2 g2 m2 t2 ok2=>wpAny_bind (wpAny_holding (wpAny_pure (al2 ?_)))))))
 exact wpAny_mono (ee2 ok2.keep ok2.toks (t1.mono g2.old g2.le) t2 hd) (λ v s' q=>(q.after g2 m2).after g1 m1) λ ξ ξ e=>e
theorem ee7 {v n:PySem.Expr} {a b:IR} {p pos:Pos} (hv:ae1 w qa k U sc v a) (hi:ae1 w qa k U sc n b):j3 w qa k U sc (.Subscript v (.Slice (some n) none none p) pos) (.from a b):=λ A E s env r B d ok hd=>by
 obtain ⟨x,hx,hd⟩:=a6 hd
 obtain ⟨y,hy,hd⟩:=a6 hd
 refine Subscript_ (u0 hv ok hx λ va s1 B1 g1 m1 t1 ok1=>?_)
 show wpAny _ _ (do let l <- PySem.eval n env;let u <- holding [l] (pure .none:Sem Value);let st <- holding [l,u] (pure .none:Sem Value);newFields "slice" [l,u,st]) _ _ _
 refine wpAny_bind (u0 hi ok1 hy λ vb s2 B2 g2 m2 t2 ok2=>wpAny_bind (wpAny_holding (wpAny_pure (wpAny_bind (wpAny_holding (wpAny_pure (al2 ?_)))))))
 exact wpAny_mono (ec7 ok2.keep ok2.toks (t1.mono g2.old g2.le) t2 hd) (λ v s' q=>(q.after g2 m2).after g1 m1) λ ξ ξ e=>e
variable (w qa mg k) in
inductive ad6 (f:String) (sp:List D->Option D):Prop
 | mk (fa o fd:_) (h1:mg (Str.ofString f)=some (.ref fa)) (h2:qa.get? fa=some o) (h3:o.data = .func fd) (h4:∀ ⦃A:Around⦄ ⦃s:Shared⦄ ⦃B:FM⦄ ⦃vs:List Value⦄ ⦃ds:List D⦄ ⦃d:D⦄,Rm k A->Stk A B s.heap->j4 B s.heap->(∀ a o,qa.get? a=some o->B a=some o)->0 < s.toks->RdL prog w B ds vs->sp ds=some d->codeAny (model prog w) A (.call (.ref fa) ⟨vs,[]⟩) (λ r s'=>∃ v,r = .ok (.ret v)/\EvP prog w B s d v s') s)
theorem cc0 {x:Str} (hx:i5 sc x=true):sc.names.lookup x=some .globalImplicit/\(x == ("__debug__":Str))=false:=by
 obtain ⟨h1,h2⟩:=b9 hx
 exact ⟨af8 h1,(Bool.not_eq_true' _).mp (b9 h2).1⟩
theorem ak7 {A:Around} {E:Value->Shared->Prop} {s:Shared} {env:Env} {r:Rho} {B:FM} {x:Str} {v:Value} {pos:Pos} {Q:Value->Shared->Prop} (G:Glb qa mg mb) (ok:Ok prog w qa k A env sc r B s) (hx:i5 sc x=true) (hv:mg x=some v) (h:Q v s) :
  wpAny (model prog w) A (PySem.eval (.Name x pos) env) Q E s:=by
 obtain ⟨h1,h3⟩:=cc0 hx
 exact Name_function_global ok.eok.kind (ok.eok.glob x h1) (loadGlobal_global (by rw [ok.eok.globals];exact G.g.keeps ok.old) hv h) h3
theorem at7 {A:Around} {E:Value->Shared->Prop} {s:Shared} {env:Env} {nm:Str} {vv:Value} {pp:Pos} {Q:Value->Shared->Prop} (G:Glb qa mg mb) (ek:j6 env sc) (hx:i5 sc nm=true) (hm:mg nm=none/\mb nm=some vv) (ho:∀ a o,qa.get? a=some o->s.heap.get? a=some o) (hq:Q vv s):wpAny (model prog w) A (PySem.eval (.Name nm pp) env) Q E s:=by
 obtain ⟨h1,h3⟩:=cc0 hx
 exact Name_function_global ek.kind (ek.glob nm h1) (loadGlobal_builtin (by rw [ek.globals];exact G.g.keeps ho) hm.1 (by rw [ek.builtins];exact G.b.keeps ho) hm.2 hq) h3
theorem w9 {A:Around} {E:Value->Shared->Prop} {s:Shared} {env:Env} {r:Rho} {B:FM} {x:Str} {v:Value} {pos:Pos} {Q:Value->Shared->Prop} (G:Glb qa mg mb) (ok:Ok prog w qa k A env sc r B s) (hx:i5 sc x=true)
  (hm:mg x=none/\mb x=some v) (h:Q v s):wpAny (model prog w) A (PySem.eval (.Name x pos) env) Q E s:=at7 G ok.eok hx hm ok.old h
end
end
section
open PySem.Calls PySem.SeqAt
open AutoSeq1 (wpAny_loadPart')
open PySem.MeetsSeq PySem.MeetsSeq3
noncomputable def ds6 (op:CmpOp) (A:Around) (s:Shared) (x y:Value) (b:Bool):Prop:=∀ (prog:Program) (w:World) (Q:Value->Shared->Prop) (E:Value->Shared->Prop),Q (.bool b) s->wpAny (model prog w) A (richCompare op x y) Q E s
noncomputable def eo5:Bool->Int | true=>0 | false=>4
noncomputable def eh9:Bool->CmpOp | true=>.Lt | false=>.Gt
noncomputable def LU:Bool->List Str->List Str->Bool
 | true,X,Y=>by8 (X.map .str) (Y.map .str)
 | false,X,Y=>by8 (Y.map .str) (X.map .str)
noncomputable def L1:Bool->Str->Str->Bool
 | true,x,y=>ltD (.str x) (.str y)
 | false,x,y=>ltD (.str y) (.str x)
noncomputable def LN:Bool->Nat->Nat->Bool
 | true,n,m=>decide (n < m)
 | false,n,m=>decide (m < n)
theorem ex7 (up:Bool) (Y:List Str):LU up [] Y=LN up 0 Y.length:=by cases up <;> cases Y <;> rfl
theorem ey1 (up:Bool) (X:List Str):LU up X []=LN up X.length 0:=by cases up <;> cases X <;> rfl
theorem es1 (up:Bool) {n m i:Nat} (h1:i<=n) (h2:i<=m):LN up (n - i) (m - i)=LN up n m:=by
 have e:∀ {n m:Nat},i<=n->i<=m->decide (n - i < m - i)=decide (n < m):=λ h1 h2=>decide_eq_decide.mpr (Nat.sub_lt_sub_iff_right h1)
 cases up
 ·exact e h2 h1
 ·exact e h1 h2
theorem em2 (up:Bool) {X Y:List Str} {i:Nat} (h1:i<=X.length) (h2:i<=Y.length) (h:X.length=i\/Y.length=i):LU up (X.drop i) (Y.drop i)=LN up X.length Y.length:=by
 rw [<- es1 up h1 h2]
 rcases h with h | h
 ·rw [List.drop_eq_nil_of_le (Nat.le_of_eq h),ex7,List.length_drop,h,Nat.sub_self]
 ·rw [List.drop_eq_nil_of_le (Nat.le_of_eq h),ey1,List.length_drop,h,Nat.sub_self]
theorem ee8 (up:Bool) (x y:Str) (X Y:List Str):LU up (x :: X) (y :: Y)=bif x == y then LU up X Y else L1 up x y:=by
 cases up
 ·by_cases e:x=y
  ·subst e;rfl
  ·show (bif y == x then _ else _)=_
   rw [beq_eq_false_iff_ne.mpr e,beq_eq_false_iff_ne.mpr (Ne.symm e)];rfl
 ·rfl
theorem eg2 (up:Bool) {X Y:List Str} {i:Nat} (h1:i < X.length) (h2:i < Y.length):LU up (X.drop i) (Y.drop i)=bif X[i] == Y[i] then LU up (X.drop (i+1)) (Y.drop (i+1)) else L1 up X[i] Y[i]:=by
 rw [List.drop_eq_getElem_cons h1,List.drop_eq_getElem_cons h2,ee8]
inductive dn5 (X:List Str) (e9:Array Value):Prop
 | mk (h1:e9.size=X.length) (h2:∀ j (h:j < X.length),∃ t,e9[j]?=some (.str X[j] t)):dn5 X e9
theorem dj6 (up:Bool) {A:Around} {s:Shared} (x y:Str) (t t':Tok):ds6 (eh9 up) A s (.str x t) (.str y t') (L1 up x y):=by
 intro prog' w' Q E hQ
 cases up
 ·exact richCompare_gives (op:=.Gt) (typeIs_str s _ t) (typeIs_str s _ t') F.slot_str_gt F.entry_str_gt (F.args_str_gt_2 _ _) (gives_str_gt _ _ t t') (λ x=>nomatch x) hQ
 ·exact richCompare_gives (op:=.Lt) (typeIs_str s _ t) (typeIs_str s _ t') F.slot_str_lt F.entry_str_lt (F.args_str_lt_2 _ _) (gives_str_lt _ _ t t') (λ x=>nomatch x) hQ
noncomputable def dy2 (up:Bool) (l b:Addr) (e9 items2:Array Value) (n n2:Nat) (dd dd2:Option Addr) (sl sl2:Array (Option Value)) (i:Nat) (r:Bool):Prop:=
 Meets (Builtin.«list.__eq__.loop» ⟨[.ref l,.ref b,rawInt i,rawInt (eo5 up)],[]⟩)
   (λ A R s=>s.heap.get? l=some { cls:=.type "list",dict:=dd,data:=.seq e9 n,slots:=sl }/\s.heap.get? b=some { cls:=.type "list",dict:=dd2,data:=.seq items2 n2,slots:=sl2 }/\R (.ok (.ret (.bool r))) s)
theorem dz3 (up:Bool) {l b:Addr} {e9 items2:Array Value} {n n2:Nat} {dd dd2:Option Addr} {sl sl2:Array (Option Value)} {i:Nat} (h0:e9[i]?=none\/items2[i]?=none):dy2 up l b e9 items2 n n2 dd dd2 sl sl2 i (LN up e9.size items2.size):=by
 intro prog w A R s h
 obtain ⟨hp,g,d,tk,os⟩:=s;obtain ⟨hl,hb,h⟩:=h
 cases up <;> (
  wp_walk using wpAny_loadPart' hl,wpAny_loadPart' hb
  rw [Int.toNat_natCast]
  cases q:e9[i]? with
  | none=>
   wp_walk using wpAny_loadPart' hl,wpAny_loadPart' hb
   exact h
  | some v=>
   rw [h0.resolve_left (by rw [q];exact nofun)]
   wp_walk using wpAny_loadPart' hl,wpAny_loadPart' hb
   exact h)
theorem du7 (up:Bool) (l b:Addr) (e9 items2:Array Value) (n n2:Nat) (dd dd2:Option Addr) (sl sl2:Array (Option Value)) {X Y:List Str} (hX:dn5 X e9) (hY:dn5 Y items2) (k:Nat) :
  ∀ i:Nat,i<=X.length->i<=Y.length->X.length - i<=k->dy2 up l b e9 items2 n n2 dd dd2 sl sl2 i (LU up (X.drop i) (Y.drop i)):=by
 obtain ⟨eX,tX⟩:=hX
 obtain ⟨eY,tY⟩:=hY
 have fin:∀ i,i<=X.length->i<=Y.length->X.length=i\/Y.length=i->dy2 up l b e9 items2 n n2 dd dd2 sl sl2 i (LU up (X.drop i) (Y.drop i)):=λ i h1 h2 h=>by
  rw [em2 up h1 h2 h,<- eX,<- eY]
  exact dz3 up (h.imp (λ q=>Array.getElem?_eq_none (Nat.le_of_eq (eX.trans q))) λ q=>Array.getElem?_eq_none (Nat.le_of_eq (eY.trans q)))
 induction k with
 | zero=>exact λ i h1 h2 hk=>fin i h1 h2 (.inl (Nat.le_antisymm (Nat.le_of_sub_eq_zero (Nat.le_zero.mp hk)) h1))
 | succ k ih=>
  intro i h1 h2 hk
  by_cases q1:i < X.length
  case neg=>exact fin i h1 h2 (.inl (Nat.le_antisymm (Nat.not_lt.mp q1) h1))
  by_cases q2:i < Y.length
  case neg=>exact fin i h1 h2 (.inr (Nat.le_antisymm (Nat.not_lt.mp q2) h2))
  intro prog w A R s h
  obtain ⟨hp,g,d,tk,os⟩:=s;obtain ⟨hl,hb,h⟩:=h
  obtain ⟨t,hi1⟩:=tX i q1
  obtain ⟨u,hi2⟩:=tY i q2
  have ih:=ih (i+1) q1 q2 (eh6 hk)
  rw [eg2 up q1 q2] at h
  generalize X[i]=x at hi1 h
  generalize Y[i]=y at hi2 h
  generalize LU up (X.drop (i+1)) (Y.drop (i+1))=r at ih h
  have sc:∀ A s,ds6 (eh9 up) A s (.str x t) (.str y u) (L1 up x y):=λ A s=>dj6 up x y t u
  cases up <;> (
   wp_walk using wpAny_loadPart' hl,wpAny_loadPart' hb
   rw [Int.toNat_natCast,hi1,hi2]
   refine wpAny_bind (EqAt.str_str x t y u prog w _ _ ?_)
   cases e:x == y with
   | true=>
    rw [e] at h
    wp_walk
    exact ⟨plainId_quiet plain_eq_loop _,codeAny_builtin entry_eq_loop (by
     rw [Around.under_plainId plain_eq_loop _]
     exact ih prog w A R _ ⟨hl,hb,h⟩)⟩
   | false=>
    rw [e] at h
    wp_walk using wpAny_loadPart' hl,wpAny_loadPart' hb
    rw [hi1,hi2]
    refine wpAny_bind (sc _ _ prog w _ _ ?_)
    wp_walk
    exact h)
theorem bv4 (up:Bool) (l b:Addr) (e9 items2:Array Value) (n n2:Nat) (dd dd2:Option Addr) (sl sl2:Array (Option Value)) {X Y:List Str} (hX:dn5 X e9) (hY:dn5 Y items2) :
  Meets (match up with | true=>Builtin.«list.__lt__» ⟨[.ref l,.ref b],[]⟩ | false=>Builtin.«list.__gt__» ⟨[.ref l,.ref b],[]⟩)
   (λ A R s=>s.heap.get? l=some { cls:=.type "list",dict:=dd,data:=.seq e9 n,slots:=sl }/\s.heap.get? b=some { cls:=.type "list",dict:=dd2,data:=.seq items2 n2,slots:=sl2 }/\R (.ok (.ret (.bool (LU up X Y)))) s):=by
 have lp:=du7 up l b e9 items2 n n2 dd dd2 sl sl2 hX hY X.length 0 (Nat.zero_le _) (Nat.zero_le _) (Nat.le_refl _)
 intro prog w A R s h
 obtain ⟨hp,g,d,tk,os⟩:=s;obtain ⟨hl,hb,h⟩:=h
 have f3:=AutoSeq1.sub_list_list
 cases up <;> (
  wp_walk using wpAny_loadPart' hl,wpAny_loadPart' hb
  exact ⟨plainId_quiet plain_eq_loop _,codeAny_builtin entry_eq_loop (by
   rw [Around.under_plainId plain_eq_loop _]
   exact lp prog w A R _ ⟨hl,hb,h⟩)⟩)
theorem dz1 {d:D} (h:isStr d=true):∃ x,d = .str x:=by
 cases d with
 | str x=>exact ⟨x,rfl⟩
 | _=>cases h
theorem bv5:∀ {l:List D},l.all isStr=true->∃ is:List Str,l=is.map .str
 | [],_=>⟨[],rfl⟩
 | d :: l,h=>by
  obtain ⟨h1,h2⟩:=b9 h
  obtain ⟨i,rfl⟩:=dz1 h1
  obtain ⟨is,rfl⟩:=bv5 h2
  exact ⟨i :: is,rfl⟩
theorem dm7 {d:D} (h:av8 d=true):∃ X:List Str,d = .list (X.map .str):=by
 cases d with
 | list l=>obtain ⟨X,e⟩:=bv5 h;exact ⟨X,congrArg _ e⟩
 | _=>cases h
section
variable {w:World} {A:Around} {E:Value->Shared->Prop} {s:Shared} {B:FM} {a b:Value}
theorem be7 {X:List Str} {vs:List Value} (r:RdL prog w B (X.map .str) vs):dn5 X vs.toArray:=by
 refine ⟨by rw [List.size_toArray,r.length,List.length_map],λ j h=>?_⟩
 obtain ⟨v,e,t,_,rfl⟩:=r.get (i:=j) (d:=.str X[j]) (by rw [List.getElem?_map,List.getElem?_eq_getElem h];rfl)
 exact ⟨t,by rw [List.getElem?_toArray];exact e⟩
theorem cu8 (up:Bool) {X Y:List Str} {v u:Value} (kp:j4 B s.heap) (hu:A.units+70 < cLine) (h1:Rd prog w B (.list (X.map .str)) v) (h2:Rd prog w B (.list (Y.map .str)) u):ds6 (eh9 up) A s v u (LU up X Y):=by
 obtain ⟨l,o,vs,rfl,ho,hs,hr⟩:=h1
 obtain ⟨m,o2,ws,rfl,ho2,hs2,hr2⟩:=h2
 intro prog' w' Q E hQ
 obtain ⟨⟨cls,dd,data,sl⟩,ho,hcl,n,hd⟩:=hs.isList (kp _ _ ho)
 obtain ⟨⟨cls2,dd2,data2,sl2⟩,ho2,hc2,n2,hd2⟩:=hs2.isList (kp _ _ ho2)
 simp only at hcl hd hc2 hd2
 subst hcl hd hc2 hd2
 have lo:=bv4 up l m vs.toArray ws.toArray n n2 dd dd2 sl sl2 (be7 hr) (be7 hr2)
 cases up
 ·exact richCompare_meets_room (op:=.Gt) (T:="list") ⟨_,ho,rfl⟩ ⟨_,ho2,rfl⟩ F.slot_list_gt F.entry_list_gt (F.args_list_gt_2 _ _) lo ⟨ho,ho2,nofun,hQ⟩ (by lia)
 ·exact richCompare_meets_room (op:=.Lt) (T:="list") ⟨_,ho,rfl⟩ ⟨_,ho2,rfl⟩ F.slot_list_lt F.entry_list_lt (F.args_list_lt_2 _ _) lo ⟨ho,ho2,nofun,hQ⟩ (by lia)
end
end
section
open PySem.Calls PySem.SeqAt
section
variable {w:World} {A:Around} {E:Value->Shared->Prop} {s:Shared} {B:FM}
theorem EvP.grown {d:D} {v:Value} {h':Heap} {tk:Nat} (kp:j4 B s.heap) (ho:∀ a o,s.heap.get? a=some o->h'.get? a=some o) (ht:s.toks<=tk) (r:Rd prog w B d v) :
  EvP prog w B s d v { s with heap:=h',toks:=tk }:=⟨B,Gr.heap kp ho,r,rfl,rfl,ht⟩
theorem t7 {a:Addr} (kp:j4 B s.heap) (hn:s.heap.get? a=none):B a=none:=by
 cases e:B a with
 | none=>rfl
 | some o=>rw [kp _ _ e] at hn;cases hn
theorem FrP.made {h':Heap} {tk:Nat} {a:Addr} {o:Obj} {ds:List D} {vs:List Value} (kp:j4 B s.heap) (ho:∀ a o,s.heap.get? a=some o->h'.get? a=some o) (ht:s.toks<=tk) (hn:s.heap.get? a=none)
  (hg:h'.get? a=some o) (hs:ba1 "list" vs o) (r:RdL prog w B ds vs) (hpl:o.dict=none/\o.slots=#[]):FrP prog w B s (.list ds) (.ref a) { s with heap:=h',toks:=tk }:=
 ⟨B,a,rfl,Gr.heap kp ho,hn,t7 kp hn,bq5.mpr ⟨a,o,vs,rfl,hg,hs,r⟩,⟨rfl,rfl,ht⟩,λ o' e=>by rw [hg] at e;cases e;exact hpl⟩
noncomputable def cv8 (prog:Program) (w:World) (A:Around) (B:FM) (op:CmpOp) (e9:List Value) (bt:Nat->Nat->Bool):Prop:=
 ∀ i j vi vj (s:Shared) (Q:Value->Shared->Prop) (E:Value->Shared->Prop),e9[i]?=some vi->e9[j]?=some vj->j4 B s.heap->Q (.bool (bt i j)) s->wpAny (model prog w) A (richCompare op vi vj) Q E s
end
section
variable {w:World} {A:Around} {R:Result->Shared->Prop} {I l:Addr} {e9:List Value} {B:FM}
theorem dq2 (hh:A.handled=none) (hl:l≠I) (bt:Nat->Nat->Bool) (hcmp:cv8 prog w A.in1 B .Lt e9 bt) (S:Addr) (hSl:S≠l) (hSI:S≠I) (hBI:B I=none) (hBS:B S=none) :
  ∀ (k j:Nat) (s:Shared) (vb:Value) (c:Nat),e9.length - (j+1)=k->j+1<=e9.length->s.heap.IsListIter I l (j+1)->s.heap.IsList l e9.toArray->j4 B s.heap->e9[argBest bt j]?=some vb->
  s.heap.get? S=some { cls:=.type "list",dict:=none,data:=.seq #[vb,vb] c,slots:=#[] }->
  (∀ v h' tk,e9[argBest bt (e9.length - 1)]?=some v->(∀ b o,b≠I->b≠S->s.heap.get? b=some o->h'.get? b=some o)->R (.ok (.ret v)) { s with heap:=h',toks:=tk })->
  codeAny (model prog w) A (.builtin "min.loop" ⟨[.ref I,.none,.ref S],[]⟩) R s:=by
 have W:=Walks.list (prog:=prog) (w:=w) (A:=A.in1) hh I l hl e9.toArray
 have hname:(toString "min" ++ toString ".loop":String)="min.loop":=by decide
 intro k
 induction k with
 | zero=>
  intro j s vb c hk hj hst hlst kp hPb hS hR
  have hin:j+1=e9.length:=by lia
  refine codeAny_builtin PySem.F.entry_min_loop ?_
  rw [Around.under_plainId PySem.F.plain_min_loop _]
  show wpAny _ A.in1 (seqItems? (.ref S) >>= _) _ _ s
  refine wpAny_bind (wpAny_seqItems hS rfl ?_)
  show wpAny _ A.in1 (tryCatch (pyNext (.ref I)) _ >>= _) _ _ s
  refine wpAny_bind (wpAny_tryCatch (W.done s _ _ (by simp only [List.size_toArray];rw [<- hin];exact ⟨hst,hlst⟩) λ h' tk hk'=>?_))
  have hS':=hk' S _ (by simpa using hSI) hS
  show wpAny _ A.in1 (updateSeq S (λ ξ=>#[]) >>= _) _ _ _
  refine wpAny_bind ?_
  refine wpAny_updateSeq hS' rfl (wpAny_bind (wpAny_letGo (wpAny_pure ?_)))
  refine hR vb _ tk (by rw [<- hin];exact hPb) λ b o hbI hbS e=>(Heap.get?_update_other _ _ (Ne.symm hbS)).trans (hk' b o (by simpa using hbI) e)
 | succ k ih=>
  intro j s vb c hk hj hst hlst kp hPb hS hR
  have hlt:j+1 < e9.length:=by exact bt9 ‹_›
  refine codeAny_builtin PySem.F.entry_min_loop ?_
  rw [Around.under_plainId PySem.F.plain_min_loop _]
  show wpAny _ A.in1 (seqItems? (.ref S) >>= _) _ _ s
  refine wpAny_bind (wpAny_seqItems hS rfl ?_)
  show wpAny _ A.in1 (tryCatch (pyNext (.ref I)) _ >>= _) _ _ s
  refine wpAny_bind (wpAny_tryCatch (W.item (j+1) s _ _ (by simpa using hlt) ⟨hst,hlst⟩ λ v h' tk hP hst' hk'=>?_))
  have hk2:∀ b o,b≠I->s.heap.get? b=some o->h'.get? b=some o:=λ b o hb e=>hk' b o (by simpa using hb) e
  have hP':e9[j+1]?=some v:=by simpa using hP
  have hS':=hk2 S _ hSI hS
  have kp':j4 B h':=λ b o e=>hk2 b o (λ q=>by subst q;rw [hBI] at e;cases e) (kp b o e)
  show wpAny _ A.in1 (tryCatch (holding [v,v] (richCompare .Lt v vb >>= _)) _ >>= _) _ _ _
  refine wpAny_bind (wpAny_tryCatch (wpAny_holding (wpAny_bind (hcmp (j+1) (argBest bt j) v vb _ _ _ hP' hPb kp' ?_))))
  refine wpAny_bind (wpAny_holding (wpAny_truthy_bool ?_))
  refine wpAny_bind (wpAny_letGo (wpAny_pure ?_))
  cases hb:bt (j+1) (argBest bt j) with
  | true=>
   refine ah3 rfl ?_
   refine wpAny_bind ?_
   refine wpAny_updateSeq hS' rfl (wpAny_bind (wpAny_letGo ?_))
   rw [hname]
   have o2:∀ b o,b≠S->h'.get? b=some o->(h'.update S (Obj.mapSeq λ ξ=>#[v,v])).get? b=some o:=λ b o hb e=>(Heap.get?_update_other _ _ (Ne.symm hb)).trans e
   refine wpAny_pure ⟨plainId_quiet PySem.F.plain_min_loop _,ih (j+1) _ v _ (by exact ay7 ‹_›) hlt (hst'.1.at λ o e=>o2 _ _ (Ne.symm hSI) e) (hst'.2.at λ o e=>o2 _ _ (Ne.symm hSl) e)
    (λ b o e=>o2 b o (λ q=>by subst q;rw [hBS] at e;cases e) (kp' b o e)) (by simp only [argBest,hb,if_true];exact hP') (Heap.get?_update_self _ hS' rfl) λ v' h'' tk'' hP'' hk''=>?_⟩
   exact hR v' h'' tk'' hP'' λ b o hbI hbS e=>hk'' b o hbI hbS (o2 b o hbS (hk2 b o hbI e))
  | false=>
   refine ac8 Bool.false_ne_true ?_
   refine wpAny_bind (wpAny_letGo ?_)
   rw [hname]
   refine wpAny_pure ⟨plainId_quiet PySem.F.plain_min_loop _,ih (j+1) _ vb c (by exact ay7 ‹_›) hlt hst'.1 hst'.2 kp' (by simp only [argBest,hb,Bool.false_eq_true,if_false];exact hPb) hS' λ v' h'' tk'' hP'' hk''=>?_⟩
   exact hR v' h'' tk'' hP'' λ b o hbI hbS e=>hk'' b o hbI hbS (hk2 b o hbI e)
theorem dv7 {E:Value->Shared->Prop} {s:Shared} {Q:Value->Shared->Prop} {bt:Nat->Nat->Bool} (hh:A.handled=none) (kp:j4 B s.heap) (hl:s.heap.IsList l e9.toArray) (hne:0 < e9.length)
  (hcmp:cv8 prog w A.in1 B .Lt e9 bt) (h:∀ v h' tk,e9[argBest bt (e9.length - 1)]?=some v->(∀ b o,s.heap.get? b=some o->h'.get? b=some o)->Q v { s with heap:=h',toks:=tk }) :
  wpAny (model prog w) A (call (.builtin "min") [.ref l]) Q E s:=by
 have hname:(toString "min" ++ toString ".loop":String)="min.loop":=by decide
 have hlt:l < s.heap.objs.size:=by obtain ⟨_,e,_⟩:=hl;exact Heap.lt_size e
 refine call_function_tree PySem.F.kind_min PySem.F.plain_min PySem.F.entry_min (PySem.F.args_min1 _) ?_
 show wpAny _ A.in1 (Builtin.Builtins.bindParams "min" ["key","default"] 0 ⟨[],[]⟩ >>= _) _ _ s
 refine wpAny_bind (wpAny_of_eq (show Builtin.Builtins.bindParams "min" ["key","default"] 0 ⟨[],[]⟩=pure [none,none] from rfl) ?_)
 refine wpAny_bind (wpAny_pure ?_)
 refine wpAny_bind (wpAny_pyIter_list hl ?_)
 refine wpAny_bind (wpAny_newObj_type ?_)
 rw [hname]
 have s1:(s.heap.push { cls:=.type "list_iterator",data:=.fields #[.ref l,.int 0 0] }).objs.size=s.heap.objs.size+1:=Heap.size_push ..
 have old:∀ b o,s.heap.get? b=some o->((s.heap.push { cls:=.type "list_iterator",data:=.fields #[.ref l,.int 0 0] }).push { cls:=.type "list",data:=.seq #[] }).get? b=some o:=λ b o e=>Heap.get?_push_of_some _ (Heap.get?_push_of_some _ e)
 have ho1:((s.heap.push { cls:=.type "list_iterator",data:=.fields #[.ref l,.int 0 0] }).push { cls:=.type "list",data:=.seq #[] }).IsListIter s.heap.objs.size l 0:=⟨_,Heap.get?_push_of_some _ (Heap.get?_push_size _ rfl),rfl,rfl⟩
 have hS:((s.heap.push { cls:=.type "list_iterator",data:=.fields #[.ref l,.int 0 0] }).push { cls:=.type "list",data:=.seq #[] }).get? (s.heap.push { cls:=.type "list_iterator",data:=.fields #[.ref l,.int 0 0] }).objs.size=some { cls:=.type "list",dict:=none,data:=.seq #[] 0,slots:=#[] }:=Heap.get?_push_size _ rfl
 revert ho1 hS old
 generalize ((s.heap.push { cls:=.type "list_iterator",data:=.fields #[.ref l,.int 0 0] }).push { cls:=.type "list",data:=.seq #[] })=H
 rw [s1]
 intro old ho1 hS
 have hI:l≠s.heap.objs.size:=Nat.ne_of_lt hlt
 have hSI:s.heap.objs.size+1≠s.heap.objs.size:=Nat.succ_ne_self _
 have hSl:s.heap.objs.size+1≠l:=Nat.ne_of_gt (Nat.lt_succ_of_lt hlt)
 have kpH:j4 B H:=λ b o e=>old b o (kp b o e)
 have hBI:B s.heap.objs.size=none:=t7 kp (g8 (Nat.le_refl _))
 have hBS:B (s.heap.objs.size+1)=none:=t7 kp (g8 (Nat.le_succ _))
 refine wpAny_pure ⟨plainId_quiet PySem.F.plain_min_loop _,?_⟩
 refine codeAny_builtin PySem.F.entry_min_loop ?_
 rw [Around.under_plainId PySem.F.plain_min_loop _]
 show wpAny _ A.in1 (seqItems? (.ref (s.heap.objs.size+1)) >>= _) _ _ _
 refine wpAny_bind (wpAny_seqItems hS rfl ?_)
 show wpAny _ A.in1 (tryCatch (pyNext (.ref s.heap.objs.size)) _ >>= _) _ _ _
 refine wpAny_bind (wpAny_tryCatch ((Walks.list (prog:=prog) (w:=w) (A:=A.in1) hh s.heap.objs.size l hI e9.toArray).item 0 _ _ _ (by simpa using hne) ⟨ho1,hl.at λ o e=>old _ _ e⟩ λ v h' tk hP hst' hk'=>?_))
 have hk2:∀ b o,b≠s.heap.objs.size->H.get? b=some o->h'.get? b=some o:=λ b o hb e=>hk' b o (by simpa using hb) e
 have hP':e9[0]?=some v:=by simpa using hP
 have hS':=hk2 _ _ hSI hS
 have kp':j4 B h':=λ b o e=>hk2 b o (λ q=>by subst q;rw [hBI] at e;cases e) (kpH b o e)
 show wpAny _ A.in1 (updateSeq (s.heap.objs.size+1) (λ ξ=>#[v,v]) >>= _) _ _ _
 refine wpAny_bind ?_
 refine wpAny_updateSeq hS' rfl ?_
 rw [hname]
 have o2:∀ b o,b≠s.heap.objs.size+1->h'.get? b=some o->(h'.update (s.heap.objs.size+1) (Obj.mapSeq λ ξ=>#[v,v])).get? b=some o:=λ b o hb e=>(Heap.get?_update_other _ _ (Ne.symm hb)).trans e
 refine wpAny_pure ⟨plainId_quiet PySem.F.plain_min_loop _,dq2 hh hI bt hcmp _ hSl hSI hBI hBS _ 0 _ v _ rfl hne (hst'.1.at λ o e=>o2 _ _ (Ne.symm hSI) e) (hst'.2.at λ o e=>o2 _ _ (Ne.symm hSl) e)
  (λ b o e=>o2 b o (λ q=>by subst q;rw [hBS] at e;cases e) (kp' b o e)) hP' (Heap.get?_update_self _ hS' rfl) λ v' h'' tk'' hP'' hk''=>?_⟩
 refine h v' h'' tk'' hP'' λ b o e=>?_
 have hb:=Heap.lt_size e
 exact hk'' b o (Nat.ne_of_lt hb) (Nat.ne_of_lt (Nat.lt_succ_of_lt hb)) (o2 b o (Nat.ne_of_lt (Nat.lt_succ_of_lt hb)) (hk2 b o (Nat.ne_of_lt hb) (old b o e)))
end
section
variable {w:World} {A:Around} {R:Result->Shared->Prop} {I l:Addr} {e9:List Value} {B:FM}
theorem dt1 (hh:A.handled=none) (hl:l≠I) (bt:Nat->Nat->Bool) (hcmp:cv8 prog w A.in1 B .Gt e9 bt) (S:Addr) (hSl:S≠l) (hSI:S≠I) (hBI:B I=none) (hBS:B S=none) :
  ∀ (k j:Nat) (s:Shared) (vb:Value) (c:Nat),e9.length - (j+1)=k->j+1<=e9.length->s.heap.IsListIter I l (j+1)->s.heap.IsList l e9.toArray->j4 B s.heap->e9[argBest bt j]?=some vb->
  s.heap.get? S=some { cls:=.type "list",dict:=none,data:=.seq #[vb,vb] c,slots:=#[] }->
  (∀ v h' tk,e9[argBest bt (e9.length - 1)]?=some v->(∀ b o,b≠I->b≠S->s.heap.get? b=some o->h'.get? b=some o)->R (.ok (.ret v)) { s with heap:=h',toks:=tk })->
  codeAny (model prog w) A (.builtin "max.loop" ⟨[.ref I,.none,.ref S],[]⟩) R s:=by
 have W:=Walks.list (prog:=prog) (w:=w) (A:=A.in1) hh I l hl e9.toArray
 have hname:(toString "max" ++ toString ".loop":String)="max.loop":=by decide
 intro k
 induction k with
 | zero=>
  intro j s vb c hk hj hst hlst kp hPb hS hR
  have hin:j+1=e9.length:=by lia
  refine codeAny_builtin PySem.F.entry_max_loop ?_
  rw [Around.under_plainId PySem.F.plain_max_loop _]
  show wpAny _ A.in1 (seqItems? (.ref S) >>= _) _ _ s
  refine wpAny_bind (wpAny_seqItems hS rfl ?_)
  show wpAny _ A.in1 (tryCatch (pyNext (.ref I)) _ >>= _) _ _ s
  refine wpAny_bind (wpAny_tryCatch (W.done s _ _ (by simp only [List.size_toArray];rw [<- hin];exact ⟨hst,hlst⟩) λ h' tk hk'=>?_))
  have hS':=hk' S _ (by simpa using hSI) hS
  show wpAny _ A.in1 (updateSeq S (λ ξ=>#[]) >>= _) _ _ _
  refine wpAny_bind ?_
  refine wpAny_updateSeq hS' rfl (wpAny_bind (wpAny_letGo (wpAny_pure ?_)))
  refine hR vb _ tk (by rw [<- hin];exact hPb) λ b o hbI hbS e=>(Heap.get?_update_other _ _ (Ne.symm hbS)).trans (hk' b o (by simpa using hbI) e)
 | succ k ih=>
  intro j s vb c hk hj hst hlst kp hPb hS hR
  have hlt:j+1 < e9.length:=by exact bt9 ‹_›
  refine codeAny_builtin PySem.F.entry_max_loop ?_
  rw [Around.under_plainId PySem.F.plain_max_loop _]
  show wpAny _ A.in1 (seqItems? (.ref S) >>= _) _ _ s
  refine wpAny_bind (wpAny_seqItems hS rfl ?_)
  show wpAny _ A.in1 (tryCatch (pyNext (.ref I)) _ >>= _) _ _ s
  refine wpAny_bind (wpAny_tryCatch (W.item (j+1) s _ _ (by simpa using hlt) ⟨hst,hlst⟩ λ v h' tk hP hst' hk'=>?_))
  have hk2:∀ b o,b≠I->s.heap.get? b=some o->h'.get? b=some o:=λ b o hb e=>hk' b o (by simpa using hb) e
  have hP':e9[j+1]?=some v:=by simpa using hP
  have hS':=hk2 S _ hSI hS
  have kp':j4 B h':=λ b o e=>hk2 b o (λ q=>by subst q;rw [hBI] at e;cases e) (kp b o e)
  show wpAny _ A.in1 (tryCatch (holding [v,v] (richCompare .Gt v vb >>= _)) _ >>= _) _ _ _
  refine wpAny_bind (wpAny_tryCatch (wpAny_holding (wpAny_bind (hcmp (j+1) (argBest bt j) v vb _ _ _ hP' hPb kp' ?_))))
  refine wpAny_bind (wpAny_holding (wpAny_truthy_bool ?_))
  refine wpAny_bind (wpAny_letGo (wpAny_pure ?_))
  cases hb:bt (j+1) (argBest bt j) with
  | true=>
   refine ah3 rfl ?_
   refine wpAny_bind ?_
   refine wpAny_updateSeq hS' rfl (wpAny_bind (wpAny_letGo ?_))
   rw [hname]
   have o2:∀ b o,b≠S->h'.get? b=some o->(h'.update S (Obj.mapSeq λ ξ=>#[v,v])).get? b=some o:=λ b o hb e=>(Heap.get?_update_other _ _ (Ne.symm hb)).trans e
   refine wpAny_pure ⟨plainId_quiet PySem.F.plain_max_loop _,ih (j+1) _ v _ (by exact ay7 ‹_›) hlt (hst'.1.at λ o e=>o2 _ _ (Ne.symm hSI) e) (hst'.2.at λ o e=>o2 _ _ (Ne.symm hSl) e)
    (λ b o e=>o2 b o (λ q=>by subst q;rw [hBS] at e;cases e) (kp' b o e)) (by simp only [argBest,hb,if_true];exact hP') (Heap.get?_update_self _ hS' rfl) λ v' h'' tk'' hP'' hk''=>?_⟩
   exact hR v' h'' tk'' hP'' λ b o hbI hbS e=>hk'' b o hbI hbS (o2 b o hbS (hk2 b o hbI e))
  | false=>
   refine ac8 Bool.false_ne_true ?_
   refine wpAny_bind (wpAny_letGo ?_)
   rw [hname]
   refine wpAny_pure ⟨plainId_quiet PySem.F.plain_max_loop _,ih (j+1) _ vb c (by exact ay7 ‹_›) hlt hst'.1 hst'.2 kp' (by simp only [argBest,hb,Bool.false_eq_true,if_false];exact hPb) hS' λ v' h'' tk'' hP'' hk''=>?_⟩
   exact hR v' h'' tk'' hP'' λ b o hbI hbS e=>hk'' b o hbI hbS (hk2 b o hbI e)
theorem dx9 {E:Value->Shared->Prop} {s:Shared} {Q:Value->Shared->Prop} {bt:Nat->Nat->Bool} (hh:A.handled=none) (kp:j4 B s.heap) (hl:s.heap.IsList l e9.toArray) (hne:0 < e9.length)
  (hcmp:cv8 prog w A.in1 B .Gt e9 bt) (h:∀ v h' tk,e9[argBest bt (e9.length - 1)]?=some v->(∀ b o,s.heap.get? b=some o->h'.get? b=some o)->Q v { s with heap:=h',toks:=tk }) :
  wpAny (model prog w) A (call (.builtin "max") [.ref l]) Q E s:=by
 have hname:(toString "max" ++ toString ".loop":String)="max.loop":=by decide
 have hlt:l < s.heap.objs.size:=by obtain ⟨_,e,_⟩:=hl;exact Heap.lt_size e
 refine call_function_tree PySem.F.kind_max PySem.F.plain_max PySem.F.entry_max (PySem.F.args_max1 _) ?_
 show wpAny _ A.in1 (Builtin.Builtins.bindParams "max" ["key","default"] 0 ⟨[],[]⟩ >>= _) _ _ s
 refine wpAny_bind (wpAny_of_eq (show Builtin.Builtins.bindParams "max" ["key","default"] 0 ⟨[],[]⟩=pure [none,none] from rfl) ?_)
 refine wpAny_bind (wpAny_pure ?_)
 refine wpAny_bind (wpAny_pyIter_list hl ?_)
 refine wpAny_bind (wpAny_newObj_type ?_)
 rw [hname]
 have s1:(s.heap.push { cls:=.type "list_iterator",data:=.fields #[.ref l,.int 0 0] }).objs.size=s.heap.objs.size+1:=Heap.size_push ..
 have old:∀ b o,s.heap.get? b=some o->((s.heap.push { cls:=.type "list_iterator",data:=.fields #[.ref l,.int 0 0] }).push { cls:=.type "list",data:=.seq #[] }).get? b=some o:=λ b o e=>Heap.get?_push_of_some _ (Heap.get?_push_of_some _ e)
 have ho1:((s.heap.push { cls:=.type "list_iterator",data:=.fields #[.ref l,.int 0 0] }).push { cls:=.type "list",data:=.seq #[] }).IsListIter s.heap.objs.size l 0:=⟨_,Heap.get?_push_of_some _ (Heap.get?_push_size _ rfl),rfl,rfl⟩
 have hS:((s.heap.push { cls:=.type "list_iterator",data:=.fields #[.ref l,.int 0 0] }).push { cls:=.type "list",data:=.seq #[] }).get? (s.heap.push { cls:=.type "list_iterator",data:=.fields #[.ref l,.int 0 0] }).objs.size=some { cls:=.type "list",dict:=none,data:=.seq #[] 0,slots:=#[] }:=Heap.get?_push_size _ rfl
 revert ho1 hS old
 generalize ((s.heap.push { cls:=.type "list_iterator",data:=.fields #[.ref l,.int 0 0] }).push { cls:=.type "list",data:=.seq #[] })=H
 rw [s1]
 intro old ho1 hS
 have hI:l≠s.heap.objs.size:=Nat.ne_of_lt hlt
 have hSI:s.heap.objs.size+1≠s.heap.objs.size:=Nat.succ_ne_self _
 have hSl:s.heap.objs.size+1≠l:=Nat.ne_of_gt (Nat.lt_succ_of_lt hlt)
 have kpH:j4 B H:=λ b o e=>old b o (kp b o e)
 have hBI:B s.heap.objs.size=none:=t7 kp (g8 (Nat.le_refl _))
 have hBS:B (s.heap.objs.size+1)=none:=t7 kp (g8 (Nat.le_succ _))
 refine wpAny_pure ⟨plainId_quiet PySem.F.plain_max_loop _,?_⟩
 refine codeAny_builtin PySem.F.entry_max_loop ?_
 rw [Around.under_plainId PySem.F.plain_max_loop _]
 show wpAny _ A.in1 (seqItems? (.ref (s.heap.objs.size+1)) >>= _) _ _ _
 refine wpAny_bind (wpAny_seqItems hS rfl ?_)
 show wpAny _ A.in1 (tryCatch (pyNext (.ref s.heap.objs.size)) _ >>= _) _ _ _
 refine wpAny_bind (wpAny_tryCatch ((Walks.list (prog:=prog) (w:=w) (A:=A.in1) hh s.heap.objs.size l hI e9.toArray).item 0 _ _ _ (by simpa using hne) ⟨ho1,hl.at λ o e=>old _ _ e⟩ λ v h' tk hP hst' hk'=>?_))
 have hk2:∀ b o,b≠s.heap.objs.size->H.get? b=some o->h'.get? b=some o:=λ b o hb e=>hk' b o (by simpa using hb) e
 have hP':e9[0]?=some v:=by simpa using hP
 have hS':=hk2 _ _ hSI hS
 have kp':j4 B h':=λ b o e=>hk2 b o (λ q=>by subst q;rw [hBI] at e;cases e) (kpH b o e)
 show wpAny _ A.in1 (updateSeq (s.heap.objs.size+1) (λ ξ=>#[v,v]) >>= _) _ _ _
 refine wpAny_bind ?_
 refine wpAny_updateSeq hS' rfl ?_
 rw [hname]
 have o2:∀ b o,b≠s.heap.objs.size+1->h'.get? b=some o->(h'.update (s.heap.objs.size+1) (Obj.mapSeq λ ξ=>#[v,v])).get? b=some o:=λ b o hb e=>(Heap.get?_update_other _ _ (Ne.symm hb)).trans e
 refine wpAny_pure ⟨plainId_quiet PySem.F.plain_max_loop _,dt1 hh hI bt hcmp _ hSl hSI hBI hBS _ 0 _ v _ rfl hne (hst'.1.at λ o e=>o2 _ _ (Ne.symm hSI) e) (hst'.2.at λ o e=>o2 _ _ (Ne.symm hSl) e)
  (λ b o e=>o2 b o (λ q=>by subst q;rw [hBS] at e;cases e) (kp' b o e)) hP' (Heap.get?_update_self _ hS' rfl) λ v' h'' tk'' hP'' hk''=>?_⟩
 refine h v' h'' tk'' hP'' λ b o e=>?_
 have hb:=Heap.lt_size e
 exact hk'' b o (Nat.ne_of_lt hb) (Nat.ne_of_lt (Nat.lt_succ_of_lt hb)) (o2 b o (Nat.ne_of_lt (Nat.lt_succ_of_lt hb)) (hk2 b o (Nat.ne_of_lt hb) (old b o e)))
end
end
section
open PySem.Calls PySem.SeqAt
noncomputable def da2 (lt:D->D->Bool) (ds:List D) (i j:Nat):Bool:=(ds[i]?.bind λ x=>ds[j]?.map λ y=>lt x y).getD false
theorem dd7 {lt:D->D->Bool} {ds:List D} {i j:Nat} {x y:D} (h1:ds[i]?=some x) (h2:ds[j]?=some y):da2 lt ds i j=lt x y:=by unfold da2;rw [h1,h2];rfl
theorem av2 (lt:D->D->Bool) (d:D) (r:List D):∀ k,k<=r.length->(d :: r)[argBest (da2 lt (d :: r)) k]?=some ((r.take k).foldl (λ m x=>if lt x m then x else m) d)
 | 0,_=>by simp [argBest]
 | k+1,h=>by
  have ih:=av2 lt d r k (by exact Nat.le_of_lt ‹_›)
  have hx:(d :: r)[k+1]?=some r[k]:=by rw [List.getElem?_cons_succ,List.getElem?_eq_getElem (by assumption)]
  have e:=dd7 (lt:=lt) hx ih
  rw [show r.take (k+1)=r.take k ++ [r[k]] from by rw [List.take_succ_eq_append_getElem (by assumption)],List.foldl_append]
  show (d :: r)[argBest (da2 lt (d :: r)) (k+1)]?=_
  unfold argBest
  rw [e]
  simp only [List.foldl_cons,List.foldl_nil]
  split
  ·exact hx
  ·exact ih
section
variable {w:World} {A:Around} {E:Value->Shared->Prop} {s:Shared} {B:FM}
theorem cf0 (up:Bool) {ds:List D} {vs:List Value} (hu:A.units+70 < cLine) (hi:ds.all av8=true) (r:RdL prog w B ds vs):cv8 prog w A B (eh9 up) vs (da2 (match up with | true=>ltD | false=>λ a b=>ltD b a) ds):=by
 intro i j vi vj s Q E ei ej kp hQ
 have g:∀ {i:Nat} {v:Value},vs[i]?=some v->∃ X:List Str,ds[i]?=some (.list (X.map .str))/\Rd prog w B (.list (X.map .str)) v:=by
  intro i v e
  have hlt:i < ds.length:=by rw [<- r.length];exact (List.getElem?_eq_some_iff.mp e).1
  obtain ⟨v',e',r'⟩:=r.get (List.getElem?_eq_getElem hlt)
  rw [e] at e';cases e'
  obtain ⟨X,hn⟩:=dm7 (am1 hi _ (List.getElem_mem hlt))
  exact ⟨X,by rw [List.getElem?_eq_getElem hlt,hn],hn▸r'⟩
 obtain ⟨X,e1,r1⟩:=g ei
 obtain ⟨Y,e2,r2⟩:=g ej
 rw [dd7 e1 e2] at hQ
 refine cu8 up kp hu r1 r2 prog w Q E ?_
 cases up <;> exact hQ
theorem aq0 {t:Sem Value} {Q:Value->Shared->Prop} (h:wpAny (model prog w) A t (λ v s'=>s.toks<=s'.toks->Q v s') E s):wpAny (model prog w) A t Q E s:=
 wpAny_with_toks (Nat.le_refl s.toks) (wpAny_mono h (λ ξ ξ q=>q) λ ξ ξ e ξ=>e)
theorem an2 {ds:List D} {vs:List Value} {i:Nat} {v:Value} {d:D} (r:RdL prog w B ds vs) (e:vs[i]?=some v) (e2:ds[i]?=some d):Rd prog w B d v:=by
 obtain ⟨v',e',r'⟩:=r.get e2
 rw [e] at e';cases e'
 exact r'
theorem en6 {l:List D} {v:Value} {d:D} (rm:A.handled=none) (hu:A.units+71 < cLine) (kp:j4 B s.heap) (t:f8 prog w s.heap B (.list l) v) (h:eh1 l=some d):wpAny (model prog w) A (call (.builtin "min") [v]) (EvP prog w B s d) E s:=by
 obtain ⟨a,o,vs,rfl,ho,x,r⟩:=t
 cases l with
 | nil=>cases h
 | cons d0 rest=>
  simp only [eh1] at h
  by_cases hc:(d0 :: rest).all av8=true
  ·rw [if_pos hc] at h
   cases h
   have qf:=r.length
   have cb:cv8 prog w A.in1 B .Lt vs (da2 ltD (d0 :: rest)):=cf0 true (by show A.units+1+70 < cLine;assumption) hc r
   refine aq0 (dv7 rm kp (x.isList ho) (by rw [qf];simp) cb λ v h' tk hv hk=>?_)
   intro htk
   refine EvP.grown kp hk htk (an2 r hv ?_)
   rw [qf]
   have:=av2 ltD d0 rest rest.length (Nat.le_refl _)
   simpa using this
  ·rw [if_neg hc] at h;cases h
theorem es6 {l:List D} {v:Value} {d:D} (rm:A.handled=none) (hu:A.units+71 < cLine) (kp:j4 B s.heap) (t:f8 prog w s.heap B (.list l) v) (h:ei2 l=some d):wpAny (model prog w) A (call (.builtin "max") [v]) (EvP prog w B s d) E s:=by
 obtain ⟨a,o,vs,rfl,ho,x,r⟩:=t
 cases l with
 | nil=>cases h
 | cons d0 rest=>
  simp only [ei2] at h
  by_cases hc:(d0 :: rest).all av8=true
  ·rw [if_pos hc] at h
   cases h
   have qf:=r.length
   have cb:cv8 prog w A.in1 B .Gt vs (da2 (λ a b=>ltD b a) (d0 :: rest)):=cf0 false (by show A.units+1+70 < cLine;assumption) hc r
   refine aq0 (dx9 rm kp (x.isList ho) (by rw [qf];simp) cb λ v h' tk hv hk=>?_)
   intro htk
   refine EvP.grown kp hk htk (an2 r hv ?_)
   rw [qf]
   have:=av2 (λ a b=>ltD b a) d0 rest rest.length (Nat.le_refl _)
   simpa using this
  ·rw [if_neg hc] at h;cases h
theorem ew8 {is:List Int} {vs:List Value} (q:IntsAre vs is):RdL prog w B (is.map .int) vs:=by
 induction q with
 | nil=>exact RdL.nil
 | cons n t h ih=>exact RdL.cons (ax1.mpr ⟨t,trivial,rfl⟩) ih
theorem df9 {is:List Str} {vs:List Value} (q:StrsAre vs is):RdL prog w B (is.map .str) vs:=by
 induction q with
 | nil=>exact RdL.nil
 | cons n t h ih=>exact RdL.cons (bj7.mpr ⟨t,trivial,rfl⟩) ih
theorem dd9:∀ {is:List Str} {vs:List Value},RdL prog w B (is.map .str) vs->StrsAre vs is
 | [],vs,h=>by simp only [List.map_nil] at h;obtain rfl:=h;exact .nil
 | i :: is,vs,h=>by
  simp only [List.map_cons] at h;rw [RdL] at h
  obtain ⟨v,r,rfl,h1,h2⟩:=h
  obtain ⟨t,_,rfl⟩:=h1
  exact .cons i t (dd9 h2)
theorem bn3 {a b:Str} (h1:¬ b.cps.toList < a.cps.toList) (h2:¬ a.cps.toList < b.cps.toList):a=b:=by
 have:a.cps.toList=b.cps.toList:=List.le_antisymm (List.not_lt.mp h1) (List.not_lt.mp h2)
 cases a;cases b;congr 1;exact Array.toList_inj.mp this
theorem eu9 {a b c:List Nat} (h1:a < b) (h2:b<=c):a < c:=by
 refine Classical.byContradiction λ h=>?_
 exact absurd (List.lt_of_le_of_lt (List.le_trans h2 (List.not_lt.mp h)) h1) (List.lt_irrefl _)
theorem bv2:∀ {l:List Str} {p:Str},risingS p l=true->(∀ q∈l,¬ q.cps.toList < p.cps.toList)/\l.Pairwise (λ a b=>¬ b.cps.toList < a.cps.toList)
 | [],_,_=>⟨by simp,.nil⟩
 | x :: l,p,h=>by
  obtain ⟨h1,h2⟩:=Bool.and_eq_true_iff.mp (show (!Spec.ltCps x.cps.toList p.cps.toList && risingS x l)=true from h)
  obtain ⟨i1,i2⟩:=bv2 h2
  have hx:¬ x.cps.toList < p.cps.toList:=by
   rw [PyProof.Rows.ltCps_eq] at h1;simpa using h1
  refine ⟨λ q hq=>?_,List.pairwise_cons.mpr ⟨i1,i2⟩⟩
  rcases List.mem_cons.mp hq with rfl | hq
  ·exact hx
  ·intro hlt
   exact i1 q hq (eu9 hlt (List.not_lt.mp hx))
theorem ce8 {is js:List Str} (p:js.Perm is) (h:sortedS js=true):(is.map PyData.str).mergeSort leB=js.map .str:=by
 have e:(is.map PyData.str).mergeSort leB=(is.mergeSort (λ a b=>!decide (b.cps.toList < a.cps.toList))).map .str:=by
  rw [List.map_mergeSort]
  intro a _ b _
  rfl
 rw [e]
 congr 1
 have hp:js.Pairwise (λ a b=>¬ b.cps.toList < a.cps.toList):=by
  cases js with
  | nil=>exact .nil
  | cons x l=>
   obtain ⟨i1,i2⟩:=bv2 (p:=x) (l:=l) h
   exact List.pairwise_cons.mpr ⟨i1,i2⟩
 refine List.Perm.eq_of_pairwise (le:=λ a b=>¬ b.cps.toList < a.cps.toList) (λ a b ξ ξ h1 h2=>bn3 h1 h2) ?_ hp ((List.mergeSort_perm _ _).trans p.symm)
 have:=List.pairwise_mergeSort (le:=λ (a b:Str)=>!decide (b.cps.toList < a.cps.toList)) (λ a b c h1 h2=>by
  simp only [Bool.not_eq_true',decide_eq_false_iff_not] at *
  exact λ hc=>h1 (List.lt_of_le_of_lt (List.not_lt.mp h2) hc)) (λ a b=>by
  simp only [Bool.or_eq_true,Bool.not_eq_true',decide_eq_false_iff_not]
  by_cases q:b.cps.toList < a.cps.toList
  ·exact .inr λ q2=>List.lt_irrefl _ (List.lt_trans q q2)
  ·exact .inl q) is
 exact this.imp λ h=>by simpa using h
end
end
section
open PySem.Calls PySem.SeqAt
noncomputable def bk5 {α:Type} (lt:Nat->Nat->Bool):KasT α->α
 | .ret a=>a
 | .ask i j k=>bk5 lt (k (lt i j))
noncomputable def ch9 {α:Type} (n:Nat):KasT α->Bool
 | .ret _=>true
 | .ask i j k=>decide (i < n) && decide (j < n) && ch9 n (k true) && ch9 n (k false)
theorem ct0 {α:Type} {n i j:Nat} {k:Bool->KasT α} (h:ch9 n (.ask i j k)=true):i < n/\j < n/\∀ b,ch9 n (k b)=true:=by
 obtain ⟨h,h4⟩:=b9 h
 obtain ⟨h,h3⟩:=b9 h
 obtain ⟨h1,h2⟩:=b9 h
 exact ⟨of_decide_eq_true h1,of_decide_eq_true h2,λ b=>by cases b;exact h4;exact h3⟩
theorem kwp {α:Type} {cmp:Nat->Nat->(Bool->Shared->Prop)->Shared->Prop} {lt:Nat->Nat->Bool} {n:Nat} {s:Shared} (h:∀ i j C,i < n->j < n->C (lt i j) s->cmp i j C s):∀ (t:KasT α) {G:α->Shared->Prop},ch9 n t=true->G (bk5 lt t) s->t.kasWp cmp G s
 | .ret a,G,_,hg=>hg
 | .ask i j k,G,hr,hg=>by
  obtain ⟨h1,h2,h3⟩:=ct0 hr
  exact h i j _ h1 h2 (kwp h (k (lt i j)) (h3 _) hg)
noncomputable def ec8 (f:List Nat->Bool) (n:Nat):Nat->List Nat->Bool
 | 0,acc=>f acc
 | k+1,acc=>(List.range n).all λ a=>acc.contains a || ec8 f n k (a :: acc)
theorem dg1 {f:List Nat->Bool} {n:Nat}:∀ (L acc:List Nat),ec8 f n L.length acc=true->(∀ x∈L,x < n)->(L.reverse ++ acc).Nodup->f (L.reverse ++ acc)=true
 | [],acc,h,_,_=>h
 | a :: L,acc,h,hx,hn=>by
  have e:(a :: L).reverse ++ acc=L.reverse ++ (a :: acc):=by rw [List.reverse_cons,List.append_assoc];rfl
  rw [e] at hn⊢
  have h1:=List.all_eq_true.mp h a (List.mem_range.mpr (hx a (.head _)))
  have h2:acc.contains a=false:=by
   have:=(List.nodup_append.mp hn).2.1
   have h3:=(List.nodup_cons.mp this).1
   cases q:acc.contains a
   ·rfl
   ·exact absurd (List.contains_iff_mem.mp q) h3
  rw [h2,Bool.false_or] at h1
  exact dg1 L (a :: acc) h1 (λ x hx'=>hx x (.tail _ hx')) hn
noncomputable def cg4:List Nat->Bool
 | []=>true
 | a :: t=>t.all (Nat.ble a) && cg4 t
theorem by1:∀ {l:List Nat},cg4 l=true->l.Pairwise (·<=·)
 | [],_=>.nil
 | a :: t,h=>.cons (λ b hb=>Nat.le_of_ble_eq_true (List.all_eq_true.mp (b9 h).1 b hb)) (by1 (b9 h).2)
noncomputable def ef4 (n:Nat) (L:List Nat):Bool:=
 (bk5 (λ i j=>Nat.blt (L.getD i 0) (L.getD j 0)) (kas_sort n)).toList.isPerm (List.range n) && cg4 ((bk5 (λ i j=>Nat.blt (L.getD i 0) (L.getD j 0)) (kas_sort n)).toList.map λ i=>L.getD i 0)
theorem eh3:((List.range 5).all λ m=>ec8 (ef4 (m+2)) (m+2) (m+2) [])=true:=by decide +kernel
theorem inN:((List.range 5).all λ m=>ch9 (m+2) (kas_sort (m+2)))=true:=by decide +kernel
theorem bv1 {α:Type} {lt lt':Nat->Nat->Bool} {n:Nat} (h:∀ i j,i < n->j < n->lt i j=lt' i j):∀ (t:KasT α),ch9 n t=true->bk5 lt t=bk5 lt' t
 | .ret a,_=>rfl
 | .ask i j k,hr=>by
  obtain ⟨h1,h2,h3⟩:=ct0 hr
  show bk5 lt (k (lt i j))=bk5 lt' (k (lt' i j))
  rw [<- h i j h1 h2]
  exact bv1 h _ (h3 _)
theorem bd8 {α:Type} {p q:α->Bool} {k:α} (hq:q k=true) (hp:p k=false):∀ {l:List α},(∀ x∈l,p x=true->q x=true)->k∈l->l.countP p < l.countP q
 | x :: l,h,hk=>by
  rw [List.countP_cons,List.countP_cons]
  have h':∀ y∈l,p y=true->q y=true:=λ y hy=>h y (.tail _ hy)
  rcases List.mem_cons.mp hk with rfl | hk
  ·rw [hq,hp]
   exact Nat.lt_succ_of_le (List.countP_mono_left h')
  ·have ih:=bd8 hq hp h' hk
   cases e:p x
   ·exact Nat.lt_of_lt_of_le ih (Nat.le_add_right _ _)
   ·rw [h x (.head _) e]
    exact Nat.add_lt_add_right ih 1
theorem ev4 {n:Nat} (h1:2<=n) (h6:n<=6) {lt:Nat->Nat->Bool} (irr:∀ i,i < n->lt i i=false) (tr:∀ i j k,i < n->j < n->k < n->lt i j=true->lt j k=true->lt i k=true) (tot:∀ i j,i < n->j < n->i≠j->lt i j=false->lt j i=true) :
  ch9 n (kas_sort n)=true/\(bk5 lt (kas_sort n)).toList.Perm (List.range n)/\(bk5 lt (kas_sort n)).toList.Pairwise λ i j=>lt j i=false:=by
 obtain ⟨m,rfl⟩:∃ m,n=m+2:=⟨n - 2,by lia⟩
 have hm:m∈List.range 5:=List.mem_range.mpr (by lia)
 have hin:ch9 (m+2) (kas_sort (m+2))=true:=List.all_eq_true.mp inN m hm
 have hall:ec8 (ef4 (m+2)) (m+2) (m+2) []=true:=List.all_eq_true.mp eh3 m hm
 generalize m+2=n at *
 obtain ⟨rk,hrk⟩:∃ rk:Nat->Nat,∀ i,rk i=(List.range n).countP λ j=>lt j i:=⟨_,λ _=>rfl⟩
 have up:∀ i j,i < n->j < n->lt i j=true->rk i < rk j:=λ i j hi hj e=>by
  rw [hrk,hrk]
  exact bd8 (p:=λ x=>lt x i) (q:=λ x=>lt x j) (k:=i) e (irr i hi) (λ x hx h=>tr x i j (List.mem_range.mp hx) hi hj h e) (List.mem_range.mpr hi)
 have hlt:∀ i j,i < n->j < n->lt i j=Nat.blt (rk i) (rk j):=λ i j hi hj=>by
  cases e:lt i j with
  | true=>exact (Nat.ble_eq.mpr (up i j hi hj e)).symm
  | false=>
   have:rk j<=rk i:=by
    by_cases q:i=j
    ·rw [q];exact Nat.le_refl _
    ·exact Nat.le_of_lt (up j i hj hi (tot i j hi hj q e))
   cases e3:Nat.blt (rk i) (rk j)
   ·rfl
   ·exact absurd (Nat.le_of_ble_eq_true e3) (Nat.not_lt.mpr this)
 have ltn:∀ i,i < n->rk i < n:=λ i hi=>by
  have:=bd8 (p:=λ j=>lt j i) (q:=λ ξ=>true) (k:=i) rfl (irr i hi) (l:=List.range n) (λ ξ ξ ξ=>rfl) (List.mem_range.mpr hi)
  rw [hrk]
  simpa using this
 have inj:∀ i j,i < n->j < n->rk i=rk j->i=j:=λ i j hi hj e=>by
  refine Classical.byContradiction λ q=>?_
  cases e2:lt i j with
  | true=>exact absurd (up i j hi hj e2) (by rw [e];exact Nat.lt_irrefl _)
  | false=>exact absurd (up j i hj hi (tot i j hi hj q e2)) (by rw [e];exact Nat.lt_irrefl _)
 have hnd:((List.range n).map rk).Nodup:=by
  refine List.Pairwise.map _ (R:=λ i j=>i∈List.range n/\j∈List.range n/\i≠j) (λ a b h e=>h.2.2 (inj a b (List.mem_range.mp h.1) (List.mem_range.mp h.2.1) e)) ?_
  exact List.Pairwise.imp_of_mem (λ {a b} ha hb h=>⟨ha,hb,h⟩) List.nodup_range
 have hc:=dg1 (f:=ef4 n) (n:=n) ((List.range n).map rk).reverse [] (by rw [List.length_reverse,List.length_map,List.length_range];exact hall) (λ x hx=>by
  obtain ⟨i,hi,rfl⟩:=List.mem_map.mp (List.mem_reverse.mp hx)
  exact ltn i (List.mem_range.mp hi)) (by rw [List.reverse_reverse,List.append_nil];exact hnd)
 rw [List.reverse_reverse,List.append_nil] at hc
 have get:∀ i,i < n->((List.range n).map rk).getD i 0=rk i:=λ i hi=>by
  rw [List.getD_eq_getElem?_getD,List.getElem?_map,List.getElem?_range hi];rfl
 unfold ef4 at hc
 have hrun:bk5 lt (kas_sort n)=bk5 (λ i j=>Nat.blt (((List.range n).map rk).getD i 0) (((List.range n).map rk).getD j 0)) (kas_sort n):=bv1 (λ i j hi hj=>by rw [hlt i j hi hj,get i hi,get j hj]) _ hin
 rw [<- hrun] at hc
 have pm:=List.isPerm_iff.mp (b9 hc).1
 refine ⟨hin,pm,?_⟩
 have hs:=List.pairwise_map.mp (by1 (b9 hc).2)
 refine List.Pairwise.imp_of_mem (λ {a b} ha hb h=>?_) hs
 have ha:=List.mem_range.mp (pm.mem_iff.mp ha)
 have hb:=List.mem_range.mp (pm.mem_iff.mp hb)
 rw [get a ha,get b hb] at h
 rw [hlt b a hb ha]
 cases e3:Nat.blt (rk b) (rk a)
 ·rfl
 ·exact absurd (Nat.le_of_ble_eq_true e3) (Nat.not_lt.mpr h)
end
section
open PySem.Calls PySem.SeqAt
noncomputable def ex8 (d:D):List Nat:=((u6 d).getD "").cps.toList
noncomputable def ao0 (d:D):List (List Nat):=((w8 d).getD []).map ex8
theorem be4 (a b:Str):ao0 (.list [.str a,.str b])=[a,b].map (·.cps.toList):=rfl
theorem ce4 {o:Option Bool} (h:o.getD false=true):o=some true:=by
 cases o with
 | none=>cases h
 | some b=>cases (h:b=true);rfl
theorem ak4 {d:D} (h:al7 d=true):∃ a b:Str,d = .list [.str a,.str b]:=by
 obtain ⟨l,h1,q⟩:=a6 (ce4 h)
 obtain ⟨p,h2,q⟩:=a6 q
 obtain ⟨a,h3,q⟩:=a6 q
 obtain ⟨b,h4,_⟩:=Option.map_eq_some_iff.mp q
 exact ⟨a,b,by rw [r8 h1,bp2 h2,l9 h3,l9 h4]⟩
theorem df5 {d:D} (h:al7 d=true):PyData.eqv d d=true:=by
 obtain ⟨a,b,rfl⟩:=ak4 h
 show (a == a && (b == b && true))=true
 rw [beq_self_eq_true,beq_self_eq_true];rfl
theorem ci1 {x y:Str}:x.cps.toList=y.cps.toList↔x=y:=by
 constructor
 ·intro h;cases x;cases y;congr 1;exact Array.toList_inj.mp h
 ·rintro rfl;rfl
theorem bk8:∀ (xs ys:List Str),by8 (xs.map PyData.str) (ys.map PyData.str)=decide (xs.map (·.cps.toList) < ys.map (·.cps.toList))
 | [],[]=>by simp [by8]
 | [],y :: ys=>by simp [by8]
 | x :: xs,[]=>by simp [by8]
 | x :: xs,y :: ys=>by
  have ih:=bk8 xs ys
  show (bif x == y then by8 (xs.map PyData.str) (ys.map PyData.str) else decide (x.cps.toList < y.cps.toList))=_
  by_cases e:x=y
  ·subst e
   rw [beq_self_eq_true,cond_true,ih]
   rw [Bool.eq_iff_iff]
   simp [List.cons_lt_cons_iff,List.lt_irrefl]
  ·have:(x == y)=false:=beq_eq_false_iff_ne.mpr e
   rw [this,cond_false]
   have ne:¬ x.cps.toList=y.cps.toList:=λ q=>e (ci1.mp q)
   rw [Bool.eq_iff_iff]
   simp [List.cons_lt_cons_iff,ne]
theorem df6 {d e:D} (h1:al7 d=true) (h2:al7 e=true):ltD d e=decide (ao0 d < ao0 e):=by
 obtain ⟨a,b,rfl⟩:=ak4 h1
 obtain ⟨c,f,rfl⟩:=ak4 h2
 rw [be4,be4]
 exact bk8 [a,b] [c,f]
theorem cn0 {d e:D} (h1:al7 d=true) (h2:al7 e=true) (h:ao0 d=ao0 e):d=e:=by
 obtain ⟨a,b,rfl⟩:=ak4 h1
 obtain ⟨c,f,rfl⟩:=ak4 h2
 rw [be4,be4] at h
 injection h with e1 e2
 injection e2 with e2 _
 rw [ci1.mp e1,ci1.mp e2]
theorem be3:∀ {l:List D} {i j:Nat},bi0 l=true->i < j->j < l.length->PyData.eqv (l.getD i .none) (l.getD j .none)=false
 | [],i,j,_,_,h=>absurd h (Nat.not_lt_zero j)
 | d :: r,i,j,h,hij,hj=>by
  cases j with
  | zero=>exact absurd hij (Nat.not_lt_zero i)
  | succ j=>
   have hj:j < r.length:=Nat.lt_of_succ_lt_succ hj
   cases i with
   | zero=>
    have:=List.all_eq_true.mp (b9 h).1 r[j] (List.getElem_mem hj)
    rw [List.getD_cons_zero,List.getD_cons_succ,List.getD_eq_getElem?_getD,List.getElem?_eq_getElem hj]
    exact (Bool.not_eq_true' _).mp this
   | succ i=>
    show PyData.eqv (r.getD i .none) (r.getD j .none)=false
    exact be3 (l:=r) (b9 h).2 (Nat.lt_of_succ_lt_succ hij) hj
section
variable {w:World} {A:Around} {E:Value->Shared->Prop} {s:Shared} {B:FM} {a b:Value}
theorem cn4 {X Y:List Str} {vs ws:List Value} {l m:Addr} {o o2:Obj} {Q:Value->Shared->Prop} (ho:s.heap.get? l=some o) (hs:ba1 "list" vs o) (ho2:s.heap.get? m=some o2) (hs2:ba1 "list" ws o2)
  (hr:RdL prog w B (X.map .str) vs) (hr2:RdL prog w B (Y.map .str) ws) (hQ:Q (.bool (LU true X Y)) s) :
  wpAny (model prog w) A (call (.builtin "list.__lt__") [.ref l,.ref m]) Q E s:=by
 obtain ⟨⟨cls,dd,data,sl⟩,ho,hcl,n,hd⟩:=hs.isList ho
 obtain ⟨⟨cls2,dd2,data2,sl2⟩,ho2,hc2,n2,hd2⟩:=hs2.isList ho2
 simp only at hcl hd hc2 hd2
 subst hcl hd hc2 hd2
 exact call_meets F.slot_list_lt ⟨_,ho,rfl⟩ F.entry_list_lt (F.args_list_lt_2 _ _) (bv4 true l m vs.toArray ws.toArray n n2 dd dd2 sl sl2 (be7 hr) (be7 hr2)) ⟨ho,ho2,hQ⟩
theorem eq2 {d e:D} {u v:Value} {Q:Bool->Shared->Prop} (kp:j4 B s.heap) (hu:A.units+71 < cLine) (h1:al7 d=true) (h2:al7 e=true) (r1:Rd prog w B d u) (r2:Rd prog w B e v) (hQ:Q (ltD d e) s) :
  wpAny (model prog w) A (keyLt' oneType' u v) Q E s:=by
 obtain ⟨a,b,rfl⟩:=ak4 h1
 obtain ⟨c,f,rfl⟩:=ak4 h2
 obtain ⟨l,o,vs,rfl,ho,hs,hr⟩:=r1
 obtain ⟨m,o2,ws,rfl,ho2,hs2,hr2⟩:=r2
 rw [keyLt'_oneType,oneLt'_eq]
 refine ah3 rfl ?_
 refine wpAny_bind (wpAny_cRoomFor (by lia) ?_)
 exact wpAny_bind (wpAny_callSpecialIfBound?_slot ⟨_,kp _ _ ho,hs.1⟩ F.slot_list_lt (cn4 (X:=[a,b]) (Y:=[c,f]) (kp _ _ ho) hs (kp _ _ ho2) hs2 hr hr2 (wpAny_truthy_bool hQ)))
theorem bo1 {l:List D} {vs:List Value} {i:Nat} (r:RdL prog w B l vs) (h:i < l.length):Rd prog w B (l.getD i .none) (vs.getD i Value.none):=by
 have e:=List.getElem?_eq_getElem h
 obtain ⟨v,e',hv⟩:=r.get e
 rw [List.getD_eq_getElem?_getD,List.getD_eq_getElem?_getD,e,e']
 exact hv
theorem df0 {l:List D} {vs:List Value} (r:RdL prog w B l vs):∀ (p:List Nat),(∀ i∈p,i < l.length)->RdL prog w B (p.map λ i=>l.getD i .none) (p.map λ i=>vs.getD i Value.none)
 | [],_=>RdL.nil
 | i :: p,h=>RdL.cons (bo1 r (h i (by simp))) (df0 r p λ j hj=>h j (by simp [hj]))
theorem bq6 {a:Addr} {vs:List Value} {l:List D} {n:Nat} {P:PySem.Fin->Shared->Prop} (kp:j4 B s.heap) (haB:B a=none) (ho:s.heap.get? a=some (seqObj "list" vs.toArray n)) (r:RdL prog w B l vs) (h1:1<=l.length) (h6:l.length<=6) (hnd:bi0 l=true) (hrow:l.all al7=true) (hz:SeqAt.shaped (.list l)=true) (hu:A.units+71 < cLine)
  (h:∀ (out:Array Value) (p:List Nat),p.Perm (List.range l.length)->p.Pairwise (λ i j=>ltD (l.getD j .none) (l.getD i .none)=false)->out.toList=p.map (λ i=>vs.getD i Value.none)->P (.done (.ret .none)) { s with heap:=sortedHeap s.heap a vs out }) :
  wpAny (model prog w) A (Builtin.«list.sort» ⟨[.ref a],[]⟩) P E s:=by
 have ha:a < s.heap.objs.size:=Heap.lt_size ho
 have qf:=r.length
 obtain ⟨e1,ho1⟩:∃ e1,(s.heap.update a (Obj.mapSeq λ ξ=>(#[]:Array Value))).get? a=some (seqObj "list" #[] e1):=⟨_,get?_update_seq ho λ ξ=>#[]⟩
 rw [list_sort_plain]
 refine wpAny_bind (listItems_at ho rfl ?_)
 refine wpAny_bind (listUpdate_at ho rfl ?_ (by rw [List.size_toArray,sizeLine_eq];lia) (Nat.zero_le _))
 refine wpAny_bind (seqEpoch_at ho1 rfl ?_)
 refine wpAny_bind (wpAny_newTuple ?_ (by show vs.length<=_;rw [sizeLine_eq];lia))
 refine wpAny_bind (wpAny_newList ?_ (Nat.zero_le _))
 refine wpAny_holding ?_
 have ho6:(((s.heap.update a (Obj.mapSeq λ ξ=>#[])).push (seqObj "tuple" vs.toArray 0)).push (seqObj "list" #[] 0)).get? a=some (seqObj "list" #[] e1):=by
  rw [Heap.get?_push_ne _ _ _ (by rw [size_push',Heap.size_update];exact Nat.ne_of_lt (Nat.lt_succ_of_lt ha)),Heap.get?_push_ne _ _ _ (by rw [Heap.size_update];exact Nat.ne_of_lt ha)]
  exact ho1
 have kp2:j4 B (((s.heap.update a (Obj.mapSeq λ ξ=>#[])).push (seqObj "tuple" vs.toArray 0)).push (seqObj "list" #[] 0)):=λ b o e=>by
  refine Heap.get?_push_of_some _ (Heap.get?_push_of_some _ ?_)
  rw [Heap.get?_update_other _ _ (λ q=>by rw [q] at haB;rw [haB] at e;cases e)]
  exact kp b o e
 show wpAny (model prog w) A _ P E { s with heap:=((s.heap.update a (Obj.mapSeq λ ξ=>(#[]:Array Value))).push (seqObj "tuple" vs.toArray 0)).push (seqObj "list" #[] 0) }
 generalize hh:(((s.heap.update a (Obj.mapSeq λ ξ=>(#[]:Array Value))).push (seqObj "tuple" vs.toArray 0)).push (seqObj "list" #[] 0))=hp6 at *
 dsimp only
 have rowAt:∀ i,i < l.length->al7 (l.getD i .none)=true:=λ i hi=>by
  rw [List.getD_eq_getElem?_getD,List.getElem?_eq_getElem hi]
  exact am1 hrow _ (List.getElem_mem _)
 have rl:∀ i j,i < l.length->j < l.length->ltD (l.getD i .none) (l.getD j .none)=decide (ao0 (l.getD i .none) < ao0 (l.getD j .none)):=λ i j hi hj=>df6 (rowAt i hi) (rowAt j hj)
 let R:Unit×SortSt->Shared->Prop:=λ x s'=>s'={ s with heap:=hp6 }/\failedOf x.2=none/\∃ p:List Nat,p.Perm (List.range l.length)/\p.Pairwise (λ i j=>ltD (l.getD j .none) (l.getD i .none)=false)/\((arrOf x.2).map (·.2)).toList=p.map (λ i=>vs.getD i Value.none)
 by_cases hn2:vs.toArray.size < 2
 case' pos=>
  rw [if_pos hn2,if_pos hn2]
  refine wpAny_bind (wpAny_pure (wpAny_bind (wpAny_mono (Q:=R) ?run1 ?tail1 λ ξ ξ e=>e)))
 case' neg=>
  rw [if_neg hn2,if_neg hn2]
  refine wpAny_bind (wpAny_mono (Q:=λ kind s'=>wpAny (model prog w) A (sortRuns'.run (SortSt.mk' kind (vs.toArray.zip vs.toArray) #[] 7 none)) R E s') ?run2 (λ kind s' hk=>wpAny_bind (wpAny_mono hk ?tail2 λ ξ ξ e=>e)) λ ξ ξ e=>e)
 case run1=>
  have hl1:l.length=1:=by rw [List.size_toArray] at hn2;lia
  obtain ⟨v,rfl⟩:∃ v,vs=[v]:=ap9 (qf.trans hl1) λ v t e=>cb6 e ⟨v,rfl⟩
  refine wpAny_pure ⟨rfl,rfl,[0],?_,List.pairwise_singleton _ _,?_⟩
  ·rw [hl1];exact .refl _
  ·show (((#[v]:Array Value).zip #[v]).map (·.2)).toList=[v]
   simp
 case run2=>
   have hn2':2<=vs.length:=by rw [List.size_toArray] at hn2;exact Nat.not_lt.mp hn2
   refine kas_kind (T:=.type "list") hn2' (λ v hv=>?_) rfl rfl ?_
   ·obtain ⟨i,hi,rfl⟩:=List.getElem_of_mem hv
    have hi5:i < l.length:=by rw [<- qf];exact hi
    have rr:=bo1 r hi5
    obtain ⟨b,c,e⟩:=ak4 (rowAt i hi5)
    rw [e] at rr
    obtain ⟨m,o,us,e3,hbo,hs,_⟩:=rr
    have e4:vs[i] = .ref m:=by rw [<- e3,List.getD_eq_getElem?_getD,List.getElem?_eq_getElem hi];rfl
    rw [e4]
    exact λ A Q E s2 k q=>wpAny_typeOf ⟨o,k _ _ (kp2 _ _ hbo),hs.1⟩ q
   have est:SortSt.mk' oneType' (vs.toArray.zip vs.toArray) #[] 7 none=kas_st oneType' (pairsOf vs) (List.toArray (List.range vs.length)):=by
    have e:=kas_range (pairsOf vs)
    rw [pairsOf_size] at e
    show SortSt.mk' oneType' (pairsOf vs) #[] 7 none=SortSt.mk' oneType' ((List.toArray (List.range vs.length)).map (kas_item (pairsOf vs))) #[] 7 none
    rw [e]
   obtain ⟨hin,hperm,hpw⟩:=ev4 (n:=l.length) (by rw [<- qf];exact hn2') h6 (lt:=λ i j=>ltD (l.getD i .none) (l.getD j .none)) (λ i hi=>by rw [rl i i hi hi];exact decide_eq_false (List.lt_irrefl _))
    (λ i j k hi hj hk h1 h2=>by rw [rl i j hi hj,decide_eq_true_eq] at h1;rw [rl j k hj hk,decide_eq_true_eq] at h2;rw [rl i k hi hk,decide_eq_true_eq];exact List.lt_trans h1 h2)
    (λ i j hi hj hne h1=>by
     rw [rl i j hi hj,decide_eq_false_iff_not] at h1
     rw [rl j i hj hi,decide_eq_true_eq]
     refine Classical.byContradiction λ h2=>?_
     have e:=cn0 (rowAt i hi) (rowAt j hj) (List.le_antisymm (List.not_lt.mp h2) (List.not_lt.mp h1))
     rcases Nat.lt_or_gt_of_ne hne with q | q
     ·have:=be3 hnd q hj
      rw [e,df5 (rowAt j hj)] at this
      exact nomatch this
     ·have:=be3 hnd q hi
      rw [e,df5 (rowAt j hj)] at this
      exact nomatch this)
   have ask:(kas_sort vs.length).kasWp (kas_ask prog w A oneType' vs) (λ p s'=>s'={ s with heap:=hp6 }/\p.toList=(bk5 (λ i j=>ltD (l.getD i .none) (l.getD j .none)) (kas_sort l.length)).toList) { s with heap:=hp6 }:=by
    rw [qf]
    refine kwp (lt:=λ i j=>ltD (l.getD i .none) (l.getD j .none)) (λ i j C hi hj hC=>?_) _ hin ⟨rfl,rfl⟩
    exact eq2 kp2 hu (rowAt i hi) (rowAt j hj) (bo1 r hi) (bo1 r hj) hC
   rw [kas_ask_eq] at ask
   have run:=kas_runs (E:=E) (Q:=λ ξ st' s'=>R (⟨⟩,st') s')
    hn2' (by lia) (λ p' st' s' a1 a2 a3 a4=>⟨a4.1,a3,_,hperm,hpw,by
     show ((arrOf st').map (·.2)).toList=_
     rw [a2,Array.map_map,Array.toList_map,a4.2]
     exact List.map_congr_left λ i ξ=>by show (kas_item (pairsOf vs) i).2=_;rw [kas_item_eq]⟩) ask
   rw [<- est] at run
   exact run
 all_goals
  rintro ⟨⟨⟩,st'⟩ s' ⟨rfl,hf,p,hperm,hpw,hout⟩
  dsimp only at hf hout⊢
  refine wpAny_bind (seqEpoch_at ho6 rfl ?_)
  have hsz:((arrOf st').map (·.2)).size=l.length:=by rw [<- Array.length_toList,hout,List.length_map,hperm.length_eq,List.length_range]
  refine wpAny_bind (listUpdate_at ho6 rfl ?_ (Nat.zero_le _) (by rw [hsz,sizeLine_eq];lia))
  rw [hf]
  simp only [bne_self_eq_false,Bool.false_eq_true,if_false]
  have fin:=h ((arrOf st').map (·.2)) p hperm hpw hout
  unfold sortedHeap at fin
  rw [hh] at fin
  exact wpAny_pure fin
theorem dh1 {d e:D} (h1:al7 d=true) (h2:al7 e=true):leB d e=!decide (ao0 e < ao0 d):=by unfold leB;rw [df6 h2 h1]
theorem dl2 {l l':List D} (hr:l.all al7=true) (p:l'.Perm l) (h:l'.Pairwise λ a b=>leB a b=true):l.mergeSort leB=l':=by
 have hr':∀ d∈l',al7 d=true:=λ d hd=>am1 hr d (p.mem_iff.mp hd)
 have e:l.mergeSort leB=l.mergeSort (λ a b=>!decide (ao0 b < ao0 a)):=by
  have:=List.map_mergeSort (r:=leB) (s:=λ a b=>!decide (ao0 b < ao0 a)) (f:=id) (l:=l) λ a ha b hb=>dh1 (am1 hr a ha) (am1 hr b hb)
  simpa using this
 rw [e]
 have hp:l'.Pairwise (λ a b=>¬ ao0 b < ao0 a):=by
  refine List.Pairwise.imp_of_mem (λ {a b} ha hb q=>?_) h
  rw [dh1 (hr' a ha) (hr' b hb)] at q
  simpa using q
 have ps:=List.mergeSort_perm l (λ a b=>!decide (ao0 b < ao0 a))
 refine List.Perm.eq_of_pairwise (le:=λ a b=>¬ ao0 b < ao0 a) (λ a b ha hb h1 h2=>cn0 (am1 hr a (ps.mem_iff.mp ha)) (hr' b hb) (List.le_antisymm (List.not_lt.mp h1) (List.not_lt.mp h2))) ?_ hp (ps.trans p.symm)
 have:=List.pairwise_mergeSort (le:=λ (a b:D)=>!decide (ao0 b < ao0 a)) (λ a b c h1 h2=>by
  simp only [Bool.not_eq_true',decide_eq_false_iff_not] at *
  exact λ hc=>h1 (List.lt_of_le_of_lt (List.not_lt.mp h2) hc)) (λ a b=>by
  simp only [Bool.or_eq_true,Bool.not_eq_true',decide_eq_false_iff_not]
  by_cases q:ao0 b < ao0 a
  ·exact .inr λ q2=>List.lt_irrefl _ (List.lt_trans q q2)
  ·exact .inl q) l
 exact this.imp λ h=>by simpa using h
theorem cl1 {l:List D} {v:Value} (rm:A.handled=none) (hu:A.units+74 < cLine) (kp:j4 B s.heap) (t:f8 prog w s.heap B (.list l) v) (h1:1<=l.length) (h6:l.length<=6) (hnd:bi0 l=true) (h:l.all al7=true) (hs:SeqAt.shaped (.list l)=true) :
  wpAny (model prog w) A (call (.builtin "sorted") [v]) (FrP prog w B s (.list (l.mergeSort leB))) E s:=by
 obtain ⟨la,o,vs,rfl,ho,x,r⟩:=t
 have hl:=x.isList ho
 have qf:=r.length
 refine Calls.call_function_entry kind_sorted plain_sorted entry_sorted (args_sorted1 _) ?_
 unfold Builtin.«sorted»
 refine wpAny_bind (m:=checkCount "sorted" 1 1 _) (wpAny_pure ?_)
 refine wpAny_bind (collect_list hl ?_ (by rw [sizeLine_eq];lia))
 refine wpAny_bind (wpAny_newList ?_ (by rw [sizeLine_eq];lia))
 have hsz:((s.heap.push (seqObj "list" #[] 0)).update s.heap.objs.size (Obj.mapSeq (· ++ vs.toArray))).objs.size=s.heap.objs.size+1:=by
  rw [Heap.size_update,size_push']
 have hoL:(((s.heap.push (seqObj "list" #[] 0)).update s.heap.objs.size (Obj.mapSeq (· ++ vs.toArray))).push (seqObj "list" vs.toArray 0)).get? (s.heap.objs.size+1)=some (seqObj "list" vs.toArray 0):=by
  rw [<- hsz];exact Heap.get?_push_size _ rfl
 have keep:∀ b o,s.heap.get? b=some o->(((s.heap.push (seqObj "list" #[] 0)).update s.heap.objs.size (Obj.mapSeq (· ++ vs.toArray))).push (seqObj "list" vs.toArray 0)).get? b=some o:=λ b o q=>by
  have hlt:b < s.heap.objs.size:=Heap.lt_size q
  rw [Heap.get?_push_ne _ _ _ (by rw [hsz];exact Nat.ne_of_lt (Nat.lt_succ_of_lt hlt)),Heap.get?_update_ne _ _ _ _ (Nat.ne_of_lt hlt),Heap.get?_push_ne _ _ _ (Nat.ne_of_lt hlt)]
  exact q
 show wpAny _ _ _ _ _ { s with heap:=((s.heap.push (seqObj "list" #[] 0)).update s.heap.objs.size (Obj.mapSeq (· ++ vs.toArray))).push (seqObj "list" vs.toArray 0) }
 rw [hsz]
 have hBn:B (s.heap.objs.size+1)=none:=by
  cases q:B (s.heap.objs.size+1) with
  | none=>rfl
  | some o=>exact absurd (Nat.lt_of_succ_lt (Heap.lt_size (kp _ _ q))) (Nat.lt_irrefl _)
 refine wpAny_bind (wpAny_holding (wpAny_call_entry slot_list_sort ⟨_,hoL,rfl⟩ entry_list_sort (bq6 (l:=l) (λ b o q=>keep b o (kp b o q)) hBn hoL r h1 h6 hnd h hs (by show A.units+1+1+71 < cLine;lia) λ out p hperm hpw hout=>⟨_,rfl,?_⟩) (args_list_sort _)))
 refine wpAny_pure ⟨_,rfl,?_⟩
 obtain ⟨e,he⟩:=sortedAll_at s.heap vs out
 have m5:∀ i∈p,i < l.length:=λ i hi=>List.mem_range.mp (hperm.mem_iff.mp hi)
 have el:(List.range l.length).map (λ i=>l.getD i .none)=l:=by
  refine List.ext_getElem (by rw [List.length_map,List.length_range]) λ i h1 h2=>?_
  rw [List.getElem_map,List.getElem_range,List.getD_eq_getElem?_getD,List.getElem?_eq_getElem h2];rfl
 have hsort:l.mergeSort leB=p.map λ i=>l.getD i .none:=by
  refine dl2 h ?_ ?_
  ·have:=hperm.map λ i=>l.getD i .none
   rw [el] at this
   exact this
  ·exact List.pairwise_map.mpr (hpw.imp λ {a b} q=>by unfold leB;rw [q];rfl)
 rw [hsort]
 exact FrP.made kp (λ ξ ξ=>sortedAll_old) (Nat.le_refl _) (g8 (Nat.le_succ _)) he ⟨rfl,e,rfl⟩ (by rw [hout];exact df0 r p m5) ⟨rfl,rfl⟩
end
end
section
open PySem.Calls PySem.SeqAt
noncomputable def ci0:BF->String
 | .len=>"len" | .sorted=>"sorted" | .min=>"min" | .max=>"max" | .divmod=>"divmod"
section
variable {w:World} {A:Around} {E:Value->Shared->Prop} {s:Shared} {B:FM}
theorem cm8:∀ {kvs:List (D×D)} {ps:List (Key×Value)} {vs:List Value},RdK prog w B kvs ps->vs.length=ps.length->(∀ (j:Nat) (v:Value),vs[j]?=some v->∃ k x,ps[j]?=some (k,x)/\(kk prog w).is k v=true)->
  ∃ ss:List Str,kvs.map (λ e:D×D=>e.1)=ss.map PyData.str/\StrsAre vs ss
 | [],_,vs,h,hl,_=>by
  cases (h:_=_)
  obtain rfl:=List.length_eq_zero_iff.mp hl
  exact ⟨[],rfl,.nil⟩
 | e :: r,_,vs,h,hl,hg=>by
  obtain ⟨k',v',r',rfl,h0,h1,h2⟩:=h
  cases vs with
  | nil=>exact nomatch hl
  | cons v vs=>
   obtain ⟨k,x,e1,e2⟩:=hg 0 v rfl
   cases e1
   obtain ⟨t,rfl⟩:=Value.isStrOf_shape e2
   obtain ⟨ss,q1,q2⟩:=cm8 h2 (Nat.succ.inj hl) λ j u hu=>hg (j+1) u hu
   exact ⟨k' :: ss,by rw [List.map_cons,q1,l9 h0];rfl,.cons _ _ q2⟩
theorem cm4 {kvs:List (D×D)} {l':List D} {v:Value} (rm:A.handled=none) (kp:j4 B s.heap) (t:f8 prog w s.heap B (.dict kvs) v) (h:bg6 (kvs.map λ e:D×D=>e.1)=some l') :
  wpAny (model prog w) A (call (.builtin "sorted") [v]) (FrP prog w B s (.list l')) E s:=by
 unfold bg6 at h
 split at h
 case isFalse=>cases h
 rename_i hc
 cases h
 have h64:kvs.length < 64:=by
  have:=of_decide_eq_true (b9 (b9 hc).1).1
  rwa [List.length_map] at this
 obtain ⟨a,o,ps,rfl,ho,⟨hd,hns⟩,rk⟩:=t
 have qf:=bb0 rk
 obtain ⟨ep,hat⟩:=(w5 ho hd).dictAt
 refine aq0 ?_
 refine Calls.call_function_entry kind_sorted plain_sorted entry_sorted (args_sorted1 _) ?_
 unfold Builtin.«sorted»
 refine wpAny_bind (m:=checkCount "sorted" 1 1 _) (wpAny_pure ?_)
 refine wpAny_bind (kdu_collect (A:=A.in1) (kdl_dict (knd:=kk prog w) (kvs:=ps) (ep:=ep) (cx7 hns)) rm hat (by rw [sizeLine_eq];lia) λ h' tk acc hk hacc=>?_)
 obtain ⟨ss,e1,e2⟩:=cm8 rk (vs:=acc.toList) (by rw [Array.length_toList];exact hacc.1) λ j u hu=>hacc.2 j u (by rw [<- Array.getElem?_toList];exact hu)
 have hl:acc.toList.length < 64:=by rw [Array.length_toList,hacc.1,<- qf];exact h64
 refine wpAny_bind (wpAny_newList ?_ (by rw [sizeLine_eq];lia))
 have hoL:(h'.push (seqObj "list" acc.toList.toArray 0)).get? h'.objs.size=some (seqObj "list" acc.toList.toArray 0):=Heap.get?_push_size _ rfl
 show wpAny _ _ _ _ _ { s with heap:=h'.push (seqObj "list" acc.toList.toArray 0),toks:=tk }
 refine wpAny_bind (wpAny_holding (wpAny_call_entry slot_list_sort ⟨_,hoL,rfl⟩ entry_list_sort (list_sort_treeK strKind_oneLt hoL e2.keysOf (λ v₁ v₂ rest e=>keyKind_strs (by rw [<- e];exact e2)) hl λ st' hp hs=>⟨_,rfl,?_⟩) (args_list_sort _)))
 refine wpAny_pure ⟨_,rfl,λ htk=>?_⟩
 obtain ⟨ss',a1,a2,a3⟩:=sorted_out_str e2 hp hs
 obtain ⟨e,he⟩:=sortedHeap_at hoL
 rw [e1,ce8 a2 a3]
 have hn:s.heap.get? h'.objs.size=none:=by
  cases q:s.heap.get? h'.objs.size with
  | none=>rfl
  | some o=>exact absurd (Heap.lt_size (hk _ _ q)) (Nat.lt_irrefl _)
 exact FrP.made kp (λ b o q=>(sortedHeap_old (Nat.ne_of_lt (Heap.lt_size (hk _ _ q))) (Nat.lt_of_lt_of_le (Heap.lt_size (hk _ _ q)) (by rw [size_push'];exact Nat.le_succ _))).trans (Heap.get?_push_of_some _ (hk _ _ q))) htk hn he ⟨rfl,e,rfl⟩ (df9 a1) ⟨rfl,rfl⟩
theorem di6 {l l':List D} {v:Value} (rm:A.handled=none) (hu:A.units+74 < cLine) (kp:j4 B s.heap) (t:f8 prog w s.heap B (.list l) v) (h:bg6 l=some l') :
  wpAny (model prog w) A (call (.builtin "sorted") [v]) (FrP prog w B s (.list l')) E s:=by
 unfold bg6 at h
 split at h
 ·rename_i hc
  cases h
  obtain ⟨hc,hs⟩:=b9 hc
  obtain ⟨h64,hk⟩:=b9 hc
  by_cases ha:l.all isStr=true
  ·obtain ⟨is,rfl⟩:=bv5 ha
   obtain ⟨a,o,vs,rfl,ho,x,r⟩:=t
   have hI:=dd9 r
   refine aq0 (sorted_strs (x.isList ho) hI (by rw [r.length];exact of_decide_eq_true h64) λ out ns' a1 a2 a3 htk=>?_)
   obtain ⟨e,he⟩:=sortedAll_at s.heap vs out
   rw [ce8 a2 a3]
   exact FrP.made kp (λ ξ ξ=>sortedAll_old) htk (g8 (Nat.le_succ _)) he ⟨rfl,e,rfl⟩ (df9 a1) ⟨rfl,rfl⟩
  ·rw [(Bool.not_eq_true _).mp ha,Bool.false_or] at hk
   obtain ⟨hr,hk⟩:=b9 hk
   refine cl1 rm hu kp t ?_ (of_decide_eq_true (b9 hk).1) (b9 hk).2 hr hs
   cases l with
   | nil=>exact absurd rfl ha
   | cons d l=>exact Nat.succ_le_succ (Nat.zero_le _)
 ·cases h
theorem cz6 {d:D} {l':List D} {v:Value} (rm:A.handled=none) (hu:A.units+74 < cLine) (kp:j4 B s.heap) (t:f8 prog w s.heap B d v) (h:bq0 d=some l') :
  wpAny (model prog w) A (call (.builtin "sorted") [v]) (FrP prog w B s (.list l')) E s:=by
 rcases al3 h with h | h
 ·obtain ⟨l,hl,h⟩:=a6 h
  obtain rfl:=r8 hl
  exact di6 rm hu kp t h
 ·obtain ⟨l,hl,h⟩:=a6 h
  obtain rfl:=ap2 hl
  exact cm4 rm kp t (i4 h).2
theorem bj3 {P:D->Value->Prop} {d:D} {vs:List Value} (h:b8 P [d] vs):∃ v,vs=[v]/\P d v:=by
 cases h with | cons a b=>cases b;exact ⟨_,rfl,a⟩
theorem eo4 {P:D->Value->Prop} {d e:D} {vs:List Value} (h:b8 P [d,e] vs):∃ v u,vs=[v,u]/\P d v/\P e u:=by
 cases h with | cons a b=>cases b with | cons b c=>cases c;exact ⟨_,_,rfl,a,b⟩
theorem er4 {d d':D} {v:Value} (kp:j4 B s.heap) (t:f8 prog w s.heap B d v) (h:eq4 d=some d'):wpAny (model prog w) A (call (.builtin "len") [v]) (EvP prog w B s d') E s:=by
 rcases al3 h with q | q
 ·obtain ⟨l,hl,q⟩:=a6 q
  obtain rfl:=r8 hl
  obtain ⟨hz,q⟩:=i4 q
  cases q
  obtain ⟨a,o,vs,rfl,ho,x,r2⟩:=t
  refine call_len_list (x.isList ho) (r2.size hz) ?_
  rw [List.size_toArray,r2.length]
  exact EvP.int kp trivial (Nat.le_add_right _ 2)
 ·obtain ⟨l,hl,q⟩:=a6 q
  obtain rfl:=l9 hl
  obtain ⟨hz,q⟩:=i4 q
  cases q
  obtain ⟨t,_,rfl⟩:=t
  exact P.len_str (Int.not_le.mpr (dp3 hz)) (EvP.int kp trivial (Nat.le_add_right _ 2))
theorem et9 {f:BF} {ds:List D} {vs:List Value} {d:D} (rm:A.handled=none) (hu:A.units+74 < cLine) (kp:j4 B s.heap) (r:b8 (λ d v=>f8 prog w s.heap B d v) ds vs) (h:bfD f ds=some d) :
  wpAny (model prog w) A (call (.builtin (ci0 f)) vs) (EvP prog w B s d) E s:=by
 have hu':A.units+73 < cLine:=Nat.lt_of_succ_lt hu
 cases f with
 | divmod=>
  obtain ⟨p,hp,q⟩:=a6 h
  obtain rfl:=bp2 hp
  obtain ⟨v,u,rfl,t1,t2⟩:=eo4 r
  obtain ⟨x,y,t,t',rfl,rfl,q⟩:=aq7 t1 t2 q
  obtain ⟨hc,q⟩:=i4 q
  cases q
  refine divmod_int (cv6 (of_decide_eq_true (b9 hc).1)) ?_ (Or.inl (aw0 (b9 (b9 hc).2).2))
  exact (FrP.tuple (vs:=[.int (x.fdiv y) s.toks,.int (x.fmod y) (s.toks+1)]) (n:=0) kp (Nat.le_add_right _ 2) (RdL.cons (ax1.mpr ⟨_,trivial,rfl⟩) (RdL.cons (ax1.mpr ⟨_,trivial,rfl⟩) RdL.nil))).ev
 | len=>
  obtain ⟨d1,hd,q⟩:=a6 h
  obtain rfl:=ak1 hd
  obtain ⟨v,rfl,t⟩:=bj3 r
  exact er4 kp t q
 | sorted=>
  obtain ⟨d1,hd,q⟩:=a6 h
  obtain rfl:=ak1 hd
  obtain ⟨l',hl,rfl⟩:=u9 q
  obtain ⟨v,rfl,t⟩:=bj3 r
  exact wpAny_mono (cz6 rm hu kp t hl) (λ ξ ξ q=>q.ev) λ ξ ξ e=>e
 | min=>
  obtain ⟨d1,hd,q⟩:=a6 h
  obtain ⟨l,hl,q⟩:=a6 q
  obtain rfl:=ak1 hd
  obtain rfl:=r8 hl
  obtain ⟨v,rfl,t⟩:=bj3 r
  exact en6 rm (by lia) kp t q
 | max=>
  obtain ⟨d1,hd,q⟩:=a6 h
  obtain ⟨l,hl,q⟩:=a6 q
  obtain rfl:=ak1 hd
  obtain rfl:=r8 hl
  obtain ⟨v,rfl,t⟩:=bj3 r
  exact es6 rm (by lia) kp t q
end
section
variable {w:World} {qa:Heap} {mg mb:Str->Option Value} {k:Nat} {U:String->List D->Option D} {sc:Scope}
theorem ep7 {f:BF}:biL.lookup (Str.ofString (ci0 f))=some (.builtin (ci0 f)):=by cases f <;> kernel_rfl
theorem au4 {es:List PySem.Expr} {env:Env} {pos:Pos} (h:es.all j9=true):(backTo pos (starEach es env)).any (·.1)=false:=by
 induction es with
 | nil=>rfl
 | cons e es ih=>
  have h':=b9 h
  rw [d6 h'.1,l0]
  simp [ih h'.2]
theorem ae8 {x:Str} {f:BF} {es:List PySem.Expr} {qd:List IR} {p pos:Pos} (G:Glb qa mg mb) (hx:i5 sc x=true) (hf:Str.ofString (ci0 f)=x) (h:b8 (ae1 w qa k U sc) es qd) (hn:es.all j9=true) :
  j3 w qa k U sc (.Call (.Name x p) es [] pos) (.bcall f qd):=λ A E s env r B d ok hd=>by
 obtain ⟨ds,h1,hd⟩:=a6 hd
 subst hf
 refine Call_ (w9 G ok hx (G.b' ep7) ?_)
 cases es with
 | nil=>
  cases h
  cases h1
  cases f <;> cases hd
 | cons e rest=>
  have hn':=b9 hn
  refine callWith_builtin1 (cu5 h hn ok h1 λ vs s1 B1 g1 m1 r1 ok1=>?_) (d6 hn'.1) (au4 hn'.2)
  exact wpAny_mono (et9 ok1.rm.handled (ok1.u (n:=74) (by decide)) ok1.keep r1 hd) (λ v s' q=>q.after g1 m1) λ ξ ξ e=>e
end
end
section
open PySem.Calls PySem.SeqAt
noncomputable def be1:MF->String
 | .startswith=>"startswith" | .endswith=>"endswith" | .rstrip=>"rstrip" | .rfind=>"rfind" | .split=>"split" | .join=>"join" | .get=>"get"
section
variable {w:World} {A:Around} {E:Value->Shared->Prop} {s:Shared} {B:FM} {env:Env}
noncomputable def ba2 (e:PySem.Expr):Bool:=e.ctorIdx == 23 || (e.ctorIdx == 19 || e.ctorIdx == 21)
theorem ba9 {o:PySem.Expr} {nm:Str} (h:ba2 o=true):attributeBase o nm env (PySem.eval o env)=PySem.eval o env:=by
 cases o <;> first | rfl | cases h
theorem dj7 {es:List PySem.Expr} {pos:Pos} (h:es.all j9=true):(backTo pos (starEach es env)).all (λ x=>!x.1)=true:=by
 induction es with
 | nil=>rfl
 | cons e es ih=>
  have h':=b9 h
  rw [d6 h'.1,l0]
  simp [ih h'.2]
theorem bd6 {es:List PySem.Expr} {pos:Pos} (h:es.all j9=true) (hl:es.length < 20) :
  ((backTo pos (starEach es env)).all (λ x=>!x.1) && (backToKw pos (keywordEach [] env)).all (λ x=>x.1.isSome)
   && decide (es.length+([]:List Keyword).length+(if ([]:List Keyword).isEmpty then 0 else 1) < 30))=true:=by
 rw [dj7 h]
 have:decide (es.length+([]:List Keyword).length+(if ([]:List Keyword).isEmpty then 0 else 1) < 30)=true:=by
  simp;exact Nat.le_trans ‹_› (Nat.le_of_ble_eq_true rfl)
 rw [this];rfl
theorem bf9:∀ {l:List D} {ss:List Str},l.mapM u6=some ss->l=ss.map .str
 | [],ss,h=>by cases h;rfl
 | d :: l,ss,h=>by
  rw [List.mapM_cons] at h
  obtain ⟨x,hx,q⟩:=a6 h
  obtain ⟨xs,hl,q⟩:=a6 q
  cases q
  rw [l9 hx,bf9 hl];rfl
theorem bx4:∀ {ss:List Str} {vs:List Value},RdL prog w B (ss.map .str) vs->∃ l:List (Str×Tok),vs=strValues l/\l.map (·.1)=ss
 | [],vs,h=>by obtain rfl:=h;exact ⟨[],rfl,rfl⟩
 | i :: is,vs,h=>by
  obtain ⟨v,r,rfl,h1,h2⟩:=h
  obtain ⟨t,_,rfl⟩:=h1
  obtain ⟨l,rfl,e⟩:=bx4 h2
  exact ⟨(i,t) :: l,rfl,by simp [e]⟩
theorem br3:∀ {l:List (Str×Tok)},RdL prog w B ((l.map (·.1)).map .str) (strValues l)
 | []=>RdL.nil
 | (x,t) :: l=>RdL.cons (bj7.mpr ⟨t,trivial,rfl⟩) br3
theorem FrP.push {h:Heap} {o:Obj} {ds:List D} {vs:List Value} {tk:Nat} (kp:j4 B s.heap) (ht:s.toks<=tk) (r:RdL prog w B ds vs) (hs:ba1 "list" vs o) (hf:o.isFreed=false) (hpl:o.dict=none/\o.slots=#[]) :
  FrP prog w B s (.list ds) (.ref s.heap.objs.size) { s with heap:=s.heap.push o,toks:=tk }:=
 FrP.made kp (λ a x e=>Heap.get?_push_of_some _ e) ht (g8 (Nat.le_refl _)) (Heap.get?_push_size _ hf) hs r hpl
theorem cu7 (x y:Str):(Builtin.Str.partsBetween x (Builtin.Str.occurrences x y 0 x.length (x.length+1)) y.length).length<=x.length+2:=by
 rw [PySem.StrLaws.partsBetween_eq]
 have h:=StrLaws.occ_length_le x y 0 x.length (x.length+1)
 have:∀ (cuts:List Nat) (k:Nat),(StrLaws.partsFrom x y.length k cuts).length=cuts.length+1:=by
  intro cuts
  induction cuts with
  | nil=>intro k;rfl
  | cons c r ih=>intro k;exact congrArg (·+1) (ih _)
 rw [this];exact Nat.lt_succ_of_le ‹_›
theorem ds9 {x:Str} {t:Tok} {y:Str} {u:Tok} (kp:j4 B s.heap) (hz:sz (x.length+2)=true) (hy:y.length=1) :
  wpAny (model prog w) A (call (.builtin "str.split") [.str x t,.str y u]) (EvP prog w B s (.list ((Txt.split x y).map .str))) E s:=by
 have key:∀ (l:List (Str×Tok)) (tk:Nat) (n:Nat),l.map (·.1)=Txt.split x y->s.toks<=tk->EvP prog w B s (.list ((Txt.split x y).map .str)) (.ref s.heap.objs.size) { s with heap:=s.heap.push { cls:=.type "list",data:=.seq (strValues l).toArray n },toks:=tk }:=by
  intro l tk n e ht
  rw [<- e]
  exact (FrP.push (h:=s.heap) kp ht br3 ⟨rfl,n,rfl⟩ rfl ⟨rfl,rfl⟩).ev
 cases h1:(decide (x.length < y.length) || decide (Builtin.Str.strKind x < Builtin.Str.strKind y))
 ·cases hf:(Builtin.Str.occurrences x y 0 x.length (x.length+1)).isEmpty
  ·refine call_meets F.slot_str_split (typeIs_str _ _ _) F.entry_str_split (F.args_str_split_2 _ _) (meets_str_split_sep x y t u h1 (by simp [hy]) hf (Nat.le_trans (Nat.le_add_right _ 2) (ai7 hz)) (Nat.le_trans (cu7 x y) (ai7 hz))) ?_
   show wants _ _ _ { s with toks:=_,heap:=s.heap.push { cls:=.type "list",data:=.seq (strsFrom s.toks (Builtin.Str.partsBetween x (Builtin.Str.occurrences x y 0 x.length (x.length+1)) y.length)).toArray } }
   rw [strsFrom_eq]
   exact key (numbered s.toks _) _ _ ((numbered_texts _ _).trans ((if_neg (ne_true_of_eq_false h1)).trans (if_neg (ne_true_of_eq_false hf))).symm) (Nat.le_add_right _ _)
  ·exact call_meets F.slot_str_split (typeIs_str _ _ _) F.entry_str_split (F.args_str_split_2 _ _) (meets_str_split_not_found x y t u h1 (by simp [hy]) hf)
    (key [(x,t)] _ _ ((if_neg (ne_true_of_eq_false h1)).trans (if_pos hf)).symm (Nat.le_refl _))
 ·exact call_meets F.slot_str_split (typeIs_str _ _ _) F.entry_str_split (F.args_str_split_2 _ _) (meets_str_split_cannot_occur x y t u h1)
   (key [(x,t)] _ _ (if_pos h1).symm (Nat.le_refl _))
theorem bl2 {m:MF} {x:Str} {t:Tok} {d1:D} {v:Value} {d:D} (kp:j4 B s.heap) (r:f8 prog w s.heap B d1 v) (h:smD m x d1=some d) :
  wpAny (model prog w) A (call (.builtin ("str." ++ be1 m)) [.str x t,v]) (EvP prog w B s d) E s:=by
 cases m with
 | startswith=>
  obtain ⟨y,hy,rfl⟩:=u9 h
  obtain rfl:=l9 hy
  obtain ⟨u,_,rfl⟩:=r
  exact SC.startswith (EvP.bool0 kp)
 | endswith=>
  obtain ⟨y,hy,rfl⟩:=u9 h
  obtain rfl:=l9 hy
  obtain ⟨u,_,rfl⟩:=r
  exact SC.endswith (EvP.bool0 kp)
 | rstrip=>
  obtain ⟨y,hy,q⟩:=a6 h
  obtain rfl:=l9 hy
  obtain ⟨hz,q⟩:=i4 q
  cases q
  obtain ⟨u,_,rfl⟩:=r
  exact aq0 (SC.rstripChars (λ t' k htk=>EvP.str kp trivial htk) (ai7 hz))
 | rfind=>
  obtain ⟨y,hy,rfl⟩:=u9 h
  obtain rfl:=l9 hy
  obtain ⟨u,_,rfl⟩:=r
  exact SC.rfind (EvP.int kp trivial (Nat.le_succ _))
 | split=>
  obtain ⟨y,hy,q⟩:=a6 h
  obtain rfl:=l9 hy
  obtain ⟨hc,q⟩:=i4 q
  cases q
  obtain ⟨u,_,rfl⟩:=r
  exact ds9 kp (b9 hc).1 (af8 (b9 hc).2)
 | join=>
  obtain ⟨l,hl,q⟩:=a6 h
  obtain ⟨ss,h1,q⟩:=a6 q
  obtain rfl:=r8 hl
  obtain ⟨hc,q⟩:=i4 q
  cases q
  obtain rfl:=bf9 h1
  obtain ⟨a,o,vs,rfl,ho,xs,rr⟩:=r
  obtain ⟨l,rfl,e⟩:=bx4 rr
  exact aq0 (SC.join (xs.isList ho) e (b9 hc).1 λ t' k htk=>EvP.str kp trivial htk)
 | get=>cases h
theorem dh5 {m:MF} (hm:m≠.get):PySem.Slot "str" (Str.ofString (be1 m)) ("str." ++ be1 m)/\typeOf (.builtin ("str." ++ be1 m))=pure (.type "method_descriptor"):=by
 cases m
 ·exact ⟨F.slot_str_startswith,F.type_str_startswith⟩
 ·exact ⟨F.slot_str_endswith,F.type_str_endswith⟩
 ·exact ⟨F.slot_str_rstrip,F.type_str_rstrip⟩
 ·exact ⟨F.slot_str_rfind,F.type_str_rfind⟩
 ·exact ⟨F.slot_str_split,F.type_str_split⟩
 ·exact ⟨F.slot_str_join,F.type_str_join⟩
 ·exact absurd rfl hm
end
end
section
open PySem.Calls PySem.SeqAt
section
variable {w:World} {qa:Heap} {mg mb:Str->Option Value} {k:Nat} {U:String->List D->Option D} {sc:Scope}
inductive de1 (m:MF) (a:IR) (qd:List IR) (r:Rho) (d:D):Prop
 | mk (x:Str) (d1:D) (hx:look U a r=some (.str x)) (h1:(bif at9 m then aq5 U qd r else ac3 U qd r)=some [d1]) (hd:smD m x d1=some d):de1 m a qd r d
theorem dw0 {m:MF} {a:IR} {qd:List IR} {r:Rho} {d:D} (hm:de4 m=false) (hd:eval U (.meth m a qd) r=some d):de1 (U:=U) m a qd r d:=by
 have key:∀ {f:Str->Str->Bool} {b:Bool},(do let x <- look U a r;let ds <- ac3 U qd r;az0 (λ x y=>some (f x y)) x (<- one ds))=some b->at9 m=false->(∀ x y,smD m x (.str y)=some (.bool (f x y)))->de1 (U:=U) m a qd r (.bool b):=by
  intro f b hb hj hs
  obtain ⟨x,hx,hb⟩:=a6 hb
  obtain ⟨ds,h1,hb⟩:=a6 hb
  obtain ⟨d1,h2,hb⟩:=a6 hb
  obtain ⟨x,y,rfl,rfl,hb⟩:=as5 hb
  cases hb
  exact ⟨x,_,hx,by rw [hj,<- ak1 h2];exact h1,hs x y⟩
 have key2:(do let x <- look U a r;let ds <- bif at9 m then aq5 U qd r else ac3 U qd r;mfD m x ds)=some d->de1 (U:=U) m a qd r d:=by
  intro hd
  obtain ⟨x,hx,hd⟩:=a6 hd
  obtain ⟨ds,h1,hd⟩:=a6 hd
  unfold mfD at hd
  rw [hm] at hd
  obtain ⟨y,h2,hd⟩:=a6 hd
  obtain ⟨d1,h3,hd⟩:=a6 hd
  exact ⟨y,d1,l9 h2▸hx,ak1 h3▸h1,hd⟩
 cases m with
 | startswith=>obtain ⟨b,hb,rfl⟩:=u9 hd;exact key hb rfl λ ξ ξ=>rfl
 | endswith=>obtain ⟨b,hb,rfl⟩:=u9 hd;exact key hb rfl λ ξ ξ=>rfl
 | get=>cases hm
 | _=>exact key2 hd
theorem dg0 {m:MF} {o:PySem.Expr} {a:IR} {nm:Str} {es:List PySem.Expr} {qd:List IR} {ap pos:Pos} (ho:ae1 w qa k U sc o a) (hr:ba2 o=true) (hp:(ap.endLine == pos.line)=true) (hl:es.length < 20)
  (hm:de4 m=false) (hf:Str.ofString (be1 m)=nm) (h:b8 (if at9 m=true then ae1 w qa k U sc else j3 w qa k U sc) es qd) (hn:es.all j9=true) :
  j3 w qa k U sc (.Call (.Attribute o nm ap) es [] pos) (.meth m a qd):=λ A E s env r B d ok hd=>by
 obtain ⟨x,d1,hx,h1,hd⟩:=dw0 hm hd
 have hm':m≠.get:=by rintro rfl;cases hm
 subst hf
 refine wpAny_Call_method (ba9 hr) (bd6 hn hl) hp F.plainAttrs_str (dh5 hm').1 (dh5 hm').2 ?_
 refine u0 ho ok hx λ v s1 B1 g1 m1 t1 ok1=>?_
 obtain ⟨t,_,rfl⟩:=t1
 refine ⟨typeIs_str _ _ _,nofun,?_⟩
 cases es with
 | nil=>
  cases h
  cases m <;> cases h1
 | cons e rest=>
  have hn':=b9 hn
  refine callWith_method1 ?_ (d6 hn'.1) (au4 hn'.2)
  cases hj:at9 m with
  | true=>
   rw [hj] at h h1
   refine cu5 h hn ok1 h1 λ vs s2 B2 g2 m2 r2 ok2=>?_
   obtain ⟨v,rfl,t2⟩:=bj3 r2
   exact wpAny_mono (bl2 g2.keep t2 hd) (λ v s' q=>(q.after g2 m2).after g1 m1) λ ξ ξ e=>e
  | false=>
   rw [hj] at h h1
   refine au1 h hn ok1 h1 λ vs s2 B2 g2 m2 r2 ok2=>?_
   obtain ⟨v,r,rfl,r2,r3⟩:=r2
   cases (r3:r=[])
   exact wpAny_mono (bl2 g2.keep (r2.top g2.keep) hd) (λ v s' q=>(q.after g2 m2).after g1 m1) λ ξ ξ e=>e
theorem ey5 {A:Around} {E:Value->Shared->Prop} {s:Shared} {env:Env} {x y:Str} {k1 k2:Nat} {p1 p2 pos:Pos} {Q:List Value->Shared->Prop} (h:Q [.str x s.toks,.str y (s.toks+1)] { s with toks:=s.toks+1+1 }) :
  wpAny (model prog w) A (spliced (backTo pos (starEach [.Constant (.str x) k1 p1,.Constant (.str y) k2 p2] env))) Q E s:=
 spliced_cons (Constant_str (k:=k1) (pos:=p1) (spliced_cons (Constant_str (k:=k2) (pos:=p2) (spliced_nil h))))
theorem ep5 {o:PySem.Expr} {a:IR} {es:List PySem.Expr} {qd:List IR} {ap pos:Pos} (ho:ae1 w qa k U sc o a) (hr:ba2 o=true) (hp:(ap.endLine == pos.line)=true)
  (h:b8 (j3 w qa k U sc) es qd) (hn:es.all j9=true) (hl:es.length < 20) :
  j3 w qa k U sc (.Call (.Attribute o "get" ap) es [] pos) (.meth .get a qd):=λ A E s env r B d ok hd=>by
 obtain ⟨x,hx,hd⟩:=a6 hd
 obtain ⟨ds,h1,hd⟩:=a6 hd
 obtain ⟨kvs,hk,q⟩:=a6 hd
 obtain ⟨⟨kd,df⟩,h2,q⟩:=a6 q
 obtain rfl:=ap2 hk
 obtain rfl:=bp2 h2
 obtain ⟨hc,q⟩:=i4 q
 cases q
 obtain ⟨x,rfl⟩:=an0 (b9 hc).1
 refine wpAny_Call_method (ba9 hr) (bd6 hn hl) hp F.plainAttrs_dict F.slot_dict_get F.type_dict_get ?_
 refine u0 ho ok hx λ v s1 B1 g1 m1 t1 ok1=>?_
 obtain ⟨l,o,ps,rfl,hob,⟨hdo,hns⟩,hrk⟩:=t1
 have hdo':=(w5 hob hdo).mapOf
 refine ⟨hdo'.typeIs,hdo'.noDict,?_⟩
 cases h with
 | nil=>cases h1
 | @cons e ir rest irs' he hrest=>
  obtain ⟨d1,q1,h1⟩:=a6 h1
  obtain ⟨l1,q2,h1⟩:=a6 h1
  cases h1
  cases hrest with
  | nil=>cases q2
  | @cons e' ir' rest' irs'' he' hrest'=>
   obtain ⟨d2,q3,q2⟩:=a6 q2
   obtain ⟨l2,q4,q2⟩:=a6 q2
   cases q2
   cases hrest' with
   | cons _ _=>obtain ⟨_,_,q4⟩:=a6 q4;obtain ⟨_,_,q4⟩:=a6 q4;cases q4
   | nil=>
   have hn':=b9 hn
   rw [d6 hn'.1,d6 (b9 hn'.2).1]
   refine wpAny_dict_get2 (knd:=kk prog w) (cx7 hns) (al8 he ok1 q1 λ v1 s2 B2 g2 m2 r2 ok2=>al8 he' ok2 q3 λ v2 s3 B3 g3 m3 r3 ok3=>?_)
   refine ⟨x,_,Rd.keyis r2,(w5 ((g2.old.trans g3.old).solid hob (af9 hdo)) hdo).mapOf,?_⟩
   have g:=g1.trans (g2.trans g3)
   have m:=m1.trans (m2.trans m3)
   cases hrk.find (x:=x) with
   | no e1 e2=>
    rw [e1,e2]
    exact ⟨B3,g,r3,m.gens,m.os,Nat.le_succ_of_le m.toks⟩
   | yes e v e1 e2 f2=>
    rw [e1,e2]
    exact ⟨B3,g,f2.mono (g2.le.trans g3.le),m.gens,m.os,Nat.le_succ_of_le m.toks⟩
theorem cy7 {o:PySem.Expr} {a:IR} {x y:Str} {k1 k2:Nat} {p1 p2 ap pos:Pos} (ho:ae1 w qa k U sc o a) (hr:ba2 o=true) (hp:(ap.endLine == pos.line)=true) :
  j3 w qa k U sc (.Call (.Attribute o "replace" ap) [.Constant (.str x) k1 p1,.Constant (.str y) k2 p2] [] pos) (.replace a x y):=λ A E s env r B d ok hd=>by
 obtain ⟨z,hx,hd⟩:=a6 hd
 obtain ⟨z,hz,hd⟩:=a6 hd
 obtain rfl:=l9 hz
 obtain ⟨hc,hd⟩:=i4 hd
 cases hd
 refine wpAny_Call_method (ba9 hr) (bd6 rfl (by show 2 < 20;decide)) hp F.plainAttrs_str F.slot_str_replace F.type_str_replace ?_
 refine u0 ho ok hx λ v s1 B1 g1 m1 t1 ok1=>?_
 obtain ⟨t,_,rfl⟩:=t1
 refine ⟨typeIs_str _ _ _,nofun,?_⟩
 refine callWith_method1 (ey5 ?_) rfl rfl
 have h1:s1.toks≠0:=Nat.ne_of_gt ok1.toks
 refine aq0 (SC.replace h1 (Nat.succ_ne_zero _) (Nat.ne_of_lt (Nat.lt_succ_self _)) ((Bool.not_eq_true' _).mp (b9 hc).1) (of_decide_eq_true (b9 hc).2) λ t' k htk=>?_)
 exact ⟨B1,g1,bj7.mpr ⟨t',trivial,rfl⟩,m1.gens,m1.os,Nat.le_trans m1.toks (Nat.le_trans (Nat.le_add_right _ 2) htk)⟩
theorem ce3 {x t:Str} {e:PySem.Expr} {a:IR} {p q pos:Pos} (G:Glb qa mg mb) (hx:i5 sc x=true) (hf:x="isinstance") (ht:i5 sc t=true) (hf2:t="bytes") (h:ae1 w qa k U sc e a) (hn:j9 e=true) :
  j3 w qa k U sc (.Call (.Name x p) [e,.Name t q] [] pos) (.isinst a "bytes"):=λ A E s env r B d ok hd=>by
 subst hf hf2
 obtain ⟨b,hb,rfl⟩:=u9 hd
 obtain ⟨z,hz,hb⟩:=a6 hb
 obtain ⟨y,hy,hb⟩:=a6 hb
 cases hb
 obtain rfl:=l9 hy
 refine Call_ (w9 G ok hx (G.b' (v:=(.builtin "isinstance")) ⋯) ?_)
 refine callWith_builtin1 ?_ (d6 hn) rfl
 rw [d6 hn,l0]
 refine spliced_cons (u0 h ok hz λ v s1 B1 g1 m1 t1 ok1=>?_)
 show wpAny _ _ (spliced [(false,PySem.eval (.Name "bytes" q) env)]) _ _ _
 refine spliced_cons (w9 G ok1 ht (G.b' (v:=(.type "bytes")) ⋯) (spliced_nil ?_))
 obtain ⟨t,_,rfl⟩:=t1
 exact IsiPair.str_bytes ⟨B1,g1,db8.mpr rfl,m1.gens,m1.os,Nat.le_succ_of_le m1.toks⟩
end
end
section
open PySem.Calls PySem.SeqAt
section
variable {w:World} {B:FM}
theorem RdK.any {x:Key}:∀ {kvs:List (D×D)} {ps:List (Key×Value)},RdK prog w B kvs ps->(kvs.any λ e=>eqK e.1 (.str x))=ps.any (λ kv=>kv.1=x)
 | [],ps,h=>by obtain rfl:=h;rfl
 | e :: r,ps,h=>by
  obtain ⟨k',v',r',rfl,h0,h1,h2⟩:=h
  rw [List.any_cons,List.any_cons,bp7 h0,RdK.any h2]
theorem RdK.put {v:D} {x:Key} {u:Value} (hv:Rd prog w B v u):∀ {kvs:List (D×D)} {ps:List (Key×Value)},RdK prog w B kvs ps->
  RdK prog w B (kvs.map λ e=>if eqK e.1 (.str x) then (e.1,v) else e) (ps.map λ kv=>if kv.1=x then (kv.1,u) else kv)
 | [],ps,h=>by obtain rfl:=h;rfl
 | e :: r,ps,h=>by
  obtain ⟨k',v',r',rfl,h0,h1,h2⟩:=h
  by_cases q:k'=x
  ·have e1:(if eqK e.1 (.str x)=true then (e.1,v) else e)=(e.1,v):=if_pos ((bp7 h0).trans (decide_eq_true q))
   exact ⟨k',u,_,congrArg (· :: _) (if_pos q),(congrArg (λ e:D×D=>cc6 e.1) e1).trans h0,(congrArg (λ e:D×D=>Rd prog w B e.2 u) e1).mpr hv,RdK.put hv h2⟩
  ·have e1:(if eqK e.1 (.str x)=true then (e.1,v) else e)=e:=if_neg (by rw [bp7 h0,decide_eq_false q];exact Bool.false_ne_true)
   exact ⟨k',v',_,congrArg (· :: _) (if_neg q),(congrArg (λ e:D×D=>cc6 e.1) e1).trans h0,(congrArg (λ e:D×D=>Rd prog w B e.2 v') e1).mpr h1,RdK.put hv h2⟩
theorem RdK.snoc {v:D} {x:Key} {u:Value} (hv:Rd prog w B v u):∀ {kvs:List (D×D)} {ps:List (Key×Value)},RdK prog w B kvs ps->RdK prog w B (kvs ++ [(.str x,v)]) (ps ++ [(x,u)])
 | [],ps,h=>by
  obtain rfl:=h
  exact ⟨x,u,[],rfl,rfl,hv,rfl⟩
 | e :: r,ps,h=>by
  obtain ⟨k',v',r',rfl,h0,h1,h2⟩:=h
  exact ⟨k',v',_,rfl,h0,h1,RdK.snoc hv h2⟩
theorem RdK.stored {v:D} {x:Key} {u:Value} {kvs:List (D×D)} {ps:List (Key×Value)} (hv:Rd prog w B v u) (h:RdK prog w B kvs ps):RdK prog w B (ag8 kvs (.str x) v) (stored ps x u):=by
 unfold ag8 PySem.stored
 rw [RdK.any h]
 split
 ·exact RdK.put hv h
 ·exact RdK.snoc hv h
noncomputable def cp5 (prog:Program) (w:World) (B:FM):List (D×D)->List (Key×Value)->Prop
 | [],ps=>ps=[]
 | e :: r,ps=>∃ x u ps',ps=(x,u) :: ps'/\cc6 e.1=some x/\Rd prog w B e.2 u/\cp5 prog w B r ps'
theorem cp5.merged:∀ {es:List (D×D)} {ps:List (Key×Value)} {kvs:List (D×D)} {acc:List (Key×Value)},cp5 prog w B es ps->RdK prog w B kvs acc->RdK prog w B (es.foldl (λ m e=>ag8 m e.1 e.2) kvs) (PySem.merged acc ps)
 | [],ps,kvs,acc,h,k=>by cases h;exact k
 | e :: r,ps,kvs,acc,h,k=>by
  obtain ⟨x,u,ps',rfl,h1,h2,h3⟩:=h
  obtain ⟨a,b⟩:=e
  cases l9 h1
  exact cp5.merged (kvs:=ag8 kvs (.str x) b) (acc:=PySem.stored acc x u) h3 (RdK.stored h2 k)
end
section
variable {w:World} {qa:Heap} {mg mb:Str->Option Value} {k:Nat} {U:String->List D->Option D} {sc:Scope}
theorem dt4 {ks:List PySem.Expr} {iks:List IR} {A:Around} {E:Value->Shared->Prop} {env:Env} {r:Rho} {pos:Pos} (hk:b8 (j3 w qa k U sc) ks iks) :
  ∀ {vs:List PySem.Expr} {ivs:List IR} {s:Shared} {B:FM} {dk dv:List D} {Q:List (Value×Value)->Shared->Prop},b8 (j3 w qa k U sc) vs ivs->Ok prog w qa k A env sc r B s->ac3 U iks r=some dk->ac3 U ivs r=some dv->dk.length=dv.length->dk.all z8=true->
  (∀ ps kvs s' B',Gr B s.heap B' s'.heap->k6 s s'->Carries (kk prog w) ps kvs->cp5 prog w B' (dk.zip dv) kvs->Ok prog w qa k A env sc r B' s'->Q ps s')->
  wpAny (model prog w) A (evalPairs (pairTrees (ks.map some) vs env pos)) Q E s:=by
 induction hk with
 | nil=>
  intro vs ivs s B dk dv Q hv ok h1 h2 hl ha hQ
  cases h1
  exact evalPairs_nil (hQ _ [] _ B (Gr.refl ok.keep) (.refl s) trivial rfl ok)
 | @cons x ir xs qd hx hxs ih=>
  intro vs ivs s B dk dv Q hv ok h1 h2 hl ha hQ
  obtain ⟨d,q1,h1⟩:=a6 h1
  obtain ⟨ds',q2,h1⟩:=a6 h1
  cases h1
  cases hv with
  | nil=>
   cases h2;cases hl
  | @cons y jr ys jrs hy hys=>
   obtain ⟨e,q3,h2⟩:=a6 h2
   obtain ⟨es',q4,h2⟩:=a6 h2
   cases h2
   obtain ⟨a1,a2⟩:=b9 ha
   obtain ⟨kx,rfl⟩:=an0 a1
   rw [List.map_cons,pairTrees]
   refine evalPairs_cons (al8 hx ok q1 λ v s1 B1 g1 m1 r1 ok1=>?_)
   refine wpAny_bind (al8 hy ok1 q3 λ u s2 B2 g2 m2 r2 ok2=>wpAny_bind (wpAny_standAt (wpAny_pure ?_)))
   refine ih hys ok2 q2 q4 (Nat.succ.inj hl) a2 λ ps kvs s3 B3 g3 m3 c3 p3 ok3=>?_
   exact hQ _ ((kx,u) :: kvs) s3 B3 (g1.trans (g2.trans g3)) (m1.trans (m2.trans m3)) ⟨Rd.keyis r1,rfl,c3⟩ ⟨kx,u,kvs,rfl,rfl,r2.mono g3.le,p3⟩ ok3
theorem ef1 {ks vs:List PySem.Expr} {iks ivs:List IR} {pos:Pos} {A:Around} {E:Value->Shared->Prop} {s:Shared} {env:Env} {r:Rho} {B:FM} {d:D} (G:Glb qa mg mb) (hk:b8 (j3 w qa k U sc) ks iks) (hv:b8 (j3 w qa k U sc) vs ivs)
  (hl:ks.length=vs.length) (h0:ks≠[]) (h15:ks.length<=15) (ok:Ok prog w qa k A env sc r B s) (hd:eval U (.dict iks ivs) r=some d):wpAny (model prog w) A (PySem.eval (.Dict (ks.map some) vs pos) env) (FrP prog w B s d) E s:=by
 obtain ⟨dk,h1,hd⟩:=a6 hd
 obtain ⟨dv,h2,hd⟩:=a6 hd
 obtain ⟨hc,hd⟩:=i4 hd
 cases hd
 obtain ⟨c1,hc⟩:=b9 hc
 have c2:=af8 (b9 hc).1
 have hbig:=ok.big G
 have hne:ks.map some≠([]:List (Option PySem.Expr)):=by simpa using h0
 refine wpAny_Dict_walk (knd:=kk prog w) (by simp) (by simpa using hl) hne (by simpa using h15) ?_
 have g0:Gr B s.heap B (s.heap.push { cls:=.type "dict",data:=.dict #[] }):=Gr.heap ok.keep λ a x e=>Heap.get?_push_of_some _ e
 have ok0:Ok prog w qa k A env sc r B { s with heap:=s.heap.push { cls:=.type "dict",data:=.dict #[] } }:=ok.step (s':={ s with heap:=s.heap.push { cls:=.type "dict",data:=.dict #[] } }) g0 ⟨rfl,rfl,Nat.le_refl _⟩
 refine dt4 hk hv ok0 h1 h2 c2 c1 λ ps kvs s1 B1 g1 m1 ca pr ok1=>?_
 have hn0:s.heap.get? s.heap.objs.size=none:=g8 (Nat.le_refl _)
 have hB0:B s.heap.objs.size=none:=t7 ok.keep hn0
 obtain ⟨o0,ho0,hd0⟩:=Heap.dictOf_iff.mp (Heap.DictOf.new (knd:=kk prog w) s.heap)
 have hB1:B1 s.heap.objs.size=none:=by
  cases e:B1 s.heap.objs.size with
  | none=>rfl
  | some o=>
   rcases g1.new _ _ e with q | q
   ·rw [hB0] at q;cases q
   ·rw [show (s.heap.push { cls:=.type "dict",data:=.dict #[] }).get? s.heap.objs.size=some o0 from ho0] at q;cases q
 refine ⟨kvs,ca,w5 (g1.old.solid ho0 (af9 hd0)) hd0,λ h' hd' hsb=>?_⟩
 obtain ⟨o,ho,hio⟩:=Heap.dictOf_iff.mp hd'
 have old:∀ a x,s1.heap.get? a=some x->a≠s.heap.objs.size->h'.get? a=some x:=λ a x e q=>(hsb.2 a q).trans e
 have ne:∀ {a x},s.heap.get? a=some x->a≠s.heap.objs.size:=λ e q=>by subst q;rw [hn0] at e;cases e
 refine ⟨B1,_,rfl,⟨g1.le,λ a x e=>((g0.old.trans g1.old) a x e).trans λ o' e'=>.inl (old a o' e' (ne e)),λ a x e=>old a x (g1.keep a x e) (λ q=>by subst q;rw [hB1] at e;cases e),λ a x e=>?_⟩,hn0,hB1,show f8 prog w _ _ (.dict _) _ from ⟨_,o,_,rfl,ho,⟨hio,hbig⟩,pr.merged (rfl)⟩,⟨m1.gens,m1.os,Nat.le_trans m1.toks (Nat.le_add_right _ _)⟩,λ o' e=>by rw [show h'.get? _=some o from ho] at e;cases e;obtain ⟨_,_,hx,_⟩:=hio;exact hx.2⟩
 rcases g1.new a x e with q | q
 ·exact .inl q
 ·refine .inr ?_
  exact g0.old.back q
end
end
section
open PySem.Calls PySem.SeqAt
noncomputable def ba7 (h:Heap) (b:Addr):Prop:=∃ o,h.get? b=some o/\ao6 o
theorem ba7.ne {h:Heap} {b:Addr} (x:ba7 h b):h.get? b≠none:=let ⟨_,e,_⟩:=x;by rw [e];simp
noncomputable def bg3 (e:PySem.Expr):Bool:=e.ctorIdx == 23
inductive bd3 (prog:Program) (w:World) (A:Around) (target:PySem.Expr) (V:Addr->Prop) (B0:FM) (s0:Shared) (its:List D) (it:Value) (s2:Shared):Prop
 | mk (I:Addr) (fp wr:List Addr) (P Md:Nat->Value->Heap->Prop) (St:Nat->Heap->Prop) (B:FM) (h1:it = .ref I) (h2:KTurns prog w A target I fp wr its.length P Md St) (h3:St 0 s2.heap) (h4:Gr B0 s0.heap B s2.heap) (h5:k6 s0 s2) (h6:(∀ i h,St i h->∀ b∈fp,ba7 h b)) (h7:(∀ b∈wr,s0.heap.get? b=none/\B b=none)) (h8:(∀ b∈fp,b∈wr\/B b≠none\/V b)) (h9:(∀ i v h B',P i v h->B.le B'->j4 B' h->∃ d,its[i]?=some d/\f8 prog w h B' d v/\(bg3 target=true->Rd prog w B' d v))) (h10:(∀ i s Q E,St i s.heap->Q (.ref I) s->wpAny (model prog w) A (pyIter (.ref I)) Q E s))
noncomputable def db6:List String:=["enumerate","zip","dict_itemiterator","dict_reverseitemiterator","odict_iterator","itertools.zip_longest","itertools.pairwise"]
section
variable {w:World} {B:FM}
theorem cz1 {d:D} {a:Addr} (t:Rd prog w B d (.ref a)):B a≠none:=by
 cases d with
 | none=>cases t
 | bool b=>cases t
 | int i=>obtain ⟨_,_,e⟩:=t;cases e
 | str x=>obtain ⟨_,_,e⟩:=t;cases e
 | list l=>obtain ⟨a',o,vs,e,ho,_⟩:=t;cases e;rw [ho];simp
 | tuple l=>obtain ⟨a',o,vs,e,ho,_⟩:=t;cases e;rw [ho];simp
 | dict l=>obtain ⟨a',o,vs,e,ho,_⟩:=t;cases e;rw [ho];simp
end
section
variable {w:World} {A:Around} {s:Shared}
theorem ed2 {target:PySem.Expr} {I:Addr} {o:Obj} {n:String} {v:Value} {Q:Unit->Shared->Prop} {E:Value->Shared->Prop} (ho:s.heap.get? I=some o) (hc:o.cls = .type n) (hn:db6.contains n=false) (h:Q () s) :
  wpAny (model prog w) A (letOwnedTupleGo target (.ref I) v) Q E s:=by
 have key:∀ M,M=(do
   let (.ref r,.ref a):=(Value.ref I,v) | return
   let o <- load r
   match o.cls,o.data with
   | .type n,.fields vs=>
    if db6.contains n && vs[0]? == some (rawInt a) then
     rule "for.unpacks-the-owned-tuple"
     updateField r 0 .none
   | _,_=>pure ():Sem Unit)->wpAny (model prog w) A M Q E s:=λ M e=>by
  subst e
  cases v <;> first | exact wpAny_pure h | skip
  refine wpAny_bind (wpAny_load ho ?_)
  rw [hc]
  cases o.data <;> first | exact wpAny_pure h | skip
  show wpAny _ _ (if (db6.contains n && _)=true then _ else _) _ _ _
  rw [hn,Bool.false_and,if_neg Bool.false_ne_true]
  exact wpAny_pure h
 cases target with
 | Tuple | List=>exact key _ rfl
 | _=>exact wpAny_pure h
end
section
variable {w:World} {A:Around} {s0 s:Shared} {B0 B:FM} {target:PySem.Expr} {V:Addr->Prop}
theorem bd3.walk {its:List D} {fp:List Addr} {P:Nat->Value->Prop} {St:Nat->Heap->Prop} {o:Obj} {n:String} (W:Walks prog w A s.heap.objs.size fp [s.heap.objs.size] its.length P St)
  (g:Gr B0 s0.heap B s.heap) (m:k6 s0 s) (hc:o.cls = .type n) (hn:db6.contains n=false) (hf:o.isFreed=false) (hst:St 0 (s.heap.push o)) (hcls:∀ i h,St i h->∃ o,h.get? s.heap.objs.size=some o/\o.cls = .type n)
  (hfp:∀ i h,St i h->∀ b∈fp,ba7 h b) (hV:∀ b∈fp,b≠s.heap.objs.size->B b≠none\/V b) (hrd:∀ i v (h:Heap) B',P i v->B.le B'->j4 B' h->∃ d,its[i]?=some d/\f8 prog w h B' d v/\(bg3 target=true->Rd prog w B' d v)) :
  bd3 prog w A target V B0 s0 its (.ref s.heap.objs.size) { s with heap:=s.heap.push o }:=by
 have hn0:s.heap.get? s.heap.objs.size=none:=g8 (Nat.le_refl _)
 refine ⟨_,fp,_,_,_,St,B,rfl,KTurns.ofWalks W (λ i v s' Q E st hQ=>?_),hst,g.trans (Gr.heap g.keep λ a x e=>Heap.get?_push_of_some _ e),⟨m.gens,m.os,m.toks⟩,hfp,?_,λ b hb=>(Classical.em (b=s.heap.objs.size)).elim (λ e=>.inl (List.mem_singleton.mpr e)) (λ e=>.inr (hV b hb e)),hrd,λ i s' Q E st hQ=>W.self i s' Q E st hQ⟩
 ·obtain ⟨o',h1,h2⟩:=hcls i _ st
  exact ed2 h1 h2 hn hQ
 ·intro b hb
  rw [List.mem_singleton.mp hb]
  refine ⟨?_,t7 g.keep hn0⟩
  exact g.old.back hn0
theorem dr0 {l:List D} {v:Value} {E:Value->Shared->Prop} (hh:A.handled=none) (g:Gr B0 s0.heap B s.heap) (m:k6 s0 s) (t:f8 prog w s.heap B (.list l) v) (hv:∀ a,v = .ref a->B a≠none\/V a):wpAny (model prog w) A (pyIter v) (λ it s2=>bd3 prog w A target V B0 s0 l it s2) E s:=by
 obtain ⟨a,o,vs,rfl,ho,x,r⟩:=t
 have hlt:a < s.heap.objs.size:=Heap.lt_size ho
 have qf:=r.length
 refine wpAny_pyIter_list (x.isList ho) ?_
 have W:=Walks.list (prog:=prog) (w:=w) (A:=A) hh s.heap.objs.size a (Nat.ne_of_lt hlt) vs.toArray
 rw [show vs.toArray.size=l.length by simp [qf]] at W
 refine bd3.walk W g m (n:="list_iterator") rfl (by decide) rfl ⟨⟨_,Heap.get?_push_size _ rfl,rfl,rfl⟩,(x.isList ho).push _⟩ (λ i h st=>by obtain ⟨o,h1,h2,_⟩:=st.1;exact ⟨o,h1,h2⟩) ?_ ?_ ?_
 ·intro i h st b hb
  rcases List.mem_cons.mp hb with rfl | hb
  ·obtain ⟨o,e,_,hd⟩:=st.1;exact ⟨o,e,.fields hd⟩
  ·rw [List.mem_singleton.mp hb];obtain ⟨o,e,_,_,hd⟩:=st.2;exact ⟨o,e,.seq hd⟩
 ·intro b hb hne
  rcases List.mem_cons.mp hb with q | hb
  ·exact absurd q hne
  ·rw [List.mem_singleton.mp hb];exact hv _ rfl
 ·intro i v h B' hP hB hk
  have hv:vs[i]?=some v:=by simpa using hP
  have hi:i < l.length:=by rw [<- qf];exact (List.getElem?_eq_some_iff.mp hv).1
  have hd:=an2 r hv (List.getElem?_eq_getElem hi)
  exact ⟨l[i],List.getElem?_eq_getElem hi,(hd.mono hB).top hk,λ ξ=>hd.mono hB⟩
theorem dj1 {l:List D} {v:Value} {E:Value->Shared->Prop} (hh:A.handled=none) (g:Gr B0 s0.heap B s.heap) (m:k6 s0 s) (t:f8 prog w s.heap B (.tuple l) v) (hv:∀ a,v = .ref a->B a≠none\/V a):wpAny (model prog w) A (pyIter v) (λ it s2=>bd3 prog w A target V B0 s0 l it s2) E s:=by
 obtain ⟨a,o,vs,rfl,ho,x,r⟩:=t
 have hlt:a < s.heap.objs.size:=Heap.lt_size ho
 have qf:=r.length
 refine wpAny_pyIter_tuple (x.isTuple ho) ?_
 have W:=Walks.tuple (prog:=prog) (w:=w) (A:=A) hh s.heap.objs.size a (Nat.ne_of_lt hlt) vs.toArray
 rw [show vs.toArray.size=l.length by simp [qf]] at W
 refine bd3.walk W g m (n:="tuple_iterator") rfl (by decide) rfl ⟨⟨_,Heap.get?_push_size _ rfl,rfl,rfl⟩,(x.isTuple ho).push _⟩ (λ i h st=>by obtain ⟨o,h1,h2,_⟩:=st.1;exact ⟨o,h1,h2⟩) ?_ ?_ ?_
 ·intro i h st b hb
  rcases List.mem_cons.mp hb with rfl | hb
  ·obtain ⟨o,e,_,hd⟩:=st.1;exact ⟨o,e,.fields hd⟩
  ·rw [List.mem_singleton.mp hb];obtain ⟨o,e,_,_,hd⟩:=st.2;exact ⟨o,e,.seq hd⟩
 ·intro b hb hne
  rcases List.mem_cons.mp hb with q | hb
  ·exact absurd q hne
  ·rw [List.mem_singleton.mp hb];exact hv _ rfl
 ·intro i v h B' hP hB hk
  have hv:vs[i]?=some v:=by simpa using hP
  have hi:i < l.length:=by rw [<- qf];exact (List.getElem?_eq_some_iff.mp hv).1
  have hd:=an2 r hv (List.getElem?_eq_getElem hi)
  exact ⟨l[i],List.getElem?_eq_getElem hi,(hd.mono hB).top hk,λ ξ=>hd.mono hB⟩
theorem ef6 {x:Str} {v:Value} {E:Value->Shared->Prop} (hh:A.handled=none) (g:Gr B0 s0.heap B s.heap) (m:k6 s0 s) (t:f8 prog w s.heap B (.str x) v) :
  wpAny (model prog w) A (pyIter v) (λ it s2=>bd3 prog w A target V B0 s0 (x.cps.toList.map λ c=>.str ⟨#[c]⟩) it s2) E s:=by
 obtain ⟨u,_,rfl⟩:=t
 have rd:∀ i v (h:Heap) (B':FM),SignAt x i v->B.le B'->j4 B' h->∃ d,(x.cps.toList.map λ c=>PyData.str ⟨#[c]⟩)[i]?=some d/\f8 prog w h B' d v/\(bg3 target=true->Rd prog w B' d v):=by
  rintro i v h B' ⟨c,u,hc,rfl⟩ _ _
  refine ⟨.str ⟨#[c]⟩,?_,de6.mpr ⟨u,trivial,rfl⟩,λ ξ=>bj7.mpr ⟨u,trivial,rfl⟩⟩
  rw [List.getElem?_map,Array.getElem?_toList,hc];rfl
 cases ha:x.cps.all (· < 128)
 ·refine wpAny_pyIter_wide ha ?_
  have W:=Walks.strWide (prog:=prog) (w:=w) (A:=A) hh s.heap.objs.size x u
  rw [show x.cps.size=(x.cps.toList.map λ c=>PyData.str ⟨#[c]⟩).length by simp] at W
  exact bd3.walk W g m (n:="str_iterator") rfl (by decide) rfl ⟨_,Heap.get?_push_size _ rfl,rfl,rfl⟩ (λ i h st=>by obtain ⟨o,h1,h2,_⟩:=st;exact ⟨o,h1,h2⟩) (λ i h st b hb=>by rw [List.mem_singleton.mp hb];obtain ⟨o,e,_,hd⟩:=st;exact ⟨o,e,.fields hd⟩) (λ b hb hne=>absurd (List.mem_singleton.mp hb) hne) rd
 ·refine wpAny_pyIter_ascii ha ?_
  have W:=Walks.strAscii (prog:=prog) (w:=w) (A:=A) hh s.heap.objs.size x u
  rw [show x.cps.size=(x.cps.toList.map λ c=>PyData.str ⟨#[c]⟩).length by simp] at W
  exact bd3.walk W g m (n:="str_ascii_iterator") rfl (by decide) rfl ⟨_,Heap.get?_push_size _ rfl,rfl,rfl⟩ (λ i h st=>by obtain ⟨o,h1,h2,_⟩:=st;exact ⟨o,h1,h2⟩) (λ i h st b hb=>by rw [List.mem_singleton.mp hb];obtain ⟨o,e,_,hd⟩:=st;exact ⟨o,e,.fields hd⟩) (λ b hb hne=>absurd (List.mem_singleton.mp hb) hne) rd
end
end
section
open PySem.Calls PySem.SeqAt
section
variable {w:World} {qa:Heap} {mg mb:Str->Option Value} {k:Nat} {U:String->List D->Option D} {sc:Scope}
inductive el0 (ir:IR) (env:Env) (sc:Scope) (r:Rho) (h:Heap) (a:Addr):Prop
 | mk (x i m d:_) (h1:d8 sc x=some i) (h2:r.get i=some (m,d)) (h3:At env h x (.ref a)) (h4:(∀ j,ir.v=some j->i=j)) (h5:(ir.al=true\/∃ j,ir.v=some j))
variable (w qa k U) in
noncomputable def du1 (sc:Scope) (e:PySem.Expr) (ir:IR):Prop:=
 ∀ ⦃A E s env r B d⦄,Ok prog w qa k A env sc r B s->look U ir r=some d->wpAny (model prog w) A (PySem.eval e env) (λ v s'=>∃ B',Gr B s.heap B' s'.heap/\f8 prog w s'.heap B' d v/\k6 s s'/\∀ a,v = .ref a->B' a≠none\/el0 ir env sc r s.heap a) E s
theorem aa2 {x:Str} {i:Nat} {pos:Pos} (hs:d8 sc x=some i):du1 w qa k U sc (.Name x pos) (.var i):=λ A E s env r B d ok h=>by
 obtain ⟨⟨m,d'⟩,e,rfl⟩:=u9 h
 obtain ⟨v,a,t,f⟩:=ok.rd.vars x i _ _ hs e
 exact a.load ok.eok.kind (i9 hs) ⟨B,Gr.refl ok.keep,t,.refl s,λ b q=>.inr ⟨x,i,m,_,hs,e,q▸a,(λ j e=>Option.some.inj e),.inr ⟨_,rfl⟩⟩⟩
theorem j3.lv {e:PySem.Expr} {ir:IR} (h:j3 w qa k U sc e ir) (hv:ir.v=none):du1 w qa k U sc e ir:=λ A E s env r B d ok hd=>by
 refine wpAny_mono (h ok (cj3 hv hd)) (λ v s' q=>?_) λ ξ ξ e=>e
 obtain ⟨B',g,rr,m⟩:=q
 exact ⟨B',g,rr.top g.keep,m,λ a q=>.inl (by subst q;exact cz1 rr)⟩
variable (w qa k U) in
noncomputable def ad5 (sc:Scope) (e:PySem.Expr) (ir:IR) (target:PySem.Expr):Prop:=
 ∀ ⦃A E s env r B its⦄,Ok prog w qa k A env sc r B s->e9 U ir r=some its->
  wpAny (model prog w) A (PySem.eval e env) (λ x s1=>wpAny (model prog w) A (pyIter x) (λ it s2=>bd3 prog w A target (el0 ir env sc r s.heap) B s its it s2) E s1) E s
theorem bz3 {I:Addr} {a b c:Int} {h:Heap} (st:IsRangeIter h I a b c):∃ o,h.get? I=some o/\o.cls = .type "range_iterator":=⟨_,st,rfl⟩
theorem dl7 {V:Addr->Prop} {A:Around} {E:Value->Shared->Prop} {s0 s:Shared} {B0 B:FM} {target:PySem.Expr} {ds its:List D} {vs:List Value} (hh:A.handled=none) (g:Gr B0 s0.heap B s.heap) (m:k6 s0 s)
  (r:b8 (λ d v=>f8 prog w s.heap B d v) ds vs) (h:cf4 ds=some its) :
  wpAny (model prog w) A (call (.type "range") vs) (λ x s1=>wpAny (model prog w) A (pyIter x) (λ it s2=>bd3 prog w A target V B0 s0 its it s2) E s1) E s:=by
 have key:∀ (a b c:Int) (n:Nat) (t u v:Tok) (tk:Nat),Builtin.Range.small a b c=true->Builtin.Range.rangeSize a b c=(n:Int)->s.toks<=tk->its=(List.range n).map (λ (k:Nat)=>PyData.int (a+(k:Int) * c))->
   wpAny (model prog w) A (pyIter (.ref s.heap.objs.size)) (λ it s2=>bd3 prog w A target V B0 s0 its it s2) E { s with heap:=s.heap.push { cls:=.type "range",data:=.fields #[.int a t,.int b u,.int c v] },toks:=tk }:=by
  intro a b c n t u v tk hsm hn htk qh
  have g1:Gr B0 s0.heap B (s.heap.push { cls:=.type "range",data:=.fields #[.int a t,.int b u,.int c v] }):=g.trans (Gr.heap g.keep λ a x e=>Heap.get?_push_of_some _ e)
  refine wpAny_pyIter_range (a:=a) (b:=b) (c:=c) (t:=t) (u:=u) (v:=v) (IsRange.new s.heap a b c t u v) hsm ?_
  have hl:n=its.length:=by rw [qh];simp
  have W:=(Walks.range (prog:=prog) (w:=w) (A:=A) hh (s.heap.push { cls:=.type "range",data:=.fields #[.int a t,.int b u,.int c v] }).objs.size a c n).bound
  rw [hn]
  rw [hl] at W
  refine bd3.walk (s:={ s with heap:=s.heap.push { cls:=.type "range",data:=.fields #[.int a t,.int b u,.int c v] },toks:=tk }) W g1 ⟨m.gens,m.os,Nat.le_trans m.toks htk⟩ (n:="range_iterator") rfl (by decide) rfl ?_ (λ i h st=>bz3 st) (λ i h st b hb=>by rw [List.mem_singleton.mp hb];exact ⟨_,st,.fields rfl⟩) (λ b hb hne=>absurd (List.mem_singleton.mp hb) hne) ?_
  ·show IsRangeIter _ _ _ _ _
   rw [<- hl]
   have hz:∀ (h:Heap) (o:Obj),o.isFreed=false->(h.push o).get? h.objs.size=some o:=λ h o q=>Heap.get?_push_size h q
   have:=hz (s.heap.push { cls:=.type "range",data:=.fields #[.int a t,.int b u,.int c v] }) { cls:=.type "range_iterator",data:=.fields #[rawInt a,rawInt n,rawInt c] } rfl
   simpa [IsRangeIter] using this
  ·rintro i v h B' ⟨hi,t',rfl⟩ _ _
   refine ⟨.int (a+i * c),?_,ei6.mpr ⟨t',trivial,rfl⟩,λ ξ=>ax1.mpr ⟨t',trivial,rfl⟩⟩
   rw [<- hl] at hi
   rw [qh,List.getElem?_map,List.getElem?_range hi];rfl
 have rng:∀ {a b:Int},inR a=true->inR b=true->Builtin.Range.small a b 1=true/\Builtin.Range.rangeSize a b 1=(((b - a).toNat:Nat):Int):=by
  intro a b h1 h2
  have e1:=of_decide_eq_true (b9 h1).1
  have e2:=of_decide_eq_true (b9 h1).2
  have e3:=of_decide_eq_true (b9 h2).1
  have e4:=of_decide_eq_true (b9 h2).2
  exact ⟨small_one (by lia) (by lia) (by lia) (by lia),by rw [rangeSize_one];split <;> lia⟩
 obtain ⟨d,hd,q⟩:=a6 h
 obtain ⟨n,hn,q⟩:=a6 q
 obtain rfl:=ak1 hd
 obtain rfl:=am8 hn
 obtain ⟨hc,q⟩:=i4 q
 obtain ⟨v,rfl,t⟩:=bj3 r
 obtain ⟨t,_,rfl⟩:=t
 obtain ⟨z1,z2⟩:=rng (a:=0) rfl hc
 rw [Int.sub_zero] at z2
 exact call_range_1 (key 0 n 1 n.toNat _ _ _ _ z1 z2 (Nat.le_add_right _ 2) ((Option.some.inj q).symm.trans (List.map_congr_left λ k ξ=>by rw [Int.mul_one,Int.zero_add])))
theorem y7 {x:Str} {es:List PySem.Expr} {qd:List IR} {p pos:Pos} {target:PySem.Expr} (G:Glb qa mg mb) (hx:i5 sc x=true) (hf:x="range") (h:b8 (ae1 w qa k U sc) es qd) (hn:es.all j9=true) :
  ad5 w qa k U sc (.Call (.Name x p) es [] pos) (.range qd) target:=λ A E s env r B its ok hd=>by
 obtain ⟨ds,h1,hd⟩:=a6 hd
 subst hf
 refine Call_ (w9 G ok hx (G.b' (v:=(.type "range")) ⋯) ?_)
 cases es with
 | nil=>
  cases h
  cases (h1)
  cases (hd)
 | cons e rest=>
  have hn':=b9 hn
  exact callWith_type1 (cu5 h hn ok h1 λ vs s1 B1 g1 m1 r1 ok1=>dl7 ok.rm.handled g1 m1 r1 hd) (d6 hn'.1) (au4 hn'.2)
theorem bg9:∀ (l:List D) (n i:Nat) (d:D),l[i]?=some d->(ac2 n l)[i]?=some (.tuple [.int ((n+i:Nat):Int),d])
 | [],_,_,_,h=>by simp at h
 | x :: l,n,0,d,h=>by cases (Option.some.inj h);rfl
 | x :: l,n,i+1,d,h=>by
  have:=bg9 l (n+1) i d h
  rw [show n+(i+1)=n+1+i by lia]
  exact this
theorem aw2:∀ (l:List D) (n:Nat),(ac2 n l).length=l.length
 | [],_=>rfl
 | x :: l,n=>congrArg (·+1) (aw2 l (n+1))
theorem bd4 {x:Str} {e:PySem.Expr} {a:IR} {p pos:Pos} {elts:List PySem.Expr} {kd:Nat} {tp:Pos} (G:Glb qa mg mb) (hx:i5 sc x=true) (hf:x="enumerate") (h:du1 w qa k U sc e a) (hn:j9 e=true) :
  ad5 w qa k U sc (.Call (.Name x p) [e] [] pos) (.enum a) (.Tuple elts kd tp):=λ A E s env r B its ok hd=>by
 obtain ⟨d,h1,hd⟩:=a6 hd
 obtain ⟨l,hl,hd⟩:=a6 hd
 obtain rfl:=r8 hl
 cases hd
 subst hf
 refine Call_ (w9 G ok hx (G.b' (v:=(.type "enumerate")) ⋯) ?_)
 refine callWith_type1 ?_ (d6 hn) rfl
 rw [d6 hn,l0]
 refine spliced_cons (wpAny_mono (h ok h1) (λ v s1 q=>spliced_nil ?_) λ ξ ξ e=>e)
 obtain ⟨B1,g1,t1,m1,hV⟩:=q
 obtain ⟨ax,o,vs,rfl,ho,xs,rr⟩:=t1
 have hlt:ax < s1.heap.objs.size:=Heap.lt_size ho
 have hh:=ok.rm.handled
 refine call_enumerate_list (xs.isList ho) λ h' hE hI hsz hk=>?_
 refine wpAny_pyIter_enum hE ?_
 have hl:vs.toArray.size=(ac2 0 l).length:=by rw [aw2];simp [rr.length]
 have T:=KTurns.ofWalksU (elts:=elts) (k:=kd) (pos:=tp) (WalksT.enumerate (prog:=prog) (w:=w) (A:=A) hh (s1.heap.objs.size+1) s1.heap.objs.size ax (Nat.succ_ne_self _) (Nat.ne_of_lt (Nat.lt_succ_of_lt hlt)) (Nat.ne_of_lt hlt) vs.toArray).toU
 have W:=WalksT.enumerate (prog:=prog) (w:=w) (A:=A) hh (s1.heap.objs.size+1) s1.heap.objs.size ax (Nat.succ_ne_self _) (Nat.ne_of_lt (Nat.lt_succ_of_lt hlt)) (Nat.ne_of_lt hlt) vs.toArray
 rw [hl] at T
 refine ⟨_,_,_,_,_,_,B1,rfl,T,⟨⟨.none,hE⟩,hI,(xs.isList ho).at λ o e=>hk _ o e⟩,g1.trans (Gr.heap g1.keep hk),⟨m1.gens,m1.os,m1.toks⟩,?_,?_,λ b hb=>?_,?_,λ i s' Q E st hQ=>W.self i s' Q E st hQ⟩
 ·rintro i h ⟨⟨old,he⟩,hi,hl⟩ b hb
  have hb':b=s1.heap.objs.size+1\/b=s1.heap.objs.size\/b=ax:=by simpa using hb
  rcases hb' with rfl | rfl | rfl
  ·exact ⟨_,he,.fields rfl⟩
  ·obtain ⟨o,h1,_,h2⟩:=hi;exact ⟨o,h1,.fields h2⟩
  ·obtain ⟨o,h1,_,_,h2⟩:=hl;exact ⟨o,h1,.seq h2⟩
 ·intro b hb
  have hb':b=s1.heap.objs.size+1\/b=s1.heap.objs.size:=by simpa using hb
  have hn1:s1.heap.get? b=none:=by rcases hb' with rfl | rfl;exact g8 (Nat.le_succ _);exact g8 (Nat.le_refl _)
  refine ⟨?_,t7 g1.keep hn1⟩
  exact g1.old.back hn1
 ·have hb':b=s1.heap.objs.size+1\/b=s1.heap.objs.size\/b=ax:=by simpa using hb
  rcases hb' with rfl | rfl | rfl
  ·exact .inl (by simp)
  ·exact .inl (by simp)
  ·refine .inr ((hV _ rfl).imp id λ ⟨x,i,m,d,q1,q2,q4,_,_⟩=>⟨x,i,m,d,q1,q2,q4,nofun,.inl rfl⟩)
 ·rintro i v h B' ⟨T,vals,rfl,⟨t,x,hx,rfl⟩,hT⟩ hB hkp
  have hx':vs[i]?=some x:=by simpa using hx
  have hi:i < l.length:=by rw [<- rr.length];exact (List.getElem?_eq_some_iff.mp hx').1
  have hd:=an2 rr hx' (List.getElem?_eq_getElem hi)
  refine ⟨_,bg9 l 0 i _ (List.getElem?_eq_getElem hi),?_,λ q=>(by cases q)⟩
  obtain ⟨o,h1,h2,n,h3⟩:=hT
  refine cb9.mpr ⟨T,o,[.int i t,x],rfl,h1,⟨h2,n,h3⟩,RdL.cons (ax1.mpr ⟨t,trivial,by simp⟩) (RdL.cons (hd.mono hB) RdL.nil)⟩
theorem dc1 {B:FM}:∀ {kvs:List (D×D)} {ps:List (Key×Value)} {i:Nat} {x:Key} {v:Value},RdK prog w B kvs ps->ps[i]?=some (x,v)->(kvs.map (·.1))[i]?=some (.str x)
 | [],_,i,_,_,h,e=>by
  cases (h:_=_)
  exact nomatch e
 | d :: kvs,_,i,x,v,h,e=>by
  obtain ⟨k',v',r',rfl,h0,h1,h2⟩:=h
  cases i with
  | zero=>
   cases (e)
   exact congrArg some (l9 h0)
  | succ i=>exact dc1 (ps:=r') (i:=i) h2 (e:r'[i]?=some (x,v))
theorem dv9 {V:Addr->Prop} {A:Around} {E:Value->Shared->Prop} {s0 s:Shared} {B0 B:FM} {target:PySem.Expr} {kvs:List (D×D)} {v:Value} (hh:A.handled=none) (g:Gr B0 s0.heap B s.heap) (m:k6 s0 s) (t:f8 prog w s.heap B (.dict kvs) v) (hv:∀ a,v = .ref a->B a≠none\/V a) :
  wpAny (model prog w) A (pyIter v) (λ it s2=>bd3 prog w A target V B0 s0 (kvs.map (·.1)) it s2) E s:=by
 obtain ⟨a,o,ps,rfl,ho,⟨x,hs⟩,r⟩:=t
 have hlt:a < s.heap.objs.size:=Heap.lt_size ho
 obtain ⟨ep,da⟩:=Heap.DictOf.dictAt (w5 ho x)
 refine wpAny_pyIter_dict (beq_eq_false_iff_ne.mpr hs) da ?_
 have W:=Walks.dictKeys (prog:=prog) (w:=w) (A:=A) (knd:=kk prog w) hh s.heap.objs.size a (Nat.ne_of_lt hlt) ps ep
 rw [show ps.length=(kvs.map (·.1)).length by rw [<- bb0 r,List.length_map]] at W⊢
 refine bd3.walk W g m (n:="dict_keyiterator") rfl (by decide) rfl ⟨⟨_,Heap.get?_push_size _ rfl,rfl,rfl⟩,da.push _⟩ (λ i h st=>by obtain ⟨o,h1,h2,_⟩:=st.1;exact ⟨o,h1,h2⟩) ?_ ?_ ?_
 ·intro i h st b hb
  rcases List.mem_cons.mp hb with rfl | hb
  ·obtain ⟨o,e,_,hd⟩:=st.1;exact ⟨o,e,.fields hd⟩
  ·rw [List.mem_singleton.mp hb];obtain ⟨o,es,e,hx,_⟩:=st.2;exact ⟨o,e,.inr hx.1⟩
 ·intro b hb hne
  rcases List.mem_cons.mp hb with q | hb
  ·exact absurd q hne
  ·rw [List.mem_singleton.mp hb];exact hv _ rfl
 ·rintro i v h B' ⟨k,y,hP,hk⟩ hB hkp
  obtain ⟨t,rfl⟩:=Value.isStrOf_shape hk
  exact ⟨.str k,dc1 r hP,de6.mpr ⟨t,trivial,rfl⟩,λ ξ=>bj7.mpr ⟨t,trivial,rfl⟩⟩
theorem i7 {e:PySem.Expr} {a:IR} {target:PySem.Expr} (hp:a.sr=false) (h:du1 w qa k U sc e a):ad5 w qa k U sc e a target:=λ A E s env r B its ok hd=>by
 unfold e9 at hd
 rw [hp] at hd
 obtain ⟨d,h1,h2⟩:=a6 hd
 refine wpAny_mono (h ok h1) (λ v s1 q=>?_) λ ξ ξ e=>e
 obtain ⟨B1,g1,t1,m1,hV⟩:=q
 have hh:=ok.rm.handled
 cases d with
 | str x=>cases h2;exact ef6 hh g1 m1 t1
 | list x=>cases h2;exact dr0 hh g1 m1 t1 hV
 | tuple x=>cases h2;exact dj1 hh g1 m1 t1 hV
 | dict x=>obtain ⟨_,h2⟩:=i4 h2;cases h2;exact dv9 hh g1 m1 t1 hV
 | _=>cases h2
end
end
section
open PySem.Calls PySem.SeqAt
theorem ac5:∀ (names:List (Str×NameKind)) (n:Nat) (acc:List (Str×Addr)),cellsFrom n names acc=cellsFrom n names [] ++ acc
 | [],_,acc=>rfl
 | (x,kd) :: r,n,acc=>by
  show (if (kd == .cell)=true then cellsFrom (n+1) r ((x,n) :: acc) else cellsFrom n r acc)=(if (kd == .cell)=true then cellsFrom (n+1) r [(x,n)] else cellsFrom n r []) ++ acc
  split
  ·rw [ac5 r (n+1) ((x,n) :: acc),ac5 r (n+1) [(x,n)],List.append_assoc];rfl
  ·exact ac5 r n acc
theorem bc7 {α:Type} [BEq α] [LawfulBEq α] {β:Type} {x:α}:∀ {l1 l2:List (α×β)},(l1 ++ l2).lookup x=(l1.lookup x).or (l2.lookup x)
 | [],l2=>by simp
 | (y,b) :: r,l2=>by
  rw [List.cons_append,List.lookup_cons,List.lookup_cons]
  cases x == y
  ·exact bc7
  ·rfl
theorem ac7:∀ {names:List (Str×NameKind)} {n:Nat} {x:Str},(∃ c,(x,c)∈cellsFrom n names [])↔(x,.cell)∈names
 | [],n,x=>⟨λ ⟨_,h⟩=>(nomatch h),λ h=>(nomatch h)⟩
 | (y,kd) :: r,n,x=>by
  show (∃ c,(x,c)∈(if (kd == .cell)=true then cellsFrom (n+1) r [(y,n)] else cellsFrom n r []))↔_
  split
  ·rename_i hk
   have hk':kd = .cell:=by simpa using hk
   subst hk'
   rw [ac5]
   constructor
   ·rintro ⟨c,hc⟩
    rcases List.mem_append.mp hc with h | h
    ·exact .tail _ (ac7.mp ⟨c,h⟩)
    ·have:=List.mem_singleton.mp h
     cases this
     exact .head _
   ·intro h
    rcases List.mem_cons.mp h with e | h
    ·cases e;exact ⟨n,by simp⟩
    ·obtain ⟨c,hc⟩:=(ac7 (n:=n+1)).mpr h
     exact ⟨c,List.mem_append_left _ hc⟩
  ·rename_i hk
   rw [ac7]
   constructor
   ·exact λ h=>.tail _ h
   ·intro h
    rcases List.mem_cons.mp h with e | h
    ·cases e;simp at hk
    ·exact h
theorem ag3 {α β:Type} [BEq α] [LawfulBEq α] {x:α} {b:β}:∀ {l:List (α×β)},(x,b)∈l->∃ c,l.lookup x=some c/\(x,c)∈l
 | (y,d) :: r,h=>by
  rw [List.lookup_cons]
  by_cases e:x=y
  ·subst e;simp
  ·have:(x == y)=false:=by simpa using e
   rw [this]
   rcases List.mem_cons.mp h with q | h
   ·cases q;exact absurd rfl e
   ·obtain ⟨c,h1,h2⟩:=ag3 h
    exact ⟨c,h1,.tail _ h2⟩
theorem aj6 {α β:Type} [BEq α] [LawfulBEq α] {x:α} {b:β}:∀ {l:List (α×β)},l.lookup x=some b->(x,b)∈l
 | (y,d) :: r,h=>by
  rw [List.lookup_cons] at h
  split at h
  ·rename_i e
   cases h
   rw [eq_of_beq e];exact .head _
  ·exact .tail _ (aj6 h)
theorem l7 {α β:Type} [BEq α] [LawfulBEq α] {x:α} {b:β}:∀ {l:List (α×β)},(l.map (·.1)).Nodup->(x,b)∈l->l.lookup x=some b
 | (y,d) :: r,hn,h=>by
  rw [List.lookup_cons]
  simp only [List.map_cons,List.nodup_cons] at hn
  rcases List.mem_cons.mp h with q | hm
  ·cases q;simp
  ·have:(x == y)=false:=by
    rw [beq_eq_false_iff_ne]
    rintro rfl
    exact hn.1 (List.mem_map.mpr ⟨(x,b),hm,rfl⟩)
   rw [this]
   exact l7 hn.2 hm
structure bf7 (h:Heap) (lo:Nat) (names:List (Str×NameKind)) (cl cells:List (Str×Addr)):Prop where
 own:∀ x,names.lookup x=some .cell->∃ c,cells.lookup x=some c/\lo<=c/\h.IsCell c none
 sep:∀ x y c c',x≠y->names.lookup x=some .cell->names.lookup y=some .cell->cells.lookup x=some c->cells.lookup y=some c'->c≠c'
 old:∀ x,names.lookup x≠some .cell->cells.lookup x=cl.lookup x
theorem bl1 {names:List (Str×NameKind)} {h:Heap} {cl:List (Str×Addr)} (hn:(names.map (·.1)).Nodup):bf7 (pushCells h names) h.objs.size names cl (cellsFrom h.objs.size names cl):=by
 have ok:=cellsFrom_ok names h h.objs.size [] ⟨λ ξ ξ hm=>(nomatch hm),List.Pairwise.nil⟩ (Nat.le_refl _)
 have get:∀ x,names.lookup x=some .cell->∃ c,(cellsFrom h.objs.size names []).lookup x=some c/\(x,c)∈cellsFrom h.objs.size names []:=λ x hx=>by
  obtain ⟨c,hc⟩:=(ac7 (n:=h.objs.size)).mpr (aj6 hx)
  exact ag3 hc
 have full:∀ x,names.lookup x=some .cell->(cellsFrom h.objs.size names cl).lookup x=(cellsFrom h.objs.size names []).lookup x:=λ x hx=>by
  obtain ⟨c,h1,_⟩:=get x hx
  rw [ac5,bc7,h1];rfl
 refine ⟨λ x hx=>?_,λ x y c c' hxy hx hy h1 h2 e=>?_,λ x hx=>?_⟩
 ·obtain ⟨c,h1,h2⟩:=get x hx
  exact ⟨c,by rw [full x hx];exact h1,(ok.empty x c h2).2,(ok.empty x c h2).1⟩
 ·rw [full x hx] at h1
  rw [full y hy] at h2
  subst e
  exact hxy (name_of_addr ok.apart (mem_of_lookup h1) (mem_of_lookup h2))
 ·rw [ac5,bc7]
  cases e:(cellsFrom h.objs.size names []).lookup x with
  | none=>rfl
  | some c=>exact absurd (l7 hn (ac7.mp ⟨c,aj6 e⟩)) hx
section
variable {w:World} {A:Around} {E:Value->Shared->Prop} {s:Shared}
theorem cn2 {scope:Scope} {globals:Addr} {cl:List (Str×Addr)} {qual:Str} {outer:Env} {Q:Env->Shared->Prop} (hn:(scope.names.map (·.1)).Nodup)
  (h:∀ h' cells,bf7 h' s.heap.objs.size scope.names cl cells->h'.Ns s.heap.objs.size (λ ξ=>none)->(∀ b o,s.heap.get? b=some o->h'.get? b=some o)->s.heap.objs.size < h'.objs.size->
   (∀ x,scope.names.lookup x=some .cell->cells.lookup x≠some s.heap.objs.size)->
   Q { scope,locals:=s.heap.objs.size,globals,cells,qual,func:=none,code:=outer.code,frame:=outer.frame,builtins:=outer.builtins } { s with heap:=h' }) :
  wpAny (model prog w) A (newFunctionEnv scope globals cl [] qual none .none (some outer)) Q E s:=by
 simp only [newFunctionEnv,Option.isSome_some,if_true]
 refine wpAny_bind (wpAny_alloc ?_)
 refine wpAny_bind (wpAny_layCells _ (λ name kind cells=>by cases hkc:kind == NameKind.cell <;> simp [hkc]) _ _ _ _ ?_)
 rw [List.forIn_nil]
 refine wpAny_bind (wpAny_pure (wpAny_pure ?_))
 have hsz:(s.heap.push { cls:=.type "dict",data:=.dict #[] }).objs.size=s.heap.objs.size+1:=Heap.size_push ..
 have c0:=bl1 (h:=s.heap.push { cls:=.type "dict",data:=.dict #[] }) (cl:=cl) hn
 have old:∀ b o,s.heap.get? b=some o->(pushCells (s.heap.push { cls:=.type "dict",data:=.dict #[] }) scope.names).get? b=some o:=λ b o e=>pushCells_keeps _ _ b o (Heap.get?_push_of_some _ e)
 have ns:=(Heap.Ns.new s.heap (.type "dict")).keeps (pushCells_keeps scope.names (s.heap.push { cls:=.type "dict",data:=.dict #[] }))
 refine h _ _ ⟨λ x hx=>?_,c0.sep,c0.old⟩ ns old ns.lt λ x hx e=>?_
 ·obtain ⟨c,q1,q2,q3⟩:=c0.own x hx
  exact ⟨c,q1,by rw [hsz] at q2;exact Nat.le_of_lt ‹_›,q3⟩
 ·obtain ⟨c,q1,q2,q3⟩:=c0.own x hx
  have e':some c=some s.heap.objs.size:=q1.symm.trans e
  cases e'
  rw [hsz] at q2
  exact Nat.lt_irrefl _ q2
noncomputable def cz8 (env:Env):List (Str×NameKind)->List (Str×Addr)->List (Str×Addr)
 | [],cs=>cs
 | (x,kd) :: r,cs=>cz8 env r (if kd == .free then (x,(env.cells.lookup x).getD 0) :: cs else cs)
theorem bx3 {scope:Scope} {env:Env} (h:∀ x,(x,.free)∈scope.names->∃ c,env.cells.lookup x=some c):closureFor scope env=pure (cz8 env scope.names []):=by
 have:∀ (names:List (Str×NameKind)) (cs:List (Str×Addr)),(∀ x,(x,.free)∈names->∃ c,env.cells.lookup x=some c)->
   (forIn names cs λ (p:Str×NameKind) (r:List (Str×Addr))=>(if p.2 == .free then (do let c <- cellOf env p.1;pure (ForInStep.yield ((p.1,c) :: r))) else pure (ForInStep.yield r):Sem _))=pure (cz8 env names cs):=by
  intro names
  induction names with
  | nil=>intro cs _;rfl
  | cons p r ih=>
   intro cs hx
   obtain ⟨x,kd⟩:=p
   have ih':=λ cs=>ih cs λ y hy=>hx y (.tail _ hy)
   rw [List.forIn_cons]
   show _=pure (cz8 env r (if (kd == .free)=true then (x,(env.cells.lookup x).getD 0) :: cs else cs))
   by_cases hk:(kd == .free)=true
   ·have hk':kd = .free:=by simpa using hk
    subst hk'
    obtain ⟨c,hc⟩:=hx x (.head _)
    simp only [hk,if_true,cellOf,hc,pure_bind,Option.getD_some]
    exact ih' _
   ·have hk':(kd == .free)=false:=by simpa using hk
    simp only [hk',Bool.false_eq_true,if_false,pure_bind]
    exact ih' _
 unfold closureFor
 have:=this scope.names [] h
 simp only [bind_pure]
 refine Eq.trans ?_ this
 congr 1
theorem ay0 {env:Env} {x:Str}:∀ {names:List (Str×NameKind)} {cs:List (Str×Addr)},(names.map (·.1)).Nodup->(cz8 env names cs).lookup x=if (x,NameKind.free)∈names then some ((env.cells.lookup x).getD 0) else cs.lookup x
 | [],cs,_=>(if_neg (by exact nofun)).symm
 | (y,kd) :: r,cs,hn=>by
  simp only [List.map_cons,List.nodup_cons] at hn
  show (cz8 env r (if (kd == .free)=true then (y,(env.cells.lookup y).getD 0) :: cs else cs)).lookup x=_
  rw [ay0 hn.2]
  by_cases hr:(x,NameKind.free)∈r
  ·rw [if_pos hr,if_pos (.tail _ hr)]
  ·rw [if_neg hr]
   by_cases hk:kd = .free
   ·subst hk
    by_cases e:x=y
    ·subst e;simp
    ·have:(x == y)=false:=by simpa using e
     simp [List.lookup_cons,this,hr,e]
   ·have h2:(kd == NameKind.free)=false:=by simpa using hk
    rw [h2]
    have:¬ (x,NameKind.free)∈(y,kd) :: r:=by
     intro h
     rcases List.mem_cons.mp h with q | h
     ·cases q;exact hk rfl
     ·exact hr h
    rw [if_neg this];rfl
end
end
section
open PySem.Calls PySem.SeqAt
section
variable {M:Model} {A:Around} {E:Value->Shared->Prop} {s:Shared}
theorem dk3 {a:Addr} {m} {name:Str} {v:Value} {Q:Unit->Shared->Prop} (hn:s.heap.Ns a m)
  (h:∀ h',h'.Ns a (λ x=>if x=name then some v else m x)->Heap.SameBut a s.heap h'->(∀ o,s.heap.get? a=some o->∀ o',h'.get? a=some o'->o'.cls=o.cls)->Q () { s with heap:=h',toks:=s.toks+1 }) :
  wpAny M A (nsSet a name v) Q E s:=λ Γ p hΓ=>by
 have h1:=Sem.wp_nsSet M Γ (λ e ξ s'=>E e s') p s hn name v (λ ξ ξ s'=>s'.heap.Ns a (λ x=>if x=name then some v else m x)/\Heap.SameBut a s.heap s'.heap) (λ h' q1 q2=>⟨q1,q2⟩)
 obtain ⟨o,es,ep,ho,hd,hk,hm⟩:=id hn
 simp only [nsSet,strHash,Sem.wp_bind',Sem.wp_cmd_ask,Sem.wp_pure',Sem.wp_cmd_mkText] at h1⊢
 rw [Sem.wp_loadPart_of M Γ _ p { s with toks:=s.toks+1 } (o:=o) _ ho] at h1⊢
 have hany:es.any (·.refKey)=false:=by
  rw [Array.any_eq_false'];intro e he;obtain ⟨n,t,q⟩:=hk e he;simp [DictEntry.refKey,q]
 simp only [hd,aRefKeyMayBeTheName_eq,aRefKeyMayBeTheNameByArray,hany,Bool.and_false,Bool.false_eq_true,if_false,Sem.wp_cmd_updatePart] at h1⊢
 refine ⟨h1.1,h _ h1.2.1 h1.2.2 λ o1 e1 o2 e2=>?_⟩
 rw [ho] at e1;cases e1
 have key:∀ (h:Int) (kv:Value),(Obj.putName name h kv v o).cls=o.cls/\(Obj.putName name h kv v o).isFreed=false:=λ h kv=>by
  obtain ⟨c,d,dt,sl⟩:=o
  simp only at hd
  subst hd
  simp only [Obj.putName_eq,Obj.putNameByArray]
  cases hi:es.findIdx? (·.key.isStr name) <;> exact ⟨rfl,rfl⟩
 rw [Heap.get?_update_self _ ho (key _ _).2] at e2
 cases e2
 exact (key _ _).1
theorem cu9 {env:Env} {name:Str} {m} {v:Value} {Q:Unit->Shared->Prop} (hl:env.kindOf name=some .local) (hn:s.heap.Ns env.locals m)
  (h:∀ h',h'.Ns env.locals (λ x=>if x=name then some v else m x)->Heap.SameBut env.locals s.heap h'->(∀ o,s.heap.get? env.locals=some o->∀ o',h'.get? env.locals=some o'->o'.cls=o.cls)->Q () { s with heap:=h',toks:=s.toks+1 })
  (hp:(env.scope.kind == .class || (env.scope.kind == .module && env.locals != env.globals))=false):wpAny M A (storeName env name v) Q E s:=by
 rw [storeName_local hl hp];exact dk3 hn h
end
theorem bk2 {h:Heap} {a:Addr} {m m':Str->Option Value} (x:h.Ns a m) (y:h.Ns a m'):m=m':=by
 obtain ⟨o,es,ep,ho,hd,_,hf⟩:=x
 obtain ⟨o',es',ep',ho',hd',_,hf'⟩:=y
 rw [ho] at ho';cases ho'
 rw [hd] at hd';cases hd'
 funext n;rw [<- hf n,hf' n]
theorem ca5 {h:Heap} {c:Addr} {v v':Option Value} (x:h.IsCell c v) (y:h.IsCell c v'):v=v':=by
 obtain ⟨o,ho,hd⟩:=x
 obtain ⟨o',ho',hd'⟩:=y
 rw [ho] at ho';cases ho'
 rw [hd] at hd';cases hd';rfl
theorem ap0 {h:Heap} {a c:Addr} {m:Str->Option Value} {v:Option Value} (x:h.Ns a m) (y:h.IsCell c v):a≠c:=by
 rintro rfl
 obtain ⟨o,es,ep,ho,hd,_⟩:=x
 obtain ⟨o',ho',hd'⟩:=y
 rw [ho] at ho';cases ho'
 rw [hd] at hd';cases hd'
theorem At.unique {env:Env} {h:Heap} {x:Str} {v v':Value} (a:At env h x v) (b:At env h x v'):v=v':=by
 cases a with
 | loc m e hn hv=>cases b with
  | loc m' e' hn' hv'=>rw [bk2 hn hn'] at hv;rw [hv] at hv';exact Option.some.inj hv'
  | cell c e' hc hv'=>rw [e] at e';rcases e' with q | q <;> cases q
 | cell c e hc hv=>cases b with
  | loc m' e' hn' hv'=>rw [e'] at e;rcases e with q | q <;> cases q
  | cell c' e' hc' hv'=>rw [hc] at hc';cases hc';exact Option.some.inj (ca5 hv hv')
noncomputable def isOwn (env:Env) (sc:Scope) (a:Addr):Prop:=a=env.locals\/∃ x,sc.names.lookup x=some .cell/\env.cells.lookup x=some a
structure Fmz (env:Env) (sc:Scope) (h:Heap):Prop where
 ns:∃ m,h.Ns env.locals m
 cell:∀ x,sc.names.lookup x=some .cell->env.kindOf x=some .cell/\∃ c v,env.cells.lookup x=some c/\h.IsCell c v
 sep:∀ x y c c',x≠y->sc.names.lookup x=some .cell->env.cells.lookup x=some c->env.cells.lookup y=some c'->c≠c'
 cellE:∀ x c,env.cells.lookup x=some c->∃ v,h.IsCell c v
 cls:env.frame=some env.locals->∀ o,h.get? env.locals=some o->o.cls≠.type "dict"
 frE:∀ f,env.frame=some f->h.get? f≠none
section
variable (prog:Program) (w:World)
inductive ev3 (h0:Heap) (B:FM) (h:Heap) (v:Value):Prop
 | mk (a:Addr) (e:v = .ref a) (e1:h0.get? a=none) (e2:B a=none) (e3:v8 h a):ev3 h0 B h v
inductive et8 (prog:Program) (w:World) (h0:Heap) (env:Env) (sc:Scope) (B:FM) (Y:Addr->Prop) (h:Heap) (x:Str) (m:aa3) (d:D):Prop
 | mk (v:Value) (a:At env h x v) (t:f8 prog w h B d v) (f:m = .fr->Rd prog w B d v) (n:∀ a,isOwn env sc a\/Y a->v≠.ref a) (o:m.ownish=true->ev3 h0 B h v):et8 prog w h0 env sc B Y h x m d
structure Sim (h0:Heap) (B0:FM) (env:Env) (sc:Scope) (r:Rho) (B:FM) (Y:Addr->Prop) (h:Heap):Prop where
 gr:Gr B0 h0 B h
 fm:Fmz env sc h
 own0:∀ a,isOwn env sc a->h0.get? a=none/\B a=none
 y0:∀ a,Y a->h0.get? a=none/\B a=none/\h.get? a≠none
 yown:∀ a,isOwn env sc a->¬ Y a
 ycell:∀ x c,env.cells.lookup x=some c->¬ Y c
 yfr:∀ f,env.frame=some f->¬ Y f
 vars:∀ x i m d,d8 sc x=some i->r.get i=some (m,d)->
  et8 prog w h0 env sc B Y h x m d
 uniq:∀ x y i j m1 m d d' a,d8 sc x=some i->d8 sc y=some j->i≠j->r.get i=some (m1,d)->m1.ownish=true->r.get j=some (m,d')->At env h x (.ref a)->¬ At env h y (.ref a)
end
section
variable {w:World} {h0:Heap} {B0:FM} {env:Env} {sc:Scope} {r:Rho} {B:FM} {Y:Addr->Prop} {h:Heap}
theorem Sim.rdr (S:Sim prog w h0 B0 env sc r B Y h):Rdr prog w env sc r B h where
 keep:=S.gr.keep
 vars:=λ x i m d hs hr=>by obtain ⟨v,a,t,f,_⟩:=S.vars x i m d hs hr;exact ⟨v,a,t,f⟩
theorem Sim.ownE (S:Sim prog w h0 B0 env sc r B Y h) {a:Addr} (q:isOwn env sc a):h.get? a≠none:=by
 rcases q with rfl | ⟨x,h1,h2⟩
 ·obtain ⟨m,o,_,_,e,_⟩:=S.fm.ns;rw [e];simp
 ·obtain ⟨_,c,v,e1,o,e2,_⟩:=S.fm.cell x h1
  rw [h2] at e1;cases e1
  rw [e2];simp
theorem Gr.none_of {B':FM} {h':Heap} (g:Gr B h B' h') {a:Addr} (hb:B a=none) (he:h.get? a≠none):B' a=none:=by
 cases e:B' a with
 | none=>rfl
 | some o=>
  rcases g.new a o e with q | q
  ·rw [hb] at q;cases q
  ·exact absurd q he
theorem Gr.exists {B':FM} {h':Heap} (g:Gr B h B' h') {a:Addr} (he:h.get? a≠none):h'.get? a≠none:=g.old.ex he
theorem n9 {d:D} {a:Addr} (t:f8 prog w h B d (.ref a)) (kp:j4 B h):h.get? a≠none:=by
 cases d with
 | none=>cases t
 | bool b=>cases t
 | int i=>obtain ⟨_,_,e⟩:=t;cases e
 | str x=>obtain ⟨_,_,e⟩:=t;cases e
 | list l=>obtain ⟨a',o,vs,e,ho,_⟩:=t;cases e;rw [ho];simp
 | tuple l=>obtain ⟨a',o,vs,e,ho,_⟩:=t;cases e;rw [ho];simp
 | dict l=>obtain ⟨a',o,vs,e,ho,_⟩:=t;cases e;rw [ho];simp
theorem Fmz.keeps {h':Heap} (F:Fmz env sc h) (k:Old h h'):Fmz env sc h' where
 ns:=let ⟨m,q⟩:=F.ns;⟨m,k.ns q⟩
 cell:=λ x hx=>let ⟨e,c,v,q1,q2⟩:=F.cell x hx;⟨e,c,v,q1,k.cell q2⟩
 sep:=F.sep
 cellE:=λ x c hx=>let ⟨v,q⟩:=F.cellE x c hx;⟨v,k.cell q⟩
 cls:=λ hf o e=>by
  obtain ⟨m,o0,_,_,e0,_⟩:=F.ns
  obtain ⟨o',p1,p2,_⟩:=(k _ o0 e0).ex
  rw [p1] at e;cases e
  rw [p2];exact F.cls hf _ e0
 frE:=λ f hf=>k.ex (F.frE f hf)
theorem dj4 {d:D} {a:Addr} {o:Obj} (t:f8 prog w h B d (.ref a)) (ho:h.get? a=some o):ao6 o:=by
 cases d with
 | none=>cases t
 | bool b=>cases t
 | int i=>obtain ⟨_,_,e⟩:=t;cases e
 | str x=>obtain ⟨_,_,e⟩:=t;cases e
 | list l=>obtain ⟨a',o',vs,e,ho',x,_⟩:=t;cases e;rw [ho] at ho';cases ho';exact x.solid
 | tuple l=>obtain ⟨a',o',vs,e,ho',x,_⟩:=t;cases e;rw [ho] at ho';cases ho';exact x.solid
 | dict l=>obtain ⟨a',o',vs,e,ho',x,_⟩:=t;cases e;rw [ho] at ho';cases ho';exact af9 x.1
theorem _root_.Mine.Internal.v8.keeps {h h':Heap} {a:Addr} (p:v8 h a) (k:Old h h') (e:∃ o,h.get? a=some o/\ao6 o):v8 h' a:=λ o q=>by
 obtain ⟨o',e1,hs⟩:=e
 rw [k.solid e1 hs] at q;cases q;exact p _ e1
theorem bl6 {d:D} {a:Addr} (t:f8 prog w h B d (.ref a)) (kp:j4 B h):∃ o,h.get? a=some o/\ao6 o:=by
 cases e:h.get? a with
 | none=>exact absurd e (n9 t kp)
 | some o=>exact ⟨o,rfl,dj4 t e⟩
theorem _root_.Mine.Internal.v8.off {h h':Heap} {a:Addr} {X:Addr->Prop} (p:v8 h a) (k:∀ b o,¬ X b->h.get? b=some o->h'.get? b=some o) (hx:¬ X a) (e:h.get? a≠none):v8 h' a:=λ o q=>by
 cases e1:h.get? a with
 | none=>exact absurd e1 e
 | some o'=>rw [k a o' hx e1] at q;cases q;exact p _ e1
theorem Sim.ev {B':FM} {h':Heap} (S:Sim prog w h0 B0 env sc r B Y h) (g:Gr B h B' h'):Sim prog w h0 B0 env sc r B' Y h' where
 gr:=S.gr.trans g
 fm:=S.fm.keeps g.old
 own0:=λ a q=>⟨(S.own0 a q).1,g.none_of (S.own0 a q).2 (S.ownE q)⟩
 y0:=λ a q=>⟨(S.y0 a q).1,g.none_of (S.y0 a q).2.1 (S.y0 a q).2.2,g.exists (S.y0 a q).2.2⟩
 yown:=S.yown
 ycell:=S.ycell
 yfr:=S.yfr
 vars:=λ x i m d hs hr=>by
  obtain ⟨v,a,t,f,n,o⟩:=S.vars x i m d hs hr
  refine ⟨v,a.keeps g.old,t.mono g.old g.le,λ q=>(f q).mono g.le,n,λ q=>?_⟩
  obtain ⟨b,rfl,e1,e2,e3⟩:=o q
  exact ⟨b,rfl,e1,g.none_of e2 (n9 t S.gr.keep),e3.keeps g.old (bl6 t S.gr.keep)⟩
 uniq:=λ x y i j m1 m d d' a hx hy hij hi hw hj a1 a2=>by
  obtain ⟨v,b1,_⟩:=S.vars x i _ d hx hi
  obtain ⟨u,b2,_⟩:=S.vars y j m d' hy hj
  have e1:=a1.unique (b1.keeps g.old)
  have e2:=a2.unique (b2.keeps g.old)
  subst e1 e2
  exact S.uniq x y i j m1 m d d' a hx hy hij hi hw hj b1 b2
theorem f8.off {h':Heap} {B':FM} {d:D} {v:Value} {X:Addr->Prop} (hk:∀ b o,¬ X b->h.get? b=some o->h'.get? b=some o) (hB:B.le B') (hv:∀ a,X a->v≠.ref a) (t:f8 prog w h B d v):f8 prog w h' B' d v:=by
 cases d with
 | none=>exact t
 | bool b=>exact t
 | int i=>exact t
 | str x=>exact t
 | list l=>obtain ⟨a,o,vs,rfl,ho,x,y⟩:=t;exact bq5.mpr ⟨a,o,vs,rfl,hk a o (λ q=>hv a q rfl) ho,x,y.mono hB⟩
 | tuple l=>obtain ⟨a,o,vs,rfl,ho,x,y⟩:=t;exact cb9.mpr ⟨a,o,vs,rfl,hk a o (λ q=>hv a q rfl) ho,x,y.mono hB⟩
 | dict l=>obtain ⟨a,o,vs,rfl,ho,x,y⟩:=t;exact ⟨a,o,vs,rfl,hk a o (λ q=>hv a q rfl) ho,x,y.mono hB⟩
theorem At.off {h':Heap} {X:Addr->Prop} {x:Str} {v:Value} (hk:∀ b o,¬ X b->h.get? b=some o->h'.get? b=some o) (hl:¬ X env.locals) (hc:∀ c,env.cells.lookup x=some c->¬ X c):At env h x v->At env h' x v
 | .loc m e hn hv=>.loc m e (hn.at' λ o q=>hk _ o hl q) hv
 | .cell c e he hv=>by
  obtain ⟨o,q1,q2⟩:=hv
  exact .cell c e he ⟨o,hk c o (hc c he) q1,q2⟩
theorem Gr.off {B1:FM} {h1 h':Heap} {X:Addr->Prop} (g:Gr B h B1 h1) (hk:∀ b o,¬ X b->h1.get? b=some o->h'.get? b=some o) (hX:∀ b,X b->h.get? b=none/\B1 b=none):Gr B h B1 h' where
 le:=g.le
 old:=λ a o e=>(g.old a o e).trans λ o' e'=>.inl (hk a o' (λ q=>by rw [(hX a q).1] at e;cases e) e')
 keep:=λ a o e=>hk a o (λ q=>by rw [(hX a q).2] at e;cases e) (g.keep a o e)
 new:=g.new
theorem Sim.off2 {h':Heap} {Y':Addr->Prop} (S:Sim prog w h0 B0 env sc r B Y h) (hk:∀ b o,¬ Y b->h.get? b=some o->h'.get? b=some o) (hs:∀ b,Y' b->Y b) (hY:∀ b,Y' b->h'.get? b≠none):Sim prog w h0 B0 env sc r B Y' h' where
 gr:=S.gr.off hk λ b q=>⟨(S.y0 b q).1,(S.y0 b q).2.1⟩
 fm:={
  ns:=let ⟨m,q⟩:=S.fm.ns;⟨m,q.at' λ o e=>hk _ o (S.yown _ (.inl rfl)) e⟩
  cell:=λ x hx=>let ⟨e,c,v,q1,o,q2,q3⟩:=S.fm.cell x hx;⟨e,c,v,q1,o,hk c o (S.ycell x c q1) q2,q3⟩
  sep:=S.fm.sep
  cellE:=λ x c hx=>let ⟨v,o,q2,q3⟩:=S.fm.cellE x c hx;⟨v,o,hk c o (S.ycell x c hx) q2,q3⟩
  cls:=λ hf o e=>by
   obtain ⟨m,o0,_,_,e0,_⟩:=S.fm.ns
   rw [hk _ o0 (S.yown _ (.inl rfl)) e0] at e;cases e
   exact S.fm.cls hf _ e0
  frE:=λ f hf=>by
   cases e:h.get? f with
   | none=>exact absurd e (S.fm.frE f hf)
   | some o=>rw [hk f o (S.yfr f hf) e];simp }
 own0:=S.own0
 y0:=λ a q=>⟨(S.y0 a (hs a q)).1,(S.y0 a (hs a q)).2.1,hY a q⟩
 yown:=λ a q q'=>S.yown a q (hs a q')
 ycell:=λ x c q q'=>S.ycell x c q (hs c q')
 yfr:=λ f hf q=>S.yfr f hf (hs f q)
 vars:=λ x i m d hx hr=>by
  obtain ⟨v,a,t,f,n,o⟩:=S.vars x i m d hx hr
  exact ⟨v,a.off hk (S.yown _ (.inl rfl)) (S.ycell x),t.off hk (.refl _) (λ b q=>n b (.inr q)),f,λ b q=>n b (q.imp id (hs b)),λ q=>by
   obtain ⟨b,rfl,e1,e2,e3⟩:=o q
   exact ⟨b,rfl,e1,e2,e3.off hk (λ p=>n b (.inr p) rfl) (n9 t S.gr.keep)⟩⟩
 uniq:=λ x y i j m1 m d d' a hx hy hij hi hw hj a1 a2=>by
  obtain ⟨v,b1,_⟩:=S.vars x i _ d hx hi
  obtain ⟨u,b2,_⟩:=S.vars y j m d' hy hj
  have e1:=a1.unique (b1.off hk (S.yown _ (.inl rfl)) (S.ycell x))
  have e2:=a2.unique (b2.off hk (S.yown _ (.inl rfl)) (S.ycell y))
  subst e1 e2
  exact S.uniq x y i j m1 m d d' a hx hy hij hi hw hj b1 b2
theorem Sim.off {h':Heap} (S:Sim prog w h0 B0 env sc r B Y h) (hk:∀ b o,¬ Y b->h.get? b=some o->h'.get? b=some o) (hY:∀ b,Y b->h'.get? b≠none):Sim prog w h0 B0 env sc r B Y h':=S.off2 hk (λ ξ q=>q) hY
theorem Sim.subY {Y':Addr->Prop} (S:Sim prog w h0 B0 env sc r B Y h) (q:∀ a,Y' a->Y a):Sim prog w h0 B0 env sc r B Y' h:=S.off2 (λ ξ ξ ξ e=>e) q λ b p=>(S.y0 b (q b p)).2.2
theorem Sim.part {r':Rho} (S:Sim prog w h0 B0 env sc r B Y h) (q:∀ i m d,r'.get i=some (m,d)->r.get i=some (m,d)):Sim prog w h0 B0 env sc r' B Y h where
 gr:=S.gr
 fm:=S.fm
 own0:=S.own0
 y0:=S.y0
 yown:=S.yown
 ycell:=S.ycell
 yfr:=S.yfr
 vars:=λ x i m d hs hr=>S.vars x i m d hs (q i _ _ hr)
 uniq:=λ x y i j m1 m d d' a hx hy hij hi hw hj a1 a2=>S.uniq x y i j m1 m d d' a hx hy hij (q i _ _ hi) hw (q j _ _ hj) a1 a2
theorem Sim.addY {Y':Addr->Prop} {B1:FM} {h1:Heap} (S:Sim prog w h0 B0 env sc r B Y h) (g:Gr B h B1 h1) (q:∀ a,Y' a->h.get? a=none/\B1 a=none/\h1.get? a≠none):Sim prog w h0 B0 env sc r B1 (λ a=>Y a\/Y' a) h1:=
 have S1:=S.ev g
 have h0n:∀ a,h.get? a=none->h0.get? a=none:=λ a e=>by
  exact S.gr.old.back e
 {gr:=S1.gr
  fm:=S1.fm
  own0:=S1.own0
  y0:=λ a p=>p.elim (S1.y0 a) λ p=>⟨h0n a (q a p).1,(q a p).2.1,(q a p).2.2⟩
  yown:=λ a p p'=>p'.elim (S1.yown a p) λ p'=>S.ownE p (q a p').1
  ycell:=λ x c p p'=>p'.elim (S1.ycell x c p) λ p'=>by
   obtain ⟨v,o,e,_⟩:=S.fm.cellE x c p
   rw [(q c p').1] at e;cases e
  yfr:=λ f hf p=>p.elim (S.yfr f hf) λ p=>S.fm.frE f hf (q f p).1
  vars:=λ x i m d hs hr=>by
   obtain ⟨v,a,t,f,n,o⟩:=S.vars x i m d hs hr
   obtain ⟨v',a',t',f',n',o'⟩:=S1.vars x i m d hs hr
   have e:=(a.keeps g.old).unique a'
   subst e
   refine ⟨v,a',t',f',λ b p e=>?_,o'⟩
   rcases p with p | p | p
   ·exact n' b (.inl p) e
   ·exact n' b (.inr p) e
   ·subst e;exact n9 t S.gr.keep (q b p).1
  uniq:=S1.uniq }
end
section
variable {w:World} {h0:Heap} {B0:FM} {env:Env} {sc:Scope} {r:Rho} {B:FM} {Y:Addr->Prop} {s:Shared} {A:Around} {E:Value->Shared->Prop}
theorem bp0 {x:Str} {i:Nat} (h:d8 sc x=some i):∃ kd,sc.names[i]?=some (x,kd):=by
 obtain ⟨h1,h2⟩:=List.findIdx?_eq_some_iff_getElem.mp (cd3 h).2
 refine ⟨sc.names[i].2,?_⟩
 have e:sc.names[i].1=x:=af8 h2.1
 rw [List.getElem?_eq_getElem h1,<- e]
theorem ao4 {x y:Str} {i:Nat} (h1:d8 sc x=some i) (h2:d8 sc y=some i):x=y:=by
 obtain ⟨a,q1⟩:=bp0 h1
 obtain ⟨b,q2⟩:=bp0 h2
 rw [q1] at q2
 injection q2 with e;injection e
theorem g9 (r:Rho) (i j:Nat) (v:Slot):Rho.get (r.set i v) j=if i=j/\i < r.length then v else r.get j:=by
 unfold Rho.get
 rw [List.getElem?_set]
 by_cases h:i=j
 ·subst h
  by_cases h2:i < r.length
  ·simp [h2]
  ·have:r[i]?=none:=List.getElem?_eq_none (by exact Nat.not_lt.mp ‹_›)
   simp [h2]
 ·simp [h]
theorem bi5 {x y:Str} {i j:Nat} {m:aa3} {d:D} (hs:d8 sc x=some i) (hy:d8 sc y=some j) (hr:r.get j=some (m,d)) (hc:¬ (i=j/\i < r.length)):y≠x:=by
 rintro rfl
 cases Option.some.inj (hs.symm.trans hy)
 have qf:r.length<=i:=Nat.le_of_not_lt λ q=>hc ⟨rfl,q⟩
 unfold Rho.get at hr
 rw [List.getElem?_eq_none qf] at hr
 cases hr
theorem ax4 {i:Nat} {v:aa3×D} (h:r.get i=some v):i < r.length:=by
 unfold Rho.get at h
 exact Classical.byContradiction λ q=>by rw [List.getElem?_eq_none (Nat.le_of_not_lt q)] at h;cases h
theorem Sim.putG {x:Str} {i:Nat} {m0:aa3} {d:D} {v:Value} {Q:Unit->Shared->Prop} (S:Sim prog w h0 B0 env sc r B Y s.heap) (ek:j6 env sc) (hs:d8 sc x=some i) (hx:sc.names.lookup x=some .local\/sc.names.lookup x=some .cell) (hv:f8 prog w s.heap B d v) (hf:m0 = .fr->Rd prog w B d v)
  (hvn:∀ a,isOwn env sc a\/Y a->v≠.ref a) (hvo:m0.ownish=true->∃ a,v = .ref a/\h0.get? a=none/\B a=none/\v8 s.heap a)
  (hu1:∀ y j m1 d' b,d8 sc y=some j->j≠i->r.get j=some (m1,d')->m1.ownish=true->At env s.heap y (.ref b)->v≠.ref b)
  (hu2:m0.ownish=true->∀ y j m' d',d8 sc y=some j->j≠i->r.get j=some (m',d')->¬ At env s.heap y v)
  (h:∀ h' tk a,s.toks<=tk->(sc.names.lookup x=some .local->s.toks < tk)->isOwn env sc a->Heap.SameBut a s.heap h'->Sim prog w h0 B0 env sc (r.set i (some (m0,d))) B Y h'->(∀ y,y≠x->∀ u,At env s.heap y u->At env h' y u)->At env h' x v->Q () { s with heap:=h',toks:=tk }) :
  wpAny (model prog w) A (storeName env x v) Q E s:=by
 have fin:∀ (h':Heap) (tk:Nat) (a:Addr),s.toks<=tk->(sc.names.lookup x=some .local->s.toks < tk)->isOwn env sc a->Heap.SameBut a s.heap h'->h'.get? a≠none->Fmz env sc h'->At env h' x v->(∀ y,y≠x->∀ u,At env s.heap y u->At env h' y u)->Q () { s with heap:=h',toks:=tk }:=by
  intro h' tk a htk hlt ha hsb hae hfm hax hoth
  have hk:∀ b o,¬ b=a->s.heap.get? b=some o->h'.get? b=some o:=λ b o q e=>(hsb.2 b q).trans e
  refine h h' tk a htk hlt ha hsb ⟨S.gr.off hk (λ b q=>by subst q;exact S.own0 b ha),hfm,S.own0,λ b q=>⟨(S.y0 b q).1,(S.y0 b q).2.1,?_⟩,S.yown,S.ycell,S.yfr,?_,?_⟩ hoth hax
  ·have hne:¬ b=a:=λ e=>S.yown a ha (e▸q)
   rw [hsb.2 b hne];exact (S.y0 b q).2.2
  ·intro y j m d' hy hr
   rw [g9] at hr
   split at hr
   ·rename_i hc
    cases hr
    have e:y=x:=ao4 hy (hc.1▸hs)
    subst e
    exact ⟨v,hax,hv.off hk (.refl _) (λ b q=>by subst q;exact hvn b (.inl ha)),hf,hvn,λ q=>by
     obtain ⟨b,rfl,e1,e2,e3⟩:=hvo q
     exact ⟨b,rfl,e1,e2,e3.off hk (λ p=>hvn b (.inl (p▸ha)) rfl) (n9 hv S.gr.keep)⟩⟩
   ·rename_i hc
    have hyx:y≠x:=by
     exact bi5 hs hy hr hc
    obtain ⟨u,a',t,f,n,o⟩:=S.vars y j m d' hy hr
    exact ⟨u,hoth y hyx u a',t.off hk (.refl _) (λ b q=>by subst q;exact n b (.inl ha)),f,n,λ q=>by
     obtain ⟨b,rfl,e1,e2,e3⟩:=o q
     exact ⟨b,rfl,e1,e2,e3.off hk (λ p=>n b (.inl (p▸ha)) rfl) (n9 t S.gr.keep)⟩⟩
  ·intro y z j k m1 m d1 d2 b hy hz hjk hr1 hw hr2 a1 a2
   rw [g9] at hr1 hr2
   split at hr1
   ·rename_i hc1
    cases hr1
    have e:y=x:=ao4 hy (hc1.1▸hs)
    subst e
    have e1:=a1.unique hax
    subst e1
    have hc2:¬ (i=k/\i < r.length):=λ q=>hjk (hc1.1.symm.trans q.1)
    rw [if_neg hc2] at hr2
    have hzx:=bi5 hs hz hr2 hc2
    obtain ⟨u2,b2,_⟩:=S.vars z k m d2 hz hr2
    have e2:=a2.unique (hoth z hzx u2 b2)
    subst e2
    exact hu2 hw z k m d2 hz (λ q=>hjk (hc1.1.symm.trans q.symm)) hr2 b2
   ·rename_i hc1
    have hyx:=bi5 hs hy hr1 hc1
    obtain ⟨u,b1,_,_,_,o⟩:=S.vars y j _ d1 hy hr1
    have e1:=a1.unique (hoth y hyx u b1)
    subst e1
    split at hr2
    ·rename_i hc2
     cases hr2
     have e:z=x:=ao4 hz (hc2.1▸hs)
     subst e
     have e2:=a2.unique hax
     exact hu1 y j m1 d1 b hy (λ q=>hjk (q.trans hc2.1)) hr1 hw b1 e2.symm
    ·rename_i hc2
     have hzx:=bi5 hs hz hr2 hc2
     obtain ⟨u2,b2,_⟩:=S.vars z k m d2 hz hr2
     have e2:=a2.unique (hoth z hzx u2 b2)
     subst e2
     exact S.uniq y z j k m1 m d1 d2 b hy hz hjk hr1 hw hr2 b1 b2
 have hknd:env.scope.kind = .function:=ek.kind
 rcases hx with hx | hx
 ·have hl:=ek.loc x hx
  obtain ⟨m,hn⟩:=S.fm.ns
  refine cu9 hl hn (λ h' hn' hsb hcls=>?_) (by rw [hknd];rfl)
  have hne:∀ c,(∃ y,env.cells.lookup y=some c)->c≠env.locals:=λ c ⟨y,q⟩ e=>by
   obtain ⟨v,hc⟩:=S.fm.cellE y c q
   exact ap0 hn hc e.symm
  refine fin h' _ env.locals (Nat.le_succ _) (λ ξ=>Nat.lt_succ_self _) (.inl rfl) hsb (by obtain ⟨o,_,_,e,_⟩:=hn';rw [e];simp) ⟨⟨_,hn'⟩,λ y hy=>?_,S.fm.sep,λ y c hy=>?_,λ hf o e=>by obtain ⟨o0,_,_,e0,_⟩:=hn;rw [hcls o0 e0 o e];exact S.fm.cls hf o0 e0,λ f hf=>by
   by_cases q:f=env.locals
   ·rw [q];obtain ⟨o,_,_,e,_⟩:=hn';rw [e];simp
   ·rw [hsb.2 f q];exact S.fm.frE f hf⟩ (.loc _ hl hn' (by simp)) λ y hyx u a=>?_
  ·obtain ⟨e,c,u,q1,q2⟩:=S.fm.cell y hy
   exact ⟨e,c,u,q1,q2.sameBut hsb (hne c ⟨y,q1⟩)⟩
  ·obtain ⟨u,q⟩:=S.fm.cellE y c hy
   exact ⟨u,q.sameBut hsb (hne c ⟨y,hy⟩)⟩
  ·cases a with
   | loc m' e' hn2 hv'=>
    have:=bk2 hn hn2
    subst this
    exact .loc _ e' hn' (by simp [hyx,hv'])
   | cell c e' hc hv'=>exact .cell c e' hc (hv'.sameBut hsb (hne c ⟨y,hc⟩))
 ·obtain ⟨hl,c,v0,hc,hcell⟩:=S.fm.cell x hx
  refine wpAny_storeName_cell hknd hl hc hcell λ h' hc' hsb=>?_
  obtain ⟨m,hn⟩:=S.fm.ns
  have hlc:env.locals≠c:=ap0 hn hcell
  refine fin h' s.toks c (Nat.le_refl _) (λ q=>by rw [hx] at q;cases q) (.inr ⟨x,hx,hc⟩) hsb (by obtain ⟨o,e,_⟩:=hc';rw [e];simp) ⟨⟨m,hn.sameBut hsb hlc⟩,λ y hy=>?_,S.fm.sep,λ y c' hy=>?_,λ hf o e=>S.fm.cls hf o ((hsb.2 _ hlc).symm.trans e),λ f hf=>by
   by_cases q:f=c
   ·rw [q];obtain ⟨o,e,_⟩:=hc';rw [e];simp
   ·rw [hsb.2 f q];exact S.fm.frE f hf⟩ (.cell c (.inl hl) hc hc') λ y hyx u a=>?_
  ·obtain ⟨e,c',u,q1,q2⟩:=S.fm.cell y hy
   by_cases hyx:y=x
   ·subst hyx
    rw [hc] at q1;cases q1
    exact ⟨e,c,_,hc,hc'⟩
   ·exact ⟨e,c',u,q1,q2.sameBut hsb (Ne.symm (S.fm.sep x y c c' (Ne.symm hyx) hx hc q1))⟩
  ·by_cases e:c'=c
   ·subst e;exact ⟨_,hc'⟩
   ·obtain ⟨u,q⟩:=S.fm.cellE y c' hy
    exact ⟨u,q.sameBut hsb e⟩
  ·cases a with
   | loc m' e' hn2 hv'=>exact .loc m' e' (hn2.sameBut hsb hlc) hv'
   | cell c' e' hc2 hv'=>exact .cell c' e' hc2 (hv'.sameBut hsb (Ne.symm (S.fm.sep x y c c' (Ne.symm hyx) hx hc hc2)))
theorem Sim.put {x:Str} {i:Nat} {m0:aa3} {d:D} {v:Value} {Q:Unit->Shared->Prop} (S:Sim prog w h0 B0 env sc r B Y s.heap) (ek:j6 env sc) (hs:d8 sc x=some i) (hx:sc.names.lookup x=some .local\/sc.names.lookup x=some .cell) (hv:f8 prog w s.heap B d v) (hf:m0 = .fr->Rd prog w B d v)
  (hvn:∀ a,isOwn env sc a\/Y a->v≠.ref a) (hvo:m0.ownish=true->∃ a,v = .ref a/\h0.get? a=none/\B a=none/\v8 s.heap a)
  (hu1:∀ y j m1 d' b,d8 sc y=some j->j≠i->r.get j=some (m1,d')->m1.ownish=true->At env s.heap y (.ref b)->v≠.ref b)
  (hu2:m0.ownish=true->∀ y j m' d',d8 sc y=some j->j≠i->r.get j=some (m',d')->¬ At env s.heap y v)
  (h:∀ h' tk a,s.toks<=tk->isOwn env sc a->Heap.SameBut a s.heap h'->Sim prog w h0 B0 env sc (r.set i (some (m0,d))) B Y h'->(∀ y,y≠x->∀ u,At env s.heap y u->At env h' y u)->At env h' x v->Q () { s with heap:=h',toks:=tk }) :
  wpAny (model prog w) A (storeName env x v) Q E s:=S.putG ek hs hx hv hf hvn hvo hu1 hu2 λ h' tk a q ξ=>h h' tk a q
theorem Sim.storeG {x:Str} {i:Nat} {d:D} {v:Value} {Q:Unit->Shared->Prop} (S:Sim prog w h0 B0 env sc r B Y s.heap) (ek:j6 env sc) (hs:d8 sc x=some i) (hx:sc.names.lookup x=some .local\/sc.names.lookup x=some .cell) (hv:Rd prog w B d v)
  (h:∀ h' tk a,s.toks<=tk->(sc.names.lookup x=some .local->s.toks < tk)->isOwn env sc a->Heap.SameBut a s.heap h'->Sim prog w h0 B0 env sc (r.set i (some (.fr,d))) B Y h'->(∀ y,y≠x->∀ u,At env s.heap y u->At env h' y u)->Q () { s with heap:=h',toks:=tk }) :
  wpAny (model prog w) A (storeName env x v) Q E s:=by
 refine S.putG (m0:=.fr) ek hs hx (hv.top S.gr.keep) (λ ξ=>hv) (λ a q e=>?_) nofun (λ y j m1 d' b h1 h2 h3 h4 h5 e=>?_) nofun λ h' tk a h1 h2 h3 h4 h5 h6 ξ=>h h' tk a h1 h2 h3 h4 h5 h6
 ·subst e
  exact cz1 hv (q.elim (λ q=>(S.own0 a q).2) λ q=>(S.y0 a q).2.1)
 ·subst e
  obtain ⟨u,b1,_,_,_,o⟩:=S.vars y j _ d' h1 h3
  have e1:=h5.unique b1
  subst e1
  obtain ⟨c,e3,_,e4,_⟩:=o h4
  cases e3
  exact cz1 hv e4
theorem Sim.store {x:Str} {i:Nat} {d:D} {v:Value} {Q:Unit->Shared->Prop} (S:Sim prog w h0 B0 env sc r B Y s.heap) (ek:j6 env sc) (hs:d8 sc x=some i) (hx:sc.names.lookup x=some .local\/sc.names.lookup x=some .cell) (hv:Rd prog w B d v)
  (h:∀ h' tk a,s.toks<=tk->isOwn env sc a->Heap.SameBut a s.heap h'->Sim prog w h0 B0 env sc (r.set i (some (.fr,d))) B Y h'->(∀ y,y≠x->∀ u,At env s.heap y u->At env h' y u)->Q () { s with heap:=h',toks:=tk }) :
  wpAny (model prog w) A (storeName env x v) Q E s:=S.storeG ek hs hx hv λ h' tk a q ξ=>h h' tk a q
end
end
section
open PySem.Calls PySem.SeqAt
theorem f4 {sc:Scope} {x:Str} {i:Nat} (h:j5 sc x=some i):d8 sc x=some i/\(sc.names.lookup x=some .local\/sc.names.lookup x=some .cell):=by
 unfold j5 at h
 cases e:sc.names.lookup x with
 | none=>rw [e] at h;exact nomatch h
 | some kd=>
  rw [e] at h
  cases kd with
  | «local»=>exact ⟨h,.inl rfl⟩
  | cell=>exact ⟨h,.inr rfl⟩
  | _=>exact nomatch h
theorem as9 {α β:Type} {P:α->β->Prop} {l:List α} {m:List β} (h:b8 P l m):l.length=m.length:=by
 induction h with
 | nil=>rfl
 | cons _ _ ih=>exact congrArg Nat.succ ih
inductive dt3 (r r1:Rho) (is:List Nat) (d:D):Prop
 | one (i:Nat) (h1:is=[i]) (h2:r1=r.set i (some (.fr,d))):dt3 r r1 is d
 | tup (ds:List D) (h1:d = .tuple ds) (h2:ds.length=is.length) (h3:2<=is.length) (h4:r1=ab3 r is ds):dt3 r r1 is d
theorem ak3 {r r1:Rho} {is:List Nat} {d:D} (h:m8 r is d=some r1):dt3 r r1 is d:=by
 unfold m8 at h
 cases hq:is.length == 1 with
 | true=>
  rw [hq] at h
  obtain ⟨x,h1,h⟩:=a6 h
  cases h
  exact .one x (ak1 h1) rfl
 | false=>
  rw [hq] at h
  obtain ⟨ds,h1,h⟩:=a6 h
  obtain ⟨hc,h⟩:=i4 h
  cases h
  exact .tup ds (ef5 h1) (af8 (b9 hc).2) (of_decide_eq_true (b9 hc).1) rfl
inductive z5 (sc:Scope):PySem.Expr->List Nat->Prop
 | name {x:Str} {p:Pos} {i:Nat}:j5 sc x=some i->z5 sc (.Name x p) [i]
 | tup {es:List PySem.Expr} {is:List Nat} {kd:Nat} {p:Pos}:b8 (λ e i=>∃ x p,e=PySem.Expr.Name x p/\j5 sc x=some i) es is->2<=es.length->z5 sc (.Tuple es kd p) is
section
variable {w:World} {h0:Heap} {B0:FM} {env:Env} {sc:Scope} {r:Rho} {B:FM} {Y:Addr->Prop} {s:Shared} {A:Around} {E:Value->Shared->Prop}
theorem aw4 {x:Str} {p:Pos} {es:List PySem.Expr}:assignEach (.Name x p :: es) env=(false,assign (.Name x p) env) :: assignEach es env:=rfl
theorem dc4 {es:List PySem.Expr} {is:List Nat} (h:b8 (λ e i=>∃ x p,e=PySem.Expr.Name x p/\j5 sc x=some i) es is):(assignEach es env).length=is.length/\(assignEach es env).findIdx? (·.1)=none:=by
 induction h with
 | nil=>exact ⟨rfl,rfl⟩
 | @cons e i es is he _ ih=>
  obtain ⟨x,p,rfl,_⟩:=he
  rw [aw4]
  refine ⟨congrArg Nat.succ ih.1,?_⟩
  rw [List.findIdx?_cons,ih.2];rfl
theorem bs1 {es:List PySem.Expr} {is:List Nat} (h:b8 (λ e i=>∃ x p,e=PySem.Expr.Name x p/\j5 sc x=some i) es is) (ek:j6 env sc) :
  ∀ {r:Rho} {ds:List D} {vs:List Value} {s:Shared} {Q:Unit->Shared->Prop},Sim prog w h0 B0 env sc r B Y s.heap->RdL prog w B ds vs->ds.length=is.length->
   (∀ h' tk,s.toks<=tk->Sim prog w h0 B0 env sc (ab3 r is ds) B Y h'->(∀ b o,¬ isOwn env sc b->s.heap.get? b=some o->h'.get? b=some o)->
    (∀ y j,d8 sc y=some j->j ∉ is->∀ u,At env s.heap y u->At env h' y u)->Q () { s with heap:=h',toks:=tk })->
   wpAny (model prog w) A (assignInOrder ((assignEach es env).map (·.2)) vs) Q E s:=by
 induction h with
 | nil=>
  intro r ds vs s Q S hr hl hQ
  have:ds=[]:=List.length_eq_zero_iff.mp hl
  subst this
  obtain rfl:=hr
  exact wpAny_assignInOrder_none (hQ s.heap s.toks (Nat.le_refl _) S (λ ξ ξ ξ e=>e) λ ξ ξ ξ ξ ξ a=>a)
 | @cons e i es is he hes ih=>
  intro r ds vs s Q S hr hl hQ
  obtain ⟨x,p,rfl,hw⟩:=he
  obtain ⟨hs,hx⟩:=f4 hw
  cases ds with
  | nil=>cases hl
  | cons d ds=>
   obtain ⟨v,vs',rfl,r1,r2⟩:=hr
   rw [aw4,List.map_cons]
   refine wpAny_assignInOrder_more (wpAny_assign_Name (S.store ek hs hx r1 λ h' tk a htk ha hsb S' hoth=>?_))
   refine ih S' r2 (Nat.succ.inj hl) λ h'' tk' htk' S'' hk hAt=>?_
   refine hQ h'' tk' (Nat.le_trans htk htk') S'' (λ b o hb e=>hk b o hb ((hsb.2 b (λ q=>hb (q▸ha))).trans e)) λ y j hy hj u q=>?_
   refine hAt y j hy (λ q=>hj (.tail _ q)) u (hoth y ?_ u q)
   rintro rfl
   exact hj (Option.some.inj (hy.symm.trans hs)▸.head _)
theorem bb3 {t:PySem.Expr} {is:List Nat} {d:D} {v:Value} {r1:Rho} {Q:Unit->Shared->Prop} (ht:z5 sc t is) (hh:A.handled=none) (ek:j6 env sc) (S:Sim prog w h0 B0 env sc r B Y s.heap) (hv:f8 prog w s.heap B d v) (hf:bg3 t=true->Rd prog w B d v)
  (hb:m8 r is d=some r1)
  (hQ:∀ h' tk,s.toks<=tk->Sim prog w h0 B0 env sc r1 B Y h'->(∀ b o,¬ isOwn env sc b->s.heap.get? b=some o->h'.get? b=some o)->
    (∀ y j,d8 sc y=some j->j ∉ is->∀ u,At env s.heap y u->At env h' y u)->Q () { s with heap:=h',toks:=tk }) :
  wpAny (model prog w) A (assign t env v) Q E s:=by
 cases ht with
 | @name x p i hw=>
  obtain ⟨hs,hx⟩:=f4 hw
  rcases ak3 hb with ⟨j,e,rfl⟩ | ⟨ds,_,_,h2,_⟩
  ·cases e
   refine wpAny_assign_Name (S.store ek hs hx (hf rfl) λ h' tk a htk ha hsb S' hoth=>?_)
   refine hQ h' tk htk S' (λ b o hb e=>(hsb.2 b (λ q=>hb (q▸ha))).trans e) λ y j hy hj u q=>hoth y ?_ u q
   rintro rfl
   exact hj (Option.some.inj (hy.symm.trans hs)▸.head _)
  ·exact absurd h2 (by decide:¬ 2<=1)
 | @tup es is kd p hes h2=>
  have hl:=as9 hes
  rcases ak3 hb with ⟨j,e,_⟩ | ⟨ds,rfl,h1,_,rfl⟩
  ·rw [hl,e] at h2;exact absurd h2 (by decide:¬ 2<=1)
  ·obtain ⟨a,o,vs,rfl,ho,x,rr⟩:=hv
   obtain ⟨el1,el2⟩:=dc4 (env:=env) hes
   refine wpAny_assign_Tuple hh (x.isTuple ho) (by rw [el1,<- h1];simp [rr.length]) el2 λ h' hext=>?_
   have old:∀ b o,s.heap.get? b=some o->h'.get? b=some o:=λ b o e=>hext b o (Nat.ne_of_lt (Heap.lt_size e)) e
   have g:=Gr.heap S.gr.keep old
   refine bs1 hes ek (S.ev g) (by simpa using rr) h1 λ h'' tk htk S'' hk hAt=>?_
   exact hQ h'' tk htk S'' (λ b o hb e=>hk b o hb (old b o e)) λ y j hy hj u q=>hAt y j hy hj u (q.keeps (.of old))
end
end
section
open PySem.Calls PySem.SeqAt
noncomputable def bd5 (sc':Scope) (env:Env) (C:Addr) (cells:List (Str×Addr)):Env:=
 {scope:=relabel sc' env,locals:=C,globals:=env.globals,cells:=cells,qual:=env.qual,func:=none,code:=env.code,frame:=env.frame,builtins:=env.builtins }
theorem ax8 {env:Env}:∀ {names:List (Str×NameKind)} {x:Str},
  (names.map λ (n,k)=>if (k == NameKind.free && env.scope.kind == .function && env.kindOf n == some .cell) then (n,NameKind.cell) else (n,k)).lookup x =
   (names.lookup x).map λ k=>if (k == NameKind.free && env.scope.kind == .function && env.kindOf x == some .cell) then NameKind.cell else k
 | [],x=>rfl
 | (n,k) :: r,x=>by
  have ih:=@ax8 env r x
  rw [List.map_cons,List.lookup_cons]
  by_cases hx:x=n
  ·subst hx
   rw [List.lookup_cons,show (x == x)=true from beq_self_eq_true x]
   by_cases hc:(k == NameKind.free && env.scope.kind == .function && env.kindOf x == some .cell)=true
   ·simp only [hc,if_true,List.lookup_cons,show (x == x)=true from beq_self_eq_true x,Option.map_some]
   ·have hc':(k == NameKind.free && env.scope.kind == .function && env.kindOf x == some .cell)=false:=by simpa using hc
    simp only [hc',Bool.false_eq_true,if_false,List.lookup_cons,show (x == x)=true from beq_self_eq_true x,Option.map_some]
  ·have hx':(x == n)=false:=by simpa using hx
   by_cases hc:(k == NameKind.free && env.scope.kind == .function && env.kindOf n == some .cell)=true
   ·simp only [hc,if_true,List.lookup_cons,hx'];exact ih
   ·have hc':(k == NameKind.free && env.scope.kind == .function && env.kindOf n == some .cell)=false:=by simpa using hc
    simp only [hc',Bool.false_eq_true,if_false,List.lookup_cons,hx'];exact ih
theorem am7 {sc':Scope} {env:Env} {C:Addr} {cells:List (Str×Addr)} {x:Str}:(bd5 sc' env C cells).kindOf x=(sc'.names.lookup x).map λ k=>if (k == NameKind.free && env.scope.kind == .function && env.kindOf x == some .cell) then NameKind.cell else k:=ax8
structure an7 (sc' sc:Scope):Prop where
 kind:sc'.kind = .function
 nodup:(sc'.names.map (·.1)).Nodup
 free:∀ x,sc'.names.lookup x=some .free->sc.names.lookup x=some .cell\/sc.names.lookup x=some .free
theorem aj4 {sc' sc:Scope} {it:PySem.Expr} (h:ay4 sc' sc it=true):an7 sc' sc/\aa0 it=true:=by
 obtain ⟨h,h4⟩:=b9 h
 obtain ⟨h,h3⟩:=b9 h
 obtain ⟨h1,h2⟩:=b9 h
 refine ⟨⟨?_,of_decide_eq_true h2,λ x hx=>?_⟩,h3⟩
 ·cases e:sc'.kind <;> rw [e] at h1 <;> first | rfl | cases h1
 ·have q:((sc.names.lookup x == some .cell || sc.names.lookup x == some .free) && aj3 x)=true:=List.all_eq_true.mp h4 _ (aj6 hx)
  exact (Bool.or_eq_true_iff.mp (b9 q).1).imp af8 af8
theorem cu1 {sc sc':Scope} {env:Env} {C:Addr} {cells:List (Str×Addr)} (ek:j6 env sc) (cs:an7 sc' sc) (hc:∀ x,sc'.names.lookup x=some .cell->∃ c,cells.lookup x=some c)
  (hf:∀ x,sc'.names.lookup x=some .free->cells.lookup x=env.cells.lookup x):j6 (bd5 sc' env C cells) sc' where
 kind:=cs.kind
 globals:=ek.globals
 builtins:=ek.builtins
 loc:=λ x hx=>by rw [am7,hx];rfl
 cell:=λ x hx=>by
  rw [am7]
  rcases hx with hx | hx
  ·rw [hx];exact .inl rfl
  ·rw [hx]
   simp only [Option.map_some]
   split
   ·exact .inl rfl
   ·exact .inr rfl
 glob:=λ x hx=>by rw [am7,hx];rfl
 cells:=λ x hx=>by
  rcases hx with hx | hx
  ·exact hc x hx
  ·obtain ⟨c,e⟩:=ek.cells x (cs.free x hx)
   exact ⟨c,(hf x hx).trans e⟩
inductive ew0 (sc sc':Scope) (r:Rho) (i:Nat) (m:aa3) (d:D):Prop
 | mk (x:Str) (hn:sc'.names[i]?=some (x,.free)) (j:Nat) (m0:aa3) (hj:d8 sc x=some j) (hg:r.get j=some (m0,d)) (hf:m = .fr->m0 = .fr) (hw:m.ownish=false):ew0 sc sc' r i m d
theorem bt3 {sc sc':Scope} {r:Rho} {i:Nat} {m:aa3} {d:D} (h:Rho.get (as7 r (ad3 sc' sc)) i=some (m,d)):ew0 sc sc' r i m d:=by
 unfold Rho.get as7 ad3 at h
 rw [List.map_map,List.getElem?_map] at h
 cases e:sc'.names[i]? with
 | none=>rw [e] at h;cases h
 | some p=>
  obtain ⟨x,kd⟩:=p
  rw [e] at h
  have h':bj2 ((if kd == .free then d8 sc x else none).bind r.get)=some (m,d):=h
  cases hk:kd == NameKind.free with
  | false=>rw [hk] at h';cases h'
  | true=>
   cases af8 hk
   cases hs:d8 sc x with
   | none=>rw [hk,hs] at h';cases h'
   | some j=>
    rw [hk,hs] at h'
    have h2:bj2 (r.get j)=some (m,d):=h'
    cases hg:r.get j with
    | none=>rw [hg] at h2;cases h2
    | some q=>
     obtain ⟨m0,d0⟩:=q
     rw [hg] at h2
     refine ⟨x,e,j,m0,hs,?_,?_,?_⟩ <;> cases m0 <;> cases h2 <;> first | rfl | exact hg | exact λ ξ=>rfl | (intro q;cases q)
section
variable {w:World} {qa:Heap} {k:Nat} {A:Around} {env:Env} {sc sc':Scope} {r:Rho} {B:FM} {s:Shared}
theorem Sim.comp {B1:FM} {h1 h':Heap} {Y:Addr->Prop} {cells:List (Str×Addr)} {m:Str->Option Value} (ok:Ok prog w qa k A env sc r B s) (cs:an7 sc' sc) (g:Gr B s.heap B1 h1)
  (hy:∀ a,Y a->s.heap.get? a=none/\B1 a=none/\h1.get? a≠none) (ca:bf7 h' h1.objs.size sc'.names (cz8 env sc'.names []) cells) (hns:h'.Ns h1.objs.size m) (old:∀ b o,h1.get? b=some o->h'.get? b=some o)
  (hloc:∀ x,sc'.names.lookup x=some .cell->cells.lookup x≠some h1.objs.size) :
  j6 (bd5 sc' env h1.objs.size cells) sc'/\Sim prog w s.heap B (bd5 sc' env h1.objs.size cells) sc' (as7 r (ad3 sc' sc)) B1 Y h':=by
 have hfree:∀ x,sc'.names.lookup x=some .free->cells.lookup x=env.cells.lookup x:=λ x hx=>by
  rw [ca.old x (by rw [hx];simp),ay0 cs.nodup,if_pos (aj6 hx)]
  obtain ⟨c,e⟩:=ok.eok.cells x (cs.free x hx)
  rw [e];rfl
 have ek:=cu1 (C:=h1.objs.size) ok.eok cs (λ x hx=>let ⟨c,q,_⟩:=ca.own x hx;⟨c,q⟩) hfree
 have hother:∀ x c,sc'.names.lookup x≠some .cell->cells.lookup x=some c->env.cells.lookup x=some c:=λ x c hx e=>by
  rw [ca.old x hx,ay0 cs.nodup] at e
  split at e
  ·rename_i hm
   obtain ⟨c',e'⟩:=ok.eok.cells x (cs.free x (l7 cs.nodup hm))
   rw [e'] at e⊢
   exact e
  ·cases e
 have hge:∀ a,isOwn (bd5 sc' env h1.objs.size cells) sc' a->h1.objs.size<=a:=λ a q=>by
  rcases q with rfl | ⟨x,q1,q2⟩
  ·exact Nat.le_refl _
  ·obtain ⟨c,e1,e2,_⟩:=ca.own x q1
   have:some c=some a:=e1.symm.trans q2
   cases this;exact e2
 have hnone:∀ a,h1.objs.size<=a->s.heap.get? a=none/\B1 a=none:=λ a q=>by
  have e1:h1.get? a=none:=g8 q
  refine ⟨?_,t7 (s:=⟨h1,s.gens,s.drawn,s.toks,s.os⟩) g.keep e1⟩
  exact g.old.back e1
 refine ⟨ek,⟨g.trans (Gr.heap g.keep old),⟨⟨m,hns⟩,λ x hx=>?_,λ x y c c' hxy hx h2 h3=>?_,λ x c hx=>?_,λ hf=>absurd (hnone _ (Nat.le_refl _)).1 (ok.frE _ hf),λ f hf=>(g.old.trans (.of old)).ex (ok.frE f hf)⟩,λ a q=>hnone a (hge a q),λ a q=>⟨(hy a q).1,(hy a q).2.1,?_⟩,λ a q q'=>?_,λ x c hx q=>?_,λ f hf q=>ok.frE f hf (hy f q).1,?_,?_⟩⟩
 ·obtain ⟨c,q1,q2,q3⟩:=ca.own x hx
  exact ⟨by rw [am7,hx];rfl,c,none,q1,q3⟩
 ·by_cases hyc:sc'.names.lookup y=some .cell
  ·exact ca.sep x y c c' hxy hx hyc h2 h3
  ·obtain ⟨v,o,e,_⟩:=ok.cellE y c' (hother y c' hyc h3)
   rintro rfl
   obtain ⟨c2,e1,e2,_⟩:=ca.own x hx
   have:some c2=some c:=e1.symm.trans h2
   cases this
   rw [(hnone _ e2).1] at e;cases e
 ·by_cases hyc:sc'.names.lookup x=some .cell
  ·obtain ⟨c2,e1,e2,e3⟩:=ca.own x hyc
   have:some c2=some c:=e1.symm.trans hx
   cases this;exact ⟨_,e3⟩
  ·obtain ⟨v,q⟩:=ok.cellE x c (hother x c hyc hx)
   exact ⟨v,(g.old.trans (.of old)).cell q⟩
 ·cases e:h1.get? a with
  | none=>exact absurd e (hy a q).2.2
  | some o=>rw [old a o e];simp
 ·have:=hge a q
  have e1:h1.get? a=none:=g8 this
  exact (hy a q').2.2 e1
 ·by_cases hyc:sc'.names.lookup x=some .cell
  ·obtain ⟨c2,e1,e2,e3⟩:=ca.own x hyc
   have:some c2=some c:=e1.symm.trans hx
   cases this
   exact (hy _ q).2.2 (g8 e2)
  ·obtain ⟨v,o,e,_⟩:=ok.cellE x c (hother x c hyc hx)
   rw [(hy c q).1] at e;cases e
 ·intro x i m d hs hr
  obtain ⟨kd,hn⟩:=bp0 hs
  obtain ⟨x',hn',j,m0,hj,hg,hmf,hmw⟩:=bt3 hr
  rw [hn] at hn'
  cases hn'
  have hfr:sc'.names.lookup x=some .free:=l7 cs.nodup (List.mem_of_getElem? hn)
  obtain ⟨v,a,t,f⟩:=ok.rd.vars x j m0 d hj hg
  have hcell:=ok.eok.cell x (cs.free x hfr)
  refine ⟨v,?_,(t.mono g.old g.le).mono (.of old) (.refl _),λ q=>?_,λ b q e=>?_,λ q=>?_⟩
  ·cases a with
   | loc m' e hn2 hv=>rw [e] at hcell;rcases hcell with q | q <;> cases q
   | cell c e hc hv=>exact .cell c (ek.cell x (.inr hfr)) (by show cells.lookup x=some c;rw [hfree x hfr,hc]) ((g.old.trans (.of old)).cell hv)
  ·exact (f (hmf q)).mono g.le
  ·subst e
   have:=n9 t ok.keep
   rcases q with q | q
   ·exact this (hnone b (hge b q)).1
   ·exact this (hy b q).1
  ·rw [hmw] at q;cases q
 ·intro x y i j m1 m d d' a hx hy' hij hi hw hj a1
  obtain ⟨_,_,_,m0,_,_,_,hmw⟩:=bt3 hi
  rw [hmw] at hw;cases hw
theorem Sim.fewer {h0:Heap} {B0:FM} {r':Rho} {Y:Addr->Prop} {h:Heap} (S:Sim prog w h0 B0 env sc r B Y h) (q:∀ i v,r'.get i=some v->r.get i=some v):Sim prog w h0 B0 env sc r' B Y h:=S.part λ i m d=>q i _
inductive FrA (A:Around) (env:Env) (B0:FM) (h0:Heap):Prop
 | mk (h1:env.frame=some env.locals) (e0 l:_) (h2:A.frames=some (e0 :: l)) (h3:e0.scope.kind≠.module) (h4:e0.frame=some env.locals) (h5:br4 B0 h0 l)
theorem FrA.stk {h0:Heap} {B0:FM} {Y:Addr->Prop} {h:Heap} (x:FrA A env B0 h0) (S:Sim prog w h0 B0 env sc r B Y h):Stk A B h:=by
 obtain ⟨hf,e0,l,e1,e2,e3,e4⟩:=x
 refine ⟨e0 :: l,e1,λ e he=>?_⟩
 rcases List.mem_cons.mp he with rfl | he
 ·obtain ⟨m,o,es,ep,q1,q2,_⟩:=S.fm.ns
  exact ⟨e2,env.locals,o,es,ep,e3,q1,q2,S.fm.cls hf o q1,(S.own0 _ (.inl rfl)).2⟩
 ·exact e4.step S.gr e he
theorem Sim.okS {h0:Heap} {B0:FM} {Y:Addr->Prop} (S:Sim prog w h0 B0 env sc r B Y s.heap) (rm:Rm k A) (ek:j6 env sc) (hb:∀ a o,qa.get? a=some o->B0 a=some o) (ht:0 < s.toks) (st:Stk A B s.heap):Ok prog w qa k A env sc r B s:=
 ⟨rm,ek,S.rdr,λ a o e=>S.gr.le a o (hb a o e),ht,λ x c e=>S.fm.cellE x c e,st,S.fm.frE⟩
theorem Sim.ok {h0:Heap} {B0:FM} {Y:Addr->Prop} (S:Sim prog w h0 B0 env sc r B Y s.heap) (rm:Rm k A) (ek:j6 env sc) (hb:∀ a o,qa.get? a=some o->B0 a=some o) (ht:0 < s.toks) (fr:FrA A env B0 h0):Ok prog w qa k A env sc r B s:=S.okS rm ek hb ht (fr.stk S)
theorem Sim.okC {h0:Heap} {B0:FM} {Y:Addr->Prop} (S:Sim prog w h0 B0 env sc r B Y s.heap) (rm:Rm k A) (ek:j6 env sc) (hb:∀ a o,qa.get? a=some o->B0 a=some o) (ht:0 < s.toks) (st:Stk A B0 h0):Ok prog w qa k A env sc r B s:=S.okS rm ek hb ht (st.step S.gr)
end
end
section
open PySem.Calls PySem.SeqAt
section
variable {w:World} {qa:Heap} {mg mb:Str->Option Value} {k:Nat} {U:String->List D->Option D} {sc:Scope}
theorem bm0 {env:Env} {A:Around} {E:Value->Shared->Prop} {Q:Bool->Shared->Prop} {s:Shared} (h:Q false s):∀ (ifs:List PySem.Expr),
  wpAny (model prog w) A (forIn ifs false λ c r=>if r=true then do let ok <- isTrue c env (PySem.eval c env);pure (ForInStep.yield ok) else pure (ForInStep.yield r)) Q E s
 | []=>wpAny_pure h
 | c :: r=>by
  rw [List.forIn_cons]
  exact wpAny_bind (ac8 Bool.false_ne_true (wpAny_pure (bm0 h r)))
theorem dx1 {ifs:List PySem.Expr} {qd:List IR} {A:Around} {E:Value->Shared->Prop} {env:Env} {r:Rho} (h:b8 (ai4 w qa k U sc) ifs qd) :
  ∀ {s:Shared} {B:FM} {b:Bool} {Q:Bool->Shared->Prop},Ok prog w qa k A env sc r B s->ah1 U qd r=some b->(∀ s' B',Gr B s.heap B' s'.heap->k6 s s'->Ok prog w qa k A env sc r B' s'->Q b s')->
   wpAny (model prog w) A (forIn ifs true λ c r=>if r=true then do let ok <- isTrue c env (PySem.eval c env);pure (ForInStep.yield ok) else pure (ForInStep.yield r)) Q E s:=by
 induction h with
 | nil=>
  intro s B b Q ok hb hQ
  cases hb
  exact wpAny_pure (hQ s B (Gr.refl ok.keep) (.refl s) ok)
 | @cons c ir cs qd hc hcs ih=>
  intro s B b Q ok hb hQ
  obtain ⟨t,ht,hb⟩:=a6 hb
  rw [List.forIn_cons]
  refine wpAny_bind (ah3 rfl (wpAny_bind (wpAny_mono (hc ok ht) (λ v s' q=>?_) λ ξ ξ e=>e)))
  obtain ⟨rfl,B',g,m⟩:=q
  refine wpAny_pure ?_
  cases v
  ·cases hb
   exact bm0 (hQ s' B' g m (ok.step g m)) cs
  ·exact ih (ok.step g m) hb λ s2 B2 g2 m2 ok2=>hQ s2 B2 (g.trans g2) (m.trans m2) ok2
theorem be0:∀ (is:List Nat) (ds:List D) (r:Rho) (j:Nat) (v:aa3×D),j ∉ is->r.get j=some v->(ab3 r is ds).get j=some v
 | [],ds,r,j,v,_,h=>h
 | i :: is,[],r,j,v,_,h=>h
 | i :: is,d :: ds,r,j,v,hj,h=>by
  simp only [List.mem_cons,not_or] at hj
  refine be0 is ds _ j v hj.2 ?_
  rw [g9,if_neg (λ q=>hj.1 q.1.symm)]
  exact h
theorem ce1 {r r1:Rho} {is:List Nat} {d:D} (hb:m8 r is d=some r1) {j:Nat} {v:aa3×D} (hj:j ∉ is) (h:r.get j=some v):r1.get j=some v:=by
 rcases ak3 hb with ⟨i,rfl,rfl⟩ | ⟨ds,rfl,_,_,rfl⟩
 ·have:j≠i:=by simpa using hj
  rw [g9,if_neg (λ q=>this q.1.symm)]
  exact h
 ·exact be0 is ds r j v hj h
noncomputable def ce9 (U:String->List D->Option D) (r':Rho) (tgt:List Nat) (qd:List IR) (ir:IR) (d:D):Option (Option D):=do
 let r1 <- m8 r' tgt d
 bif <- ah1 U qd r1 then (eval U ir r1).map some else some none
theorem ah5 {α β:Type} {f:α->Option β}:∀ {l:List α} {out:List β},l.mapM f=some out->out.length=l.length/\∀ (i:Nat) (x:α),l[i]?=some x->∃ y,f x=some y/\out[i]?=some y
 | [],out,h=>by simp at h;subst h;simp
 | a :: l,out,h=>by
  rw [List.mapM_cons] at h
  obtain ⟨y,h1,h⟩:=a6 h
  obtain ⟨ys,h2,h⟩:=a6 h
  cases h
  obtain ⟨e1,e2⟩:=ah5 h2
  refine ⟨by simp [e1],λ i x hx=>?_⟩
  cases i with
  | zero=>simp at hx;subst hx;exact ⟨y,h1,rfl⟩
  | succ i=>simpa using e2 i x (by simpa using hx)
theorem cb3 {qe:List (Option D)} {i:Nat} {y:Option D} (h:qe[i]?=some y):(qe.take (i+1)).filterMap id=(qe.take i).filterMap id ++ y.toList:=by
 rw [List.take_add_one,h,List.filterMap_append]
 cases y <;> simp
theorem eu3 {A:Around} {target:PySem.Expr} {I:Addr} {fp wr:List Addr} {n:Nat} {P Md:Nat->Value->Heap->Prop} {St:Nat->Heap->Prop} (W:KTurns prog w A target I fp wr n P Md St) (hex:∀ i h,St i h->∀ b∈fp,ba7 h b) {i:Nat} {h h':Heap} (st:St i h) (O:Old h h'):St i h':=
 W.frame i h h' st λ b q o e=>by
  obtain ⟨o',e',s⟩:=hex i h st b q
  rw [e] at e';cases e'
  exact O.solid e s
end
end
section
open PySem.Calls PySem.SeqAt
section
variable {w:World} {qa:Heap} {mg mb:Str->Option Value} {k:Nat} {U:String->List D->Option D} {sc:Scope}
theorem bi7 {iter:PySem.Expr} {env:Env} (h:aa0 iter=true):∀ x,foldedSetIterable iter env x=pure x:=by
 intro x
 cases iter <;> first | rfl | cases h
theorem dz8 {sc':Scope} {t:PySem.Expr} {tgt:List Nat} {i:Nat} (h:z5 sc' t tgt) (hi:i∈tgt):∃ y,j5 sc' y=some i:=by
 cases h with
 | name hw=>rw [List.mem_singleton.mp hi];exact ⟨_,hw⟩
 | tup hes h2=>
  clear h2
  induction hes with
  | nil=>cases hi
  | cons he _ ih=>
   obtain ⟨x,p,_,hw⟩:=he
   rcases List.mem_cons.mp hi with rfl | hi
   ·exact ⟨x,hw⟩
   ·exact ih hi
theorem cn1 {sc sc':Scope} {t:PySem.Expr} {tgt:List Nat} {r:Rho} (cs:an7 sc' sc) (h:z5 sc' t tgt) {i:Nat} {v:aa3×D} (hv:Rho.get (as7 r (ad3 sc' sc)) i=some v):i ∉ tgt:=by
 intro hi
 obtain ⟨y,hw⟩:=dz8 h hi
 obtain ⟨m,d⟩:=v
 obtain ⟨x,hx,_⟩:=bt3 hv
 obtain ⟨hs,hk⟩:=f4 hw
 obtain ⟨kd,hn⟩:=bp0 hs
 rw [hx] at hn
 cases hn
 have:=l7 cs.nodup (List.mem_of_getElem? hx)
 rcases hk with q | q <;> (rw [this] at q;cases q)
inductive EmS (w:World) (h0:Heap) (B0:FM) (cenv:Env) (sc':Scope) (r1:Rho) (Y:Addr->Prop) (AP:Nat->FM->Obj->Prop) (Dd:Addr) (i:Nat) (B:FM) (s s':Shared):Prop
 | mk (B5 o':_) (h1:Sim prog w h0 B0 cenv sc' r1 B5 Y s'.heap) (h2:B.le B5) (h3:∀ b o,¬ isOwn cenv sc' b->b≠Dd->s.heap.get? b=some o->Up o (s'.heap.get? b)) (h4:s'.heap.get? Dd=some o') (h5:AP (i+1) B5 o') (h6:k6 s s')
inductive EmP (w:World) (h0:Heap) (B0:FM) (cenv:Env) (sc':Scope) (r1:Rho) (Y:Addr->Prop) (AP:Nat->FM->Obj->Prop) (Dd:Addr) (i:Nat) (B:FM) (s s':Shared):Prop
 | mk (B5 h5 o':_) (h1:Gr B s.heap B5 h5) (h2:Heap.SameBut Dd h5 s'.heap) (h3:s'.heap.get? Dd=some o') (h4:AP (i+1) B5 o') (h5:k6 s s')
 | sim (h:EmS w h0 B0 cenv sc' r1 Y AP Dd i B s s')
theorem EmP.s {h0:Heap} {B0:FM} {cenv:Env} {sc':Scope} {r1:Rho} {Y:Addr->Prop} {AP:Nat->FM->Obj->Prop} {Dd:Addr} {i:Nat} {B:FM} {s s':Shared} (S:Sim prog w h0 B0 cenv sc' r1 B Y s.heap) (hYD:Y Dd):EmP w h0 B0 cenv sc' r1 Y AP Dd i B s s'->EmS w h0 B0 cenv sc' r1 Y AP Dd i B s s'
 | .sim h=>h
 | .mk B5 h5 o' g5 hsb ho' hA' m5=>by
  have S5:=S.ev g5
  refine ⟨B5,o',S5.off (λ b o q e=>(hsb.2 b (λ q'=>q (by rw [q'];exact hYD))).trans e) λ b q=>?_,g5.le,λ b o q1 q2 e=>(g5.old b o e).trans λ o' e'=>.inl ((hsb.2 b q2).trans e'),ho',hA',m5⟩
  by_cases e:b=Dd
  ·subst e;rw [ho'];exact nofun
  ·rw [hsb.2 b e];exact (S5.y0 b q).2.2
inductive ex3 (w:World) (h0:Heap) (B0 B1:FM) (cenv:Env) (sc':Scope) (r':Rho) (Y:Addr->Prop) (wr:List Addr) (L:Nat) (s:Shared) (St:Nat->Heap->Prop) (Dd:Addr) (AP:Nat->FM->Obj->Prop) (n:Nat) (s':Shared):Prop
 | mk (i:Nat) (Bi:FM) (o:Obj) (h1:i<=L) (h2:n=L+1 - i) (h3:Sim prog w h0 B0 cenv sc' r' Bi Y s'.heap) (h4:B1.le Bi) (h5:k6 s s') (hf:∀ b o,¬ isOwn cenv sc' b->b≠Dd->b ∉ wr->s.heap.get? b=some o->Up o (s'.heap.get? b)) (h6:St i s'.heap) (h7:s'.heap.get? Dd=some o) (h8:AP i Bi o)
theorem cs7 {e:PySem.Expr} {lv:Nat} {target iter:PySem.Expr} {ifs:List PySem.Expr} {sc':Scope} {I Dd:Addr} {cenv:Env} {emit:Sem Unit} {tgt:List Nat} {qd:List IR} {A:Around} {R:Result->Shared->Prop} {s:Shared} {h0:Heap} {B0 B1:FM} {Y:Addr->Prop} {r':Rho}
  {fp wr:List Addr} {P Md:Nat->Value->Heap->Prop} {St:Nat->Heap->Prop} {its:List D} {o0:Obj} {AP:Nat->FM->Obj->Prop}
  (hturn:compTurn e lv (.ref I) (.ref Dd) cenv=(do
   standAt iter.pos
   match <- pyNext (.ref I) with
   | none=>pure (.done .next)
   | some v=>
    letOwnedTupleGo target (.ref I) v
    assign target cenv v
    let mut ok:=true
    for c in ifs do
     if ok then ok <- isTrue c cenv (PySem.eval c cenv)
    if ok then
     emit
    again (.compLoop e lv (.ref I) (.ref Dd) cenv)))
  (hloop:∀ (Inv:Nat->Shared->Prop),(∀ n s,Inv n s->wpAny (model prog w) A (compTurn e lv (.ref I) (.ref Dd) cenv) (λ fin s'=>match fin with | .done f=>R (.ok f) s' | .again c'=>c' = .compLoop e lv (.ref I) (.ref Dd) cenv/\∃ m,m < n/\Inv m s')
   (notedBy (model prog w) A cenv λ x s'=>R (.error x) s') s)->∀ n s,Inv n s->codeAny (model prog w) A (.compLoop e lv (.ref I) (.ref Dd) cenv) R s)
  (tg:z5 sc' target tgt) (ht:b8 (ai4 w qa k U sc') ifs qd) (rm:Rm k A) (ek:j6 cenv sc') (hb:∀ a o,qa.get? a=some o->B0 a=some o) (stk:Stk A B0 h0)
  (W:KTurns prog w A target I fp wr its.length P Md St) (hex:∀ i h,St i h->∀ b∈fp,ba7 h b)
  (hrd:∀ i v h B',P i v h->B1.le B'->j4 B' h->∃ d,its[i]?=some d/\f8 prog w h B' d v/\(bg3 target=true->Rd prog w B' d v))
  (hfo:∀ b∈fp,¬ isOwn cenv sc' b/\b≠Dd) (hYD:Y Dd) (wrY:∀ b∈wr,Y b)
  (qi:∀ (i:Nat) (d:D),its[i]?=some d->∃ r1 t,m8 r' tgt d=some r1/\ah1 U qd r1=some t)
  (hsol:∀ (i:Nat) (B:FM) (o:Obj),AP i B o->ao6 o) (hmono:∀ (i:Nat) (B B':FM) (o:Obj),B.le B'->AP i B o->AP i B' o) (hskip:∀ (i:Nat) (d:D) (r1:Rho) (B:FM) (o:Obj),its[i]?=some d->m8 r' tgt d=some r1->ah1 U qd r1=some false->AP i B o->AP (i+1) B o)
  (hemit:∀ {s2:Shared} {B2:FM} {r1:Rho} {i:Nat} {d:D} {o:Obj} {E:Value->Shared->Prop},Sim prog w h0 B0 cenv sc' r1 B2 Y s2.heap->Ok prog w qa k A cenv sc' r1 B2 s2->its[i]?=some d->m8 r' tgt d=some r1->ah1 U qd r1=some true->s2.heap.get? Dd=some o->AP i B2 o->wpAny (model prog w) A emit (λ ξ s'=>EmP w h0 B0 cenv sc' r1 Y AP Dd i B2 s2 s') E s2)
  (hno:∀ i v,r'.get i=some v->i ∉ tgt)
  (S1:Sim prog w h0 B0 cenv sc' r' B1 Y s.heap) (ht0:0 < s.toks) (st1:St 0 s.heap) (hD:s.heap.get? Dd=some o0) (hA0:AP 0 B1 o0)
  (fin:∀ s' Bn o,Sim prog w h0 B0 cenv sc' r' Bn (λ a=>Y a/\a ∉ wr) s'.heap->B1.le Bn->k6 s s'->(∀ b o,¬ isOwn cenv sc' b->b≠Dd->b ∉ wr->s.heap.get? b=some o->Up o (s'.heap.get? b))->s'.heap.get? Dd=some o->AP its.length Bn o->R (.ok .next) s') :
  codeAny (model prog w) A (.compLoop e lv (.ref I) (.ref Dd) cenv) R s:=by
 refine hloop (ex3 w h0 B0 B1 cenv sc' r' Y wr its.length s St Dd AP) ?_ (its.length+1) _
  ⟨0,B1,o0,Nat.zero_le _,rfl,S1,.refl _,.refl _,λ ξ ξ ξ ξ ξ e=>.inl e,st1,hD,hA0⟩
 rintro n s' ⟨i,Bi,o,hi,rfl,S,hB1,m,hfr,st,ho,hA⟩
 rw [hturn]
 refine wpAny_bind (wpAny_standAt (wpAny_bind ?_))
 refine wpAny_with_toks (n:=s'.toks) (Nat.le_refl _) ?_
 have hDw:Dd ∉ wr:=λ q=>(hfo Dd (W.sub _ q)).2 rfl
 by_cases hlt:i < its.length
 ·refine W.item i _ _ _ hlt st λ v h' tk hmd hk htk=>?_
  refine wpAny_bind (W.go i v { s' with heap:=h',toks:=tk } _ _ hmd λ h2 hP st2 hk2=>?_)
  have hoff:∀ b o,b ∉ wr->s'.heap.get? b=some o->h2.get? b=some o:=λ b o q e=>hk2 b o q (hk b o q e)
  have SY:Sim prog w h0 B0 cenv sc' r' Bi Y h2:=S.off (λ b o q e=>hoff b o (λ q'=>q (wrY b q')) e) λ b q=>by
   by_cases hw:b∈wr
   ·exact (hex _ _ st2 b (W.sub _ hw)).ne
   ·cases e:s'.heap.get? b with
    | none=>exact absurd e (S.y0 b q).2.2
    | some o=>rw [hoff b o hw e];exact nofun
  obtain ⟨d,hd,hv,hf⟩:=hrd i v h2 Bi hP hB1 SY.gr.keep
  obtain ⟨r1,t,hr1,htt⟩:=qi i d hd
  have hno':∀ j v,r'.get j=some v->r1.get j=some v:=λ j v q=>ce1 hr1 (hno j v q) q
  refine wpAny_bind (bb3 (s:={ s' with heap:=h2,toks:=tk }) tg rm.handled ek SY hv hf hr1 λ h3 tk3 htk3 S3 hk3 ξ=>?_)
  have m3:k6 s { s' with heap:=h3,toks:=tk3 }:=⟨m.gens,m.os,Nat.le_trans m.toks (Nat.le_trans htk htk3)⟩
  have hD3:h3.get? Dd=some o:=hk3 _ _ (λ q=>S3.yown _ q hYD) (hoff _ _ hDw ho)
  have st3:St (i+1) h3:=W.frame _ _ _ st2 λ b q o e=>hk3 b o (hfo b q).1 e
  have ok3:Ok prog w qa k A cenv sc' r1 Bi { s' with heap:=h3,toks:=tk3 }:=S3.okC (s:={ s' with heap:=h3,toks:=tk3 }) rm ek hb (Nat.lt_of_lt_of_le ht0 m3.toks) stk
  refine wpAny_bind (dx1 ht ok3 htt λ s4 B4 g4 m4 ok4=>?_)
  have S4:=S3.ev g4
  have hD4:=g4.old.solid hD3 (hsol _ _ _ hA)
  have hA4:=hmono i _ _ _ g4.le hA
  have hfr4:∀ b o,¬ isOwn cenv sc' b->b≠Dd->b ∉ wr->s.heap.get? b=some o->Up o (s4.heap.get? b):=λ b o q1 q2 q3 e=>(hfr b o q1 q2 q3 e).trans λ o' e'=>g4.old b o' (hk3 b o' q1 (hoff b o' q3 e'))
  have st4:=eu3 W hex st3 g4.old
  cases t
  ·refine ac8 Bool.false_ne_true ?_
   exact wpAny_bind (wpAny_pure (wpAny_pure ⟨rfl,its.length+1 - (i+1),Nat.sub_lt_sub_left (Nat.lt_succ_of_lt hlt) (Nat.lt_succ_self i),i+1,B4,o,hlt,rfl,S4.fewer hno',hB1.trans g4.le,m3.trans m4,hfr4,st4,hD4,hskip i d r1 _ _ hd hr1 htt hA4⟩))
  ·refine ah3 rfl ?_
   refine wpAny_bind (wpAny_mono (hemit S4 ok4 hd hr1 htt hD4 hA4) (λ ξ s6 q=>?_) λ ξ ξ e=>e)
   obtain ⟨B5,o',S6,l5,f5,ho',hA',m5⟩:=q.s S4 hYD
   refine wpAny_pure ⟨rfl,its.length+1 - (i+1),Nat.sub_lt_sub_left (Nat.lt_succ_of_lt hlt) (Nat.lt_succ_self i),i+1,B5,o',hlt,rfl,S6.fewer hno',hB1.trans (g4.le.trans l5),(m3.trans m4).trans m5,λ b o q1 q2 q3 e=>(hfr4 b o q1 q2 q3 e).trans λ o' e'=>f5 b o' q1 q2 e',?_,ho',hA'⟩
   exact W.frame _ _ _ st4 λ b q o e=>(f5 b o (hfo b q).1 (hfo b q).2 e).solid (by obtain ⟨o',e',hs'⟩:=hex _ _ st4 b q;rw [e] at e';cases e';exact hs')
 ·have hin:i=its.length:=by exact Nat.le_antisymm ‹_› (Nat.not_lt.mp ‹_›)
  subst hin
  refine W.done _ _ _ st λ h' tk hk htk=>?_
  refine wpAny_pure (fin _ Bi o (S.off2 (λ b o q e=>hk b o (λ q'=>q (wrY b q')) e) (λ ξ q=>q.1) λ b q=>?_) hB1 ⟨m.gens,m.os,Nat.le_trans m.toks htk⟩ (λ b o q1 q2 q3 e=>(hfr b o q1 q2 q3 e).trans λ o' e'=>.inl (hk b o' q3 e')) (hk _ _ hDw ho) hA)
  cases e:s'.heap.get? b with
  | none=>exact absurd e (S.y0 b q.1).2.2
  | some o=>rw [hk b o q.2 e];exact nofun
theorem as3 {e:PySem.Expr} {rest:_} {target iter:PySem.Expr} {ifs:List PySem.Expr} {sc':Scope} {p:Pos} {emit:Addr->Env->Sem Unit} {newAcc:Sem Value} {tgt:List Nat} {isrc:IR} {qd:List IR} {A:Around} {E:Value->Shared->Prop} {env:Env} {r:Rho} {B:FM} {s:Shared} {its:List D} {use:Option (Value->Sem Unit)} {Q:Value->Shared->Prop} {AP:Nat->FM->Obj->Prop}
  (hcl:clausesOf e=⟨target,iter,ifs,0⟩ :: rest)
  (hnew:∀ (s2:Shared) (Q:Value->Shared->Prop) (E:Value->Shared->Prop),(∀ o,o.isFreed=false->(∀ B,AP 0 B o)->Q (.ref s2.heap.objs.size) { s2 with heap:=s2.heap.push o })->wpAny (model prog w) A newAcc Q E s2)
  (hturn:∀ I Dd cenv,compTurn e 0 (.ref I) (.ref Dd) cenv=(do
   standAt iter.pos
   match <- pyNext (.ref I) with
   | none=>pure (.done .next)
   | some v=>
    letOwnedTupleGo target (.ref I) v
    assign target cenv v
    let mut ok:=true
    for c in ifs do
     if ok then ok <- isTrue c cenv (PySem.eval c cenv)
    if ok then
     emit Dd cenv
    again (.compLoop e 0 (.ref I) (.ref Dd) cenv)))
  (hloop:∀ I Dd cenv R (Inv:Nat->Shared->Prop),(∀ n s,Inv n s->wpAny (model prog w) A (compTurn e 0 (.ref I) (.ref Dd) cenv) (λ fin s'=>match fin with | .done f=>R (.ok f) s' | .again c'=>c' = .compLoop e 0 (.ref I) (.ref Dd) cenv/\∃ m,m < n/\Inv m s')
   (notedBy (model prog w) A cenv λ x s'=>R (.error x) s') s)->∀ n s,Inv n s->codeAny (model prog w) A (.compLoop e 0 (.ref I) (.ref Dd) cenv) R s)
  (hstart:∀ I Dd cenv R s,codeAny (model prog w) A (.compLoop e 0 (.ref I) (.ref Dd) cenv) R s->(∀ (Q E:Value->Shared->Prop),Q (.ref I) s->wpAny (model prog w) A (pyIter (.ref I)) Q E s)->codeAny (model prog w) A (.compStart e 0 (.ref I) (.ref Dd) cenv) R s)
  (cs:an7 sc' sc) (hset:aa0 iter=true) (tg:z5 sc' target tgt) (hsrc:ad5 w qa k U sc iter isrc target) (ht:b8 (ai4 w qa k U sc') ifs qd)
  (ok:Ok prog w qa k A env sc r B s) (qh:e9 U isrc r=some its)
  (qi:∀ (i:Nat) (d:D),its[i]?=some d->∃ r1 t,m8 (as7 r (ad3 sc' sc)) tgt d=some r1/\ah1 U qd r1=some t)
  (hsol:∀ (i:Nat) (B:FM) (o:Obj),AP i B o->ao6 o) (hmono:∀ (i:Nat) (B B':FM) (o:Obj),B.le B'->AP i B o->AP i B' o) (hskip:∀ (i:Nat) (d:D) (r1:Rho) (B:FM) (o:Obj),its[i]?=some d->m8 (as7 r (ad3 sc' sc)) tgt d=some r1->ah1 U qd r1=some false->AP i B o->AP (i+1) B o)
  (hemit:∀ {s2:Shared} {B2:FM} {r1:Rho} {i:Nat} {d:D} {o:Obj} {cenv:Env} {Dd:Addr} {Y:Addr->Prop} {E:Value->Shared->Prop},j6 cenv sc'->Y Dd->Sim prog w s.heap B cenv sc' r1 B2 Y s2.heap->Ok prog w qa k A cenv sc' r1 B2 s2->its[i]?=some d->m8 (as7 r (ad3 sc' sc)) tgt d=some r1->ah1 U qd r1=some true->s2.heap.get? Dd=some o->AP i B2 o->
   wpAny (model prog w) A (emit Dd cenv) (λ ξ s'=>EmP w s.heap B cenv sc' r1 Y AP Dd i B2 s2 s') E s2)
  (fin:∀ Dd C s' Bn o,Gr B s.heap Bn s'.heap->k6 s s'->s.heap.get? Dd=none->s.heap.get? C=none->Dd≠C->(∀ a,s.heap.get? a≠none->a < Dd)->Bn Dd=none->Bn C=none->s'.heap.get? Dd=some o->AP its.length Bn o->
   (∃ m,s'.heap.Ns C m)->compPost (model prog w) A E use Q (.ref Dd) C (.ok .next) s') :
  wpAny (model prog w) A (comprehension e sc' env p newAcc false (PySem.eval iter env) use) Q E s:=by
 refine wpAny_comprehension_free (g:=⟨target,iter,ifs,0⟩) hcl (bi7 hset) (bx3 (λ x hx=>ok.eok.cells x (cs.free x (l7 cs.nodup hx)))) cs.kind (λ x hx hl=>hl▸l7 cs.nodup hx) ?_
 refine wpAny_mono (hsrc ok qh) (λ x s1 h1=>wpAny_mono h1 (λ it s2 h2=>?_) λ ξ ξ e=>e) λ ξ ξ e=>e
 obtain ⟨I,fp,wr,P,Md,St,B2,rfl,W,st2,g2,m2,hex,hwr,_,hrd,self⟩:=h2
 refine hnew s2 _ _ λ o0 hof hA0=>?_
 have hDn:s2.heap.get? s2.heap.objs.size=none:=g8 (Nat.le_refl _)
 have none0:∀ a,s2.heap.get? a=none->s.heap.get? a=none:=λ a e=>by
  exact g2.old.back e
 have hlow:∀ a,s.heap.get? a≠none->a < s2.heap.objs.size:=λ a e=>by
  cases e2:s2.heap.get? a with
  | none=>exact absurd (none0 a e2) e
  | some o=>exact Heap.lt_size e2
 refine cn2 cs.nodup λ h' cells ca hns old hlt hloc=>?_
 generalize hL:s2.heap.push o0=L at ca hns old hlt hloc⊢
 have hLs:L.objs.size=s2.heap.objs.size+1:=by rw [<- hL];exact Heap.size_push ..
 have hLD:L.get? s2.heap.objs.size=some o0:=by rw [<- hL];exact Heap.get?_push_size _ hof
 have hLo:∀ b o,s2.heap.get? b=some o->L.get? b=some o:=λ b o e=>by rw [<- hL];exact Heap.get?_push_of_some _ e
 have g3:Gr B s.heap B2 L:=g2.trans (Gr.heap g2.keep hLo)
 have hy:∀ a,(a=s2.heap.objs.size\/a∈wr)->s.heap.get? a=none/\B2 a=none/\L.get? a≠none:=by
  rintro a (rfl | q)
  ·exact ⟨none0 _ hDn,t7 (s:=s2) g2.keep hDn,by rw [hLD];simp⟩
  ·refine ⟨(hwr a q).1,(hwr a q).2,λ e=>?_⟩
   cases e2:s2.heap.get? a with
   | none=>exact (hex 0 _ st2 a (W.sub a q)).ne e2
   | some o=>rw [hLo a o e2] at e;cases e
 obtain ⟨ek,S⟩:=Sim.comp (Y:=λ a=>a=s2.heap.objs.size\/a∈wr) ok cs g3 hy ca hns old hloc
 have hCn:s.heap.get? L.objs.size=none/\B2 L.objs.size=none:=S.own0 _ (.inl rfl)
 have hlo:∀ a,isOwn (bd5 sc' env L.objs.size cells) sc' a->L.objs.size<=a:=by
  rintro a (rfl | ⟨x,q1,q2⟩)
  ·exact Nat.le_refl _
  ·obtain ⟨c,e1,e2,_⟩:=ca.own x q1
   have:some c=some a:=e1.symm.trans q2
   cases this;exact e2
 have hfo:∀ b∈fp,¬ isOwn (bd5 sc' env L.objs.size cells) sc' b/\b≠s2.heap.objs.size:=by
  intro b hb
  have hbl:b < s2.heap.objs.size:=by
   cases e:s2.heap.get? b with
   | none=>exact absurd e (hex 0 _ st2 b hb).ne
   | some o=>exact Heap.lt_size e
  refine ⟨λ q=>?_,Nat.ne_of_lt hbl⟩
  have:=hlo b q
  rw [hLs] at this
  exact absurd hbl (Nat.not_lt.mpr (Nat.le_trans (Nat.le_succ _) this))
 have st4:St 0 h':=W.frame _ _ _ st2 λ b ξ o e=>old b o (hLo b o e)
 have ms:k6 s { s2 with heap:=h' }:=⟨m2.gens,m2.os,m2.toks⟩
 refine hstart I s2.heap.objs.size _ _ _ (cs7 (k:=k) (qa:=qa) (U:=U) (s:={ s2 with heap:=h' }) (AP:=AP) (hturn _ _ _) (hloop _ _ _ _) tg ht ok.rm ek ok.base ok.stk W hex (λ i v h B' hP hB hk=>hrd i v h B' hP hB hk) hfo (.inl rfl) (λ b q=>.inr q) qi hsol hmono hskip
  (λ S ok' q1 q2 q3 q4 q5=>hemit ek (.inl rfl) S ok' q1 q2 q3 q4 q5) (λ i v q=>cn1 cs tg q) S (Nat.lt_of_lt_of_le ok.toks m2.toks) st4 (old _ _ hLD) (hA0 _) ?_) (λ Q E q=>self 0 _ _ _ st4 q)
 intro s' Bn o S' l m f hD' hA'
 have hDw:s2.heap.objs.size ∉ wr:=λ q=>(hfo _ (W.sub _ q)).2 rfl
 obtain ⟨mm,hns⟩:=S'.fm.ns
 exact fin _ L.objs.size s' Bn o S'.gr (ms.trans m) (none0 _ hDn) hCn.1 (by rw [hLs];exact Nat.ne_of_lt (Nat.lt_succ_self _)) hlow (S'.y0 _ ⟨.inl rfl,hDw⟩).2.1 (S'.own0 _ (.inl rfl)).2 hD' hA' ⟨mm,hns⟩
inductive CpP (w:World) (B:FM) (s:Shared) (d:D) (Dd C:Addr) (s':Shared):Prop
 | mk (Bn:FM) (o:Obj) (g:Gr B s.heap Bn s'.heap) (m:k6 s s') (hD:s.heap.get? Dd=none) (hC:s.heap.get? C=none) (hne:Dd≠C) (hBD:Bn Dd=none) (hBC:Bn C=none) (hDo:s'.heap.get? Dd=some o) (hpl:o.dict=none/\o.slots=#[])
  (t:f8 prog w s'.heap Bn d (.ref Dd)) (hz:∀ B',Bn.le B'->B' Dd=some o->Rd prog w B' d (.ref Dd)) (hns:∃ m,s'.heap.Ns C m):CpP w B s d Dd C s'
variable (w qa k U) in
noncomputable def do1 (sc sc':Scope) (val iter:PySem.Expr) (newAcc:Sem Value) (ir:IR):Prop:=
 ∀ ⦃A E s env r B d p use Q⦄,Ok prog w qa k A env sc r B s->eval U ir r=some d->(∀ Dd C s',CpP w B s d Dd C s'->compPost (model prog w) A E use Q (.ref Dd) C (.ok .next) s')->
  wpAny (model prog w) A (comprehension val sc' env p newAcc false (PySem.eval iter env) use) Q E s
variable (w) in

noncomputable def LAP (ds0:List D) (qe:List (Option D)) (n:Nat) (B:FM) (o:Obj):Prop:=∃ vs,ba1 "list" vs o/\(o.dict=none/\o.slots=#[])/\RdL prog w B (ds0 ++ (qe.take n).filterMap id) vs
theorem cp0 {ds0:List D} {qe:List (Option D)} (i:Nat) (B B':FM) (o:Obj) (hB:B.le B'):LAP w ds0 qe i B o->LAP w ds0 qe i B' o:=λ ⟨vs,q1,q2,q3⟩=>⟨vs,q1,q2,q3.mono hB⟩
theorem dg3 {its:List D} {qe:List (Option D)} {r':Rho} {tgt:List Nat} {qd:List IR} {ir:IR} (qg:∀ (i:Nat) (d:D),its[i]?=some d->∃ y,ce9 U r' tgt qd ir d=some y/\qe[i]?=some y) (i:Nat) (d:D) (hi:its[i]?=some d):∃ r1 t,m8 r' tgt d=some r1/\ah1 U qd r1=some t:=by
 obtain ⟨y,hy,_⟩:=qg i d hi
 obtain ⟨r1,hr1,hy⟩:=a6 hy
 obtain ⟨t,htt,_⟩:=a6 hy
 exact ⟨r1,t,hr1,htt⟩
theorem cs4 {its:List D} {qe:List (Option D)} {r' r1:Rho} {tgt:List Nat} {qd:List IR} {ir:IR} {t:Bool} (qg:∀ (i:Nat) (d:D),its[i]?=some d->∃ y,ce9 U r' tgt qd ir d=some y/\qe[i]?=some y) {i:Nat} {d:D} (hi:its[i]?=some d) (hr1:m8 r' tgt d=some r1) (htt:ah1 U qd r1=some t) :
  ∃ y,qe[i]?=some y/\(bif t then (eval U ir r1).map some else some none)=some y:=by
 obtain ⟨y,hy,hyo⟩:=qg i d hi
 obtain ⟨r1',hr1',hy⟩:=a6 hy
 obtain ⟨t,htt',hy⟩:=a6 hy
 rw [hr1] at hr1';cases hr1'
 rw [htt] at htt';cases htt'
 exact ⟨y,hyo,hy⟩
theorem co4 {its ds0:List D} {qe:List (Option D)} {r':Rho} {tgt:List Nat} {qd:List IR} {ir:IR} (qg:∀ (i:Nat) (d:D),its[i]?=some d->∃ y,ce9 U r' tgt qd ir d=some y/\qe[i]?=some y) (i:Nat) (d:D) (r1:Rho) (B:FM) (o:Obj) (hi:its[i]?=some d) (hr1:m8 r' tgt d=some r1) (htt:ah1 U qd r1=some false) (hA:LAP w ds0 qe i B o):LAP w ds0 qe (i+1) B o:=by
 obtain ⟨y,hyo,hy⟩:=cs4 qg hi hr1 htt
 cases hy
 obtain ⟨vs,q1,q2,q3⟩:=hA
 refine ⟨vs,q1,q2,?_⟩
 rw [cb3 hyo,Option.toList_none,List.append_nil]
 exact q3
theorem cq2 {elt:PySem.Expr} {ir:IR} {sc':Scope} {its ds0:List D} {qe:List (Option D)} {r' r1:Rho} {tgt:List Nat} {qd:List IR} {A:Around} {E:Value->Shared->Prop} {s:Shared} {h0:Heap} {B0 B:FM} {cenv:Env} {Y:Addr->Prop} {Dd:Addr} {o:Obj} (he:j3 w qa k U sc' elt ir) (hsz:sz (ds0 ++ qe.filterMap id).length=true) (qg:∀ (i:Nat) (d:D),its[i]?=some d->∃ y,ce9 U r' tgt qd ir d=some y/\qe[i]?=some y) (ok':Ok prog w qa k A cenv sc' r1 B s) {i:Nat} {d:D} (hi:its[i]?=some d) (hr1:m8 r' tgt d=some r1) (htt:ah1 U qd r1=some true) (hD:s.heap.get? Dd=some o) (hA:LAP w ds0 qe i B o) :
  wpAny (model prog w) A (do let _ <- call (.builtin "list.append") [.ref Dd,<- PySem.eval elt cenv]) (λ ξ s'=>EmP w h0 B0 cenv sc' r1 Y (LAP w ds0 qe) Dd i B s s') E s:=by
 obtain ⟨y,hyo,hy⟩:=cs4 qg hi hr1 htt
 obtain ⟨e,hee,rfl⟩:=u9 hy
 obtain ⟨vs,hs,hpl,hr⟩:=hA
 refine wpAny_bind (al8 he ok' hee λ u s5 B5 g5 m5 r5 ok5=>?_)
 have hD5:=g5.old.solid hD hs.solid
 have hpl5:s5.heap.PlainList Dd vs.toArray:=by
  obtain ⟨c1,n1,c2⟩:=hs
  obtain ⟨cls,dct,dt,sl⟩:=o
  simp only at c1 c2 hpl
  obtain ⟨rfl,rfl⟩:=hpl
  subst c1 c2
  exact ⟨n1,hD5⟩
 refine wpAny_bind (wpAny_list_append_plain hpl5 (λ h6 hl6 hsb=>?_) (by
  rw [List.size_toArray,hr.length]
  exact Nat.le_trans (List.Sublist.append (List.Sublist.refl ds0) (List.Sublist.filterMap id (List.take_sublist i qe))).length_le (ai7 hsz)))
 obtain ⟨n6,ho6⟩:=hl6
 refine wpAny_pure (.mk B5 s5.heap _ g5 hsb ho6 ⟨vs ++ [u],⟨rfl,n6,by rw [List.push_toArray]⟩,⟨rfl,rfl⟩,?_⟩ ⟨m5.gens,m5.os,m5.toks⟩)
 rw [cb3 hyo,<- List.append_assoc]
 exact (hr.mono g5.le).append (RdL.cons r5 RdL.nil)
theorem bi1 {elt target iter:PySem.Expr} {ifs:List PySem.Expr} {sc':Scope} {pos:Pos} {tgt:List Nat} {isrc:IR} {qd:List IR} {ir:IR}
  (cs:an7 sc' sc) (hset:aa0 iter=true) (tg:z5 sc' target tgt) (hsrc:ad5 w qa k U sc iter isrc target) (ht:b8 (ai4 w qa k U sc') ifs qd) (he:j3 w qa k U sc' elt ir) :
  do1 w qa k U sc sc' (.ListComp elt [⟨target,iter,ifs,0⟩] sc' pos) iter (newList []) (.comp (ad3 sc' sc) tgt isrc qd ir):=λ A E s env r B d p use Q ok hd fin=>by
 obtain ⟨its,qh,hd⟩:=a6 hd
 obtain ⟨qe,hmap,hd⟩:=a6 hd
 obtain ⟨hsz,hd⟩:=i4 hd
 cases hd
 have hmap':its.mapM (ce9 U (as7 r (ad3 sc' sc)) tgt qd ir)=some qe:=hmap
 obtain ⟨qf,qg⟩:=ah5 hmap'
 refine as3 (k:=k) (qa:=qa) (U:=U) (sc:=sc) (emit:=λ Dd cenv=>(do let _ <- call (.builtin "list.append") [.ref Dd,<- PySem.eval elt cenv])) (AP:=LAP w [] qe) rfl
  (λ s2 Q E hQ=>wpAny_newObj_type (hQ _ rfl λ B=>⟨[],⟨rfl,0,rfl⟩,⟨rfl,rfl⟩,RdL.nil⟩)) (λ I Dd cenv=>compTurn_list ..) (λ I Dd cenv R Inv h n s hI=>codeAny_loop rfl Inv (λ n s' hI'=>wpAny_noted (h n s' hI')) n hI) (λ I Dd cenv R s h1 h2=>codeAny_compStart_list h1 (h2 _ _ h1))
  cs hset tg hsrc ht ok qh (dg3 qg) (λ _ _ o ⟨_,q,_⟩=>q.solid) cp0 (co4 qg) (λ ξ ξ ξ ok' hi hr1 htt hD hA=>cq2 he hsz qg ok' hi hr1 htt hD hA) λ Dd C s' Bn o g m hD hC hne hlow hBD hBC hDo hA hn=>?_
 obtain ⟨vs,hs,hpl,hr⟩:=hA
 rw [qf.symm,List.take_length] at hr
 exact fin Dd C s' ⟨Bn,o,g,m,hD,hC,hne,hBD,hBC,hDo,hpl,show f8 prog w _ _ (.list _) _ from ⟨Dd,o,vs,rfl,hDo,hs,hr⟩,λ B' hB e=>bo4.mpr ⟨Dd,o,vs,rfl,e,hs,hr.mono hB⟩,hn⟩
theorem dw6 {sc':Scope} {val iter:PySem.Expr} {newAcc:Sem Value} {ir:IR} (h:do1 w qa k U sc sc' val iter newAcc ir) (he:∀ env,∃ p,PySem.eval val env=comprehension val sc' env p newAcc false (PySem.eval iter env) none) {A:Around} {E:Value->Shared->Prop} {env:Env} {r:Rho} {B:FM} {s:Shared} {d:D}
  (ok:Ok prog w qa k A env sc r B s) (hd:eval U ir r=some d):wpAny (model prog w) A (PySem.eval val env) (FrP prog w B s d) E s:=by
 obtain ⟨p,e⟩:=he env
 rw [e]
 refine h ok hd λ Dd C s' q=>?_
 obtain ⟨Bn,o,g,m,hD,hC,hne,hBD,hBC,hDo,hpl,t,hz,⟨mm,hns⟩⟩:=q
 refine ⟨mm,hns,λ h' hsb=>?_⟩
 have hk:∀ b o,¬ b=C->s'.heap.get? b=some o->h'.get? b=some o:=λ b o q e=>(hsb.2 b q).trans e
 exact ⟨Bn,Dd,rfl,g.off hk (λ b q=>by subst q;exact ⟨hC,hBC⟩),hD,hBD,t.off hk (.refl _) (λ b q e=>by subst q;cases e;exact hne rfl),⟨m.gens,m.os,m.toks⟩,λ o' e=>by rw [hk _ _ hne hDo] at e;cases e;exact hpl⟩
theorem eu7 {sc':Scope} {val iter:PySem.Expr} {newAcc:Sem Value} {ir:IR} (h:do1 w qa k U sc sc' val iter newAcc ir) (he:∀ env,∃ p,PySem.eval val env=comprehension val sc' env p newAcc false (PySem.eval iter env) none):j3 w qa k U sc val ir:=λ A E s env r B d ok hd=>
 wpAny_mono (dw6 h he ok hd) (λ ξ ξ q=>q.ev) λ ξ ξ e=>e
theorem ei3 {elt target iter:PySem.Expr} {ifs:List PySem.Expr} {sc':Scope} {pos:Pos} {tgt:List Nat} {isrc:IR} {qd:List IR} {ir:IR}
  (cs:an7 sc' sc) (hset:aa0 iter=true) (tg:z5 sc' target tgt) (hsrc:ad5 w qa k U sc iter isrc target) (ht:b8 (ai4 w qa k U sc') ifs qd) (he:j3 w qa k U sc' elt ir) :
  j3 w qa k U sc (.ListComp elt [⟨target,iter,ifs,0⟩] sc' pos) (.comp (ad3 sc' sc) tgt isrc qd ir):=eu7 (bi1 cs hset tg hsrc ht he) λ env=>⟨_,rfl⟩
theorem dm3 {key elt target iter:PySem.Expr} {sc':Scope} {pos:Pos} {tgt:List Nat} {isrc:IR} {ik ir:IR} (G:Glb qa mg mb)
  (cs:an7 sc' sc) (hset:aa0 iter=true) (tg:z5 sc' target tgt) (hsrc:ad5 w qa k U sc iter isrc target) (hk:j3 w qa k U sc' key ik) (he:j3 w qa k U sc' elt ir) :
  do1 w qa k U sc sc' (.DictComp key elt [⟨target,iter,[],0⟩] sc' pos) iter newDict (.dcomp (ad3 sc' sc) tgt isrc [] ik ir):=λ A E s env r B d p use Q ok hd fin=>by
 obtain ⟨its,qh,hd⟩:=a6 hd
 obtain ⟨qe,hmap,hd⟩:=a6 hd
 obtain ⟨hc,hd⟩:=i4 hd
 cases hd
 obtain ⟨hkeys,hc⟩:=b9 hc
 have h60:=of_decide_eq_true (b9 hc).2
 obtain ⟨qf,qg⟩:=ah5 hmap
 refine as3 (k:=k) (qa:=qa) (U:=U) (sc:=sc) (qd:=[]) (emit:=λ Dd cenv=>(do
   let kv <- PySem.eval key cenv
   let vv <- holding [kv] (PySem.eval elt cenv)
   standAt { key.pos with endLine:=elt.pos.endLine,endCol:=elt.pos.endCol }
   holding [kv,vv] (dictSet Dd kv vv))) (AP:=λ n B o=>∃ ps,o.IsDictOf (kk prog w) ps/\RdK prog w B ((qe.take n).foldl (λ m e=>ag8 m e.1 e.2) []) ps/\ps.length<=n) rfl
  (λ s2 Q E hQ=>wpAny_newObj_type (hQ _ rfl λ B=>⟨[],⟨#[],0,⟨rfl,rfl,rfl⟩,rfl,λ _ he=>by simp at he,Pairs.nil,List.nodup_nil⟩,rfl,Nat.le_refl _⟩)) (λ I Dd cenv=>compTurn_dict ..) (λ I Dd cenv R Inv h n s hI=>codeAny_loop rfl Inv (λ n s' hI'=>wpAny_noted (h n s' hI')) n hI) (λ I Dd cenv R s h1 h2=>codeAny_compStart_dict h1 (h2 _ _ h1))
  cs hset tg hsrc .nil ok qh (λ i d hi=>?_) (λ _ _ o ⟨_,q,_⟩=>af9 q) (λ _ _ _ _ hB ⟨ps,q1,q2,q3⟩=>⟨ps,q1,q2.mono hB,q3⟩) (λ i d r1 B o hi hr1 htt hA=>by cases htt) (λ {s B r1 i d o cenv Dd Y E} ξ ξ ξ ok' hi hr1 htt hD hA=>?_) λ Dd C s' Bn o g m hD hC hne hlow hBD hBC hDo hA hn=>?_
 ·obtain ⟨y,hy,_⟩:=qg i d hi
  obtain ⟨r1,hr1,hy⟩:=a6 hy
  exact ⟨r1,true,hr1,rfl⟩
 ·obtain ⟨y,hy,hyo⟩:=qg i d hi
  obtain ⟨r1',hr1',hy⟩:=a6 hy
  rw [hr1] at hr1';cases hr1'
  obtain ⟨kd,hkd,hy⟩:=a6 hy
  obtain ⟨vd,hvd,hy⟩:=a6 hy
  cases hy
  obtain ⟨ps,hs,hr,hn⟩:=hA
  obtain ⟨kx,rfl⟩:=an0 (am1 hkeys (kd,vd) (List.mem_of_getElem? hyo))
  refine wpAny_bind (al8 hk ok' hkd λ u s4 B4 g4 m4 r4 ok4=>?_)
  refine wpAny_bind (wpAny_holding (al8 he ok4 hvd λ v s5 B5 g5 m5 r5 ok5=>wpAny_bind (wpAny_standAt (wpAny_holding ?_))))
  have hD5:=(g4.old.trans g5.old).solid hD (af9 hs)
  have hi60:i < qe.length:=(List.getElem?_eq_some_iff.mp hyo).1
  refine wpAny_dictSet_pairs (Rd.keyis r4) (w5 hD5 hs) (λ h6 hd6 hsb=>?_) (Nat.le_trans hn (Nat.le_trans (Nat.le_of_lt hi60) (Nat.le_trans h60 (by decide))))
  obtain ⟨o6,ho6,hio⟩:=Heap.dictOf_iff.mp hd6
  refine .mk B5 s5.heap _ (g4.trans g5) hsb ho6 ⟨_,hio,?_,Nat.le_trans (PySem.stored_length_le ps kx v) (Nat.succ_le_succ hn)⟩ ((m4.trans m5).trans ⟨rfl,rfl,Nat.le_succ _⟩)
  rw [List.take_add_one,hyo,List.foldl_append]
  exact RdK.stored r5 (hr.mono (g4.le.trans g5.le))
 ·obtain ⟨ps,hs,hr,_⟩:=hA
  rw [qf.symm,List.take_length] at hr
  have hbig:Dd≠sysModules:=λ e=>by
   obtain ⟨o,_,_,ho,_⟩:=G.g
   have h1:mainGlobals < Dd:=hlow mainGlobals (by rw [ok.old _ _ ho];nofun)
   have h3:mainGlobals=3:=rfl
   have h2:Dd=1:=e
   lia
  exact fin Dd C s' ⟨Bn,o,g,m,hD,hC,hne,hBD,hBC,hDo,(by obtain ⟨_,_,hx,_⟩:=hs;exact hx.2),show f8 prog w _ _ (.dict _) _ from ⟨Dd,o,ps,rfl,hDo,⟨hs,hbig⟩,hr⟩,λ B' hB e=>show Rd prog w _ (.dict _) _ from ⟨Dd,o,ps,rfl,e,⟨hs,hbig⟩,hr.mono hB⟩,hn⟩
end
end
section
open PySem.Calls PySem.SeqAt
section
variable {w:World} {h0:Heap} {B0:FM} {env:Env} {sc:Scope} {r:Rho} {B:FM} {Y:Addr->Prop} {s:Shared} {A:Around} {E:Value->Shared->Prop}
theorem cp1 {h:Heap} {B:FM} {d:D} {a:Addr} (t:f8 prog w h B d (.ref a)) (hb:B a=none):h.get? a≠none:=by
 cases d with
 | none=>cases t
 | bool b=>cases t
 | int i=>obtain ⟨_,_,e⟩:=t;cases e
 | str x=>obtain ⟨_,_,e⟩:=t;cases e
 | list l=>obtain ⟨a',o,vs,e,ho,_⟩:=t;cases e;rw [ho];simp
 | tuple l=>obtain ⟨a',o,vs,e,ho,_⟩:=t;cases e;rw [ho];simp
 | dict l=>obtain ⟨a',o,vs,e,ho,_⟩:=t;cases e;rw [ho];simp
theorem Sim.mut {h h':Heap} {x:Str} {i:Nat} {d d':D} {a:Addr} (S:Sim prog w h0 B0 env sc r B Y h) (hs:d8 sc x=some i) (hr:r.get i=some (.own,d)) (ha:At env h x (.ref a)) (hsb:Heap.SameBut a h h')
  (ht:f8 prog w h' B d' (.ref a)) (hpl:v8 h' a):Sim prog w h0 B0 env sc (r.set i (some (.own,d'))) B Y h':=by
 obtain ⟨v,a0,t0,_,n0,o0⟩:=S.vars x i _ d hs hr
 have e:=ha.unique a0
 subst e
 obtain ⟨b0,e,hz,hb,_⟩:=o0 rfl
 cases e
 have hk:∀ b o,¬ b=a->h.get? b=some o->h'.get? b=some o:=λ b o q e=>(hsb.2 b q).trans e
 have hl:¬ env.locals=a:=λ q=>n0 a (.inl (.inl q.symm)) rfl
 have hcell:∀ y c,env.cells.lookup y=some c->¬ c=a:=by
  rintro y c hc rfl
  obtain ⟨v,o,e1,e2⟩:=S.fm.cellE y c hc
  have:∃ o,h.get? c=some o/\(∀ v,o.data≠.cell v):=by
   cases d with
   | none=>cases t0
   | bool b=>cases t0
   | int i=>obtain ⟨_,_,e⟩:=t0;cases e
   | str x=>obtain ⟨_,_,e⟩:=t0;cases e
   | list l=>obtain ⟨a',o,vs,e,ho,⟨_,n,hd⟩,_⟩:=t0;cases e;exact ⟨o,ho,λ v q=>by rw [hd] at q;cases q⟩
   | tuple l=>obtain ⟨a',o,vs,e,ho,⟨_,n,hd⟩,_⟩:=t0;cases e;exact ⟨o,ho,λ v q=>by rw [hd] at q;cases q⟩
   | dict l=>obtain ⟨a',o,vs,e,ho,⟨⟨es,ep,_,hd,_⟩,_⟩,_⟩:=t0;cases e;exact ⟨o,ho,λ v q=>by rw [hd] at q;cases q⟩
  obtain ⟨o',e3,e4⟩:=this
  rw [e1] at e3;cases e3
  exact e4 _ e2
 have hAt:∀ y u,At env h y u->At env h' y u:=λ y u q=>q.off hk hl (hcell y)
 refine ⟨S.gr.off hk (λ b q=>by subst q;exact ⟨hz,hb⟩),⟨?_,λ y hy=>?_,S.fm.sep,λ y c hy=>?_,λ hf o e=>S.fm.cls hf o ((hsb.2 _ hl).symm.trans e),λ f hf=>by
  by_cases q:f=a
  ·subst q;exact cp1 ht hb
  ·rw [hsb.2 f q];exact S.fm.frE f hf⟩,S.own0,λ b q=>⟨(S.y0 b q).1,(S.y0 b q).2.1,?_⟩,S.yown,S.ycell,S.yfr,?_,?_⟩
 ·obtain ⟨m,q⟩:=S.fm.ns
  exact ⟨m,q.at' λ o e=>hk _ o hl e⟩
 ·obtain ⟨e,c,u,q1,o,q2,q3⟩:=S.fm.cell y hy
  exact ⟨e,c,u,q1,o,hk c o (hcell y c q1) q2,q3⟩
 ·obtain ⟨u,o,q2,q3⟩:=S.fm.cellE y c hy
  exact ⟨u,o,hk c o (hcell y c hy) q2,q3⟩
 ·by_cases q':b=a
  ·subst q';exact absurd rfl (n0 b (.inr q))
  ·rw [hsb.2 b q'];exact (S.y0 b q).2.2
 ·intro y j m d2 hy hr2
  rw [g9] at hr2
  split at hr2
  ·rename_i hc
   cases hr2
   have e:y=x:=ao4 hy (hc.1▸hs)
   subst e
   exact ⟨.ref a,hAt _ _ a0,ht,λ q=>(by cases q),n0,λ ξ=>⟨a,rfl,hz,hb,hpl⟩⟩
  ·rename_i hc
   obtain ⟨u,a',t,f,n,o⟩:=S.vars y j m d2 hy hr2
   have hij:i≠j:=by
    rintro rfl
    exact absurd ⟨rfl,ax4 hr⟩ hc
   exact ⟨u,hAt _ _ a',t.off hk (.refl _) (λ b q e=>by subst q;subst e;exact S.uniq x y i j .own m d d2 b hs hy hij hr rfl hr2 a0 a'),f,n,λ q=>by
    obtain ⟨b,rfl,e1,e2,e3⟩:=o q
    exact ⟨b,rfl,e1,e2,e3.off hk (λ p=>by subst p;exact S.uniq x y i j .own m d d2 b hs hy hij hr rfl hr2 a0 a') (n9 t S.gr.keep)⟩⟩
 ·intro y z j k m1 m d1 d2 b hy hz2 hjk hr1 hw hr2 a1 a2
  have own:∀ {y j m d2},d8 sc y=some j->Rho.get (r.set i (some (.own,d'))) j=some (m,d2)->∃ d3,r.get j=some (m,d3):=by
   intro y j m d2 hy hr2
   rw [g9] at hr2
   split at hr2
   ·rename_i hc;cases hr2;exact ⟨d,hc.1▸hr⟩
   ·exact ⟨_,hr2⟩
  obtain ⟨d3,h3⟩:=own hy hr1
  obtain ⟨d4,h4⟩:=own hz2 hr2
  obtain ⟨u,b1,_⟩:=S.vars y j _ d3 hy h3
  obtain ⟨u2,b2,_⟩:=S.vars z k m d4 hz2 h4
  have e1:=a1.unique (hAt _ _ b1)
  have e2:=a2.unique (hAt _ _ b2)
  subst e1 e2
  exact S.uniq y z j k m1 m d3 d4 b hy hz2 hjk h3 hw h4 b1 b2
theorem Sim.frz {h:Heap} {x:Str} {i:Nat} {d:D} (S:Sim prog w h0 B0 env sc r B Y h) (hs:d8 sc x=some i) (hr:r.get i=some (.own,d)) :
  ∃ B',B.le B'/\Sim prog w h0 B0 env sc (r.set i (some (.fr,d))) B' Y h:=by
 obtain ⟨v,a0,t0,_,n0,o0⟩:=S.vars x i _ d hs hr
 obtain ⟨a,rfl,hz,hb,_⟩:=o0 rfl
 obtain ⟨o,ho,hfz⟩:∃ o,h.get? a=some o/\∀ B',B.le B'->B' a=some o->Rd prog w B' d (.ref a):=by
  cases d with
  | none=>cases t0
  | bool b=>cases t0
  | int i=>obtain ⟨_,_,e⟩:=t0;cases e
  | str x=>obtain ⟨_,_,e⟩:=t0;cases e
  | list l=>obtain ⟨a',o,vs,e,ho,x,y⟩:=t0;cases e;exact ⟨o,ho,λ B' hB e=>bo4.mpr ⟨a,o,vs,rfl,e,x,y.mono hB⟩⟩
  | tuple l=>obtain ⟨a',o,vs,e,ho,x,y⟩:=t0;cases e;exact ⟨o,ho,λ B' hB e=>dy0.mpr ⟨a,o,vs,rfl,e,x,y.mono hB⟩⟩
  | dict l=>obtain ⟨a',o,vs,e,ho,x,y⟩:=t0;cases e;exact ⟨o,ho,λ B' hB e=>show Rd prog w _ (.dict _) _ from ⟨a,o,vs,rfl,e,x,y.mono hB⟩⟩
 have hle:B.le (B.add a o):=FM.le_add λ o' e=>by rw [hb] at e;cases e
 have ne:∀ b,b≠a->B.add a o b=B b:=λ b q=>by simp [FM.add,q]
 refine ⟨B.add a o,hle,⟨S.gr.freeze hz ho,S.fm,λ b q=>⟨(S.own0 b q).1,?_⟩,λ b q=>⟨(S.y0 b q).1,?_,(S.y0 b q).2.2⟩,S.yown,S.ycell,S.yfr,?_,?_⟩⟩
 ·rw [ne b (λ e=>n0 b (.inl q) (by rw [e]))];exact (S.own0 b q).2
 ·rw [ne b (λ e=>n0 b (.inr q) (by rw [e]))];exact (S.y0 b q).2.1
 ·intro y j m d2 hy hr2
  rw [g9] at hr2
  split at hr2
  ·rename_i hc
   cases hr2
   have e:y=x:=ao4 hy (hc.1▸hs)
   subst e
   exact ⟨.ref a,a0,t0.mono (.refl _) hle,λ ξ=>hfz _ hle (FM.add_self ..),n0,λ q=>(by cases q)⟩
  ·rename_i hc
   obtain ⟨u,a',t,f,n,o'⟩:=S.vars y j m d2 hy hr2
   have hij:i≠j:=by
    rintro rfl
    exact absurd ⟨rfl,ax4 hr⟩ hc
   refine ⟨u,a',t.mono (.refl _) hle,λ q=>(f q).mono hle,n,λ q=>?_⟩
   obtain ⟨b,rfl,e1,e2,e3⟩:=o' q
   refine ⟨b,rfl,e1,?_,e3⟩
   rw [ne b (λ e=>by subst e;exact S.uniq x y i j .own m d d2 b hs hy hij hr rfl hr2 a0 a')];exact e2
 ·intro y z j k m1 m d1 d2 b hy hz2 hjk hr1 hw hr2 a1 a2
  rw [g9] at hr1 hr2
  split at hr1
  ·cases hr1;cases hw
  ·split at hr2
   ·rename_i hc;cases hr2
    have e:z=x:=ao4 hz2 (hc.1▸hs)
    subst e
    exact S.uniq y z j k m1 .own d1 d b hy hz2 hjk hr1 hw (hc.1▸hr) a1 a2
   ·exact S.uniq y z j k m1 m d1 d2 b hy hz2 hjk hr1 hw hr2 a1 a2
end
end
section
open PySem.Calls PySem.SeqAt
structure Nx (env:Env) (sc:Scope) (r:Rho) (h:Heap) (r':Rho) (h':Heap):Prop where
 fr:∀ b o,h.get? b=some o->¬ isOwn env sc b->(∀ x i d,d8 sc x=some i->r.get i=some (.own,d)->¬ At env h x (.ref b))->Up o (h'.get? b)
 own:∀ x i d a,d8 sc x=some i->r'.get i=some (.own,d)->At env h' x (.ref a)->h.get? a=none\/∃ y j d2,d8 sc y=some j/\r.get j=some (.own,d2)/\At env h y (.ref a)
 ownE:∀ a,isOwn env sc a->h'.get? a≠none
 lock:∀ x i d,d8 sc x=some i->r.get i=some (.lock,d)->r'.get i=some (.lock,d)/\∀ u,At env h x u->At env h' x u
section
variable {w:World} {h0:Heap} {B0:FM} {env:Env} {sc:Scope} {r r' r'':Rho} {B B':FM} {Y:Addr->Prop} {h h' h'':Heap} {s:Shared} {A:Around} {E:Value->Shared->Prop}
structure NxW (W:Addr->Prop) (env:Env) (sc:Scope) (r:Rho) (h:Heap) (r':Rho) (h':Heap):Prop where
 fr:∀ b o,¬ W b->h.get? b=some o->¬ isOwn env sc b->(∀ x i d,d8 sc x=some i->r.get i=some (.own,d)->¬ At env h x (.ref b))->Up o (h'.get? b)
 ex:∀ b,W b->h.get? b≠none->h'.get? b≠none
 own:∀ x i d a,d8 sc x=some i->r'.get i=some (.own,d)->At env h' x (.ref a)->h.get? a=none\/∃ y j d2,d8 sc y=some j/\r.get j=some (.own,d2)/\At env h y (.ref a)
 ownE:∀ a,isOwn env sc a->h'.get? a≠none
 lock:∀ x i d,d8 sc x=some i->r.get i=some (.lock,d)->r'.get i=some (.lock,d)/\∀ u,At env h x u->At env h' x u
theorem Nx.w0 (x:Nx env sc r h r' h'):NxW (λ ξ=>False) env sc r h r' h':=⟨λ b o ξ=>x.fr b o,λ ξ q=>q.elim,x.own,x.ownE,x.lock⟩
theorem NxW.nx (x:NxW (λ ξ=>False) env sc r h r' h'):Nx env sc r h r' h':=⟨λ b o=>x.fr b o id,x.own,x.ownE,x.lock⟩
theorem Nx.wd {W:Addr->Prop} (S:Sim prog w h0 B0 env sc r B Y h) (hW:∀ b,W b->Y b) (x:Nx env sc r h r' h'):NxW W env sc r h r' h':=⟨λ b o ξ=>x.fr b o,λ b q e=>by
 cases e1:h.get? b with
 | none=>exact absurd e1 e
 | some o=>
  obtain ⟨o',e',_⟩:=(x.fr b o e1 (λ p=>S.yown b p (hW b q)) λ y i d q1 q2 q3=>by
   obtain ⟨v,a,_,_,n,_⟩:=S.vars y i _ d q1 q2
   exact n b (.inr (hW b q)) (a.unique q3)).ex
  rw [e'];nofun,x.own,x.ownE,x.lock⟩
theorem NxW.trans {W:Addr->Prop} (x:NxW W env sc r h r' h') (y:NxW W env sc r' h' r'' h''):NxW W env sc r h r'' h'' where
 fr:=λ b o hw e hn hs=>(x.fr b o hw e hn hs).trans λ o' e'=>y.fr b o' hw e' hn λ z i d hz hr ha=>by
  rcases x.own z i d b hz hr ha with q | ⟨z',j,d2,q1,q2,q3⟩
  ·rw [q] at e;cases e
  ·exact hs z' j d2 q1 q2 q3
 ex:=λ b q e=>y.ex b q (x.ex b q e)
 own:=λ z i d a hz hr ha=>by
  rcases y.own z i d a hz hr ha with q | ⟨z',j,d2,q1,q2,q3⟩
  ·cases e:h.get? a with
   | none=>exact .inl rfl
   | some o=>
    refine .inr (Classical.byContradiction λ hc=>?_)
    have hn:¬ isOwn env sc a:=λ p=>x.ownE a p q
    have hw:¬ W a:=λ p=>x.ex a p (by rw [e];nofun) q
    have:=x.fr a o hw e hn λ z i d p1 p2 p3=>hc ⟨z,i,d,p1,p2,p3⟩
    obtain ⟨o',e',_⟩:=this.ex
    rw [q] at e';cases e'
  ·exact x.own z' j d2 a q1 q2 q3
 ownE:=y.ownE
 lock:=λ z i d hz hr=>by
  obtain ⟨q1,q2⟩:=x.lock z i d hz hr
  obtain ⟨q3,q4⟩:=y.lock z i d hz q1
  exact ⟨q3,λ u a=>q4 u (q2 u a)⟩
theorem Nx.trans (x:Nx env sc r h r' h') (y:Nx env sc r' h' r'' h''):Nx env sc r h r'' h'':=(x.w0.trans y.w0).nx
theorem Sim.nx (S:Sim prog w h0 B0 env sc r B Y h):Nx env sc r h r h:=⟨λ ξ ξ e ξ ξ=>.inl e,λ x i d a q1 q2 q3=>.inr ⟨x,i,d,q1,q2,q3⟩,λ a q=>S.ownE q,λ ξ ξ ξ ξ q=>⟨q,λ ξ a=>a⟩⟩
theorem Sim.nx_ev (S:Sim prog w h0 B0 env sc r B Y h) (g:Gr B h B' h'):Nx env sc r h r h' where
 fr:=λ b o e ξ ξ=>g.old b o e
 own:=λ x i d a q1 q2 q3=>by
  obtain ⟨v,a0,_⟩:=S.vars x i _ d q1 q2
  have:=(a0.keeps g.old).unique q3
  subst this
  exact .inr ⟨x,i,d,q1,q2,a0⟩
 ownE:=λ a q=>(S.ev g).ownE q
 lock:=λ x i d q1 q2=>⟨q2,λ u a=>a.keeps g.old⟩
theorem an1 {i j:Nat} {d d':D} {m:aa3} (h:Rho.get (r.set i (some (.fr,d))) j=some (m,d')) (hm:m≠.fr):r.get j=some (m,d')/\¬ (i=j/\i < r.length):=by
 rw [g9] at h
 split at h
 ·cases h;exact absurd rfl hm
 ·rename_i hc;exact ⟨h,hc⟩
theorem Sim.frz_nx {x:Str} {i:Nat} {d:D} (S:Sim prog w h0 B0 env sc r B Y h) (hs:d8 sc x=some i) (hr:r.get i=some (.own,d)):Nx env sc r h (r.set i (some (.fr,d))) h where
 fr:=λ ξ ξ e ξ ξ=>.inl e
 own:=λ y j d2 a q1 q2 q3=>.inr ⟨y,j,d2,q1,(an1 q2 (by simp)).1,q3⟩
 ownE:=λ a q=>S.ownE q
 lock:=λ y j d2 q1 q2=>by
  refine ⟨?_,λ ξ a=>a⟩
  rw [g9,if_neg]
  ·exact q2
  ·rintro ⟨rfl,_⟩
   rw [hr] at q2;cases q2
inductive eq9 (r:Rho) (i:Nat):Prop
 | own (d:D) (h:r.get i=some (.own,d)) (e:r.frz i=r.set i (some (.fr,d))):eq9 r i
 | no (h:∀ d,r.get i≠some (.own,d)) (e:r.frz i=r):eq9 r i
theorem bb4 (r:Rho) (i:Nat):eq9 r i:=by
 have e:r.frz i=match r.get i with | some (.own,d)=>r.set i (some (.fr,d)) | _=>r:=rfl
 cases h:r.get i with
 | none=>rw [h] at e;exact .no (λ d q=>by rw [h] at q;cases q) e
 | some p=>
  obtain ⟨m,d⟩:=p
  rw [h] at e
  cases m with
  | own=>exact .own d h e
  | _=>exact .no (λ d q=>by rw [h] at q;cases q) e
theorem Sim.frz1 {i:Nat} (S:Sim prog w h0 B0 env sc r B Y h) (hi:∀ d,r.get i=some (.own,d)->∃ x,d8 sc x=some i):∃ B',B.le B'/\Sim prog w h0 B0 env sc (r.frz i) B' Y h/\Nx env sc r h (r.frz i) h:=by
 rcases bb4 r i with ⟨d,hr,e⟩ | ⟨_,e⟩
 ·rw [e]
  obtain ⟨x,hx⟩:=hi d hr
  obtain ⟨B',h1,h2⟩:=S.frz hx hr
  exact ⟨B',h1,h2,S.frz_nx hx hr⟩
 ·rw [e];exact ⟨B,.refl _,S,S.nx⟩
noncomputable def j7 (sc:Scope) (r:Rho):Prop:=∀ i d,r.get i=some (.own,d)->∃ x,d8 sc x=some i
theorem j7.frz {i:Nat} (n:j7 sc r):j7 sc (r.frz i):=by
 intro j d hj
 rcases bb4 r i with ⟨d',_,e⟩ | ⟨_,e⟩ <;> rw [e] at hj
 ·exact n j d (an1 hj (by simp)).1
 ·exact n j d hj
theorem Sim.frzFrom (n:Nat):∀ {r:Rho} {B:FM},j7 sc r->Sim prog w h0 B0 env sc r B Y h->∃ B',B.le B'/\Sim prog w h0 B0 env sc (frzFrom r n) B' Y h/\Nx env sc r h (frzFrom r n) h:=by
 induction n with
 | zero=>intro r B _ S;exact ⟨B,.refl _,S,S.nx⟩
 | succ n ih=>
  intro r B hn S
  obtain ⟨B1,l1,S1,n1⟩:=S.frz1 (i:=n) (hn n)
  obtain ⟨B2,l2,S2,n2⟩:=ih hn.frz S1
  exact ⟨B2,l1.trans l2,S2,n1.trans n2⟩
theorem Sim.val {ir:IR} (hn:j7 sc r) (S:Sim prog w h0 B0 env sc r B Y h):∃ B',B.le B'/\Sim prog w h0 B0 env sc (aw7 r ir) B' Y h/\Nx env sc r h (aw7 r ir) h/\j7 sc (aw7 r ir):=by
 unfold aw7
 split
 ·obtain ⟨B1,l1,S1,n1⟩:=S.frz1 (hn _)
  exact ⟨B1,l1,S1,n1,hn.frz⟩
 ·exact ⟨B,.refl _,S,S.nx,hn⟩
inductive ex2 (prog:Program) (w:World) (h0:Heap) (B':FM) (h:Heap) (d:D) (v:Value):Prop
 | mk (a:Addr) (h1:v = .ref a) (h2:h0.get? a=none) (h3:B' a=none) (h4:f8 prog w h B' d v) (h5:v8 h a)
noncomputable def ey0 (prog:Program) (w:World) (h0:Heap) (B':FM) (h:Heap) (d:D) (v:Value):Bool->Prop
 | true=>ex2 prog w h0 B' h d v
 | false=>Rd prog w B' d v
variable (w h0 B0 env sc Y) in
inductive dj3 (qc:Bool) (d:D) (v:Value) (s s':Shared):Prop
 | mk (B':FM) (h1:Gr B0 h0 B' s'.heap) (h2:k6 s s') (h3:ey0 prog w h0 B' s'.heap d v qc)
variable (w h0 B0 env sc Y) in
inductive NxP (r:Rho) (B:FM) (s:Shared) (r':Rho) (s':Shared):Prop
 | mk (B':_) (h1:B.le B') (h2:Sim prog w h0 B0 env sc r' B' Y s'.heap) (h3:k6 s s') (h4:Nx env sc r s.heap r' s'.heap) (h5:j7 sc r')
variable (w h0 B0 env sc Y) in
noncomputable def FlP (r:Rho) (B:FM) (s:Shared) (res:Fl×Rho) (f:Flow) (s':Shared):Prop:=
 match res.1,f with
 | .next,.next=>NxP w h0 B0 env sc Y r B s res.2 s'
 | .brk,.brk=>NxP w h0 B0 env sc Y r B s res.2 s'
 | .ret qc d,.ret v=>dj3 w h0 B0 qc d v s s'
 | _,_=>False
end
section
variable {w:World} {h0:Heap} {B0:FM} {env:Env} {sc:Scope} {Y:Addr->Prop} {W:Addr->Prop} {r:Rho} {B:FM} {s:Shared}
variable (w h0 B0 env sc Y W) in
inductive cs5 (r:Rho) (B:FM) (s:Shared) (r':Rho) (s':Shared):Prop
 | mk (B':_) (h1:B.le B') (h2:Sim prog w h0 B0 env sc r' B' Y s'.heap) (h3:k6 s s') (h4:NxW W env sc r s.heap r' s'.heap) (h5:j7 sc r')
variable (w h0 B0 env sc Y W) in
noncomputable def FlW (r:Rho) (B:FM) (s:Shared) (res:Fl×Rho) (f:Flow) (s':Shared):Prop:=
 match res.1,f with
 | .next,.next=>cs5 w h0 B0 env sc Y W r B s res.2 s'
 | .brk,.brk=>cs5 w h0 B0 env sc Y W r B s res.2 s'
 | .ret qc d,.ret v=>dj3 w h0 B0 qc d v s s'
 | _,_=>False
theorem FlP.wd {res:Fl×Rho} {f:Flow} {s':Shared} (hN:∀ r' h',Nx env sc r s.heap r' h'->NxW W env sc r s.heap r' h') (h:FlP w h0 B0 env sc Y r B s res f s'):FlW w h0 B0 env sc Y W r B s res f s':=by
 obtain ⟨fl,r2⟩:=res
 unfold FlP at h
 unfold FlW
 cases fl <;> cases f <;> simp only at h⊢
 ·obtain ⟨B',q1,q2,q3,q4,q5⟩:=h;exact ⟨B',q1,q2,q3,hN _ _ q4,q5⟩
 ·obtain ⟨B',q1,q2,q3,q4,q5⟩:=h;exact ⟨B',q1,q2,q3,hN _ _ q4,q5⟩
 ·exact h
theorem FlW.p {res:Fl×Rho} {f:Flow} {s':Shared} (h:FlW w h0 B0 env sc Y (λ ξ=>False) r B s res f s'):FlP w h0 B0 env sc Y r B s res f s':=by
 obtain ⟨fl,r2⟩:=res
 unfold FlW at h
 unfold FlP
 cases fl <;> cases f <;> simp only at h⊢
 ·obtain ⟨B',q1,q2,q3,q4,q5⟩:=h;exact ⟨B',q1,q2,q3,q4.nx,q5⟩
 ·obtain ⟨B',q1,q2,q3,q4,q5⟩:=h;exact ⟨B',q1,q2,q3,q4.nx,q5⟩
 ·exact h
end
section
variable (prog:Program) (w:World) (qa:Heap) (k:Nat) (U:String->List D->Option D) (qc:String->Bool)
noncomputable def ca9 (sc:Scope) (run:Env->Sem Flow) (f:Rho->Option (Fl×Rho)):Prop:=
 ∀ ⦃A E env r B s h0 B0 Y res⦄,Rm k A->j6 env sc->(∀ a o,qa.get? a=some o->B0 a=some o)->0 < s.toks->FrA A env B0 h0->j7 sc r->Sim prog w h0 B0 env sc r B Y s.heap->f r=some res->
  wpAny (model prog w) A (run env) (FlP w h0 B0 env sc Y r B s res) E s
noncomputable def ae9 (sc:Scope) (st:Stmt) (si:SI):Prop:=ca9 prog w qa k sc (PySem.exec st) (exec U qc si)
noncomputable def ab1 (sc:Scope) (st:List Stmt) (si:List SI):Prop:=ca9 prog w qa k sc (PySem.execs st) (execs U qc si)
end
section
variable {w:World} {qa:Heap} {mg mb:Str->Option Value} {k:Nat} {U:String->List D->Option D} {qc:String->Bool} {sc:Scope}
theorem FlP.after {h0:Heap} {B0:FM} {env:Env} {Y:Addr->Prop} {r r1:Rho} {B B1:FM} {s s1 s':Shared} {res:Fl×Rho} {f:Flow} (hB:B.le B1) (m:k6 s s1) (n:Nx env sc r s.heap r1 s1.heap) (h:FlP w h0 B0 env sc Y r1 B1 s1 res f s'):FlP w h0 B0 env sc Y r B s res f s':=by
 obtain ⟨fl,r2⟩:=res
 unfold FlP at h⊢
 cases fl <;> cases f <;> simp only at h⊢
 ·obtain ⟨B',q1,q2,q3,q4,q5⟩:=h;exact ⟨B',hB.trans q1,q2,m.trans q3,n.trans q4,q5⟩
 ·obtain ⟨B',q1,q2,q3,q4,q5⟩:=h;exact ⟨B',hB.trans q1,q2,m.trans q3,n.trans q4,q5⟩
 ·obtain ⟨B',q1,q2,q3⟩:=h;exact ⟨B',q1,m.trans q2,q3⟩
theorem c7:ab1 prog w qa k U qc sc [] []:=λ A E env r B s h0 B0 Y res rm ek hb ht fa hn S h=>by
 cases h
 exact wpAny_execs_nil ⟨B,.refl _,S,.refl s,S.nx,hn⟩
theorem a7 {st:Stmt} {sts:List Stmt} {si:SI} {sis:List SI} (h1:ae9 prog w qa k U qc sc st si) (h2:ab1 prog w qa k U qc sc sts sis):ab1 prog w qa k U qc sc (st :: sts) (si :: sis):=
 λ A E env r B s h0 B0 Y res rm ek hb ht fa hn S h=>by
 obtain ⟨⟨fl,r1⟩,q1,h⟩:=a6 h
 refine wpAny_execs_cons (wpAny_mono (h1 rm ek hb ht fa hn S q1) (λ f s' q=>?_) λ ξ ξ e=>e)
 unfold FlP at q
 cases fl <;> cases f <;> simp only at q h⊢
 ·obtain ⟨B',p1,p2,p3,p4,p5⟩:=q
  exact wpAny_mono (h2 rm ek hb (Nat.lt_of_lt_of_le ht p3.toks) fa p5 p2 h) (λ f s2 q=>q.after p1 p3 p4) λ ξ ξ e=>e
 ·cases h;exact q
 ·cases h;exact q
theorem er3 {pos:Pos}:ae9 prog w qa k U qc sc (.Break pos) .brk:=λ A E env r B s h0 B0 Y res rm ek hb ht fa hn S h=>by
 cases h
 exact wpAny_Break ⟨B,.refl _,S,.refl s,S.nx,hn⟩
theorem n8 {t:PySem.Expr} {c:IR} {a b:List Stmt} {ia ib:List SI} {pos:Pos} (hc:ai4 w qa k U sc t c) (ha:ab1 prog w qa k U qc sc a ia) (hb':ab1 prog w qa k U qc sc b ib) :
  ae9 prog w qa k U qc sc (.If t a b pos) (.if_ c ia ib):=λ A E env r B s h0 B0 Y res rm ek hb ht fa hn S h=>by
 obtain ⟨t,q1,h⟩:=a6 h
 refine wpAny_If (wpAny_mono (hc (Sim.ok S rm ek hb ht fa) q1) (λ v s1 q=>?_) λ ξ ξ e=>e)
 obtain ⟨rfl,B1,g,m⟩:=q
 have ht1:=Nat.lt_of_lt_of_le ht m.toks
 cases v
 ·simp only [Bool.false_eq_true,if_false]
  exact wpAny_mono (hb' rm ek hb ht1 fa hn (S.ev g) h) (λ f s2 q=>q.after g.le m (S.nx_ev g)) λ ξ ξ e=>e
 ·simp only [if_true]
  exact wpAny_mono (ha rm ek hb ht1 fa hn (S.ev g) h) (λ f s2 q=>q.after g.le m (S.nx_ev g)) λ ξ ξ e=>e
end
end
section
open PySem.Calls PySem.SeqAt
section
variable {w:World} {h0:Heap} {B0:FM} {env:Env} {sc:Scope} {r r' r'':Rho} {B B':FM} {Y:Addr->Prop} {h h' h'':Heap} {s:Shared} {A:Around} {E:Value->Shared->Prop}
theorem Sim.relabel {i:Nat} {m m':aa3} {d:D} (S:Sim prog w h0 B0 env sc r B Y h) (hr:r.get i=some (m,d)) (hm:m.ownish=true) (hm':m'.ownish=true):Sim prog w h0 B0 env sc (r.set i (some (m',d))) B Y h where
 gr:=S.gr
 fm:=S.fm
 own0:=S.own0
 y0:=S.y0
 yown:=S.yown
 ycell:=S.ycell
 yfr:=S.yfr
 vars:=λ x j q d2 hs hr2=>by
  rw [g9] at hr2
  split at hr2
  ·rename_i hc
   cases hr2
   obtain ⟨v,a,t,f,n,o⟩:=S.vars x j m d hs (hc.1▸hr)
   exact ⟨v,a,t,λ e=>(by rw [e] at hm';cases hm'),n,λ ξ=>o hm⟩
  ·exact S.vars x j q d2 hs hr2
 uniq:=λ x y j k m1 m2 d1 d2 a hx hy hjk hr1 hw hr2 a1 a2=>by
  have back:∀ {j:Nat} {q:aa3} {d2:D},Rho.get (r.set i (some (m',d))) j=some (q,d2)->∃ q',r.get j=some (q',d2)/\(q.ownish=true->q'.ownish=true):=by
   intro j q d2 hr2
   rw [g9] at hr2
   split at hr2
   ·rename_i hc;cases hr2
    exact ⟨m,hc.1▸hr,λ ξ=>hm⟩
   ·exact ⟨q,hr2,id⟩
  obtain ⟨q1,e1,o1⟩:=back hr1
  obtain ⟨q2,e2,_⟩:=back hr2
  exact S.uniq x y j k q1 q2 d1 d2 a hx hy hjk e1 (o1 hw) e2 a1 a2
inductive de0 (r:Rho) (src:IR):Prop
 | no (e:ac1 r src=r) (h:∀ i d,src.v=some i->r.get i≠some (.own,d)):de0 r src
 | yes (i:Nat) (d:D) (hv:src.v=some i) (hr:r.get i=some (.own,d)) (e:ac1 r src=r.set i (some (.lock,d))):de0 r src
theorem ag4 (r:Rho) (src:IR):de0 r src:=by
 cases hv:src.v with
 | none=>exact .no (by unfold ac1;rw [hv]) (λ i d q=>by rw [hv] at q;cases q)
 | some i=>
  have e:ac1 r src=bf2 r i:=by unfold ac1;rw [hv]
  have key:∀ s,r.get i=s->de0 r src:=λ s hs=>by
   match s,hs with
   | some (.own,d),hs=>exact .yes i d hv hs (by rw [e];unfold bf2;rw [hs])
   | none,hs=>exact .no (by rw [e];unfold bf2;rw [hs]) (λ j d q=>by rw [hv] at q;cases q;rw [hs];exact nofun)
   | some (.fr,_),hs=>exact .no (by rw [e];unfold bf2;rw [hs]) (λ j d q=>by rw [hv] at q;cases q;rw [hs];exact nofun)
   | some (.lock,_),hs=>exact .no (by rw [e];unfold bf2;rw [hs]) (λ j d q=>by rw [hv] at q;cases q;rw [hs];exact nofun)
   | some (.cap,_),hs=>exact .no (by rw [e];unfold bf2;rw [hs]) (λ j d q=>by rw [hv] at q;cases q;rw [hs];exact nofun)
  exact key _ rfl
inductive es0 (r0 r:Rho) (src:IR):Prop
 | no (e:ab8 r0 r src=r):es0 r0 r src
 | yes (i:Nat) (d0 d:D) (hv:src.v=some i) (h0:r0.get i=some (.own,d0)) (hr:r.get i=some (.lock,d)) (e:ab8 r0 r src=r.set i (some (.own,d))):es0 r0 r src
set_option tactic.hygienic true in
theorem ak0 (r0 r:Rho) (src:IR):es0 r0 r src:=by
 cases hv:src.v with
 | none=>exact .no (by unfold ab8;rw [hv])
 | some i=>
  have e:ab8 r0 r src=bg5 r0 r i:=by unfold ab8;rw [hv]
  unfold bg5 at e
  cases h0:r0.get i with
  | none=>rw [h0] at e;exact .no e
  | some p=>
   obtain ⟨m,d0⟩:=p
   rw [h0] at e
   cases m with
   | own=>
    cases hr:r.get i with
    | none=>rw [hr] at e;exact .no e
    | some p=>
     obtain ⟨m,d⟩:=p
     rw [hr] at e
     cases m with
     | lock=>exact .yes i d0 d hv h0 hr e
     | _=>exact .no e
   | _=>exact .no e
theorem Sim.lockS {src:IR} (S:Sim prog w h0 B0 env sc r B Y h):Sim prog w h0 B0 env sc (ac1 r src) B Y h:=by
 rcases ag4 r src with ⟨e,_⟩ | ⟨i,d,_,hr,e⟩
 ·rw [e];exact S
 ·rw [e];exact S.relabel hr rfl rfl
theorem j7.lockS {src:IR} (n:j7 sc r):j7 sc (ac1 r src):=by
 rcases ag4 r src with ⟨e,_⟩ | ⟨i,d,_,hr,e⟩
 ·rw [e];exact n
 ·rw [e];intro j d' hj
  rw [g9] at hj
  split at hj
  ·cases hj
  ·exact n j d' hj
theorem bk1 {src:IR} {j:Nat} {d:D} (hj:(ac1 r src).get j=some (.own,d)):r.get j=some (.own,d):=by
 rcases ag4 r src with ⟨e,_⟩ | ⟨i,d',_,hr,e⟩
 ·rw [e] at hj;exact hj
 ·rw [e,g9] at hj
  split at hj
  ·cases hj
  ·exact hj
theorem Sim.unlockS {src:IR} {r0:Rho} (S:Sim prog w h0 B0 env sc r B Y h):Sim prog w h0 B0 env sc (ab8 r0 r src) B Y h:=by
 rcases ak0 r0 r src with e | ⟨i,d0,d,_,_,hr,e⟩
 ·rw [e];exact S
 ·rw [e];exact S.relabel hr rfl rfl
theorem j7.unlockS {src:IR} {r0:Rho} (n:j7 sc r) (n0:j7 sc r0):j7 sc (ab8 r0 r src):=by
 rcases ak0 r0 r src with e | ⟨i,d0,d,_,h0,hr,e⟩
 ·rw [e];exact n
 ·rw [e]
  intro j d' hj
  rw [g9] at hj
  split at hj
  ·rename_i hc;exact hc.1▸n0 _ _ h0
  ·exact n j d' hj
theorem NxW.unlock {W:Addr->Prop} {src:IR} (S0:Sim prog w h0 B0 env sc r B Y h) (N:NxW W env sc (ac1 r src) h r' h') (n0:j7 sc r):NxW W env sc r h (ab8 r r' src) h':=by
 have lk:∀ i d,r.get i=some (.lock,d)->(ac1 r src).get i=some (.lock,d):=λ i d q=>by
  rcases ag4 r src with ⟨e,_⟩ | ⟨j,d',_,hr,e⟩
  ·rw [e];exact q
  ·rw [e,g9,if_neg]
   ·exact q
   ·rintro ⟨rfl,_⟩;rw [hr] at q;cases q
 have old:∀ x i d a,d8 sc x=some i->r'.get i=some (.own,d)->At env h' x (.ref a)->h.get? a=none\/∃ y j d2,d8 sc y=some j/\r.get j=some (.own,d2)/\At env h y (.ref a):=λ x i d a q1 q q3=>by
  rcases N.own x i d a q1 q q3 with q | ⟨y,j,d2,p1,p2,p3⟩
  ·exact .inl q
  ·exact .inr ⟨y,j,d2,p1,bk1 p2,p3⟩
 refine ⟨λ b o hw e hn hs=>N.fr b o hw e hn λ x i d q1 q2=>hs x i d q1 (bk1 q2),N.ex,?_,N.ownE,?_⟩
 ·rcases ak0 r r' src with e | ⟨k,d0,d1,hv,h0,hr,e⟩
  ·rw [e];exact old
  ·rw [e]
   intro x i d a q1 q2 q3
   rw [g9] at q2
   split at q2
   ·rename_i hc
    obtain ⟨rfl,hlt⟩:=hc
    obtain ⟨v,a0,_⟩:=S0.vars x k _ d0 q1 h0
    have hl:(ac1 r src).get k=some (.lock,d0):=by
     rcases ag4 r src with ⟨_,q⟩ | ⟨j,d',hv',hr',e'⟩
     ·exact absurd h0 (q k d0 hv)
     ·rw [hv] at hv';cases hv'
      rw [h0] at hr';cases hr'
      rw [e',g9,if_pos ⟨rfl,ax4 h0⟩]
    have a1:=(N.lock x k d0 q1 hl).2 v a0
    have:=a1.unique q3
    subst this
    exact .inr ⟨x,k,d0,q1,h0,a0⟩
   ·exact old x i d a q1 q2 q3
 ·intro x i d q1 q2
  obtain ⟨p1,p2⟩:=N.lock x i d q1 (lk i d q2)
  refine ⟨?_,p2⟩
  rcases ak0 r r' src with e | ⟨k,d0,d1,hv,h0,hr,e⟩
  ·rw [e];exact p1
  ·rw [e,g9,if_neg]
   ·exact p1
   ·rintro ⟨rfl,_⟩
    rw [q2] at h0;cases h0
end
end
section
open PySem.Calls PySem.SeqAt
section
variable {w:World} {h0:Heap} {B0:FM} {env:Env} {sc:Scope} {r r' r'':Rho} {B B':FM} {Y Y':Addr->Prop} {h h' h'':Heap} {s:Shared} {A:Around} {E:Value->Shared->Prop}
theorem NxW.off {W:Addr->Prop} {h1 h2:Heap} {X:Addr->Prop} (N:NxW W env sc r h r' h1) (S:Sim prog w h0 B0 env sc r' B Y h1) (hX:∀ b,X b->Y b/\(h.get? b=none\/W b)) (hw:∀ b,X b->W b->h2.get? b≠none) (hk:∀ b o,¬ X b->h1.get? b=some o->h2.get? b=some o):NxW W env sc r h r' h2 where
 fr:=λ b o hw e hn hs=>(N.fr b o hw e hn hs).trans λ o' e'=>.inl (hk b o' (λ q=>(hX b q).2.elim (λ q=>by rw [q] at e;cases e) hw) e')
 ex:=λ b q e=>by
  by_cases p:X b
  ·exact hw b p q
  ·cases e1:h1.get? b with
   | none=>exact absurd e1 (N.ex b q e)
   | some o=>rw [hk b o p e1];nofun
 own:=λ x i d a q1 q2 q3=>by
  obtain ⟨v,a0,_⟩:=S.vars x i _ d q1 q2
  have:=(a0.off hk (λ q=>S.yown _ (.inl rfl) (hX _ q).1) (λ c e q=>S.ycell x c e (hX _ q).1)).unique q3
  subst this
  exact N.own x i d a q1 q2 a0
 ownE:=λ a q e=>by
  cases e1:h1.get? a with
  | none=>exact N.ownE a q e1
  | some o=>rw [hk a o (λ p=>S.yown a q (hX a p).1) e1] at e;cases e
 lock:=λ x i d q1 q2=>by
  obtain ⟨p1,p2⟩:=N.lock x i d q1 q2
  exact ⟨p1,λ u a=>(p2 u a).off hk (λ q=>S.yown _ (.inl rfl) (hX _ q).1) (λ c e q=>S.ycell x c e (hX _ q).1)⟩
theorem Nx.off {h1 h2:Heap} {X:Addr->Prop} (N:Nx env sc r h r' h1) (S:Sim prog w h0 B0 env sc r' B Y h1) (hX:∀ b,X b->Y b/\h.get? b=none) (hk:∀ b o,¬ X b->h1.get? b=some o->h2.get? b=some o):Nx env sc r h r' h2:=
 (N.w0.off S (λ b q=>(hX b q).imp id .inl) (λ ξ ξ q=>q.elim) hk).nx
theorem ag0:∀ (is:List Nat) (ds:List D) (r:Rho) (j:Nat) (m:aa3) (d:D),ds.length=is.length->(ab3 r is ds).get j=some (m,d)->m≠.fr->r.get j=some (m,d)/\j ∉ is
 | [],ds,r,j,m,d,_,h,_=>⟨h,by simp⟩
 | i :: is,[],r,j,m,d,hl,h,_=>by cases hl
 | i :: is,e :: ds,r,j,m,d,hl,h,hm=>by
  obtain ⟨h1,h2⟩:=ag0 is ds _ j m d (Nat.succ.inj hl) h hm
  obtain ⟨h3,h4⟩:=an1 h1 hm
  refine ⟨h3,λ q=>?_⟩
  rcases List.mem_cons.mp q with rfl | q
  ·exact h4 ⟨rfl,ax4 h3⟩
  ·exact h2 q
set_option tactic.hygienic true in
theorem ce2 {r1:Rho} {is:List Nat} {d:D} (hb:m8 r is d=some r1) {j:Nat} {m:aa3} {d':D} (h:r1.get j=some (m,d')) (hm:m≠.fr):r.get j=some (m,d')/\j ∉ is:=by
 rcases ak3 hb with ⟨i,rfl,rfl⟩ | ⟨ds,rfl,h1,_,rfl⟩
 ·exact ag0 [i] [d] r j m d' rfl h hm
 ·exact ag0 is ds r j m d' h1 h hm
theorem dr3 {i:Nat} {m:aa3} {d:D} (hf:∀ d',r.get i≠some (.lock,d')):r.put i m d=if decide (i < r.length)=true then some (r.set i (some (m,d))) else none:=by
 unfold Rho.put
 generalize r.get i=o at hf
 cases o with
 | none=>rfl
 | some p=>
  obtain ⟨m',d'⟩:=p
  cases m' with
  | lock=>exact absurd rfl (hf _)
  | _=>rfl
theorem bf8 {i:Nat} {m:aa3} {d:D} (hl:i < r.length) (hf:∀ d',r.get i≠some (.lock,d')):r.put i m d=some (r.set i (some (m,d))):=(dr3 hf).trans (if_pos (decide_eq_true hl))
theorem ad7 {r1:Rho} {x:Nat} {m:aa3} {d:D} (h:r.put x m d=some r1):r1=r.set x (some (m,d))/\x < r.length/\∀ d',r.get x≠some (.lock,d'):=by
 have hf:∀ d',r.get x≠some (.lock,d'):=λ d' q=>by unfold Rho.put at h;rw [q] at h;cases h
 rw [dr3 hf] at h
 by_cases hl:x < r.length
 ·rw [if_pos (decide_eq_true hl)] at h
  exact ⟨(Option.some.inj h).symm,hl,hf⟩
 ·rw [if_neg (λ q=>hl (of_decide_eq_true q))] at h;cases h
theorem ee1 {x:Nat} {m:aa3} {d d':D} (h:r.get x=some (.own,d')):r.put x m d=some (r.set x (some (m,d))):=by
 unfold Rho.put
 rw [h]
 exact if_pos (decide_eq_true (ax4 h))
theorem dz6 {r r1:Rho} {x:Nat} {d:D} (h:r.put x .fr d=some r1) (i:Nat) (d':D) (hn:r1.get i≠some (.lock,d')):r.get i≠some (.lock,d'):=by
 intro q
 obtain ⟨rfl,_,hx⟩:=ad7 h
 rw [g9] at hn
 split at hn
 ·rename_i hc;exact hx d' (hc.1▸q)
 ·exact hn q
theorem bk4:∀ {is:List Nat} {ds:List D} {r r1:Rho},av0 r is ds=some r1->ds.length=is.length/\r1=ab3 r is ds/\∀ i∈is,∀ d',r.get i≠some (.lock,d')
 | [],[],r,r1,h=>by cases h;exact ⟨rfl,rfl,nofun⟩
 | [],_ :: _,r,r1,h=>by cases h
 | i :: is,[],r,r1,h=>by cases h
 | i :: is,d :: ds,r,r1,h=>by
  obtain ⟨ra,h1,h⟩:=a6 h
  obtain ⟨e1,e2,e3⟩:=bk4 h
  obtain ⟨e4,_,hx⟩:=ad7 h1
  refine ⟨congrArg Nat.succ e1,by rw [e2,e4];rfl,λ j hj d'=>?_⟩
  rcases List.mem_cons.mp hj with rfl | hj
  ·exact hx d'
  ·exact dz6 h1 _ d' (e3 j hj d')
theorem bg8 {r1:Rho} {is:List Nat} {d:D} (h:ad9 r is d=some r1):m8 r is d=some r1/\∀ i∈is,∀ d',r.get i≠some (.lock,d'):=by
 unfold ad9 at h
 unfold m8
 cases hq:is.length == 1 with
 | true=>
  rw [hq] at h
  obtain ⟨x,h1,h⟩:=a6 h
  obtain rfl:=ak1 h1
  obtain ⟨rfl,_,hx⟩:=ad7 h
  exact ⟨rfl,λ i hi=>by rw [List.mem_singleton.mp hi];exact hx⟩
 | false=>
  rw [hq] at h
  obtain ⟨ds,h1,h⟩:=a6 h
  obtain ⟨hc,h⟩:=i4 h
  obtain ⟨e1,rfl,e3⟩:=bk4 h
  refine ⟨?_,e3⟩
  show (dc3 d >>= _)=_
  rw [h1]
  show gd (decide (2<=is.length) && ds.length == is.length) _=_
  rw [hc];rfl
theorem ac6 {r1:Rho} {i:Nat} {d:D} (h:r.put i .fr d=some r1):ad9 r [i] d=some r1:=h
theorem Nx.bind {tgt:List Nat} {d:D} {r1:Rho} (S:Sim prog w h0 B0 env sc r B Y h) (S1:Sim prog w h0 B0 env sc r1 B Y h') (hb:ad9 r tgt d=some r1) (hk:∀ b o,¬ isOwn env sc b->h.get? b=some o->h'.get? b=some o)
  (hAt:∀ y j,d8 sc y=some j->j ∉ tgt->∀ u,At env h y u->At env h' y u):Nx env sc r h r1 h':=by
 obtain ⟨hbt,hnl⟩:=bg8 hb
 refine ⟨λ b o e hn ξ=>.inl (hk b o hn e),λ x i d a q1 q2 q3=>?_,λ a q=>S1.ownE q,λ x i d q1 q2=>?_⟩
 ·obtain ⟨e1,e2⟩:=ce2 hbt q2 (by simp)
  obtain ⟨v,a0,_⟩:=S.vars x i _ d q1 e1
  have:=(hAt x i q1 e2 v a0).unique q3
  subst this
  exact .inr ⟨x,i,d,q1,e1,a0⟩
 ·have hni:i ∉ tgt:=λ q=>hnl i q d q2
  exact ⟨ce1 hbt hni q2,hAt x i q1 hni⟩
theorem j7.bind {tgt:List Nat} {d:D} {r1:Rho} (n:j7 sc r) (hb:ad9 r tgt d=some r1):j7 sc r1:=λ i d' q=>n i d' (ce2 (bg8 hb).1 q (by simp)).1
end
section
variable {w:World} {qa:Heap} {mg mb:Str->Option Value} {k:Nat} {U:String->List D->Option D} {qc:String->Bool} {sc:Scope}
theorem dk1 {s:Slot} {m:aa3} {d:D} (h:dz2 s=some (m,d)):s=some (m,d)/\m≠.own:=by
 match s,h with
 | some (.fr,_),h=>cases h;exact ⟨rfl,nofun⟩
 | some (.lock,_),h=>cases h;exact ⟨rfl,nofun⟩
 | some (.cap,_),h=>cases h;exact ⟨rfl,nofun⟩
theorem cq5 {r:Rho} {src:IR} {i:Nat} {m:aa3} {d:D} (h:(cl4 r src).get i=some (m,d)):r.get i=some (m,d)/\(src.al=false\/m≠.own):=by
 unfold cl4 at h
 cases e:src.al with
 | false=>rw [e] at h;exact ⟨h,.inl rfl⟩
 | true=>
  rw [e] at h
  have h':((r.map dz2)[i]?).getD none=some (m,d):=h
  rw [List.getElem?_map] at h'
  unfold Rho.get
  cases e:r[i]? with
  | none=>rw [e] at h';cases h'
  | some q=>
   rw [e] at h'
   obtain ⟨h1,h2⟩:=dk1 h'
   exact ⟨h1,.inr h2⟩
end
end
section
open PySem.Calls PySem.SeqAt
section
variable {w:World} {qa:Heap} {mg mb:Str->Option Value} {k:Nat} {U:String->List D->Option D} {qc:String->Bool} {sc:Scope}
inductive ey8 (w:World) (h0:Heap) (B0 B2:FM) (env:Env) (sc:Scope) (Y:Addr->Prop) (wr:List Addr) (its:List D) (s:Shared) (St:Nat->Heap->Prop) (rl:Rho) (F:D->Rho->Option (Fl×Rho)) (out:Fl×Rho) (Z:Nat->Heap->Prop) (Wx:Addr->Prop) (n:Nat) (s':Shared):Prop
 | mk (i:Nat) (Bi:FM) (ri:Rho) (h1:i<=its.length) (h2:n=its.length+1 - i) (h3:Sim prog w h0 B0 env sc ri Bi (λ a=>Y a\/a∈wr) s'.heap) (h4:B2.le Bi) (h5:k6 s s') (h6:St i s'.heap) (h7:NxW Wx env sc rl s.heap ri s'.heap) (h8:j7 sc ri) (h9:j8 F (its.drop i) ri=some out) (h10:Z i s'.heap)
theorem dd6 {t it:PySem.Expr} {b:List Stmt} {tgt:List Nat} {src:IR} {pos:Pos} {F:D->Rho->Option (Fl×Rho)} {f0:Rho->Option (Fl×Rho)} {A:Around} {E:Value->Shared->Prop} {env:Env} {r rE:Rho} {B:FM} {s:Shared} {h0:Heap} {B0:FM} {Y:Addr->Prop} {fl:Fl} {its:List D} {Z:List Addr->Nat->Heap->Prop} {Wx:Addr->Prop}
  (tg:z5 sc t tgt) (hset:aa0 it=true) (hsrc:ad5 w qa k U sc it src t) (hF:(λ d r=>do f0 (<- ad9 r tgt d):D->Rho->Option (Fl×Rho))=F)
  (rm:Rm k A) (ek:j6 env sc) (hb:∀ a o,qa.get? a=some o->B0 a=some o) (ht:0 < s.toks) (fa:FrA A env B0 h0) (hn:j7 sc r) (S:Sim prog w h0 B0 env sc r B Y s.heap) (qh:e9 U src (cl4 r src)=some its) (hloop:j8 F its (ac1 r src)=some (fl,rE))
  (hZ:∀ wr i h h',(∀ b o,¬ isOwn env sc b->¬ b∈wr->h.get? b=some o->Up o (h'.get? b))->Z wr i h->Z wr i h') (z0:∀ wr,(∀ b∈wr,s.heap.get? b=none)->Z wr 0 s.heap) (hW:∀ b,Wx b->Y b)
  (hbody:∀ ⦃E':Value->Shared->Prop⦄ ⦃r2 r1:Rho⦄ ⦃B':FM⦄ ⦃s':Shared⦄ ⦃Y':Addr->Prop⦄ ⦃d:D⦄ ⦃i:Nat⦄ ⦃res:Fl×Rho⦄ ⦃wr:List Addr⦄,its[i]?=some d->ad9 r2 tgt d=some r1->(∀ a,Y a\/a∈wr->Y' a)->0 < s'.toks->j7 sc r1->Sim prog w h0 B0 env sc r1 B' Y' s'.heap->Z wr i s'.heap->f0 r1=some res->
   wpAny (model prog w) A (PySem.execs b env) (λ f s''=>FlW w h0 B0 env sc Y' Wx r1 B' s' res f s''/\((f = .next->Z wr (i+1) s''.heap)/\(f = .brk->Z wr its.length s''.heap))) E' s') :
  wpAny (model prog w) A (PySem.exec (.For t it b [] pos) env) (λ f s'=>FlW w h0 B0 env sc Y Wx r B s (fl,ab8 r rE src) f s'/\(f = .next->∃ wr,Z wr its.length s'.heap)) E s:=by
 have Ssrc:Sim prog w h0 B0 env sc (cl4 r src) B Y s.heap:=S.part λ i m d q=>(cq5 q).1
 refine wpAny_For (wpAny_mono (hsrc (Sim.ok Ssrc rm ek hb ht fa) qh) (λ x s1 h1=>wpAny_mono h1 (λ itv s2 h2=>?_) λ ξ ξ e=>e) λ ξ ξ e=>e) (bi7 hset)
 obtain ⟨I,fp,wr,P,Md,St,B2,rfl,W,st2,g2,m2,hex,hwr,hV,hrd,_⟩:=h2
 have SL:=S.lockS (src:=src)
 have hwn:∀ a,a∈wr->s.heap.get? a=none/\B2 a=none/\s2.heap.get? a≠none:=λ a q=>by
  refine ⟨?_,(hwr a q).2,(hex 0 _ st2 a (W.sub a q)).ne⟩
  exact (hwr a q).1
 have S2:Sim prog w h0 B0 env sc (ac1 r src) B2 (λ a=>Y a\/a∈wr) s2.heap:=SL.addY g2 hwn
 have N2:NxW Wx env sc (ac1 r src) s.heap (ac1 r src) s2.heap:=(SL.nx_ev g2).wd SL hW
 have hWn:∀ b,b∈wr->¬ Wx b:=λ b q p=>(S.y0 b (hW b p)).2.2 (hwr b q).1
 have z2:Z wr 0 s2.heap:=hZ wr 0 _ _ (λ b o ξ ξ e=>g2.old b o e) (z0 wr λ b q=>(hwr b q).1)
 refine codeAny_forLoop_any (R:=λ r' s'=>match r' with | .ok f=>FlW w h0 B0 env sc Y Wx r B s (fl,ab8 r rE src) f s'/\(f = .next->∃ wr,Z wr its.length s'.heap) | .error e=>cameBackBy (model prog w) A env E e s')
  (ey8 w h0 B0 B2 env sc Y wr its s St (ac1 r src) F (fl,rE) (Z wr) Wx)
  ?_ (its.length+1) ⟨0,B2,ac1 r src,Nat.zero_le _,rfl,S2,.refl _,m2,st2,N2,hn.lockS,hloop,z2⟩
 rintro n s' ⟨i,Bi,ri,hi,rfl,Si,hBi,mi,sti,Ni,ni,hfl,zi⟩
 refine wpAny_with_toks (n:=s'.toks) (Nat.le_refl _) ?_
 have hXw:∀ b,b∈wr->(Y b\/b∈wr)/\(s.heap.get? b=none\/Wx b):=λ b q=>⟨.inr q,.inl (hwr b q).1⟩
 by_cases hlt:i < its.length
 ·refine W.item i _ _ _ hlt sti λ v h' tk hmd hk htk=>?_
  simp only
  refine W.go i v { s' with heap:=h',toks:=tk } _ _ hmd λ h2 hP st2' hk2=>?_
  have hoff:∀ b o,¬ b∈wr->s'.heap.get? b=some o->h2.get? b=some o:=λ b o q e=>hk2 b o q (hk b o q e)
  have hYe:∀ b,(Y b\/b∈wr)->h2.get? b≠none:=λ b q=>by
   by_cases e:b∈wr
   ·exact (hex _ _ st2' b (W.sub _ e)).ne
   ·cases e1:s'.heap.get? b with
    | none=>exact absurd e1 (Si.y0 b q).2.2
    | some o=>rw [hoff b o e e1];simp
  have SY:=Si.off2 (Y':=λ a=>Y a\/a∈wr) (h':=h2) (λ b o q e=>hoff b o (λ q'=>q (.inr q')) e) (λ ξ q=>q) hYe
  have NY:NxW Wx env sc (ac1 r src) s.heap ri h2:=Ni.off Si hXw (λ b q p=>(hWn b q p).elim) hoff
  obtain ⟨d,hd,hv,hf⟩:=hrd i v h2 Bi hP hBi SY.gr.keep
  have hdrop:its.drop i=d :: its.drop (i+1):=by
   rw [List.drop_eq_getElem_cons hlt]
   rw [List.getElem?_eq_getElem hlt] at hd
   cases hd;rfl
  rw [hdrop] at hfl
  obtain ⟨⟨f1,rb⟩,hfb,hfl⟩:=a6 hfl
  have hfb':(do f0 (<- ad9 ri tgt d))=some (f1,rb):=by rw [<- hF] at hfb;exact hfb
  obtain ⟨r1,hbp,hex1⟩:=a6 hfb'
  refine bb3 (s:={ s' with heap:=h2,toks:=tk }) tg rm.handled ek SY hv hf (bg8 hbp).1 λ h3 tk3 htk3 S3 hk3 hAt=>?_
  have m3:k6 s { s' with heap:=h3,toks:=tk3 }:=⟨mi.gens,mi.os,Nat.le_trans mi.toks (Nat.le_trans htk htk3)⟩
  have N3:NxW Wx env sc (ac1 r src) s.heap r1 h3:=NY.trans ((Nx.bind SY S3 hbp hk3 hAt).wd SY λ b q=>.inl (hW b q))
  have n3:=ni.bind hbp
  have z3:Z wr i h3:=hZ wr i _ _ (λ b o q1 q2 e=>.inl (hk3 b o q1 (hoff b o q2 e))) zi
  refine wpAny_mono (hbody hd hbp (λ a q=>q) (Nat.lt_of_lt_of_le ht m3.toks) n3 S3 z3 hex1) (λ f s4 q=>?_) λ ξ ξ e=>e
  obtain ⟨q,zn,zb⟩:=q
  have hfpo:∀ b∈fp,¬ isOwn env sc b:=λ b hbf q=>by
   rcases hV b hbf with e | e | ⟨x0,j,m0,d0,e1,e2,e4,_⟩
   ·exact S3.yown b q (.inr e)
   ·have:=(S2.own0 b q).2
    exact e this
   ·obtain ⟨v0,a0,_,_,nn,_⟩:=Ssrc.vars x0 j m0 d0 e1 e2
    exact nn b (.inl q) (a0.unique e4)
  have hfps:∀ b∈fp,∀ x i' d',d8 sc x=some i'->r1.get i'=some (.own,d')->¬ At env h3 x (.ref b):=λ b hbf x i' d' q1 q2 q3=>by
   obtain ⟨v0,a0,_,_,nn,oo⟩:=S3.vars x i' _ d' q1 q2
   have ev:=a0.unique q3
   subst ev
   rcases hV b hbf with e | e | ⟨x0,j,m0,d0,e1,e2,e4,e5,e8⟩
   ·exact nn b (.inr (.inr e)) rfl
   ·obtain ⟨b',eb,_,e0,_⟩:=oo rfl
    cases eb
    cases e6:B2 b with
    | none=>exact e e6
    | some o=>rw [hBi b o e6] at e0;cases e0
   ·obtain ⟨e6,e7⟩:=cq5 e2
    have hbE:s.heap.get? b≠none:=by
     obtain ⟨v1,a1,t1,_⟩:=S.vars x0 j m0 d0 e1 e6
     have:=a1.unique e4
     subst this
     exact n9 t1 S.gr.keep
    rcases N3.own x i' d' b q1 q2 q3 with q | ⟨y,jy,dy,p1,p2,p3⟩
    ·exact hbE q
    ·have p2':=bk1 p2
     by_cases hj:jy=j
     ·subst hj
      rw [e6] at p2'
      cases p2'
      rcases e8 with e8 | ⟨j',e8⟩
      ·rcases e7 with e7 | e7
       ·rw [e7] at e8;cases e8
       ·exact e7 rfl
      ·have:=e5 j' e8
       subst this
       rcases ag4 r src with ⟨_,q⟩ | ⟨j2,d2,hv2,_,q⟩
       ·exact q jy d0 e8 e6
       ·rw [e8] at hv2;cases hv2
        rw [q,g9,if_pos ⟨rfl,ax4 e6⟩] at p2
        cases p2
     ·exact S.uniq y x0 jy j .own m0 dy d0 b p1 e1 hj p2' rfl e6 p3 e4
  have hfpW:∀ b∈fp,¬ Wx b:=λ b hbf p=>by
   rcases hV b hbf with e | e | ⟨x0,j,m0,d0,e1,e2,e4,_⟩
   ·exact hWn b e p
   ·exact e (g2.none_of (S.y0 b (hW b p)).2.1 (S.y0 b (hW b p)).2.2)
   ·obtain ⟨v0,a0,_,_,nn,_⟩:=Ssrc.vars x0 j m0 d0 e1 e2
    exact nn b (.inr (hW b p)) (a0.unique e4)
  have stay:∀ b∈fp,∀ o,h2.get? b=some o->(∀ h4,NxW Wx env sc r1 h3 rb h4->h4.get? b=some o):=λ b hbf o e h4 N=>(N.fr b o (hfpW b hbf) (hk3 b o (hfpo b hbf) e) (hfpo b hbf) (hfps b hbf)).solid (by obtain ⟨o',e',hs⟩:=hex _ _ st2' b hbf;rw [e] at e';cases e';exact hs)
  unfold FlW at q
  cases f1 <;> cases f <;> first | exact q.elim | skip
  ·obtain ⟨B4,l4,S4,m4,N4,n4⟩:=q
   exact ⟨its.length+1 - (i+1),by lia,i+1,B4,rb,hlt,rfl,S4,hBi.trans l4,m3.trans m4,W.frame _ _ _ st2' (λ b hbf o e=>stay b hbf o e _ N4),N3.trans N4,n4,hfl,zn rfl⟩
  ·obtain ⟨B4,l4,S4,m4,N4,n4⟩:=q
   cases hfl
   have hle:B.le B4:=(g2.le.trans hBi).trans l4
   refine ⟨⟨B4,hle,(S4.unlockS (src:=src) (r0:=r)).subY λ a q=>.inl q,m3.trans m4,NxW.unlock S (N3.trans N4) hn,n4.unlockS hn⟩,λ ξ=>⟨wr,zb rfl⟩⟩
  ·cases hfl
   obtain ⟨B4,q1,q2,q3⟩:=q
   exact ⟨⟨B4,q1,m3.trans q2,q3⟩,nofun⟩
 ·have hin:i=its.length:=by exact Nat.le_antisymm ‹_› (Nat.not_lt.mp ‹_›)
  subst hin
  refine W.done _ _ _ sti λ h' tk hk htk=>?_
  simp only
  refine wpAny_execs_nil ?_
  rw [List.drop_of_length_le (Nat.le_refl _)] at hfl
  cases hfl
  have Sd:Sim prog w h0 B0 env sc rE Bi Y h':=Si.off2 (λ b o q e=>hk b o (λ q'=>q (.inr q')) e) (λ ξ q=>.inl q) λ b q=>by
   by_cases e:b∈wr
   ·exfalso
    exact (hwn b e).1 |> λ e1=>by
     have:=(S.y0 b q).2.2
     exact this e1
   ·cases e1:s'.heap.get? b with
    | none=>exact absurd e1 (Si.y0 b (.inl q)).2.2
    | some o=>rw [hk b o e e1];simp
  have Nd:NxW Wx env sc (ac1 r src) s.heap rE h':=Ni.off Si hXw (λ b q p=>(hWn b q p).elim) hk
  exact ⟨⟨Bi,g2.le.trans hBi,Sd.unlockS,⟨mi.gens,mi.os,Nat.le_trans mi.toks htk⟩,NxW.unlock S Nd hn,ni.unlockS hn⟩,λ ξ=>⟨wr,hZ _ _ _ _ (λ b o q1 q2 e=>.inl (hk b o q2 e)) zi⟩⟩
theorem ap7 {t it:PySem.Expr} {b:List Stmt} {tgt:List Nat} {src:IR} {body:List SI} {pos:Pos} (tg:z5 sc t tgt) (hset:aa0 it=true) (hsrc:ad5 w qa k U sc it src t) (hbody:ab1 prog w qa k U qc sc b body) :
  ae9 prog w qa k U qc sc (.For t it b [] pos) (.for_ tgt src body):=λ A E env r B s h0 B0 Y res rm ek hb ht fa hn S h=>by
 obtain ⟨its,qh,h⟩:=a6 h
 obtain ⟨⟨fl,rE⟩,hloop,h⟩:=a6 h
 cases h
 exact wpAny_mono (dd6 (Z:=λ ξ ξ ξ=>True) (Wx:=λ ξ=>False) tg hset hsrc rfl rm ek hb ht fa hn S qh hloop (λ ξ ξ ξ ξ ξ ξ=>trivial) (λ ξ ξ=>trivial) (λ ξ q=>q.elim) λ E' r2 r1 B' s' Y' d i res wr ξ ξ ξ ht' n3 S3 ξ hex=>wpAny_mono (hbody rm ek hb ht' fa n3 S3 hex) (λ f s4 q=>⟨q.wd λ ξ ξ n=>n.w0,λ ξ=>trivial,λ ξ=>trivial⟩) λ ξ ξ e=>e) (λ f s' q=>q.1.p) λ ξ ξ e=>e
end
end
section
open PySem.Calls PySem.SeqAt
noncomputable def bo0 (e:PySem.Expr):Bool:=e.ctorIdx != 8 && (e.ctorIdx != 9 && e.ctorIdx != 10)
section
variable {w:World} {qa:Heap} {mg mb:Str->Option Value} {k:Nat} {U:String->List D->Option D} {qc:String->Bool} {sc:Scope}
variable (w qa k U) in
noncomputable def bt0 (sc:Scope) (e:PySem.Expr) (ir:IR):Prop:=
 ∀ ⦃A E s env r B d⦄,Ok prog w qa k A env sc r B s->eval U ir r=some d->wpAny (model prog w) A (PySem.eval e env) (FrP prog w B s d) E s
theorem ak6 {x:Str} {p pos:Pos} {e:PySem.Expr} {A:Around} {E:Value->Shared->Prop} {s:Shared} {env:Env} {Q:Flow->Shared->Prop} (hc:bo0 e=true)
  (h:wpAny (model prog w) A (PySem.eval e env) (λ v s1=>wpAny (model prog w) A (assign (.Name x p) env v) (λ ξ=>Q .next) E s1) E s):wpAny (model prog w) A (PySem.exec (.Assign [.Name x p] e pos) env) Q E s:=by
 refine wpAny_Assign_stores h ?_ ?_
 ·cases e <;> first | rfl | cases hc
 ·cases e <;> rfl
theorem bj6 {h0:Heap} {B0:FM} {Y:Addr->Prop} {A:Around} {E:Value->Shared->Prop} {s0 s:Shared} {env:Env} {r0 r r2:Rho} {Bs B:FM} {x:Str} {p:Pos} {i:Nat} {d:D} {v:Value} (hw:j5 sc x=some i) (hh:A.handled=none) (ek:j6 env sc)
  (S:Sim prog w h0 B0 env sc r B Y s.heap) (n:j7 sc r) (hB:Bs.le B) (m:k6 s0 s) (N:Nx env sc r0 s0.heap r s.heap) (hv:Rd prog w B d v) (hp:r.put i .fr d=some r2) :
  wpAny (model prog w) A (assign (.Name x p) env v) (λ ξ s'=>NxP w h0 B0 env sc Y r0 Bs s0 r2 s'/\∀ c o,¬ isOwn env sc c->s.heap.get? c=some o->s'.heap.get? c=some o) E s:=by
 have hb:=ac6 hp
 refine bb3 (z5.name hw) hh ek S (hv.top S.gr.keep) (λ ξ=>hv) (bg8 hb).1 λ h' tk htk S' hk hAt=>?_
 exact ⟨⟨B,hB,S',⟨m.gens,m.os,Nat.le_trans m.toks htk⟩,N.trans (Nx.bind S S' hb hk hAt),n.bind hb⟩,hk⟩
theorem ck6 {h0:Heap} {B0:FM} {Y:Addr->Prop} {A:Around} {E:Value->Shared->Prop} {s0 s:Shared} {env:Env} {r0 r r2:Rho} {Bs B:FM} {x:Str} {p:Pos} {i:Nat} {d:D} {v:Value} (hw:j5 sc x=some i) (hh:A.handled=none) (ek:j6 env sc)
  (S:Sim prog w h0 B0 env sc r B Y s.heap) (n:j7 sc r) (hB:Bs.le B) (m:k6 s0 s) (N:Nx env sc r0 s0.heap r s.heap) (hv:Rd prog w B d v) (hp:r.put i .fr d=some r2) :
  wpAny (model prog w) A (assign (.Name x p) env v) (λ ξ s'=>NxP w h0 B0 env sc Y r0 Bs s0 r2 s') E s:=
 wpAny_mono (bj6 hw hh ek S n hB m N hv hp) (λ ξ ξ q=>q.1) λ ξ ξ e=>e
theorem c8 {x:Str} {i:Nat} {own:Bool} {p pos:Pos} {e:PySem.Expr} {ir:IR} (hw:j5 sc x=some i) (hc:bo0 e=true) (he:j3 w qa k U sc e ir) (hm:(own && bh1 qc ir)=false) :
  ae9 prog w qa k U qc sc (.Assign [.Name x p] e pos) (.assign i own ir):=λ A E env r B s h0 B0 Y res rm ek hb ht fa hn S h=>by
 obtain ⟨d,hd,h⟩:=a6 h
 obtain ⟨r2,hp,h⟩:=a6 h
 cases h
 rw [hm] at hp
 obtain ⟨B1,l1,S1,N1,n1⟩:=S.val (ir:=ir) hn
 refine ak6 hc (al8 he (Sim.ok S1 rm ek hb ht fa) hd λ v s2 B2 g2 m2 r2' ok2=>?_)
 exact ck6 hw rm.handled ek (S1.ev g2) n1 (l1.trans g2.le) m2 (N1.trans (S1.nx_ev g2)) r2' hp
theorem bu7 {h0:Heap} {B0:FM} {Y:Addr->Prop} {A:Around} {E:Value->Shared->Prop} {s0 s:Shared} {env:Env} {r0 r r2:Rho} {Bs B:FM} {x:Str} {i:Nat} {d:D} {a:Addr} (hw:j5 sc x=some i) (ek:j6 env sc)
  (S:Sim prog w h0 B0 env sc r B Y s.heap) (n:j7 sc r) (hB:Bs.le B) (m:k6 s0 s) (N:Nx env sc r0 s0.heap r s.heap) (t:f8 prog w s.heap B d (.ref a)) (hz:h0.get? a=none) (hBa:B a=none) (hpl:v8 s.heap a)
  (hna:∀ b,isOwn env sc b\/Y b->a≠b) (hno:∀ y j m d',d8 sc y=some j->r.get j=some (m,d')->¬ At env s.heap y (.ref a)) (hor:s0.heap.get? a=none\/∃ y j d2,d8 sc y=some j/\r0.get j=some (.own,d2)/\At env s0.heap y (.ref a))
  (hp:r.put i .own d=some r2):wpAny (model prog w) A (storeName env x (.ref a)) (λ ξ s'=>NxP w h0 B0 env sc Y r0 Bs s0 r2 s'/\∀ c o,¬ isOwn env sc c->s.heap.get? c=some o->s'.heap.get? c=some o) E s:=by
 obtain ⟨hs,hx⟩:=f4 hw
 obtain ⟨e2,hlt,hlk⟩:=ad7 hp
 subst e2
 refine S.put (m0:=.own) ek hs hx t nofun (λ b q e=>hna b q (Value.ref.inj e)) (λ ξ=>⟨a,rfl,hz,hBa,hpl⟩) (λ y j m1 d' b q1 ξ q3 ξ q5 e=>hno y j m1 d' q1 q3 (e▸q5)) (λ ξ y j m' d' q1 ξ q3 q5=>hno y j m' d' q1 q3 q5) λ h' tk b htk hob hsb S3 hoth hax=>?_
 have hk:∀ c o,¬ isOwn env sc c->s.heap.get? c=some o->h'.get? c=some o:=λ c o q e=>(hsb.2 c (λ q'=>q (q'▸hob))).trans e
 refine ⟨⟨B,hB,S3,⟨m.gens,m.os,Nat.le_trans m.toks htk⟩,⟨λ c o e hnc hno2=>(N.fr c o e hnc hno2).trans λ o' e'=>.inl (hk c o' hnc e'),λ y j d' c q1 q2 q3=>?_,λ c q=>S3.ownE q,λ y j d' q1 q2=>?_⟩,λ j d' q=>?_⟩,hk⟩
 ·rw [g9] at q2
  split at q2
  ·rename_i hc
   cases ao4 q1 (hc.1▸hs)
   cases hax.unique q3
   exact hor
  ·rename_i hc
   obtain ⟨v0,a0,_⟩:=S.vars y j _ d' q1 q2
   cases (hoth y (bi5 hs q1 q2 hc) v0 a0).unique q3
   exact N.own y j d' c q1 q2 a0
 ·obtain ⟨p1,p2⟩:=N.lock y j d' q1 q2
  have hij:i≠j:=λ e=>hlk d' (e▸p1)
  exact ⟨by rw [g9,if_neg (λ q=>hij q.1)];exact p1,λ u au=>hoth y (bi5 hs q1 p1 λ q=>hij q.1) u (p2 u au)⟩
 ·rw [g9] at q
  split at q
  ·rename_i hc;exact ⟨x,hc.1▸hs⟩
  ·exact n j d' q
theorem bw0 {h0:Heap} {B0:FM} {Y:Addr->Prop} {A:Around} {E:Value->Shared->Prop} {s0 s:Shared} {env:Env} {r0 r r2:Rho} {Bs B:FM} {x:Str} {p:Pos} {i:Nat} {d:D} {a:Addr} (hw:j5 sc x=some i) (ek:j6 env sc)
  (S:Sim prog w h0 B0 env sc r B Y s.heap) (n:j7 sc r) (hB:Bs.le B) (m:k6 s0 s) (N:Nx env sc r0 s0.heap r s.heap) (t:f8 prog w s.heap B d (.ref a)) (hz:h0.get? a=none) (hBa:B a=none) (hpl:v8 s.heap a)
  (hna:∀ b,isOwn env sc b\/Y b->a≠b) (hno:∀ y j m d',d8 sc y=some j->r.get j=some (m,d')->¬ At env s.heap y (.ref a)) (hor:s0.heap.get? a=none\/∃ y j d2,d8 sc y=some j/\r0.get j=some (.own,d2)/\At env s0.heap y (.ref a))
  (hp:r.put i .own d=some r2):wpAny (model prog w) A (assign (.Name x p) env (.ref a)) (λ ξ s'=>NxP w h0 B0 env sc Y r0 Bs s0 r2 s'/\∀ c o,¬ isOwn env sc c->s.heap.get? c=some o->s'.heap.get? c=some o) E s:=
 wpAny_assign_Name (bu7 hw ek S n hB m N t hz hBa hpl hna hno hor hp)
theorem dm1 {h0:Heap} {B0:FM} {Y:Addr->Prop} {A:Around} {E:Value->Shared->Prop} {s0 s:Shared} {env:Env} {r0 r r2:Rho} {Bs B:FM} {x:Str} {p:Pos} {i:Nat} {d:D} {a:Addr} (hw:j5 sc x=some i) (ek:j6 env sc)
  (S:Sim prog w h0 B0 env sc r B Y s.heap) (n:j7 sc r) (hB:Bs.le B) (m:k6 s0 s) (N:Nx env sc r0 s0.heap r s.heap) (t:f8 prog w s.heap B d (.ref a)) (hz:h0.get? a=none) (hBa:B a=none) (hpl:v8 s.heap a)
  (hna:∀ b,isOwn env sc b\/Y b->a≠b) (hno:∀ y j m d',d8 sc y=some j->r.get j=some (m,d')->¬ At env s.heap y (.ref a)) (hor:s0.heap.get? a=none\/∃ y j d2,d8 sc y=some j/\r0.get j=some (.own,d2)/\At env s0.heap y (.ref a))
  (hp:r.put i .own d=some r2):wpAny (model prog w) A (assign (.Name x p) env (.ref a)) (λ ξ s'=>NxP w h0 B0 env sc Y r0 Bs s0 r2 s') E s:=
 wpAny_mono (bw0 hw ek S n hB m N t hz hBa hpl hna hno hor hp) (λ ξ ξ q=>q.1) λ ξ ξ e=>e
theorem cb2 {h0:Heap} {B0:FM} {Y:Addr->Prop} {A:Around} {E:Value->Shared->Prop} {s0 s s2:Shared} {env:Env} {r0 r r2:Rho} {Bs B:FM} {x:Str} {p:Pos} {i:Nat} {d:D} {v:Value} {ow:Bool} (hw:j5 sc x=some i) (hh:A.handled=none) (ek:j6 env sc)
  (S:Sim prog w h0 B0 env sc r B Y s.heap) (n:j7 sc r) (hB:Bs.le B) (m:k6 s0 s) (N:Nx env sc r0 s0.heap r s.heap) (q:FrP prog w B s d v s2) (hor:∀ a,s.heap.get? a=none->s0.heap.get? a=none) (hp:r.put i (bif ow then .own else .fr) d=some r2) :
  wpAny (model prog w) A (assign (.Name x p) env v) (λ ξ s'=>NxP w h0 B0 env sc Y r0 Bs s0 r2 s') E s2:=by
 cases ow with
 | false=>
  obtain ⟨B2,g2,t2,m2⟩:=q.ev
  exact ck6 hw hh ek (S.ev g2) n (hB.trans g2.le) (m.trans m2) (N.trans (S.nx_ev g2)) t2 hp
 | true=>
  obtain ⟨B2,a,rfl,g2,hna,hBa,tt,m2,hpl⟩:=q
  refine dm1 hw ek (S.ev g2) n (hB.trans g2.le) (m.trans m2) (N.trans (S.nx_ev g2)) tt (S.gr.old.back hna) hBa hpl (λ b q e=>?_) (λ y j m d' q1 q2 q3=>?_) (.inl (hor a hna)) hp
  ·subst e
   exact q.elim (λ q=>S.ownE q hna) λ q=>(S.y0 a q).2.2 hna
  ·obtain ⟨v0,a0,t0,_⟩:=S.vars y j m d' q1 q2
   cases (a0.keeps g2.old).unique q3
   exact n9 t0 S.gr.keep hna
theorem y6 {x:Str} {i:Nat} {p pos:Pos} {e:PySem.Expr} {ir:IR} (hw:j5 sc x=some i) (hc:bo0 e=true) (he:bt0 w qa k U sc e ir) (hf:bh1 qc ir=true) :
  ae9 prog w qa k U qc sc (.Assign [.Name x p] e pos) (.assign i true ir):=λ A E env r B s h0 B0 Y res rm ek hb ht fa hn S h=>by
 obtain ⟨d,hd,h⟩:=a6 h
 obtain ⟨r2,hp,h⟩:=a6 h
 cases h
 rw [hf] at hp
 obtain ⟨B1,l1,S1,N1,n1⟩:=S.val (ir:=ir) hn
 exact ak6 hc (wpAny_mono (he (Sim.ok S1 rm ek hb ht fa) hd) (λ v s2 q=>cb2 (ow:=true) hw rm.handled ek S1 n1 l1 (.refl s) N1 q (λ ξ e=>e) hp) λ ξ ξ e=>e)
variable (w qa k U qc) in

noncomputable def bu9 (sc:Scope) (sts:List Stmt) (sis:List SI) (lst:List Stmt):Prop:=
 ∀ ⦃A E env r B s h0 B0 Y r' Q⦄,Rm k A->j6 env sc->(∀ a o,qa.get? a=some o->B0 a=some o)->0 < s.toks->FrA A env B0 h0->j7 sc r->Sim prog w h0 B0 env sc r B Y s.heap->execs U qc sis r=some (.next,r')->
  (∀ s' B',B.le B'->Sim prog w h0 B0 env sc r' B' Y s'.heap->k6 s s'->j7 sc r'->wpAny (model prog w) A (PySem.execs lst env) Q E s')->wpAny (model prog w) A (PySem.execs sts env) Q E s
theorem cm6 {lst:List Stmt}:bu9 w qa k U qc sc lst [] lst:=λ A E env r B s h0 B0 Y r' Q rm ek hb ht fa hn S h q=>by
 cases h
 exact q s B (.refl _) S (.refl s) hn
theorem ai8 {st:Stmt} {sts lst:List Stmt} {si:SI} {sis:List SI} (h1:ae9 prog w qa k U qc sc st si) (h2:bu9 w qa k U qc sc sts sis lst):bu9 w qa k U qc sc (st :: sts) (si :: sis) lst:=λ A E env r B s h0 B0 Y r' Q rm ek hb ht fa hn S h q=>by
 obtain ⟨⟨fl,r1⟩,q1,h⟩:=a6 h
 refine wpAny_execs_cons (wpAny_mono (h1 rm ek hb ht fa hn S q1) (λ f s' p=>?_) λ ξ ξ e=>e)
 unfold FlP at p
 cases fl <;> cases f <;> simp only at p h⊢
 ·obtain ⟨B',p1,p2,p3,p4,p5⟩:=p
  exact h2 rm ek hb (Nat.lt_of_lt_of_le ht p3.toks) fa p5 p2 h λ s2 B2 l2 S2 m2 n2=>q s2 B2 (p1.trans l2) S2 (p3.trans m2) n2
 ·cases h
 ·cases h
end
end
section
open PySem.Calls PySem.SeqAt
section
variable {w:World} {qa:Heap} {mg mb:Str->Option Value} {k:Nat} {U:String->List D->Option D} {qc:String->Bool} {sc:Scope}
theorem bi8 {x:Str} {i:Nat} {own:Bool} {p pos:Pos} {sc':Scope} {val iter:PySem.Expr} {newAcc:Sem Value} {ir:IR} (hw:j5 sc x=some i) (hcp:do1 w qa k U sc sc' val iter newAcc ir) (hv:ir.v=none)
  (hev:∀ env,∃ p,PySem.eval val env=comprehension val sc' env p newAcc false (PySem.eval iter env) none) (hev2:∀ env u,∃ p,evalThenUse val env u=(do let _ <- comprehension val sc' env p newAcc false (PySem.eval iter env) (some u)))
  (hsw:∀ env,∃ b,swapsWith val (some (.Name x p)) pos.line env=pure b) (hst:∀ env,swappedStores [.Name x p] val env=pure none) :
  ae9 prog w qa k U qc sc (.Assign [.Name x p] val pos) (.assign i own ir):=λ A E env r B s h0 B0 Y res rm ek hb htk fa hn S h=>by
 obtain ⟨d,hd,h⟩:=a6 h
 obtain ⟨r2,hp,h⟩:=a6 h
 cases h
 have hval:aw7 r ir=r:=by unfold aw7;rw [hv]
 rw [hval] at hp hd
 have ok:=Sim.ok S rm ek hb htk fa
 obtain ⟨b,hsw⟩:=hsw env
 cases b
 ·refine wpAny_Assign_stores (wpAny_mono (dw6 hcp hev ok hd) (λ v s1 q=>?_) λ ξ ξ e=>e) hsw (hst env)
  exact cb2 hw rm.handled ek S hn (.refl _) (.refl s) S.nx q (λ ξ e=>e) hp
 ·rw [exec_Assign_Name_used _ _ _ _ hsw]
  refine wpAny_bind (wpAny_standAt (wpAny_bind ?_))
  obtain ⟨pp,he2⟩:=hev2 env (assign (.Name x p) env)
  rw [he2]
  refine wpAny_bind (wpAny_mono (hcp (use:=some (assign (.Name x p) env)) (Q:=λ ξ s'=>NxP w h0 B0 env sc Y r B s r2 s') ok hd λ Dd C s' q=>?_) (λ ξ s' q=>wpAny_pure (wpAny_pure q)) λ ξ ξ e=>e)
  obtain ⟨Bn,o,g,m,hD,hC,hne,hBD,hBC,hDo,hpl,t,hz,⟨mm,hns⟩⟩:=q
  have hCe:s'.heap.get? C≠none:=by obtain ⟨oc,_,_,e,_⟩:=hns;rw [e];simp
  have hCo:¬ isOwn env sc C:=λ q=>S.ownE q hC
  have add:∀ {B':FM},Gr B s.heap B' s'.heap->B' C=none->Sim prog w h0 B0 env sc r B' (λ a=>Y a\/a=C) s'.heap:=λ g e=>S.addY g λ a q=>by subst q;exact ⟨hC,e,hCe⟩
  have fin:∀ {B':FM},Gr B s.heap B' s'.heap->∀ s2,NxP w h0 B0 env sc (λ a=>Y a\/a=C) r B s r2 s2/\(∀ c o,¬ isOwn env sc c->s'.heap.get? c=some o->s2.heap.get? c=some o)->
    ∃ m,s2.heap.Ns C m/\∀ h3,Heap.SameBut C s2.heap h3->NxP w h0 B0 env sc Y r B s r2 { s2 with heap:=h3 }:=λ g' s2 q=>by
   obtain ⟨⟨B2,l2,S2,m2,N2,n2⟩,hk⟩:=q
   refine ⟨mm,hns.at' λ o e=>hk C o hCo e,λ h3 hsb=>?_⟩
   have hk3:∀ b o,¬ b=C->s2.heap.get? b=some o->h3.get? b=some o:=λ b o q e=>(hsb.2 b q).trans e
   refine ⟨B2,l2,S2.off2 (λ b o q e=>hk3 b o (λ q'=>q (.inr q')) e) (λ ξ q=>.inl q) (λ b q=>?_),⟨m2.gens,m2.os,m2.toks⟩,N2.off (X:=λ a=>a=C) S2 (λ b q=>⟨.inr q,q▸hC⟩) hk3,n2⟩
   have hbC:b≠C:=λ e=>by subst e;exact (S.y0 b q).2.2 hC
   rw [hsb.2 b hbC];exact (S2.y0 b (.inl q)).2.2
  show wpAny _ A (assign (.Name x p) env (.ref Dd)) _ _ s'
  cases hm:(own && bh1 qc ir) with
  | false=>
   rw [hm] at hp
   have g':=g.freeze hD hDo
   have S1:=add g' (by simp [FM.add,Ne.symm hne,hBC])
   exact wpAny_mono (bj6 hw rm.handled ek S1 hn g'.le m (S.nx_ev g') (hz _ (FM.le_add λ o' e=>by rw [hBD] at e;cases e) (FM.add_self ..)) hp) (λ ξ s2 q=>fin g' s2 q) λ ξ ξ e=>e
  | true=>
   rw [hm] at hp
   have S1:=add g hBC
   refine wpAny_mono (bw0 hw ek S1 hn g.le m (S.nx_ev g) t (S.gr.old.back hD) hBD (λ o' e=>by rw [hDo] at e;cases e;exact hpl) (λ b q e=>?_) (λ y j m d' q1 q2 q3=>?_) (.inl hD) hp) (λ ξ s2 q=>fin g s2 q) λ ξ ξ e=>e
   ·subst e
    exact q.elim (λ q=>S.ownE q hD) λ q=>q.elim (λ q=>(S.y0 _ q).2.2 hD) hne
   ·obtain ⟨v0,a0,t0,_⟩:=S.vars y j m d' q1 q2
    cases (a0.keeps g.old).unique q3
    exact n9 t0 S.gr.keep hD
theorem bq4 {x:Str} {i:Nat} {own:Bool} {p pos:Pos} {elt target iter:PySem.Expr} {ifs:List PySem.Expr} {sc':Scope} {cpos:Pos} {tgt:List Nat} {isrc:IR} {qd:List IR} {ir:IR} (hw:j5 sc x=some i)
  (cs:an7 sc' sc) (hset:aa0 iter=true) (tg:z5 sc' target tgt) (hsrc:ad5 w qa k U sc iter isrc target) (ht:b8 (ai4 w qa k U sc') ifs qd) (he:j3 w qa k U sc' elt ir) :
  ae9 prog w qa k U qc sc (.Assign [.Name x p] (.ListComp elt [⟨target,iter,ifs,0⟩] sc' cpos) pos) (.assign i own (.comp (ad3 sc' sc) tgt isrc qd ir)):=
 bi8 hw (bi1 cs hset tg hsrc ht he) rfl (λ env=>⟨_,rfl⟩) (λ env u=>⟨_,rfl⟩) (λ env=>⟨_,rfl⟩) λ env=>rfl
theorem bm9 {x:Str} {i:Nat} {own:Bool} {p pos:Pos} {key elt target iter:PySem.Expr} {sc':Scope} {cpos:Pos} {tgt:List Nat} {isrc:IR} {ik ir:IR} (G:Glb qa mg mb) (hw:j5 sc x=some i)
  (cs:an7 sc' sc) (hset:aa0 iter=true) (tg:z5 sc' target tgt) (hsrc:ad5 w qa k U sc iter isrc target) (hk:j3 w qa k U sc' key ik) (he:j3 w qa k U sc' elt ir) :
  ae9 prog w qa k U qc sc (.Assign [.Name x p] (.DictComp key elt [⟨target,iter,[],0⟩] sc' cpos) pos) (.assign i own (.dcomp (ad3 sc' sc) tgt isrc [] ik ir)):=
 bi8 hw (dm3 G cs hset tg hsrc hk he) rfl (λ env=>⟨_,rfl⟩) (λ env u=>⟨_,rfl⟩) (λ env=>⟨_,rfl⟩) λ env=>rfl
end
end
section
open PySem.Calls PySem.SeqAt
section
variable {w:World} {qa:Heap} {mg mb:Str->Option Value} {k:Nat} {U:String->List D->Option D} {qc:String->Bool} {sc:Scope}
theorem aa7 {x:Str} {i:Nat} {p pos:Pos} (hs:d8 sc x=some i):ae9 prog w qa k U qc sc (.Return (some (.Name x p)) pos) (.ret (.var i)):=λ A E env r B s h0 B0 Y res rm ek hb ht fa hn S h=>by
 obtain ⟨⟨m,d⟩,hr,h⟩:=a6 h
 cases m with
 | own=>
  cases h
  obtain ⟨v,a,t,_,_,o⟩:=S.vars x i _ d hs hr
  obtain ⟨b,rfl,e1,e2,e3⟩:=o rfl
  exact wpAny_Return_some (a.load ek.kind (i9 hs) ⟨B,S.gr,.refl s,b,rfl,e1,e2,t,e3⟩)
 | fr=>
  cases h
  obtain ⟨v,a,t,f,_⟩:=S.vars x i _ d hs hr
  exact wpAny_Return_some (a.load ek.kind (i9 hs) ⟨B,S.gr,.refl s,f rfl⟩)
 | _=>cases h
theorem eo0 {e:PySem.Expr} {ir:IR} {pos:Pos} (he:j3 w qa k U sc e ir) (hv:ir.v=none):ae9 prog w qa k U qc sc (.Return (some e) pos) (.ret ir):=λ A E env r B s h0 B0 Y res rm ek hb ht fa hn S h=>by
 unfold exec SI.ret at h
 rw [hv] at h
 obtain ⟨d,hd,h⟩:=a6 h
 cases h
 obtain ⟨B1,l1,S1,N1⟩:=S.frzFrom r.length hn
 refine wpAny_Return_some (al8 he (Sim.ok S1 rm ek hb ht fa) hd λ v s2 B2 g2 m2 r2 ok2=>?_)
 exact ⟨B2,S1.gr.trans g2,m2,r2⟩
theorem ax7 {b:List Stmt} {body:List SI} {h1:ExceptHandler} {hs:List ExceptHandler} {pos:Pos} (hbody:ab1 prog w qa k U qc sc b body):ae9 prog w qa k U qc sc (.Try b (h1 :: hs) [] [] pos) (.try_ body):=λ A E env r B s h0 B0 Y res rm ek hb ht fa hn S h=>by
 refine wpAny_Try_except (wpAny_mono (hbody rm ek hb ht fa hn S h) (λ f s1 q=>?_) λ ξ ξ e=>e)
 obtain ⟨fl,r1⟩:=res
 unfold FlP at q⊢
 cases fl <;> cases f <;> first | exact q.elim | skip
 ·exact wpAny_execs_nil q
 ·exact q
 ·exact q
noncomputable def dh7 (e:PySem.Expr):Bool:=e.ctorIdx != 25 && bo0 e
theorem do0 {ts:List PySem.Expr} {is:List Nat} {kd:Nat} {p pos:Pos} {e:PySem.Expr} {ir:IR} (hts:b8 (λ e i=>∃ x p,e=PySem.Expr.Name x p/\j5 sc x=some i) ts is) (hc:dh7 e=true) (he:j3 w qa k U sc e ir) :
  ae9 prog w qa k U qc sc (.Assign [.Tuple ts kd p] e pos) (.unpack is ir):=λ A E env r B s h0 B0 Y res rm ek hb ht fa hn S h=>by
 obtain ⟨d,hd,h⟩:=a6 h
 obtain ⟨ds,hds,h⟩:=a6 h
 obtain ⟨r2,hu,h⟩:=a6 h
 cases h
 obtain ⟨q1,q2,q3⟩:=bk4 hu
 subst q2
 have sw:swapsWithSole [.Tuple ts kd p] e pos.line env=pure false:=by cases e <;> first | rfl | cases hc
 have ss:swappedStores [.Tuple ts kd p] e env=pure none:=by cases e <;> first | rfl | cases hc
 refine wpAny_Assign_stores (al8 he (Sim.ok S rm ek hb ht fa) hd λ v s2 B2 g2 m2 rr ok2=>?_) sw ss
 have S2:=S.ev g2
 obtain ⟨el1,el2⟩:=dc4 (env:=env) hts
 have hgo:(∀ vs,RdL prog w B2 ds vs->∀ h',Heap.ExtBut s2.heap.objs.size s2.heap h'->wpAny (model prog w) A (assignInOrder ((assignEach ts env).map (·.2)) vs.toArray.toList) (λ ξ s'=>FlP w h0 B0 env sc Y r B s (.next,ab3 r is ds) .next s') E { s2 with heap:=h' })->wpAny (model prog w) A (assign (.Tuple ts kd p) env v) (λ ξ s'=>FlP w h0 B0 env sc Y r B s (.next,ab3 r is ds) .next s') E s2:=λ fin=>by
  rcases db5 hds with rfl | rfl
  ·obtain ⟨a,o,vs,rfl,hbo,x,rl⟩:=rr
   rw [arm_assign_Tuple]
   refine wpAny_bind (wpAny_standAt ?_)
   unfold unpack
   rw [show (assignEach ts env).length=vs.toArray.size by rw [el1,<- q1,List.size_toArray,rl.length],el2]
   exact wpAny_bind (wpAny_holding (kun_itemsOf rm.handled (x.isList (g2.keep _ _ hbo)) (fin vs rl)))
  ·obtain ⟨a,o,vs,rfl,hbo,x,rl⟩:=rr
   exact wpAny_assign_Tuple rm.handled (x.isTuple (g2.keep _ _ hbo)) (by rw [el1,<- q1,List.size_toArray,rl.length]) el2 (fin vs rl)
 refine hgo λ vs rl h' hext=>?_
 have old:∀ b o,s2.heap.get? b=some o->h'.get? b=some o:=λ b o e=>hext b o (Nat.ne_of_lt (Heap.lt_size e)) e
 have g3:=Gr.heap S2.gr.keep old
 refine bs1 hts ek (S2.ev g3) (by simpa using rl) q1 λ h'' tk htk S'' hk hAt=>?_
 have N1:=(S.nx_ev g2).trans (S2.nx_ev g3)
 refine ⟨B2,g2.le,S'',⟨m2.gens,m2.os,Nat.le_trans m2.toks htk⟩,N1.trans ?_,λ i d' q=>hn i d' (ag0 is ds r i _ d' q1 q (by simp)).1⟩
 refine ⟨λ b o e hn' ξ=>.inl (hk b o hn' e),λ x i d a q q2 q4=>?_,λ a q=>S''.ownE q,λ x i d q q2=>?_⟩
 ·obtain ⟨e1,e2⟩:=ag0 is ds r i _ d q1 q2 (by simp)
  obtain ⟨v,a0,_⟩:=(S2.ev g3).vars x i _ d q e1
  have:=(hAt x i q e2 v a0).unique q4
  subst this
  exact .inr ⟨x,i,d,q,e1,a0⟩
 ·have hni:i ∉ is:=λ q'=>q3 i q' d q2
  exact ⟨be0 is ds r i _ hni q2,hAt x i q hni⟩
end
end
section
open PySem.Calls PySem.SeqAt
section
variable {w:World} {qa:Heap} {mg mb:Str->Option Value} {k:Nat} {U:String->List D->Option D} {qc:String->Bool} {sc:Scope}
theorem am4 {h0:Heap} {B0:FM} {Y:Addr->Prop} {env:Env} {r:Rho} {B:FM} {h:Heap} {x:Str} {i:Nat} {d:D} {a:Addr} (S:Sim prog w h0 B0 env sc r B Y h) (hs:d8 sc x=some i) (hr:r.get i=some (.own,d)) (ha:At env h x (.ref a)) :
  ¬ env.locals=a/\∀ y c,env.cells.lookup y=some c->¬ c=a:=by
 obtain ⟨v,a0,t0,_,n0,_⟩:=S.vars x i _ d hs hr
 have e:=ha.unique a0
 subst e
 refine ⟨λ q=>n0 a (.inl (.inl q.symm)) rfl,?_⟩
 rintro y c hc rfl
 obtain ⟨v,o,e1,e2⟩:=S.fm.cellE y c hc
 have:∃ o,h.get? c=some o/\(∀ v,o.data≠.cell v):=by
  cases d with
  | none=>cases t0
  | bool b=>cases t0
  | int i=>obtain ⟨_,_,e⟩:=t0;cases e
  | str x=>obtain ⟨_,_,e⟩:=t0;cases e
  | list l=>obtain ⟨a',o,vs,e,ho,⟨_,n,hd⟩,_⟩:=t0;cases e;exact ⟨o,ho,λ v q=>by rw [hd] at q;cases q⟩
  | tuple l=>obtain ⟨a',o,vs,e,ho,⟨_,n,hd⟩,_⟩:=t0;cases e;exact ⟨o,ho,λ v q=>by rw [hd] at q;cases q⟩
  | dict l=>obtain ⟨a',o,vs,e,ho,⟨⟨es,ep,_,hd,_⟩,_⟩,_⟩:=t0;cases e;exact ⟨o,ho,λ v q=>by rw [hd] at q;cases q⟩
 obtain ⟨o',e3,e4⟩:=this
 rw [e1] at e3;cases e3
 exact e4 _ e2
theorem Sim.mut_nx {h0:Heap} {B0:FM} {Y:Addr->Prop} {env:Env} {r:Rho} {B:FM} {h h':Heap} {x:Str} {i:Nat} {d d':D} {a:Addr} (S:Sim prog w h0 B0 env sc r B Y h) (S':Sim prog w h0 B0 env sc (r.set i (some (.own,d'))) B Y h') (hs:d8 sc x=some i)
  (hr:r.get i=some (.own,d)) (ha:At env h x (.ref a)) (hsb:Heap.SameBut a h h'):Nx env sc r h (r.set i (some (.own,d'))) h':=by
 obtain ⟨hl,hc⟩:=am4 S hs hr ha
 have hk:∀ b o,¬ b=a->h.get? b=some o->h'.get? b=some o:=λ b o q e=>(hsb.2 b q).trans e
 have hAt:∀ y u,At env h y u->At env h' y u:=λ y u q=>q.off hk hl (hc y)
 refine ⟨λ b o e ξ hn=>.inl (hk b o (λ q=>hn x i d hs hr (q▸ha)) e),λ y j d2 c q1 q2 q3=>?_,λ c q=>S'.ownE q,λ y j d2 q1 q2=>⟨?_,hAt y⟩⟩
 ·obtain ⟨d3,h3⟩:∃ d3,r.get j=some (.own,d3):=by
   rw [g9] at q2
   split at q2
   ·rename_i hc;exact ⟨d,hc.1▸hr⟩
   ·exact ⟨_,q2⟩
  obtain ⟨v,a0,_⟩:=S.vars y j _ d3 q1 h3
  have:=(hAt y v a0).unique q3
  subst this
  exact .inr ⟨y,j,d3,q1,h3,a0⟩
 ·rw [g9,if_neg]
  ·exact q2
  ·rintro ⟨rfl,_⟩
   rw [hr] at q2;cases q2
theorem j7.set_own {r:Rho} {i:Nat} {x:Str} {d':D} (n:j7 sc r) (hs:d8 sc x=some i):j7 sc (r.set i (some (.own,d'))):=by
 intro j d2 q
 rw [g9] at q
 split at q
 ·rename_i hc;exact ⟨x,hc.1▸hs⟩
 ·exact n j d2 q
theorem ar9 {h0:Heap} {B0:FM} {Y:Addr->Prop} {env:Env} {r:Rho} {B:FM} {h:Heap} {x:Str} {i:Nat} {l:List D} (S:Sim prog w h0 B0 env sc r B Y h) (hs:d8 sc x=some i) (hr:r.get i=some (.own,.list l)) :
  ∃ a vs n,At env h x (.ref a)/\h.get? a=some { cls:=.type "list",data:=.seq vs.toArray n }/\RdL prog w B l vs:=by
 obtain ⟨v,a0,t0,_,n0,o0⟩:=S.vars x i _ _ hs hr
 obtain ⟨a,rfl,_,_,hp⟩:=o0 rfl
 obtain ⟨a',o,vs,e,ho,⟨c1,n,c2⟩,rl⟩:=t0
 cases e
 obtain ⟨p1,p2⟩:=hp o ho
 obtain ⟨cls,dct,dt,sl⟩:=o
 simp only at c1 c2 p1 p2
 subst c1 c2 p1 p2
 exact ⟨a,vs,n,a0,ho,rl⟩
theorem aq2 {env:Env} (ek:j6 env sc):interactive env=false:=by
 unfold interactive
 rw [ek.kind];rfl
theorem cd8 {x:Str} {i:Nat} {np ap cp ep:Pos} {e:PySem.Expr} {ir:IR} (hs:d8 sc x=some i) (hp:(ap.endLine == cp.line)=true) (hne:j9 e=true) (he:j3 w qa k U sc e ir) :
  ae9 prog w qa k U qc sc (.Expr (.Call (.Attribute (.Name x np) "append" ap) [e] [] cp) ep) (.append i ir):=λ A E env r B s h0 B0 Y res rm ek hb ht fa hn S h=>by
 obtain ⟨d,hd,h⟩:=a6 h
 obtain ⟨B1,l1,S1,N1,n1⟩:=S.val (ir:=ir) hn
 obtain ⟨d0,hr,h⟩:=a6 h
 obtain ⟨l,hl,h⟩:=a6 h
 obtain ⟨hz,h⟩:=i4 h
 obtain ⟨r2,hput,h⟩:=a6 h
 cases h
 obtain rfl:=r8 hl
 have hr:=at5 hr
 obtain ⟨e2,hlt,_⟩:=ad7 hput
 subst e2
 obtain ⟨a,vs,n,ha,ho,rl⟩:=ar9 S1 hs hr
 refine wpAny_Expr (wpAny_Call_method (ba9 rfl) (bd6 (g7 hne rfl) (by show 1 < 20;decide)) hp F.plainAttrs_list slot_list_append type_list_append ?_) (aq2 ek) rfl
 refine ha.load ek.kind (i9 hs) ⟨⟨_,ho,rfl⟩,λ b q=>(by cases q;exact ⟨_,ho,rfl⟩),?_⟩
 refine callWith_method1 (au1 (.cons he .nil) (g7 hne rfl) (Sim.ok S1 rm ek hb ht fa) (show (do let d <- eval U ir (aw7 r ir);some [d])=some [d] by rw [hd];rfl) λ us s2 B2 g2 m2 rr ok2=>?_) (d6 hne) rfl
 obtain ⟨u,us',rfl,ru,rr⟩:=rr
 obtain rfl:=rr
 have S2:=S1.ev g2
 have qf:=rl.length
 refine wpAny_list_append_plain ⟨n,g2.old.solid ho (.seq rfl)⟩ (λ h6 hl6 hsb=>?_) (by rw [List.size_toArray,qf];exact Nat.le_of_succ_le (ai7 hz))
 obtain ⟨n6,ho6⟩:=hl6
 have tt:f8 prog w h6 B2 (.list (l ++ [d])) (.ref a):=show f8 prog w _ _ (.list _) _ from ⟨a,_,vs ++ [u],rfl,ho6,⟨rfl,n6,by simp⟩,(rl.mono g2.le).append (RdL.cons ru RdL.nil)⟩
 have hpl:v8 h6 a:=λ o q=>by rw [ho6] at q;cases q;exact ⟨rfl,rfl⟩
 have a2:=ha.keeps g2.old
 have S3:=S2.mut hs hr a2 hsb tt hpl
 exact ⟨B2,l1.trans g2.le,S3,⟨m2.gens,m2.os,m2.toks⟩,N1.trans ((S1.nx_ev g2).trans (S2.mut_nx S3 hs hr a2 hsb)),n1.set_own hs⟩
end
end
section
open PySem.Calls PySem.SeqAt
section
variable {w:World} {A:Around} {E:Value->Shared->Prop} {s:Shared}

theorem by7 {l:Addr} {xs:Array Value} {n:Nat} {k:Int} {t:Tok} {v:Value} {Q:Unit->Shared->Prop} (ho:s.heap.get? l=some (seqObj "list" xs n)) (h0:0<=k) (hfit:k < 2 ^ 63) (hn:k < xs.size)
  (hQ:∀ h' n',h'.get? l=some (seqObj "list" (xs.setIfInBounds k.toNat v) n')->Heap.SameBut l s.heap h'->Q () { s with heap:=h' }):wpAny (model prog w) A (setItem (.ref l) (.int k t) v) Q E s:=by
 have hl:s.heap.IsList l xs:=⟨_,ho,rfl,n,rfl⟩
 unfold setItem
 try with_reducible refine wpAny_holding ?_
 first | refine wpAny_bind (wpAny_pure ?_) | skip
 refine wpAny_bind (wpAny_sequenceKey hl.typeIs (by decide) ?_)
 refine wpAny_bind (wpAny_callSpecial?_slot (name:=Str.ofString "__setitem__") hl.typeIs slot_list_setitem
  (wpAny_call_entry slot_list_setitem hl.typeIs entry_list_setitem ?_ (args_list_setitem _ _ _)))
 show wpAny _ _ (Builtin.List.listSubscript? (.int k t) >>= _) _ _ s
 refine wpAny_bind (wpAny_listSubscript_int (fitsIndex_of h0 hfit) ?_)
 clear hfit
 obtain ⟨j,rfl⟩:=Int.eq_ofNat_of_zero_le h0
 have hj:j < xs.size:=by lia
 have hx':xs[j]?=some xs[j]:=Array.getElem?_eq_getElem hj
 show wpAny _ _ ((seqItemAt l j >>= λ r=>pure (r.map (j,·))) >>= _) _ _ s
 refine wpAny_bind (wpAny_bind (wpAny_seqItemAt ho rfl (wpAny_pure ?_)))
 rw [hx']
 show wpAny _ _ (setSeqItemAt l j v >>= _) _ _ s
 have fin:=hQ _ _ (get?_update_seq ho (·.setIfInBounds j v)) (Heap.SameBut.update ..)
 refine wpAny_bind (wpAny_setSeqItemAt ho rfl ?_)
 first
  | exact wpAny_bind (wpAny_pure (wpAny_pure ⟨.none,rfl,wpAny_pure fin⟩))
  | exact wpAny_pure ⟨.none,rfl,wpAny_pure fin⟩
end
section
variable {w:World} {qa:Heap} {mg mb:Str->Option Value} {k:Nat} {U:String->List D->Option D} {qc:String->Bool} {sc:Scope}
theorem db9 {B:FM} {d:D} {v:Value} (hv:Rd prog w B d v):∀ {ds:List D} {vs:List Value} (j:Nat),RdL prog w B ds vs->RdL prog w B (ds.set j d) (vs.set j v)
 | [],vs,j,h=>by obtain rfl:=h;simpa using RdL.nil
 | e :: ds,vs,0,h=>by
  obtain ⟨u,us,rfl,h1,h2⟩:=h
  exact RdL.cons hv h2
 | e :: ds,vs,j+1,h=>by
  obtain ⟨u,us,rfl,h1,h2⟩:=h
  exact RdL.cons h1 (db9 hv j h2)
theorem dv1 {da db d:D} {a b:Value} {A:Around} {E:Value->Shared->Prop} {s:Shared} {B:FM} (kp:j4 B s.heap) (ha:f8 prog w s.heap B da a) (hb:f8 prog w s.heap B db b) (h:dl1 da db=some d) :
  wpAny (model prog w) A (inplaceOp .Add a b) (EvP prog w B s d) E s:=by
 rcases al3 h with h | h
 ·obtain ⟨x,y,t,u,rfl,rfl,h⟩:=aq7 ha hb h
  cases h
  exact wpAny_iadd_int (EvP.int kp trivial (Nat.le_succ _))
 ·obtain ⟨x,y,rfl,rfl,h⟩:=as5 h
  obtain ⟨t,ht,rfl⟩:=ha
  obtain ⟨u,hu,rfl⟩:=hb
  obtain ⟨hz,h⟩:=i4 h
  cases h
  exact aq0 (PyProof.Rows.iadd_str (λ t' tk htk=>EvP.str kp trivial htk) (ai7 hz))
theorem At.loadName {M:Model} {A:Around} {E:Value->Shared->Prop} {s:Shared} {env:Env} {x:Str} {v:Value} {Q:Value->Shared->Prop} (hk:env.scope.kind = .function) (hx:aj3 x=true) (a:At env s.heap x v) (h:Q v s):wpAny M A (PySem.loadName env x) Q E s:=by
 have h2:(x == ("__classdict__":Str))=false:=by
  exact (Bool.not_eq_true' _).mp (b9 hx).2
 cases a with
 | loc m e hn hv=>exact wpAny_loadName_local hk e hn hv h
 | cell c e hc hv=>
  rcases e with e | e
  ·exact wpAny_loadName_cell hk e hc hv h
  ·exact wpAny_loadName_free hk e hc hv h h2
theorem ea0 {x:Str} {i:Nat} {np pos:Pos} {e:PySem.Expr} {ir:IR} (hw:j5 sc x=some i) (he:ae1 w qa k U sc e ir) :
  ae9 prog w qa k U qc sc (.AugAssign (.Name x np) .Add e pos) (.aug i .Add ir):=λ A E env r B s h0 B0 Y res rm ek hb ht fa hn S h=>by
 obtain ⟨hs,hx⟩:=f4 hw
 obtain ⟨d2,hd,h⟩:=a6 h
 obtain ⟨da,hr,h⟩:=a6 h
 obtain ⟨v,hv,h⟩:=a6 h
 obtain ⟨r2,hp,h⟩:=a6 h
 cases h
 have hr:=az5 hr
 obtain ⟨u,a0,t0,f0,_⟩:=S.vars x i _ _ hs hr
 have ok:=Sim.ok S rm ek hb ht fa
 refine wpAny_AugAssign_Name (a0.loadName ek.kind (i9 hs) (u0 he ok hd λ u2 s2 B2 g2 m2 t2 ok2=>?_))
 refine wpAny_mono (dv1 ok2.keep (t0.mono g2.old g2.le) t2 hv) (λ v3 s3 q=>?_) λ ξ ξ e=>e
 obtain ⟨B3,g3,r3,m3⟩:=q
 have g:=g2.trans g3
 have S3:=S.ev g
 have hb':=ac6 hp
 refine S3.store ek hs hx r3 λ h' tk a htk hob hsb S4 hoth=>?_
 obtain ⟨e2,_,_⟩:=ad7 hp
 subst e2
 have hk:∀ b o,¬ isOwn env sc b->s3.heap.get? b=some o->h'.get? b=some o:=λ b o q e=>(hsb.2 b (λ p=>q (p▸hob))).trans e
 refine ⟨B3,g.le,S4,⟨(m2.trans m3).gens,(m2.trans m3).os,Nat.le_trans (m2.trans m3).toks htk⟩,(S.nx_ev g).trans (Nx.bind S3 S4 hb' hk λ y j q1 q2 w q=>hoth y (λ e=>?_) w q),hn.bind hb'⟩
 subst e
 exact q2 (Option.some.inj (q1.symm.trans hs)▸.head _)
end
end
section
open PySem.Calls PySem.SeqAt
noncomputable def dl3 (e:PySem.Expr):Bool:=e.ctorIdx != 26
section
variable {w:World} {qa:Heap} {mg mb:Str->Option Value} {k:Nat} {U:String->List D->Option D} {qc:String->Bool} {sc:Scope}
theorem eg3 {h0:Heap} {B0:FM} {Y:Addr->Prop} {A:Around} {E:Value->Shared->Prop} {s0 s:Shared} {env:Env} {r0 r r2:Rho} {Bs B:FM} {x:Str} {i:Nat} {d:D} {l:List D} {j:Int} {t:Tok} {a:Addr} {v:Value} (hs:d8 sc x=some i)
  (S:Sim prog w h0 B0 env sc r B Y s.heap) (n:j7 sc r) (hB:Bs.le B) (m:k6 s0 s) (N:Nx env sc r0 s0.heap r s.heap) (hr:r.get i=some (.own,.list l)) (ha:At env s.heap x (.ref a)) (hv:Rd prog w B d v)
  (hj:0<=j) (hlt:j.toNat < l.length) (hfit:j < 1152921504606846976) (hp:r.put i .own (.list (l.set j.toNat d))=some r2) :
  wpAny (model prog w) A (setItem (.ref a) (.int j t) v) (λ ξ s'=>NxP w h0 B0 env sc Y r0 Bs s0 r2 s') E s:=by
 obtain ⟨a',vs,nn,ha',ho,rl⟩:=ar9 S hs hr
 have:=ha'.unique ha
 cases (this)
 have qf:=rl.length
 refine by7 (n:=nn) ho hj (by lia) (by simp only [List.size_toArray];lia) λ h' n' hg hsb=>?_
 obtain ⟨e2,_,_⟩:=ad7 hp
 subst e2
 have ev:(vs.toArray.setIfInBounds j.toNat v)=(vs.set j.toNat v).toArray:=by simp
 rw [ev] at hg
 have tt:f8 prog w h' B (.list (l.set j.toNat d)) (.ref a):=show f8 prog w _ _ (.list _) _ from ⟨a,_,vs.set j.toNat v,rfl,hg,⟨rfl,n',rfl⟩,db9 hv j.toNat rl⟩
 have hpl:v8 h' a:=λ o q=>by rw [hg] at q;cases q;exact ⟨rfl,rfl⟩
 have S3:=S.mut hs hr ha hsb tt hpl
 exact ⟨B,hB,S3,⟨m.gens,m.os,m.toks⟩,N.trans (S.mut_nx S3 hs hr ha hsb),n.set_own hs⟩
theorem cw8 {x:Str} {i:Nat} {np ip pos:Pos} {ie e:PySem.Expr} {ii ir:IR} (hs:d8 sc x=some i) (hsl:dl3 ie=true) (hi:ae1 w qa k U sc ie ii) (he:ae1 w qa k U sc e ir) :
  ae9 prog w qa k U qc sc (.AugAssign (.Subscript (.Name x np) ie ip) .Add e pos) (.augItem i ii .Add ir):=λ A E env r B s h0 B0 Y res rm ek hb ht fa hn S h=>by
 obtain ⟨kd,hk,h⟩:=a6 h
 obtain ⟨d,hd,h⟩:=a6 h
 obtain ⟨d0,hr,h⟩:=a6 h
 obtain ⟨l,hl,h⟩:=a6 h
 obtain ⟨j,hjd,h⟩:=a6 h
 obtain ⟨hc,h⟩:=i4 h
 have hj:=of_decide_eq_true (b9 hc).1
 have hf:=of_decide_eq_true (b9 hc).2
 obtain ⟨old,hold,h⟩:=a6 h
 obtain ⟨v,hv,h⟩:=a6 h
 obtain ⟨r2,hp,h⟩:=a6 h
 cases h
 obtain rfl:=r8 hl
 obtain rfl:=am8 hjd
 have hr:=at5 hr
 have hv:dl1 old d=some (.int v):=by
  obtain ⟨x,y,rfl,rfl,hv⟩:=cm7 hv
  cases hv;rfl
 obtain ⟨a,vs,nn,ha,ho,rl⟩:=ar9 S hs hr
 have ok:=Sim.ok S rm ek hb ht fa
 have t0:f8 prog w s.heap B (.list l) (.ref a):=show f8 prog w _ _ (.list _) _ from ⟨a,_,vs,rfl,ho,⟨rfl,nn,rfl⟩,rl⟩
 refine wpAny_AugAssign_Subscript_any ?_ (λ ov iv new=>by cases ie <;> first | rfl | cases hsl)
 refine ha.load ek.kind (i9 hs) (u0 hi ok hk λ u2 s2 B2 g2 m2 t2 ok2=>?_)
 obtain ⟨tj,_,rfl⟩:=t2
 obtain ⟨u3,e3,hv3⟩:=rl.get hold
 refine wpAny_getItem_list (ba1.isList (g2.old.solid ho (.seq rfl)) ⟨rfl,nn,rfl⟩) hj (el4 hf) (vs.getElem?_toArray▸e3) ?_
 have g3:Gr B2 s2.heap B2 s2.heap:=Gr.refl ok2.keep
 have m3:k6 s2 s2:=.refl s2
 have r3:Rd prog w B2 old u3:=hv3.mono g2.le
 have g23:=g2.trans g3
 have ok3:=ok2.step g3 m3
 refine u0 he ok3 hd λ u4 s4 B4 g4 m4 t4 ok4=>?_
 refine wpAny_mono (dv1 ok4.keep ((r3.mono g4.le).top ok4.keep) t4 hv) (λ u5 s5 q=>?_) λ ξ ξ e=>e
 obtain ⟨B5,g5,r5,m5⟩:=q
 have g:=g23.trans (g4.trans g5)
 have m:=(m2.trans m3).trans (m4.trans m5)
 exact eg3 hs (S.ev g) hn g.le m (S.nx_ev g) hr (ha.keeps g.old) r5 hj (by obtain ⟨q,_⟩:=List.getElem?_eq_some_iff.mp hold;exact q) hf hp
end
end
section
open PySem.Calls PySem.SeqAt
section
variable {w:World} {qa:Heap} {mg mb:Str->Option Value} {k:Nat} {U:String->List D->Option D} {qc:String->Bool} {sc:Scope}
theorem bd0 {x:Str} {i:Nat} {np ip pos:Pos} {ke e:PySem.Expr} {ik ir:IR} (hs:d8 sc x=some i) (hk:ae1 w qa k U sc ke ik) (he:j3 w qa k U sc e ir) :
  ae9 prog w qa k U qc sc (.Assign [.Subscript (.Name x np) ke ip] e pos) (.setItem i ik ir):=λ A E env r B s h0 B0 Y res rm ek hb ht fa hn S h=>by
 obtain ⟨v,hv,h⟩:=a6 h
 obtain ⟨y,hy,h⟩:=a6 h
 obtain ⟨d0,hr,h⟩:=a6 h
 obtain ⟨l,hl,h⟩:=a6 h
 obtain ⟨hc,h⟩:=i4 h
 obtain ⟨r2,hput,h⟩:=a6 h
 cases h
 obtain rfl:=ap2 hl
 have hr:=at5 hr
 obtain ⟨e2,hlt,_⟩:=ad7 hput
 subst e2
 obtain ⟨kx,rfl⟩:=an0 (b9 hc).1
 have h60:=of_decide_eq_true (b9 (b9 hc).2).2
 obtain ⟨v0,a0,t0,_,n0,o0⟩:=S.vars x i _ _ hs hr
 obtain ⟨a,rfl,hza,hba,hpa⟩:=o0 rfl
 obtain ⟨a',o,ps,ea,ho,⟨hd,hsm⟩,rl⟩:=t0
 cases ea
 have ok:=Sim.ok S rm ek hb ht fa
 refine wpAny_Assign_stores (al8 he ok hv λ u s1 B1 g1 m1 r1 ok1=>?_) (by cases e <;> rfl) (by cases e <;> rfl)
 show wpAny _ _ (assign (.Subscript (.Name x np) ke ip) env u) _ _ _
 refine kas_sub ((a0.keeps g1.old).load ek.kind (i9 hs) (u0 hk ok1 hy λ kv s2 B2 g2 m2 t2 ok2=>?_))
 have g:=g1.trans g2
 have S2:=S.ev g
 have hk2:(kk prog w).is kx kv=true:=Rd.keyis (C:=B2) t2
 refine wpAny_setItem_pairs hk2 (w5 (g.old.solid ho (af9 hd)) hd) (λ h6 hd6 hsb=>?_) (by rw [<- bb0 rl];exact Nat.le_trans h60 (by decide))
 obtain ⟨o6,ho6,hio⟩:=Heap.dictOf_iff.mp hd6
 have tt:f8 prog w h6 B2 (.dict (ag8 l (.str kx) v)) (.ref a):=show f8 prog w _ _ (.dict _) _ from ⟨a,o6,_,rfl,ho6,⟨hio,hsm⟩,RdK.stored (r1.mono g2.le) (rl.mono g.le)⟩
 have hpl:v8 h6 a:=λ o q=>by rw [ho6] at q;cases q;obtain ⟨_,_,hx,_⟩:=hio;exact hx.2
 have a2:=a0.keeps g.old
 have S3:=S2.mut hs hr a2 hsb tt hpl
 exact ⟨B2,g.le,S3,(m1.trans m2).trans ⟨rfl,rfl,Nat.le_succ _⟩,(S.nx_ev g).trans (S2.mut_nx S3 hs hr a2 hsb),hn.set_own hs⟩
theorem bf6 {y:Value}:∀ {us:List Value} {j:Nat},j<=us.length->us.insertIdx j y=us.take j ++ y :: us.drop j
 | _,0,_=>rfl
 | [],j+1,h=>absurd h (Nat.not_succ_le_zero j)
 | u :: us,j+1,h=>congrArg (u :: ·) (bf6 (us:=us) (Nat.le_of_succ_le_succ h))
theorem cu0 {us:List Value} {j:Nat} {y:Value} (h:j<=us.length):(us.toArray.extract 0 j).push y ++ us.toArray.extract j=(us.insertIdx j y).toArray:=by
 apply Array.toList_inj.mp
 rw [bf6 h]
 simp [List.take_of_length_le]
theorem cv2 {B:FM} {d:D} {v:Value} (hv:Rd prog w B d v) {ds:List D} {vs:List Value} (j:Nat) (h:RdL prog w B ds vs):RdL prog w B (ds.insertIdx j d) (vs.insertIdx j v):=by
 induction j generalizing ds vs with
 | zero=>exact RdL.cons hv h
 | succ j ih=>
  cases ds with
  | nil=>cases (h:_=_);exact RdL.nil
  | cons e ds=>
   obtain ⟨u,vs,rfl,h1,h2⟩:=h
   exact RdL.cons h1 (ih h2)
theorem di7 {x nm:Str} {i:Nat} {np ap cp ep:Pos} {ie e:PySem.Expr} {ii ir:IR} (hn1:nm="insert") (hs:d8 sc x=some i) (hp:(ap.endLine == cp.line)=true) (hne:j9 ie=true) (hne2:j9 e=true) (hi:ae1 w qa k U sc ie ii) (he:j3 w qa k U sc e ir) :
  ae9 prog w qa k U qc sc (.Expr (.Call (.Attribute (.Name x np) nm ap) [ie,e] [] cp) ep) (.insert i ii ir):=λ A E env r B s h0 B0 Y res rm ek hb ht fa hn S h=>by
 subst hn1
 obtain ⟨jd,hj,h⟩:=a6 h
 obtain ⟨q,hq,h⟩:=a6 h
 obtain ⟨d,hd,h⟩:=a6 h
 obtain ⟨dx,hrx,h⟩:=a6 h
 obtain ⟨l,hl,h⟩:=a6 h
 obtain ⟨hc,h⟩:=i4 h
 obtain ⟨r2,hput,h⟩:=a6 h
 cases h
 obtain rfl:=r8 hl
 obtain rfl:=am8 hq
 have hr:=at5 hrx
 have hz:=(b9 hc).1
 have hq0:=of_decide_eq_true (b9 (b9 hc).2).1
 have hql:=of_decide_eq_true (b9 (b9 hc).2).2
 obtain ⟨e2,_,_⟩:=ad7 hput
 subst e2
 obtain ⟨a,vs,n,ha,ho,rl⟩:=ar9 S hs hr
 refine wpAny_Expr (wpAny_Call_method (ba9 rfl) (bd6 (g7 hne (g7 hne2 rfl)) (by show 2 < 20;decide)) hp F.plainAttrs_list F.slot_list_insert F.type_list_insert ?_) (aq2 ek) rfl
 refine ha.load ek.kind (i9 hs) ⟨⟨_,ho,rfl⟩,λ b q=>(by cases q;exact ⟨_,ho,rfl⟩),?_⟩
 refine callWith_method1 ?_ (d6 hne) (au4 (g7 hne2 rfl))
 rw [d6 hne,l0,d6 hne2,l0]
 refine spliced_cons (u0 hi (Sim.ok S rm ek hb ht fa) hj λ u s1 B1 g1 m1 t1 ok1=>spliced_cons (al8 he ok1 hd λ u2 s2 B2 g2 m2 ru ok2=>spliced_nil ?_))
 obtain ⟨tk,_,rfl⟩:=t1
 have g:=g1.trans g2
 have S2:=S.ev g
 have qf:=rl.length
 have hlz:l.length+1<=16777216:=ai7 hz
 have ho2:=g.old.solid ho (.seq rfl)
 have hq1:q < 2 ^ 62:=by lia
 refine call_meets F.slot_list_insert ⟨_,ho2,rfl⟩ F.entry_list_insert (F.args_list_insert_3 _ _ _) (PySem.AutoListH.list_insert_list_int_val_1 a vs.toArray n q tk u2 (by rw [fitsIndex_of hq0 (by lia)];decide) (by rw [List.size_toArray,qf];exact Nat.le_of_succ_le hlz)) ⟨ho2,?_⟩
 have hu:=get?_update_seq ho2 (λ xs=>have k:=if q < 0 then (q+((xs.size:Nat):Int)).toNat else min q.toNat xs.size;(xs.extract 0 k).push u2 ++ xs.extract k)
 have hk:(have k:=if q < 0 then (q+((vs.toArray.size:Nat):Int)).toNat else min q.toNat vs.toArray.size;(vs.toArray.extract 0 k).push u2 ++ vs.toArray.extract k)=(vs.insertIdx q.toNat u2).toArray:=by
  have:(if q < 0 then (q+((vs.toArray.size:Nat):Int)).toNat else min q.toNat vs.toArray.size)=q.toNat:=by
   rw [if_neg (Int.not_lt.mpr hq0),List.size_toArray,qf,Nat.min_eq_left hql]
  dsimp only
  rw [this]
  exact cu0 (by rw [qf];exact hql)
 rw [hk] at hu
 generalize hH:s2.heap.update a _=h3 at hu⊢
 have hsb:Heap.SameBut a s2.heap h3:=hH▸Heap.SameBut.update ..
 have tt:f8 prog w h3 B2 (.list (l.insertIdx q.toNat d)) (.ref a):=show f8 prog w _ _ (.list _) _ from ⟨a,_,vs.insertIdx q.toNat u2,rfl,hu,⟨rfl,_,rfl⟩,cv2 ru _ (rl.mono g.le)⟩
 have hpl:v8 h3 a:=λ o q=>by rw [hu] at q;cases q;exact ⟨rfl,rfl⟩
 have a2:=ha.keeps g.old
 have S3:=S2.mut hs hr a2 hsb tt hpl
 exact ⟨B2,g.le,S3,⟨(m1.trans m2).gens,(m1.trans m2).os,(m1.trans m2).toks⟩,(S.nx_ev g).trans (S2.mut_nx S3 hs hr a2 hsb),hn.set_own hs⟩
theorem dl8 {A:Around} {E:Value->Shared->Prop} {s:Shared} {a b:Addr} {xs ys:Array Value} {n m:Nat} {Q:Value->Shared->Prop} (ha:s.heap.get? a=some { cls:=.type "list",data:=.seq xs n }) (hb:s.heap.get? b=some { cls:=.type "list",data:=.seq ys m }) (hz:xs.size+ys.size<=16777216)
  (h:Q (.ref a) { s with heap:=s.heap.update a (Obj.mapSeq λ x=>x ++ ys) }):wpAny (model prog w) A (inplaceOp .Add (.ref a) (.ref b)) Q E s:=by
 have ta:s.TypeIs (.ref a) "list":=⟨_,ha,rfl⟩
 have tb:s.TypeIs (.ref b) "list":=⟨_,hb,rfl⟩
 have hf:=F.slot_list_iadd.lookup
 unfold inplaceOp
 refine wpAny_holding ?_
 have hfi:fillsInplaceSlot (.type "list") "add" (Operator.Add == .Add)=pure false:=by
  unfold fillsInplaceSlot
  show (typeLookup (.type "list") (dunderI "add") >>= λ fi=>pure (fi.isSome && !isSeqSlot fi))=pure false
  rw [hf];rfl
 refine wpAny_bind (wpAny_typeOf ta (wpAny_bind (wpAny_of_eq hfi ?_)))
 show wpAny _ _ (if false=true then _ else _) Q E s
 rw [if_neg Bool.false_ne_true]
 refine wpAny_bind (wpAny_binaryOp1_none (nm:="add") ta tb noFill_list_add ?_)
 refine wpAny_bind (wpAny_of_eq (PySem.seqSlot_of hf rfl) ?_)
 refine wpAny_bind (wpAny_rule ?_)
 exact call_meets F.slot_list_iadd ta F.entry_list_iadd (F.args_list_iadd_2 _ _) (PySem.AutoSeq1.list___iadd___list_list_0 a xs n b ys m (by rw [show Builtin.List.listTooLong (xs.size+ys.size)=false from decide_eq_false (by rw [sizeLine_eq];exact Nat.not_lt.mpr hz),Bool.and_false];exact Bool.false_ne_true) (by rw [sizeLine_eq];exact Nat.le_trans (Nat.le_add_right _ _) hz) (by rw [sizeLine_eq];exact Nat.le_succ_of_le hz)) ⟨ha,hb,h⟩
theorem bw6 (r:Rho) (i j:Nat) {x:aa3×D} (h:Rho.get (r.set i none) j=some x):i≠j/\r.get j=some x:=by
 by_cases e:i=j
 ·subst e
  rw [g9] at h
  split at h
  ·cases h
  ·rename_i hc
   have:i < r.length:=ax4 (v:=x) h
   exact absurd ⟨rfl,this⟩ hc
 ·rw [g9,if_neg (λ q=>e q.1)] at h
  exact ⟨e,h⟩
theorem ct4 {x:Str} {i:Nat} {np pos:Pos} {e:PySem.Expr} {ir:IR} (hw:j5 sc x=some i) (he:bt0 w qa k U sc e ir) :
  ae9 prog w qa k U qc sc (.AugAssign (.Name x np) .Add e pos) (.augList i ir):=λ A E env r B s h0 B0 Y res rm ek hb ht fa hn S h=>by
 obtain ⟨hs,hx⟩:=f4 hw
 obtain ⟨dm,hd,h⟩:=a6 h
 obtain ⟨m,hm,h⟩:=a6 h
 obtain ⟨d0,hr,h⟩:=a6 h
 obtain ⟨l,hl,h⟩:=a6 h
 obtain ⟨hz,h⟩:=i4 h
 obtain ⟨r2,hput,h⟩:=a6 h
 cases h
 obtain rfl:=r8 hl
 obtain rfl:=r8 hm
 have hr:=at5 hr
 have hzl:=ai7 hz
 obtain ⟨a,vs,n,ha,ho,rl⟩:=ar9 S hs hr
 have ok:=Sim.ok S rm ek hb ht fa
 refine wpAny_AugAssign_Name (ha.loadName ek.kind (i9 hs) (wpAny_mono (he ok hd) (λ u2 s2 q=>?_) λ ξ ξ e=>e))
 obtain ⟨B2,b,rfl,g2,hnb,_,tb,m2,hpb⟩:=q
 have S2:=S.ev g2
 have a2:=ha.keeps g2.old
 have ho2:=g2.old.solid ho (.seq rfl)
 obtain ⟨b',ob,us,eb,hob,⟨hc,n2,hd2⟩,ru⟩:=tb
 cases eb
 obtain ⟨p1,p2⟩:=hpb ob hob
 obtain ⟨cls,dct,dt,sl⟩:=ob
 simp only at hc hd2 p1 p2
 subst hc hd2 p1 p2
 have hab:a≠b:=λ q=>by rw [<- q,ho] at hnb;cases hnb
 refine dl8 ho2 hob (by rw [List.size_toArray,List.size_toArray,rl.length,ru.length];exact hzl) ?_
 have hu:=get?_update_seq ho2 (λ x=>x ++ us.toArray)
 rw [show vs.toArray ++ us.toArray=(vs ++ us).toArray from by simp] at hu
 generalize hH:s2.heap.update a _=h3 at hu⊢
 have hsb:Heap.SameBut a s2.heap h3:=hH▸Heap.SameBut.update ..
 have tt:f8 prog w h3 B2 (.list (l ++ m)) (.ref a):=show f8 prog w _ _ (.list _) _ from ⟨a,_,vs ++ us,rfl,hu,⟨rfl,_,rfl⟩,(rl.mono g2.le).append ru⟩
 have hpl:v8 h3 a:=λ o q=>by rw [hu] at q;cases q;exact ⟨rfl,rfl⟩
 have S3:=S2.mut hs hr a2 hsb tt hpl
 have N3:=(S.nx_ev g2).trans (S2.mut_nx S3 hs hr a2 hsb)
 obtain ⟨hl3,hc3⟩:=am4 S2 hs hr a2
 have a3:At env h3 x (.ref a):=a2.off (X:=λ c=>c=a) (λ c o q e=>(hsb.2 c q).trans e) hl3 (hc3 x)
 have hil:=ax4 hr
 have hr3:Rho.get (r.set i (some (.own,.list (l ++ m)))) i=some (.own,.list (l ++ m)):=by rw [g9,if_pos ⟨rfl,hil⟩]
 obtain ⟨v0,a0,_,_,n0,o0⟩:=S3.vars x i _ _ hs hr3
 cases a0.unique a3
 obtain ⟨a',e',hz3,hB3,_⟩:=o0 rfl
 cases e'
 have hg:∀ j m' d',Rho.get (r.set i none) j=some (m',d')->i≠j/\Rho.get (r.set i (some (.own,.list (l ++ m)))) j=some (m',d'):=λ j m' d' q=>by
  obtain ⟨q1,q2⟩:=bw6 r i j q
  exact ⟨q1,by rw [g9,if_neg λ q=>q1 q.1];exact q2⟩
 have S4:=S3.part (r':=r.set i none) λ j m' d' q=>(hg j m' d' q).2
 have hput2:Rho.put (r.set i none) i .own (.list (l ++ m))=some (r.set i (some (.own,.list (l ++ m)))):=by
  unfold Rho.put
  have e0:Rho.get (r.set i none) i=none:=by
   cases q:Rho.get (r.set i none) i with
   | none=>rfl
   | some p=>exact absurd rfl (bw6 r i i q).1
  rw [e0,List.length_set,decide_eq_true hil,List.set_set]
  rfl
 obtain ⟨e2,_,hlk⟩:=ad7 hput
 subst e2
 refine wpAny_mono (bu7 (s:={ s2 with heap:=h3 }) (r0:=r) (Bs:=B) hw ek S4 (λ j d' q=>hn j d' (bw6 r i j q).2) g2.le ⟨m2.gens,m2.os,m2.toks⟩ ⟨N3.fr,λ y j d' c q1 q2 q3=>N3.own y j d' c q1 (hg j _ d' q2).2 q3,N3.ownE,λ y j d' q1 q2=>?_⟩ tt hz3 hB3 hpl (λ b q e=>n0 b q (congrArg Value.ref e)) (λ y j m' d' q1 q2 q3=>?_) (.inr ⟨x,i,_,hs,hr,ha⟩) hput2) (λ ξ ξ q=>q.1) λ ξ ξ e=>e
 ·obtain ⟨q3,q4⟩:=N3.lock y j d' q1 q2
  refine ⟨?_,q4⟩
  have hij:i≠j:=λ e=>hlk d' (e▸q2)
  rw [g9,if_neg λ q=>hij q.1]
  exact q2
 ·obtain ⟨q4,q5⟩:=hg j m' d' q2
  exact S3.uniq x y i j .own m' _ d' a hs q1 q4 hr3 rfl q5 a3 q3
end
end
section
open PySem.Calls PySem.SeqAt
noncomputable def ac9 (sc:Scope):Rho:=sc.names.map λ ξ=>none
structure FnS (sc:Scope):Prop where
 kind:sc.kind = .function
 nodup:(sc.names.map (·.1)).Nodup
 free:∀ x,sc.names.lookup x≠some .free
section
variable {w:World} {qa:Heap} {mg mb:Str->Option Value} {k:Nat} {U:String->List D->Option D} {qc:String->Bool} {sc:Scope}
theorem co7 {L:Addr} {n:Nat} {qual:Str} {fa:Option Addr} {code:Value} (fs:FnS sc):j6 (newEnv sc L mainGlobals (cellsFrom n sc.names []) qual fa code none builtinsNs) sc where
 kind:=fs.kind
 globals:=rfl
 builtins:=rfl
 loc:=λ x h=>h
 cell:=λ x h=>h
 glob:=λ x h=>h
 cells:=λ x h=>by
  rcases h with h | h
  ·obtain ⟨c,hc⟩:=(ac7 (n:=n)).mpr (aj6 h)
   obtain ⟨c',h1,_⟩:=ag3 hc
   exact ⟨c',h1⟩
  ·exact absurd h (fs.free x)
theorem di3 {A:Around} {E:Value->Shared->Prop} {s:Shared} {scope:Scope} {qual:Str} {fa:Option Addr} {code:Value} {binds:List (Str×Value)} {Q:Env->Shared->Prop} (hn:(scope.names.map (·.1)).Nodup)
  (h:∀ h' cells,cells=cellsFrom (s.heap.objs.size+1) scope.names []->bf7 h' s.heap.objs.size scope.names [] cells->h'.Ns s.heap.objs.size (λ ξ=>none)->(∀ o,h'.get? s.heap.objs.size=some o->o.cls≠.type "dict")->(∀ b o,s.heap.get? b=some o->h'.get? b=some o)->
   (∀ x,scope.names.lookup x=some .cell->cells.lookup x≠some s.heap.objs.size)->
   wpAny (model prog w) A (forIn binds PUnit.unit λ (p:Str×Value) u=>(do storeName (newEnv scope s.heap.objs.size mainGlobals cells qual fa code none builtinsNs) p.1 p.2;pure (ForInStep.yield PUnit.unit):Sem _))
    (λ ξ s'=>Q (newEnv scope s.heap.objs.size mainGlobals cells qual fa code none builtinsNs) s') E { s with heap:=h' }) :
  wpAny (model prog w) A (newFunctionEnv scope mainGlobals [] binds qual fa code none builtinsNs) Q E s:=by
 simp only [newFunctionEnv,Option.isSome_none,Bool.false_eq_true,if_false]
 refine wpAny_bind (wpAny_alloc ?_)
 refine wpAny_bind (wpAny_layCells _ (λ name kind cells=>by cases hkc:kind == NameKind.cell <;> simp [hkc]) _ _ _ _ ?_)
 have hsz:(s.heap.push { cls:=.type "frame",data:=.dict #[] }).objs.size=s.heap.objs.size+1:=Heap.size_push ..
 have c0:=bl1 (h:=s.heap.push { cls:=.type "frame",data:=.dict #[] }) (cl:=[]) hn
 have old:∀ b o,s.heap.get? b=some o->(pushCells (s.heap.push { cls:=.type "frame",data:=.dict #[] }) scope.names).get? b=some o:=λ b o e=>pushCells_keeps _ _ b o (Heap.get?_push_of_some _ e)
 have ns:=(Heap.Ns.new s.heap (.type "frame")).keeps (pushCells_keeps scope.names (s.heap.push { cls:=.type "frame",data:=.dict #[] }))
 refine wpAny_bind (wpAny_mono (h _ _ (by rw [<- hsz]) ⟨λ x hx=>?_,c0.sep,c0.old⟩ ns (λ o e=>by rw [pushCells_keeps _ _ _ _ (Heap.get?_push_size s.heap rfl)] at e;cases e;decide) old λ x hx e=>?_) (λ ξ s' q=>wpAny_pure q) λ ξ ξ e=>e)
 ·obtain ⟨c,q1,q2,q3⟩:=c0.own x hx
  exact ⟨c,q1,by rw [hsz] at q2;exact Nat.le_of_lt ‹_›,q3⟩
 ·obtain ⟨c,q1,q2,q3⟩:=c0.own x hx
  have e':some c=some s.heap.objs.size:=q1.symm.trans e
  cases e'
  rw [hsz] at q2
  exact Nat.lt_irrefl _ q2
theorem an9 {i:Nat}:Rho.get (ac9 sc) i=none:=by
 unfold Rho.get ac9
 rw [List.getElem?_map]
 cases sc.names[i]? <;> rfl
theorem Sim.fn0 {h0 h1 h':Heap} {B0 B:FM} {cells:List (Str×Addr)} {qual:Str} {fa:Option Addr} {code:Value} {m:Str->Option Value} (g:Gr B0 h0 B h1) (fs:FnS sc) (ca:bf7 h' h1.objs.size sc.names [] cells) (hns:h'.Ns h1.objs.size m) (hcls:∀ o,h'.get? h1.objs.size=some o->o.cls≠.type "dict")
  (old:∀ b o,h1.get? b=some o->h'.get? b=some o):Sim prog w h0 B0 (newEnv sc h1.objs.size mainGlobals cells qual fa code none builtinsNs) sc (ac9 sc) B (λ ξ=>False) h':=by
 have hge:∀ a,isOwn (newEnv sc h1.objs.size mainGlobals cells qual fa code none builtinsNs) sc a->h1.objs.size<=a:=by
  rintro a (rfl | ⟨x,q1,q2⟩)
  ·exact Nat.le_refl _
  ·obtain ⟨c,e1,e2,_⟩:=ca.own x q1
   have:some c=some a:=e1.symm.trans q2
   cases this;exact e2
 have hcell:∀ x c,cells.lookup x=some c->sc.names.lookup x=some .cell:=λ x c hx=>by
  by_cases hyc:sc.names.lookup x=some .cell
  ·exact hyc
  ·rw [ca.old x hyc] at hx;cases hx
 refine ⟨g.trans (Gr.heap g.keep old),⟨⟨m,hns⟩,λ x hx=>?_,λ x y c c' hxy hx h2 h3=>ca.sep x y c c' hxy hx (hcell y c' h3) h2 h3,λ x c hx=>?_,λ ξ=>hcls,λ f hf=>by cases hf;obtain ⟨o,_,_,e,_⟩:=hns;rw [e];simp⟩,λ a q=>?_,λ a q=>q.elim,λ a ξ q=>q.elim,λ ξ ξ ξ q=>q.elim,λ ξ ξ q=>q.elim,λ x i m d ξ hr=>?_,λ x y i j m1 m d d' a ξ ξ ξ hi=>?_⟩
 ·obtain ⟨c,q1,q2,q3⟩:=ca.own x hx
  exact ⟨hx,c,none,q1,q3⟩
 ·obtain ⟨c2,e1,e2,e3⟩:=ca.own x (hcell x c hx)
  have:some c2=some c:=e1.symm.trans hx
  cases this;exact ⟨_,e3⟩
 ·have e1:h1.get? a=none:=g8 (hge a q)
  refine ⟨?_,?_⟩
  ·exact g.old.back e1
  ·cases e:B a with
   | none=>rfl
   | some o=>rw [g.keep a o e] at e1;cases e1
 ·rw [an9] at hr;cases hr
 ·rw [an9] at hi;cases hi
end
end
section
open PySem.Calls PySem.SeqAt
section
variable {w:World} {qa:Heap} {mg mb:Str->Option Value} {k:Nat} {U:String->List D->Option D} {qc:String->Bool} {sc:Scope}
theorem ba8 {h0:Heap} {B0 B:FM} {Y:Addr->Prop} {env:Env} {A:Around} {E:Value->Shared->Prop} {xs:List Str} {is:List Nat} (h:b8 (λ x i=>j5 sc x=some i) xs is) (ek:j6 env sc) {rest:List (Str×Value)} :
  ∀ {r:Rho} {ds:List D} {vs:List Value} {s:Shared} {Q:PUnit->Shared->Prop},Sim prog w h0 B0 env sc r B Y s.heap->RdL prog w B ds vs->ds.length=is.length->
   (∀ h' tk,s.toks<=tk->Sim prog w h0 B0 env sc (ab3 r is ds) B Y h'->wpAny (model prog w) A (forIn rest PUnit.unit λ (p:Str×Value) u=>(do storeName env p.1 p.2;pure (ForInStep.yield PUnit.unit):Sem _)) Q E { s with heap:=h',toks:=tk })->
   wpAny (model prog w) A (forIn (xs.zip vs ++ rest) PUnit.unit λ (p:Str×Value) u=>(do storeName env p.1 p.2;pure (ForInStep.yield PUnit.unit):Sem _)) Q E s:=by
 induction h with
 | nil=>
  intro r ds vs s Q S hr hl hQ
  have:ds=[]:=List.length_eq_zero_iff.mp hl
  subst this
  obtain rfl:=hr
  exact hQ s.heap s.toks (Nat.le_refl _) S
 | @cons x i xs is he hes ih=>
  intro r ds vs s Q S hr hl hQ
  obtain ⟨hs,hx⟩:=f4 he
  cases ds with
  | nil=>cases hl
  | cons d ds=>
   obtain ⟨v,vs',rfl,r1,r2⟩:=hr
   rw [List.zip_cons_cons,List.cons_append,List.forIn_cons]
   refine wpAny_bind (wpAny_bind (S.store ek hs hx r1 λ h' tk a htk ha hsb S' hoth=>wpAny_pure ?_))
   refine ih S' r2 (by simpa using hl) λ h'' tk' htk' S''=>?_
   exact hQ h'' tk' (Nat.le_trans htk htk') S''
end
end
section
open PySem.Calls PySem.SeqAt
end
section
open PySem.Calls PySem.SeqAt
theorem cn6 (elt t1 i1 t2 i2:PySem.Expr) (ifs2:List PySem.Expr) (scope:Scope) (pos:Pos) (it acc:Value) (env:Env) :
  compTurn (.ListComp elt [⟨t1,i1,[],0⟩,⟨t2,i2,ifs2,0⟩] scope pos) 1 it acc env=(do
   standAt i2.pos
   match <- pyNext it with
   | none=>pure (.done .next)
   | some v=>
    letOwnedTupleGo t2 it v
    assign t2 env v
    let mut ok:=true
    for c in ifs2 do
     if ok then ok <- isTrue c env (PySem.eval c env)
    if ok then
     (do let _ <- call (.builtin "list.append") [acc,<- PySem.eval elt env])
    again (.compLoop (.ListComp elt [⟨t1,i1,[],0⟩,⟨t2,i2,ifs2,0⟩] scope pos) 1 it acc env)):=by rfl
theorem bz6 (elt t1 i1 t2 i2:PySem.Expr) (ifs2:List PySem.Expr) (scope:Scope) (pos:Pos) (it acc:Value) (env:Env) :
  compTurn (.ListComp elt [⟨t1,i1,[],0⟩,⟨t2,i2,ifs2,0⟩] scope pos) 0 it acc env=(do
   standAt i1.pos
   match <- pyNext it with
   | none=>pure (.done .next)
   | some v=>
    letOwnedTupleGo t1 it v
    assign t1 env v
    let mut ok:=true
    for c in ([]:List PySem.Expr) do
     if ok then ok <- isTrue c env (PySem.eval c env)
    if ok then
     let x <- PySem.eval i2 env
     standAt i2.pos
     let x <- foldedSetIterable i2 env x
     let _ <- runOwn (.compStart (.ListComp elt [⟨t1,i1,[],0⟩,⟨t2,i2,ifs2,0⟩] scope pos) 1 (<- holding [x] (pyIter x)) acc env) env
    again (.compLoop (.ListComp elt [⟨t1,i1,[],0⟩,⟨t2,i2,ifs2,0⟩] scope pos) 0 it acc env)):=by rfl
theorem cf9 (elt t1 i1 t2 i2:PySem.Expr) (ifs2:List PySem.Expr) (scope:Scope) (pos:Pos) (it acc:Value) (env:Env) :
  compTurn (.ListComp elt [⟨t1,i1,[],0⟩,⟨t2,i2,ifs2,0⟩] scope pos) 0 it acc env=(do
   standAt i1.pos
   match <- pyNext it with
   | none=>pure (.done .next)
   | some v=>
    letOwnedTupleGo t1 it v
    assign t1 env v
    let mut ok:=true
    for c in ([]:List PySem.Expr) do
     if ok then ok <- isTrue c env (PySem.eval c env)
    if ok then
     (do
      let x <- PySem.eval i2 env
      standAt i2.pos
      let x <- foldedSetIterable i2 env x
      let _ <- runOwn (.compStart (.ListComp elt [⟨t1,i1,[],0⟩,⟨t2,i2,ifs2,0⟩] scope pos) 1 (<- holding [x] (pyIter x)) acc env) env)
    again (.compLoop (.ListComp elt [⟨t1,i1,[],0⟩,⟨t2,i2,ifs2,0⟩] scope pos) 0 it acc env)):=by
 rw [bz6];simp only [bind_assoc,pure_bind]
section
variable {w:World} {A:Around} {R:Result->Shared->Prop} {s:Shared}
theorem cm3 {elt t1 i1 t2 i2:PySem.Expr} {ifs2:List PySem.Expr} {scope:Scope} {pos:Pos} {it acc:Value} {env:Env}
  (h0:codeAny (model prog w) A (.compLoop (.ListComp elt [⟨t1,i1,[],0⟩,⟨t2,i2,ifs2,0⟩] scope pos) 1 it acc env) R s)
  (h:wpAny (model prog w) A (pyIter it) (λ it' s'=>codeAny (model prog w) A (.compLoop (.ListComp elt [⟨t1,i1,[],0⟩,⟨t2,i2,ifs2,0⟩] scope pos) 1 it' acc env) R s')
   (notedBy (model prog w) A env λ x s'=>R (.error x) s') s) :
  codeAny (model prog w) A (.compStart (.ListComp elt [⟨t1,i1,[],0⟩,⟨t2,i2,ifs2,0⟩] scope pos) 1 it acc env) R s:=by
 refine codeAny_of_tree ?_
 show wpAny _ _ ((compStart (.ListComp elt [⟨t1,i1,[],0⟩,⟨t2,i2,ifs2,0⟩] scope pos) 1 it acc env).onRaise (λ x=>do noteFrame x env;standAt theWindowsPlace)) _ _ s
 refine wpAny_notedAt ?_
 unfold compStart
 show wpAny _ _ (ask >>= _) _ _ s
 refine wpAny_bind (wpAny_askSetting (wpAny_ite ?_))
 split
 ·first
   | exact wpAny_bind (wpAny_pure (wpAny_pure (And.intro rfl h0)))
   | exact wpAny_pure (And.intro rfl h0)
 ·first
   | exact wpAny_bind (wpAny_rule (wpAny_bind (wpAny_standAt (wpAny_bind (wpAny_mono h (λ it' s' h'=>wpAny_pure (And.intro rfl h')) λ ξ ξ x=>x)))))
   | (refine wpAny_bind (wpAny_rule ?_);show wpAny _ _ (standAt i2.pos >>= _) _ _ s;exact wpAny_bind (wpAny_standAt (wpAny_bind (wpAny_mono h (λ it' s' h'=>wpAny_pure (And.intro rfl h')) λ ξ ξ x=>x))))
theorem cf2 {elt t1 i1 t2 i2:PySem.Expr} {ifs2:List PySem.Expr} {scope:Scope} {pos:Pos} {it acc:Value} {env:Env}
  (h0:codeAny (model prog w) A (.compLoop (.ListComp elt [⟨t1,i1,[],0⟩,⟨t2,i2,ifs2,0⟩] scope pos) 1 it acc env) R s)
  (h:∀ (Q E:Value->Shared->Prop),Q it s->wpAny (model prog w) A (pyIter it) Q E s) :
  codeAny (model prog w) A (.compStart (.ListComp elt [⟨t1,i1,[],0⟩,⟨t2,i2,ifs2,0⟩] scope pos) 1 it acc env) R s:=cm3 h0 (h _ _ h0)
end
section
variable {w:World} {qa:Heap} {mg mb:Str->Option Value} {k:Nat} {U:String->List D->Option D} {sc:Scope}
noncomputable def ep1 (U:String->List D->Option D) (r':Rho) (tgt:List Nat) (isrc2:IR) (tgt2:List Nat) (irs2:List IR) (ir:IR) (d:D):Option (List D):=do
 let r1 <- m8 r' tgt d
 let its2 <- e9 U isrc2 r1
 let ds <- its2.mapM (ce9 U r1 tgt2 irs2 ir)
 some (ds.filterMap id)
theorem bl5:∀ (is:List Nat) (ds:List D) (r:Rho) (j:Nat) (v:aa3×D),j ∉ is->(ab3 r is ds).get j=some v->r.get j=some v
 | [],ds,r,j,v,_,h=>by cases ds <;> exact h
 | i :: is,[],r,j,v,_,h=>h
 | i :: is,d :: ds,r,j,v,hj,h=>by
  simp only [List.mem_cons,not_or] at hj
  have:=bl5 is ds _ j v hj.2 h
  rw [g9,if_neg (λ q=>hj.1 q.1.symm)] at this
  exact this
theorem cv3 {r r1:Rho} {is:List Nat} {d:D} (hb:m8 r is d=some r1) {j:Nat} {v:aa3×D} (hj:j ∉ is) (h:r1.get j=some v):r.get j=some v:=by
 rcases ak3 hb with ⟨i,rfl,rfl⟩ | ⟨ds,rfl,_,_,rfl⟩
 ·have:j≠i:=by simpa using hj
  rw [g9,if_neg (λ q=>this q.1.symm)] at h
  exact h
 ·exact bl5 is ds r j v hj h
theorem di9 {qe:List (List D)} {i:Nat} {y:List D} (h:qe[i]?=some y):(qe.take (i+1)).flatten=(qe.take i).flatten ++ y:=by
 rw [List.take_add_one,h,List.flatten_append]
 simp
theorem ci9 (qe:List (List D)) (i:Nat):(qe.take i).flatten.length<=qe.flatten.length:=by
 conv=>rhs;rw [<- List.take_append_drop i qe]
 rw [List.flatten_append,List.length_append];lia
theorem ct8 {elt target iter t2 i2:PySem.Expr} {ifs:List PySem.Expr} {sc':Scope} {pos:Pos} {tgt tgt2:List Nat} {isrc isrc2:IR} {qd:List IR} {ir:IR}
  (cs:an7 sc' sc) (hset:aa0 iter=true) (tg:z5 sc' target tgt) (tg2:z5 sc' t2 tgt2) (hdis:∀ i∈tgt2,i ∉ tgt) (hset2:aa0 i2=true) (hsrc2:ad5 w qa k U sc' i2 isrc2 t2) (hsrc:ad5 w qa k U sc iter isrc target) (ht:b8 (ai4 w qa k U sc') ifs qd) (he:j3 w qa k U sc' elt ir) :
  do1 w qa k U sc sc' (.ListComp elt [⟨target,iter,[],0⟩,⟨t2,i2,ifs,0⟩] sc' pos) iter (newList []) (.comp2 (ad3 sc' sc) tgt isrc tgt2 isrc2 qd ir):=λ A E s env r B d p use Q ok hd fin=>by
 obtain ⟨its,qh,hd⟩:=a6 hd
 obtain ⟨qe,hmap,hd⟩:=a6 hd
 obtain ⟨hsz,hd⟩:=i4 hd
 cases hd
 have hmap':its.mapM (ep1 U (as7 r (ad3 sc' sc)) tgt isrc2 tgt2 qd ir)=some qe:=hmap
 obtain ⟨qf,qg⟩:=ah5 hmap'
 refine as3 (k:=k) (qa:=qa) (U:=U) (sc:=sc) (ifs:=[]) (qd:=[]) (emit:=λ Dd cenv=>(do
   let x <- PySem.eval i2 cenv
   standAt i2.pos
   let x <- foldedSetIterable i2 cenv x
   let _ <- runOwn (.compStart (.ListComp elt [⟨target,iter,[],0⟩,⟨t2,i2,ifs,0⟩] sc' pos) 1 (<- holding [x] (pyIter x)) (.ref Dd) cenv) cenv)) (AP:=λ n B o=>∃ vs,ba1 "list" vs o/\(o.dict=none/\o.slots=#[])/\RdL prog w B (qe.take n).flatten vs) rfl
  (λ s2 Q E hQ=>wpAny_newObj_type (hQ _ rfl λ B=>⟨[],⟨rfl,0,rfl⟩,⟨rfl,rfl⟩,RdL.nil⟩)) (λ I Dd cenv=>cf9 ..) (λ I Dd cenv R Inv h n s hI=>codeAny_loop rfl Inv (λ n s' hI'=>wpAny_noted (h n s' hI')) n hI) (λ I Dd cenv R s h1 h2=>codeAny_compStart_list h1 (h2 _ _ h1))
  cs hset tg hsrc .nil ok qh (λ i d hi=>?_) (λ _ _ o ⟨_,q,_⟩=>q.solid) (λ _ _ _ _ hB ⟨vs,q1,q2,q3⟩=>⟨vs,q1,q2,q3.mono hB⟩) (λ i d r1 B o hi hr1 htt hA=>by cases htt) (λ {s2 B2 r1 i d o cenv Dd Y E} ek hYD S ok' hi hr1 htt hD hA=>?_) λ Dd C s' Bn o g m hD hC hne hlow hBD hBC hDo hA hn=>?_
 ·obtain ⟨y,hy,_⟩:=qg i d hi
  obtain ⟨r1,hr1,hy⟩:=a6 hy
  exact ⟨r1,true,hr1,rfl⟩
 ·obtain ⟨y,hy,hyo⟩:=qg i d hi
  obtain ⟨r1',hr1',hy⟩:=a6 hy
  rw [hr1] at hr1';cases hr1'
  obtain ⟨its2,hits2,hy⟩:=a6 hy
  obtain ⟨outs2,hmap2,hy⟩:=a6 hy
  cases hy
  obtain ⟨vs,hs,hpl,hr⟩:=hA
  obtain ⟨_,hget2⟩:=ah5 hmap2
  refine wpAny_bind (wpAny_mono (hsrc2 ok' hits2) (λ x s4 h4=>?_) λ ξ ξ e=>e)
  refine wpAny_bind (wpAny_standAt ?_)
  rw [bi7 hset2]
  refine wpAny_bind (wpAny_pure (wpAny_bind (wpAny_holding (wpAny_mono h4 (λ it2 s5 h5=>?_) λ ξ ξ e=>e))))
  obtain ⟨I2,fp2,wr2,P2,Md2,St2,B5,rfl,W2,st5,g5,m5,hex2,hwr2,hfp2,hrd2,self2⟩:=h5
  have S5:=S.addY g5 λ a q=>⟨(hwr2 a q).1,(hwr2 a q).2,(hex2 0 _ st5 a (W2.sub a q)).ne⟩
  have hfo2:∀ b∈fp2,¬ isOwn cenv sc' b/\b≠Dd:=by
   intro b hb2
   rcases hfp2 b hb2 with q | q | ⟨x0,j,mm,d0,q1,q2,q4,_⟩
   ·have e3:=(hwr2 b q).1
    exact ⟨λ q'=>S.ownE q' e3,λ e=>by subst e;rw [hD] at e3;cases e3⟩
   ·exact ⟨λ q'=>q (S5.own0 b q').2,λ e=>by subst e;exact q (S5.y0 b (.inl hYD)).2.1⟩
   ·obtain ⟨v0,a0,_,_,nn,_⟩:=S.vars x0 j mm d0 q1 q2
    have e:=a0.unique q4
    exact ⟨λ q'=>nn b (.inl q') e,λ e'=>by subst e';exact nn b (.inr hYD) e⟩
  have hf:(qe.take (i+1)).flatten=(qe.take i).flatten ++ outs2.filterMap id:=di9 hyo
  have hsz2:sz ((qe.take i).flatten ++ outs2.filterMap id).length=true:=by
   rw [<- hf]
   exact decide_eq_true (Nat.le_trans (ci9 qe (i+1)) (ai7 hsz))
  refine wpAny_bind (wpAny_runOwn (cf2 (A:=A) (cs7 (e:=.ListComp elt [⟨target,iter,[],0⟩,⟨t2,i2,ifs,0⟩] sc' pos) (lv:=1) (k:=k) (qa:=qa) (U:=U) (iter:=i2) (o0:=o) (AP:=LAP w (qe.take i).flatten outs2) (cn6 ..) (λ Inv h n s hI=>codeAny_loop rfl Inv (λ n s' hI'=>wpAny_noted (h n s' hI')) n hI)
   tg2 ht ok'.rm ek ok.base ok.stk W2 hex2 hrd2 hfo2 (.inl hYD) (λ b q=>.inr q) (dg3 hget2) (λ _ _ o ⟨_,q,_⟩=>q.solid) cp0 (co4 hget2) (λ ξ ok' hi hr1 htt hD hA=>cq2 he hsz2 hget2 ok' hi hr1 htt hD hA)
   (λ j v q q2=>(Classical.em (j∈tgt)).elim (λ e=>hdis j q2 e) λ e=>cn1 cs tg2 (cv3 hr1 e q) q2) S5 (Nat.lt_of_lt_of_le ok'.toks m5.toks) st5 (g5.old.solid hD hs.solid) ⟨vs,hs,hpl,?_⟩ ?_) (λ Q E q=>self2 0 _ _ _ st5 q)))
  ·rw [List.take_zero,List.filterMap_nil,List.append_nil];exact hr.mono g5.le
  ·intro s6 B6 o6 S6 l6 m6 f6 hD6 hA6
   have hw2:∀ b o,s2.heap.get? b=some o->b ∉ wr2:=λ b o e q=>by rw [(hwr2 b q).1] at e;cases e
   refine wpAny_pure (.sim ⟨B6,o6,S6.subY λ a q=>⟨.inl q,λ q2=>(S.y0 a q).2.2 (hwr2 a q2).1⟩,g5.le.trans l6,λ b o q1 q2 e=>(g5.old b o e).trans λ o' e'=>f6 b o' q1 q2 (hw2 b o e) e',hD6,?_,m5.trans m6⟩)
   obtain ⟨vs6,h1,h2,h3⟩:=hA6
   refine ⟨vs6,h1,h2,?_⟩
   rw [hf]
   rw [(ah5 hmap2).1.symm,List.take_length] at h3
   exact h3
 ·obtain ⟨vs,hs,hpl,hr⟩:=hA
  rw [qf.symm,List.take_length] at hr
  exact fin Dd C s' ⟨Bn,o,g,m,hD,hC,hne,hBD,hBC,hDo,hpl,show f8 prog w _ _ (.list _) _ from ⟨Dd,o,vs,rfl,hDo,hs,hr⟩,λ B' hB e=>bo4.mpr ⟨Dd,o,vs,rfl,e,hs,hr.mono hB⟩,hn⟩
end
end
section
end
section
open PySem.Calls PySem.SeqAt
theorem ca6:Manifest.owners.lookup (String.ofList ['r','o','t','a','r','e','t','i','_','t','e','s'].reverse)=some Manifest.sig_set_iterator:=⋯
theorem aa6:PySem.Slot "set_iterator" "__next__" "set_iterator.__next__":=
 .of (owner:="set_iterator") (n:="__next__") (by rw [typeLookup_type,builtinLookup_eq_fast];kernel_rfl) (by decide +kernel) (by decide +kernel) (by decide +kernel)
  (by first | exact .inl (by decide +kernel) | exact .inr (by decide +kernel)) (by rw [isSubtype_type];kernel_rfl)
theorem ao5:entryFor table "set_iterator.__next__"=some Builtin.«set_iterator.__next__»:=entryFor_of_tree ⋯
theorem aq6 (a:Value):argsOk "set_iterator.__next__" ⟨[a],[]⟩:=by
 unfold argsOk;rw [signature?_of (id:="set_iterator.__next__") (n:=['_','_','t','x','e','n','_','_']) (o:=['r','o','t','a','r','e','t','i','_','t','e','s']) ⋯ ca6];kernel_rfl
theorem bn4:entryFor table "set.__iter__"=some Builtin.«frozenset.__iter__»:=
 entryFor_alias (id':="frozenset.__iter__") (by rw [fastTable_eq_tree]; kernel_rfl) rfl ⋯ (by rw [fastTable_eq_tree]; kernel_rfl)
noncomputable def ai2 (b:Bool):Nat:=if b then 1 else 0
noncomputable def bn2 (b led:Bool):SetTable:={ mask:=7,place:=#[ai2 b],dummies:=#[],finger:=0,led:=led,moves:=0,plain:=true }
noncomputable def bu0 (b led:Bool) (ep:Nat):Obj:={ cls:=.type "set",dict:=none,data:=.set #[((ai2 b:Int),.bool b)] ep (bn2 b led) }
noncomputable def dr8 (led:Bool):Obj:={ cls:=.type "set",dict:=none,data:=.set #[] 0 (.fresh 0 0 led) }
noncomputable def ad2 (w:World):Bool:=!(w.params.followText "set-order")
section
variable {w:World} {A:Around} {E:Value->Shared->Prop} {s:Shared}
theorem dq8 {Q:Value->Shared->Prop} (h:Q (.ref s.heap.objs.size) { s with heap:=s.heap.push (dr8 (ad2 w)) }):wpAny (model prog w) A (newSet (.type "set")) Q E s:=by
 unfold newSet setsByText
 refine wpAny_bind (wpAny_bind (wpAny_askSetting (wpAny_pure ?_)))
 dsimp only
 simp only [newObj]
 exact wpAny_bind (wpAny_alloc (wpAny_pure h))
theorem dt8 {b:Bool} {Q:Int->Shared->Prop} (h:Q (ai2 b:Int) { s with toks:=s.toks+1 }):wpAny (model prog w) A (pyHash (.bool b)) Q E s:=by
 show wpAny _ _ (pyHashByItsType (.bool b)) _ _ _
 refine pyHash_slot (T:="bool") rfl F.slot_bool_hash entry_int_hash (args_int_hash _) (beq_builtin_none _) (.inl rfl) ?_
 cases b
 ·exact (show wpAny _ _ (do ret (<- mkInt 0)) _ _ s from wpAny_bind (wpAny_mkInt (wpAny_pure ⟨_,_,rfl,h⟩)))
 ·exact (show wpAny _ _ (do ret (<- mkInt 1)) _ _ s from wpAny_bind (wpAny_mkInt (wpAny_pure ⟨_,_,rfl,h⟩)))
theorem dp4 {b:Bool} {Q:Bool->Shared->Prop} (h:Q true s):wpAny (model prog w) A (eqBool (.bool b) (.bool b)) Q E s:=by
 unfold eqBool
 show wpAny _ _ (if (Value.bool b == Value.bool b)=true then _ else _) Q E s
 rw [if_pos (by simp)]
 exact wpAny_bind (wpAny_rule (wpAny_pure h))
theorem ed4 (a:Addr) (b led:Bool):setAddByScan a (.bool b) (ai2 b:Int) #[] (.fresh 0 0 led)=(do rule "set.add.by-scan";storeSet a #[((ai2 b:Int),.bool b)] (bn2 b led);pure (some true)):=by cases b <;> cases led <;> kernel_rfl
theorem dh9 {a:Addr} {b led:Bool} {Q:Bool->Shared->Prop} (ho:s.heap.get? a=some (dr8 led))
  (h:∀ h',h'.get? a=some (bu0 b led 1)->Heap.SameBut a s.heap h'->Q true { s with heap:=h',toks:=s.toks+1 }):wpAny (model prog w) A (setAdd a (.bool b)) Q E s:=by
 refine wpAny_holding (wpAny_bind (dt8 (wpAny_holding (wpAny_bind (wpAny_setState_of ho rfl rfl (ah3 (c:=byScan (.bool b) #[]=true) ⋯ (wpAny_bind ?_)))))))
 rw [ed4]
 refine wpAny_bind (wpAny_rule (wpAny_bind (wpAny_storeSet_of ho rfl (wpAny_pure (wpAny_pure (h _ ?_ (Heap.SameBut.update ..)))) (by show 1<=sizeLine;rw [sizeLine_eq];exact Nat.le_add_left ..))))
 exact Heap.get?_update_self (Obj.putSet #[((ai2 b:Int),.bool b)] (bn2 b led)) ho rfl
theorem dk2 {a:Addr} {b led:Bool} {ep:Nat} {Q:Bool->Shared->Prop} (ho:s.heap.get? a=some (bu0 b led ep)) (h:Q false { s with toks:=s.toks+1 }):wpAny (model prog w) A (setAdd a (.bool b)) Q E s:=by
 have hf:(bn2 b led).fits 1=true:=by cases b <;> cases led <;> rfl
 refine wpAny_holding (wpAny_bind (dt8 (wpAny_holding (wpAny_bind (wpAny_setState_of (es:=#[((ai2 b:Int),.bool b)]) ho rfl hf (ah3 (c:=byScan (.bool b) #[((ai2 b:Int),.bool b)]=true) ⋯ (wpAny_bind (wpAny_bind (wpAny_rule (wpAny_bind ?_))))))))))
 refine ah3 (c:=((ai2 b:Int) == (ai2 b:Int))=true) (beq_self_eq_true _) (wpAny_bind (wpAny_setEpoch_of ho rfl hf (wpAny_bind (dp4 (ah3 rfl (wpAny_pure (wpAny_pure (wpAny_pure h))))))))
theorem bk0 {a:Addr} {b led:Bool} {ep:Nat} (ho:s.heap.get? a=some (bu0 b led ep)):s.TypeIs (.ref a) "set":=⟨_,ho,rfl⟩
theorem bs8 {a:Addr} {b:Bool} {o:Obj} {Q:Value->Shared->Prop} (ho:s.heap.get? a=some o) (hc:o.cls = .type "set") (h:wpAny (model prog w) A.in1 (setAdd a (.bool b)) (λ ξ s'=>Q .none s') E s) :
  wpAny (model prog w) A (call (.builtin "set.add") [.ref a,.bool b]) Q E s:=by
 have hT:s.TypeIs (.ref a) "set":=⟨_,ho,hc⟩
 refine wpAny_call_entry F.slot_set_add hT F.entry_set_add ?_ (F.args_set_add_2 _ _)
 unfold Builtin.«set.add» Builtin.Frozenset.oneOther
 simp only [List.isEmpty_nil,bind_assoc]
 unfold Builtin.Frozenset.addrOf
 refine wpAny_bind (wpAny_pure ?_)
 try dsimp only
 refine wpAny_bind (wpAny_pure ?_)
 try dsimp only
 refine wpAny_bind (wpAny_mono h (λ ξ s' q=>?_) λ ξ ξ e=>e)
 exact wpAny_pure ⟨_,rfl,q⟩
noncomputable def bv7 (a:Addr) (slot i:Int) (ep:Nat):Obj:={ cls:=.type "set_iterator",data:=.fields #[rawInt slot,rawInt i,.ref a,rawInt 1,rawInt ep] }
theorem en7 {a:Addr} {b led:Bool} {ep:Nat} {Q:Value->Shared->Prop} (ho:s.heap.get? a=some (bu0 b led ep)) (h:Q (.ref s.heap.objs.size) { s with heap:=s.heap.push (bv7 a 0 0 ep) }):wpAny (model prog w) A (pyIter (.ref a)) Q E s:=by
 have hf:(bn2 b led).fits 1=true:=by cases b <;> cases led <;> rfl
 refine wpAny_pyIter_slot (bk0 ho) F.slot_set_iter (wpAny_call_entry F.slot_set_iter (bk0 ho) bn4 ?_ (F.args_set_iter_1 _))
 unfold Builtin.«frozenset.__iter__»
 refine wpAny_bind ?_
 show wpAny _ _ (pure a) _ _ _
 refine wpAny_pure ?_
 unfold Builtin.Frozenset.sizeOf
 refine wpAny_bind (wpAny_bind (wpAny_setEntries_of (es:=#[((ai2 b:Int),.bool b)]) ho rfl hf (wpAny_pure ?_)))
 unfold setDrawn setsByText
 refine wpAny_bind (wpAny_bind (wpAny_setState_of (es:=#[((ai2 b:Int),.bool b)]) ho rfl hf ?_))
 dsimp only
 refine wpAny_bind (wpAny_bind (wpAny_askSetting (wpAny_pure ?_)))
 refine wpAny_pure ?_
 refine ac8 (λ q=>Bool.noConfusion (show false=true from (Bool.and_eq_true_iff.mp q).2)) ?_
 refine wpAny_bind (wpAny_pure (wpAny_bind (wpAny_setEpoch_of ho rfl hf ?_)))
 refine wpAny_bind ?_
 refine wpAny_newObj_type (wpAny_pure ⟨_,rfl,"set_iterator",_,⟨_,Heap.get?_push_size _ rfl,rfl⟩,aa6.lookup,?_⟩)
 exact h
theorem eb5 {a:Addr} {b led:Bool} {ep:Nat} {Q:Array (Int×Value)->Shared->Prop} (ho:s.heap.get? a=some (bu0 b led ep)) (ht:w.params.followText "set-order"=true) (h:Q #[((ai2 b:Int),.bool b)] s):wpAny (model prog w) A (setWalk a) Q E s:=by
 have hf:(bn2 b led).fits 1=true:=by cases b <;> cases led <;> rfl
 unfold setWalk setsByText
 refine wpAny_bind (wpAny_setState_of (es:=#[((ai2 b:Int),.bool b)]) ho rfl hf ?_)
 dsimp only
 refine wpAny_bind (wpAny_bind (wpAny_askSetting (wpAny_pure ?_)))
 refine ah3 ht ?_
 refine wpAny_bind (wpAny_askSetting (wpAny_pure ?_))
 have:∀ f:Nat->Nat,pickOrder f #[((ai2 b:Int),Value.bool b)]=#[((ai2 b:Int),.bool b)]:=λ f=>by
  rw [show pickOrder f #[((ai2 b:Int),Value.bool b)]=Option.elim ([((ai2 b:Int),Value.bool b)][f 0 % 1]?) #[] (λ x=>#[x]) by kernel_rfl,Nat.mod_one];rfl
 rw [this]
 exact h
theorem db0 {a:Addr} {b:Bool} {ep:Nat} {Q:Option (Value×Nat)->Shared->Prop} (ho:s.heap.get? a=some (bu0 b (ad2 w) ep)) (h:∀ n,(w.params.followText "set-order"=false->n=ai2 b+1)->Q (some (.bool b,n)) s) :
  wpAny (model prog w) A (setNext a 0 0 ep) Q E s:=by
 have hf:(bn2 b (ad2 w)).fits 1=true:=by cases b <;> cases ad2 w <;> rfl
 unfold setNext
 refine wpAny_bind (wpAny_setState_of (es:=#[((ai2 b:Int),.bool b)]) ho rfl hf ?_)
 dsimp only
 unfold setsByText
 refine wpAny_bind (wpAny_bind (wpAny_askSetting (wpAny_pure ?_)))
 cases ht:w.params.followText "set-order"
 ·refine ac8 (λ q=>by rw [show ((model prog w).w.params.followText "set-order")=w.params.followText "set-order" from rfl,ht] at q;cases q) ?_
  refine ac8 (λ q=>Bool.noConfusion (show false=true from q)) ?_
  have hl:ad2 w=true:=by unfold ad2;rw [ht];rfl
  refine wpAny_bind (ac8 (c:=(!(ad2 w) && !(#[((ai2 b:Int),Value.bool b)]:Array (Int×Value)).isEmpty)=true) (by rw [hl];simp) (wpAny_pure ?_))
  refine wpAny_pure ?_
  have:SetTable.below (bn2 b (ad2 w)).place 0=0:=by cases b <;> rfl
  rw [this]
  exact h _ (λ ξ=>rfl)
 ·refine ah3 ht ?_
  refine ac8 (by simp) ?_
  refine wpAny_bind (eb5 ho ht ?_)
  exact wpAny_pure (h _ (λ q=>by rw [ht] at q;cases q))
theorem da6 {a:Addr} {b:Bool} {ep n:Nat} {Q:Option (Value×Nat)->Shared->Prop} (ho:s.heap.get? a=some (bu0 b (ad2 w) ep)) (hn:w.params.followText "set-order"=false->n=ai2 b+1) (h:Q none s) :
  wpAny (model prog w) A (setNext a n 1 ep) Q E s:=by
 have hf:(bn2 b (ad2 w)).fits 1=true:=by cases b <;> cases ad2 w <;> rfl
 unfold setNext
 refine wpAny_bind (wpAny_setState_of (es:=#[((ai2 b:Int),.bool b)]) ho rfl hf ?_)
 dsimp only
 unfold setsByText
 refine wpAny_bind (wpAny_bind (wpAny_askSetting (wpAny_pure ?_)))
 cases ht:w.params.followText "set-order"
 ·refine ac8 (λ q=>by rw [show ((model prog w).w.params.followText "set-order")=w.params.followText "set-order" from rfl,ht] at q;cases q) ?_
  refine ac8 (λ q=>Bool.noConfusion (show false=true from q)) ?_
  have hl:ad2 w=true:=by unfold ad2;rw [ht];rfl
  refine wpAny_bind (ac8 (c:=(!(ad2 w) && !(#[((ai2 b:Int),Value.bool b)]:Array (Int×Value)).isEmpty)=true) (by rw [hl];simp) (wpAny_pure ?_))
  refine wpAny_pure ?_
  rw [hn ht]
  have:SetTable.below (bn2 b (ad2 w)).place (ai2 b+1)=1:=by cases b <;> kernel_rfl
  rw [this]
  exact h
 ·refine ah3 ht ?_
  refine ac8 (by simp) ?_
  refine wpAny_bind (eb5 ho ht ?_)
  exact wpAny_pure h
theorem ec2 {it a:Addr} {b:Bool} {ep:Nat} {Q:Option Value->Shared->Prop} (hi:s.heap.get? it=some (bv7 a 0 0 ep)) (ho:s.heap.get? a=some (bu0 b (ad2 w) ep))
  (h:∀ h' (n:Nat),h'.get? it=some (bv7 a n 1 ep)->(w.params.followText "set-order"=false->n=ai2 b+1)->Heap.SameBut it s.heap h'->Q (some (.bool b)) { s with heap:=h' }):wpAny (model prog w) A (pyNext (.ref it)) Q E s:=by
 have hf:(bn2 b (ad2 w)).fits 1=true:=by cases b <;> cases ad2 w <;> rfl
 have hT:s.TypeIs (.ref it) "set_iterator":=⟨_,hi,rfl⟩
 unfold pyNext
 refine wpAny_bind (wpAny_attempt (wpAny_callSpecial?_slot (name:=Str.ofString "__next__") hT aa6
  (wpAny_call_entry aa6 hT ao5 ?_ (aq6 _))))
 unfold Builtin.«set_iterator.__next__»
 refine wpAny_bind ?_
 refine wpAny_pure ?_
 refine wpAny_bind (wpAny_fieldsOf hi rfl ?_)
 show wpAny _ _ (setEntries a >>= _) _ _ _
 refine wpAny_bind (wpAny_setEntries_of (es:=#[((ai2 b:Int),.bool b)]) ho rfl hf ?_)
 refine ac8 (by simp) ?_
 show wpAny _ _ (setNext a (0:Int).toNat (0:Int).toNat (ep:Int).toNat >>= _) _ _ _
 rw [Int.toNat_natCast]
 refine wpAny_bind (db0 (w:=w) ho λ n hn=>?_)
 show wpAny _ _ (setField (.ref it) 0 (rawInt n) >>= _) _ _ _
 refine wpAny_bind (wpAny_setField hi rfl (by simp) ?_)
 have hi1:=Heap.get?_update_self (Obj.mapFields (·.setIfInBounds 0 (rawInt n))) hi rfl
 show wpAny _ _ (setField (.ref it) 1 (rawInt (0+1)) >>= _) _ _ _
 refine wpAny_bind (wpAny_setField hi1 rfl (by simp) ?_)
 refine wpAny_pure ⟨_,rfl,wpAny_pure ?_⟩
 have hi2:=Heap.get?_update_self (Obj.mapFields (·.setIfInBounds 1 (rawInt (0+1)))) hi1 rfl
 exact h _ n hi2 hn ((Heap.SameBut.update ..).trans (Heap.SameBut.update ..))
theorem eg9 {it a:Addr} {b:Bool} {ep n:Nat} {Q:Option Value->Shared->Prop} (hh:A.handled=none) (hi:s.heap.get? it=some (bv7 a n 1 ep)) (ho:s.heap.get? a=some (bu0 b (ad2 w) ep))
  (hn:w.params.followText "set-order"=false->n=ai2 b+1) (h:∀ h',Heap.ExtBut it s.heap h'->Q none { s with heap:=h' }):wpAny (model prog w) A (pyNext (.ref it)) Q E s:=by
 have hf:(bn2 b (ad2 w)).fits 1=true:=by cases b <;> cases ad2 w <;> rfl
 have hT:s.TypeIs (.ref it) "set_iterator":=⟨_,hi,rfl⟩
 unfold pyNext
 refine wpAny_bind (wpAny_attempt (wpAny_callSpecial?_slot (name:=Str.ofString "__next__") hT aa6
  (wpAny_call_entry aa6 hT ao5 ?_ (aq6 _))))
 unfold Builtin.«set_iterator.__next__»
 refine wpAny_bind ?_
 refine wpAny_pure ?_
 refine wpAny_bind (wpAny_fieldsOf hi rfl ?_)
 show wpAny _ _ (setEntries a >>= _) _ _ _
 refine wpAny_bind (wpAny_setEntries_of (es:=#[((ai2 b:Int),.bool b)]) ho rfl hf ?_)
 refine ac8 (by simp) ?_
 show wpAny _ _ (setNext a (n:Int).toNat (1:Int).toNat (ep:Int).toNat >>= _) _ _ _
 rw [Int.toNat_natCast,Int.toNat_natCast]
 refine wpAny_bind (da6 (w:=w) ho hn ?_)
 show wpAny _ _ (setField (.ref it) 2 .none >>= _) _ _ _
 refine wpAny_bind (wpAny_setField hi rfl (by simp) ?_)
 show wpAny _ _ (newExc (.type "StopIteration") [] >>= _) _ _ _
 refine wpAny_bind ?_
 simp only [newExc,newTuple]
 refine wpAny_bind (wpAny_newObj_type ?_ (by size_fits))
 refine wpAny_bind (m:=firstArgMember _ _) (wpAny_of_eq (a:=Value.none) (by first | rfl | (simp only [firstArgMember];rfl)) ?_)
 refine wpAny_newObj_type ?_ (by size_fits)
 refine wpAny_bind (wpAny_handled ?_)
 rw [show A.in1.handled=none from hh]
 refine wpAny_bind (wpAny_pure (wpAny_throw ?_))
 refine wpAny_bind (wpAny_isInstance (T:="StopIteration") (b:=true) ⟨_,Heap.get?_push_size _ rfl,rfl⟩ isSubtype_stop ?_)
 exact wpAny_pure (h _ (((Heap.SameBut.update ..).extBut.push _).push _))
theorem ds8 {a:Addr} {b:Bool} {ep:Nat} {Q:List Value->Shared->Prop} (hh:A.handled=none) (ho:s.heap.get? a=some (bu0 b (ad2 w) ep))
  (h:∀ h',(∀ b o,s.heap.get? b=some o->h'.get? b=some o)->Q [.bool b] { s with heap:=h' }):wpAny (model prog w) A (unpackItems (.ref a) 1 none) Q E s:=by
 unfold unpackItems
 refine wpAny_bind ?_
 unfold notIterableAtAll
 refine wpAny_bind (wpAny_specialOf (bk0 ho) F.slot_set_iter.lookup ?_)
 refine ah3 rfl (wpAny_pure ?_)
 refine ac8 Bool.false_ne_true ?_
 refine wpAny_bind (wpAny_holding (en7 ho ?_))
 have hne:a≠s.heap.objs.size:=Nat.ne_of_lt (Heap.lt_size ho)
 have hi:(s.heap.push (bv7 a 0 0 ep)).get? s.heap.objs.size=some (bv7 a 0 0 ep):=Heap.get?_push_size _ rfl
 refine wpAny_bind (wpAny_holding ?_)
 refine wpAny_bind (ec2 (s:={ s with heap:=s.heap.push (bv7 a 0 0 ep) }) hi (Heap.get?_push_of_some _ ho) λ h1 n hi1 hn hs1=>?_)
 refine wpAny_bind (wpAny_holding (wpAny_pure (wpAny_pure ?_)))
 refine ac8 (by simp) ?_
 refine wpAny_bind (wpAny_holding (eg9 (s:={ s with heap:=h1 }) hh hi1 ((hs1.2 a hne).trans (Heap.get?_push_of_some _ ho)) hn λ h2 hs2=>?_))
 refine ac8 (by simp) (wpAny_pure (h h2 λ c o e=>?_))
 have hc:c≠s.heap.objs.size:=Nat.ne_of_lt (Heap.lt_size e)
 exact hs2 c o hc ((hs1.2 c hc).trans (Heap.get?_push_of_some _ e))
end
end
section
open PySem.Calls PySem.SeqAt
theorem cj2 (elt target iter:PySem.Expr) (ifs:List PySem.Expr) (scope:Scope) (pos:Pos) (it acc:Value) (env:Env) :
  compTurn (.SetComp elt [⟨target,iter,ifs,0⟩] scope pos) 0 it acc env=(do
   standAt iter.pos
   match <- pyNext it with
   | none=>pure (.done .next)
   | some v=>
    letOwnedTupleGo target it v
    assign target env v
    let mut ok:=true
    for c in ifs do
     if ok then ok <- isTrue c env (PySem.eval c env)
    if ok then
     (do let v <- PySem.eval elt env;standAt elt.pos;let _ <- call (.builtin "set.add") [acc,v])
    again (.compLoop (.SetComp elt [⟨target,iter,ifs,0⟩] scope pos) 0 it acc env)):=by rfl
section
variable {w:World} {A:Around} {R:Result->Shared->Prop} {s:Shared}
theorem dj8 {elt target iter:PySem.Expr} {ifs:List PySem.Expr} {scope:Scope} {pos:Pos} {it acc:Value} {env:Env}
  (h0:codeAny (model prog w) A (.compLoop (.SetComp elt [⟨target,iter,ifs,0⟩] scope pos) 0 it acc env) R s)
  (h:∀ (Q E:Value->Shared->Prop),Q it s->wpAny (model prog w) A (pyIter it) Q E s) :
  codeAny (model prog w) A (.compStart (.SetComp elt [⟨target,iter,ifs,0⟩] scope pos) 0 it acc env) R s:=by
 refine codeAny_of_tree ?_
 show wpAny _ _ ((compStart (.SetComp elt [⟨target,iter,ifs,0⟩] scope pos) 0 it acc env).onRaise (λ x=>do noteFrame x env;standAt theWindowsPlace)) _ _ s
 refine wpAny_notedAt ?_
 unfold compStart
 show wpAny _ _ (ask >>= _) _ _ s
 refine wpAny_bind (wpAny_askSetting (wpAny_ite ?_))
 split
 ·first
   | exact wpAny_bind (wpAny_pure (wpAny_pure (And.intro rfl h0)))
   | exact wpAny_pure (And.intro rfl h0)
 ·first
   | exact wpAny_bind (wpAny_rule (wpAny_bind (wpAny_standAt (wpAny_bind (h _ _ (wpAny_pure (And.intro rfl h0)))))))
   | (refine wpAny_bind (wpAny_rule ?_);show wpAny _ _ (standAt iter.pos >>= _) _ _ s;exact wpAny_bind (wpAny_standAt (wpAny_bind (h _ _ (wpAny_pure (And.intro rfl h0))))))
theorem do4 {elt target iter:PySem.Expr} {ifs:List PySem.Expr} {scope:Scope} {pos:Pos} {it acc:Value} {env:Env} (Inv:Nat->Shared->Prop)
  (h:∀ n s,Inv n s->wpAny (model prog w) A (compTurn (.SetComp elt [⟨target,iter,ifs,0⟩] scope pos) 0 it acc env) (λ fin s'=>match fin with | .done f=>R (.ok f) s' | .again c'=>c' = .compLoop (.SetComp elt [⟨target,iter,ifs,0⟩] scope pos) 0 it acc env/\∃ m,m < n/\Inv m s')
   (notedBy (model prog w) A env λ x s'=>R (.error x) s') s) (n:Nat) (s:Shared) (hI:Inv n s):codeAny (model prog w) A (.compLoop (.SetComp elt [⟨target,iter,ifs,0⟩] scope pos) 0 it acc env) R s:=by
 refine codeAny_loop rfl Inv (λ n s' hI'=>?_) n hI
 show wpAny _ A ((compTurn (.SetComp elt [⟨target,iter,ifs,0⟩] scope pos) 0 it acc env).onRaise (λ x=>do noteFrame x env;theTreesLotGoes x)) _ _ s'
 exact wpAny_noted (h n s' hI')
end
section
variable {w:World} {qa:Heap} {mg mb:Str->Option Value} {k:Nat} {U:String->List D->Option D} {qc:String->Bool} {sc:Scope}
theorem by3 {x:Str} {i:Nat} {np tp pos cpos:Pos} {kd:Nat} {elt target iter:PySem.Expr} {sc':Scope} {tgt:List Nat} {isrc ir:IR} (G:Glb qa mg mb) (hw:j5 sc x=some i)
  (cs:an7 sc' sc) (hset:aa0 iter=true) (tg:z5 sc' target tgt) (hsrc:ad5 w qa k U sc iter isrc target) (he:j3 w qa k U sc' elt ir) :
  ae9 prog w qa k U qc sc (.Assign [.Tuple [.Name x np] kd tp] (.SetComp elt [⟨target,iter,[],0⟩] sc' cpos) pos) (.unpackS i (ad3 sc' sc) tgt isrc ir):=λ A E env r B s h0 B0 Y res rm ek hb ht fa hn S h=>by
 have ok:=Sim.ok S rm ek hb ht fa
 obtain ⟨its,qh,h⟩:=a6 h
 obtain ⟨ds,hys,h⟩:=a6 h
 obtain ⟨d0,hd0,h⟩:=a6 h
 obtain ⟨b,hb0,h⟩:=a6 h
 obtain ⟨hall,h⟩:=i4 h
 obtain ⟨r2,hp,h⟩:=a6 h
 cases h
 obtain ⟨qf,qg⟩:=ah5 hys
 refine wpAny_Assign_stores ?_ rfl rfl
 rw [arm_eval_SetComp]
 show wpAny _ _ (comprehension (.SetComp elt [⟨target,iter,[],0⟩] sc' cpos) sc' env _ (newSet (.type "set")) false (PySem.eval iter env)) _ _ s
 refine as3 (k:=k) (qa:=qa) (U:=U) (sc:=sc) (qd:=[]) (use:=none) (emit:=λ Dd cenv=>(do let v <- PySem.eval elt cenv;standAt elt.pos;let _ <- call (.builtin "set.add") [.ref Dd,v]))
  (AP:=λ n ξ o=>(n=0->o=dr8 (ad2 w))/\(0 < n->∃ ep,o=bu0 b (ad2 w) ep)) rfl
  (λ s2 Q E hQ=>dq8 (hQ _ rfl λ ξ=>⟨λ ξ=>rfl,λ q=>absurd q (Nat.lt_irrefl _)⟩)) (λ I Dd cenv=>cj2 _ _ _ _ _ _ _ _ _) (λ I Dd cenv R Inv h n s hI=>do4 Inv h n s hI) (λ I Dd cenv R s h1 h2=>dj8 h1 h2)
  cs hset tg hsrc .nil ok qh (λ j d hj=>?_) (λ j ξ o q=>by
   by_cases hj:j=0
   ·rw [q.1 hj];exact .inl λ ξ ξ e=>by cases e
   ·obtain ⟨ep,e⟩:=q.2 (Nat.pos_of_ne_zero hj);rw [e];exact .inl λ ξ ξ e=>by cases e) (λ ξ ξ ξ ξ ξ q=>q) (λ j d r1 B o ξ ξ q=>by cases q) (λ {s B r1 j d o cenv Dd Y E} ξ ξ ξ ok' hj hr1 _ hD hA=>?_) ?_
 ·obtain ⟨y,hy,_⟩:=qg j d hj
  obtain ⟨r1,hr1,_⟩:=a6 hy
  exact ⟨r1,true,hr1,rfl⟩
 ·obtain ⟨y,hy,hyo⟩:=qg j d hj
  obtain ⟨r1',hr1',hev⟩:=a6 hy
  rw [hr1] at hr1';cases hr1'
  obtain rfl:=ed7 (List.all_eq_true.mp hall y (List.mem_of_getElem? hyo))
  refine wpAny_bind (al8 he ok' hev λ u s2 B2 g2 m2 r2' ok2=>wpAny_bind (wpAny_standAt ?_))
  obtain rfl:=r2'
  have hD2:=g2.old.solid hD (by
   by_cases hj:j=0
   ·rw [hA.1 hj];exact .inl λ ξ ξ e=>by cases e
   ·obtain ⟨ep,e⟩:=hA.2 (Nat.pos_of_ne_zero hj);rw [e];exact .inl λ ξ ξ e=>by cases e)
  by_cases hj0:j=0
  ·subst hj0
   have:=hA.1 rfl
   subst this
   refine wpAny_bind (bs8 hD2 rfl (dh9 hD2 λ h' hg hsb=>wpAny_pure ?_))
   exact .mk B2 s2.heap _ g2 hsb hg ⟨λ q=>by simp at q,λ ξ=>⟨1,rfl⟩⟩ ⟨m2.gens,m2.os,Nat.le_trans m2.toks (Nat.le_succ _)⟩
  ·obtain ⟨ep,rfl⟩:=hA.2 (Nat.pos_of_ne_zero hj0)
   refine wpAny_bind (bs8 hD2 rfl (dk2 hD2 (wpAny_pure ?_)))
   exact .mk B2 s2.heap _ g2 (.refl ..) hD2 ⟨λ q=>by simp at q,λ ξ=>⟨ep,rfl⟩⟩ ⟨m2.gens,m2.os,Nat.le_trans m2.toks (Nat.le_succ _)⟩
 ·intro Dd C s' Bn o g m hD hC hne _ hBD hBC hDo hA hnC
  obtain ⟨mm,hnC⟩:=hnC
  obtain ⟨ep,rfl⟩:=hA.2 (by rw [<- qf];cases ds with
   | nil=>cases hd0
   | cons _ _=>exact Nat.succ_pos _)
  refine ⟨mm,hnC,λ h' hsb=>?_⟩
  have hk:∀ b o,¬ b=C->s'.heap.get? b=some o->h'.get? b=some o:=λ b o q e=>(hsb.2 b q).trans e
  have g':Gr B s.heap Bn h':=g.off hk (λ b q=>by subst q;exact ⟨hC,hBC⟩)
  have S1:=S.ev g'
  refine wpAny_bind (wpAny_standAt ?_)
  unfold unpack
  refine wpAny_bind (wpAny_holding ?_)
  refine ds8 (s:={ s' with heap:=h' }) rm.handled (hk _ _ hne hDo) λ h2 hk2=>?_
  have g2:=Gr.heap g'.keep hk2
  have S2:=S1.ev g2
  obtain ⟨hs,hx⟩:=f4 hw
  have hb':=ac6 hp
  show wpAny _ _ (assignInOrder [assign (.Name x np) env] [.bool b]) _ _ _
  refine assignInOrder_cons ?_
  refine bb3 (s:={ s' with heap:=h2 }) (z5.name hw) rm.handled ek S2 (ea2.mpr rfl) (λ ξ=>db8.mpr rfl) (bg8 hb').1 λ h3 tk htk S3 hk3 hAt=>?_
  refine assignInOrder_nil ?_
  exact ⟨Bn,g'.le,S3,⟨m.gens,m.os,Nat.le_trans m.toks htk⟩,(S.nx_ev (g'.trans g2)).trans (Nx.bind S2 S3 hb' hk3 hAt),hn.bind hb'⟩
end
end
section
open PySem.Calls PySem.SeqAt
open AutoSeq1 (wpAny_loadPart')
theorem by5:PySem.Slot "map" "__init__" "object.__init__":=
 .of (owner:="object") (n:="__init__") (by rw [typeLookup_type,builtinLookup_eq_fast];kernel_rfl) (by decide +kernel) (by decide +kernel) (by decide +kernel)
  (by first | exact .inl (by decide +kernel) | exact .inr (by decide +kernel)) (by rw [isSubtype_type];kernel_rfl)
theorem df1:mroOf (.type "map")=pure [.type "map",.type "object"]:=by rw [mroOf_type];kernel_rfl
theorem br8:typeLookup (.type "map") "__new__"=pure (some (.builtin "map.__new__")):=by rw [typeLookup_type,builtinLookup_eq_fast];kernel_rfl
theorem cz3:TypeCalled "map" "map.__new__" "object.__init__":=
 ⟨by decide +kernel,by decide +kernel,⟨_,_,df1⟩,madeBy_type df1 br8 (by decide +kernel),by decide +kernel,by rw [isSubtype_type];kernel_rfl,by5⟩
theorem bu4 (a b:Value):checkTypeCall "map" ⟨[a,b],[]⟩=pure ():=⋯
theorem by6 (a b:Value):checkBuiltinCall "map.__new__" ⟨[.type "map",a,b],[]⟩=pure ():=⋯
theorem bz7:entryFor table "map.__new__"=some Builtin.«map.__new__»:=entryFor_of_tree ⋯
theorem eh2:isSubtype (.type "map") (.type "map")=pure true:=by rw [isSubtype_type];kernel_rfl
noncomputable def bi2 (t:Addr) (f:Value):Obj:={ cls:=.type "map",data:=.fields #[.ref t,f] }
noncomputable def bc8 (I:Addr):Obj:={ cls:=.type "tuple",data:=.seq #[.ref I] }
noncomputable def bb8 (l:Addr) (i:Nat):Obj:={ cls:=.type "list_iterator",data:=.fields #[.ref l,.int i 0] }
theorem by9 (f:Addr) (l:Addr) (e9:Array Value) (n:Nat) (dct:Option Addr) (sl:Array (Option Value)) :
  Meets (Builtin.«map.__new__» ⟨[.type "map",.ref f,.ref l],[]⟩) (λ ξ R s=>s.heap.get? l=some { cls:=.type "list",dict:=dct,data:=.seq e9 n,slots:=sl }/\
   R (.ok (.ret (.ref ((s.heap.push (bb8 l 0)).push (bc8 s.heap.objs.size)).objs.size)))
    {s with heap:=((s.heap.push (bb8 l 0)).push (bc8 s.heap.objs.size)).push (bi2 (s.heap.push (bb8 l 0)).objs.size (.ref f)) }):=
 .of_wp λ prog w A R s h=>by
  obtain ⟨hp,g,d,tk,os⟩:=s;obtain ⟨hl,h⟩:=h
  have hsub:=eh2
  have hL:Heap.IsList (Shared.heap ⟨hp,g,d,tk,os⟩) l e9:=⟨_,hl,rfl,n,rfl⟩
  wp_walk using wpAny_loadPart' hl,wpAny_pyIter_list hL
  exact ⟨_,rfl,h⟩
theorem bc1:PySem.Slot "map" "__iter__" "map.__iter__":=
 .of (owner:="map") (n:="__iter__") (by rw [typeLookup_type,builtinLookup_eq_fast];kernel_rfl) (by decide +kernel) (by decide +kernel) (by decide +kernel)
  (by first | exact .inl (by decide +kernel) | exact .inr (by decide +kernel)) (by rw [isSubtype_type];kernel_rfl)
theorem af5:PySem.Slot "map" "__next__" "map.__next__":=
 .of (owner:="map") (n:="__next__") (by rw [typeLookup_type,builtinLookup_eq_fast];kernel_rfl) (by decide +kernel) (by decide +kernel) (by decide +kernel)
  (by first | exact .inl (by decide +kernel) | exact .inr (by decide +kernel)) (by rw [isSubtype_type];kernel_rfl)
theorem ce6:Manifest.owners.lookup (String.ofList ['p','a','m'].reverse)=some Manifest.sig_map:=⋯
theorem ax2:entryFor table "map.__next__"=some Builtin.«map.__next__»:=entryFor_of_tree ⋯
theorem bq3:entryFor table "map.__iter__"=some Builtin.«dict_keyiterator.__iter__»:=
 entryFor_alias (id':="dict_keyiterator.__iter__") (by rw [fastTable_eq_tree]; kernel_rfl) rfl ⋯ (by rw [fastTable_eq_tree]; kernel_rfl)
theorem bb9 (a:Value):argsOk "map.__next__" ⟨[a],[]⟩:=by
 unfold argsOk;rw [signature?_of (id:="map.__next__") (n:=['_','_','t','x','e','n','_','_']) (o:=['p','a','m']) ⋯ ce6];kernel_rfl
theorem bz2 (a:Value):argsOk "map.__iter__" ⟨[a],[]⟩:=by
 unfold argsOk;rw [signature?_of (id:="map.__iter__") (n:=['_','_','r','e','t','i','_','_']) (o:=['p','a','m']) ⋯ ce6];kernel_rfl
theorem da1:typeLookup (.type "map") "__len__"=pure none:=by rw [typeLookup_type,builtinLookup_eq_fast];kernel_rfl
theorem cr7:typeLookup (.type "map") "__length_hint__"=pure none:=by rw [typeLookup_type,builtinLookup_eq_fast];kernel_rfl
theorem Stk.fr {A A':Around} {B:FM} {h:Heap} (x:Stk A B h) (e:A'.frames=A.frames):Stk A' B h:=let ⟨l,h1,h2⟩:=x;⟨l,e.trans h1,h2⟩
section
variable {w:World} {A:Around} {E:Value->Shared->Prop} {s:Shared}
theorem dq1 {f l:Addr} {e9:Array Value} {Q:Value->Shared->Prop} (hL:s.heap.IsList l e9)
  (h:Q (.ref ((s.heap.push (bb8 l 0)).push (bc8 s.heap.objs.size)).objs.size) { s with heap:=((s.heap.push (bb8 l 0)).push (bc8 s.heap.objs.size)).push (bi2 (s.heap.push (bb8 l 0)).objs.size (.ref f)) }) :
  wpAny (model prog w) A (call (.type "map") [.ref f,.ref l]) Q E s:=by
 obtain ⟨⟨c,dct,dt,sl⟩,hl,hc,n,hd⟩:=hL
 replace hc:c = .type "list":=hc
 replace hd:dt = .seq e9 n:=hd
 subst hc hd
 refine callType_new cz3 (by decide) (bu4 _ _) (by6 _ _) (λ obj=>F.args_object_init_3 obj _ _) bz7 (by9 f l e9 n dct sl) ⟨hl,?_,h⟩
 exact ⟨_,Heap.get?_push_size _ rfl,rfl⟩
theorem dv6 {M T:Addr} {f:Value} {Q:Value->Shared->Prop} (hM:s.heap.get? M=some (bi2 T f)) (h:Q (.ref M) s):wpAny (model prog w) A (pyIter (.ref M)) Q E s:=by
 have hT:s.TypeIs (.ref M) "map":=⟨_,hM,rfl⟩
 refine wpAny_pyIter_slot hT bc1 (wpAny_call_entry bc1 hT bq3 ?_ (bz2 _))
 show wpAny _ _ (ret (.ref M)) _ _ s
 exact wpAny_pure ⟨_,rfl,"map",_,hT,af5.lookup,h⟩
theorem dt5 {M T I l fa:Addr} {i:Nat} {e9:Array Value} {x:Value} {Q:Option Value->Shared->Prop} (hM:s.heap.get? M=some (bi2 T (.ref fa))) (hT:s.heap.get? T=some (bc8 I)) (hit:s.heap.IsListIter I l i) (hl:s.heap.IsList l e9) (hx:e9[i]?=some x) (hMI:M≠I)
  (hcall:∀ h1 E',h1.IsListIter I l (i+1)->Heap.SameBut I s.heap h1->wpAny (model prog w) A.in1 (call (.ref fa) [x]) (λ v s'=>Q (some v) s') E' { s with heap:=h1 }) :
  wpAny (model prog w) A (pyNext (.ref M)) Q E s:=by
 have hTy:s.TypeIs (.ref M) "map":=⟨_,hM,rfl⟩
 unfold pyNext
 refine wpAny_bind (wpAny_attempt (wpAny_callSpecial?_slot (name:=Str.ofString "__next__") hTy af5 (wpAny_call_entry af5 hTy ax2 ?_ (bb9 _))))
 unfold Builtin.«map.__next__»
 refine wpAny_bind (wpAny_pure ?_)
 refine wpAny_bind (wpAny_field hM rfl (x:=.ref T) rfl ?_)
 refine wpAny_bind (wpAny_seqItems hT rfl ?_)
 dsimp only
 rw [<- Array.forIn_toList]
 show wpAny _ _ (forIn [Value.ref I] _ _ >>= _) _ _ _
 rw [List.forIn_cons]
 refine wpAny_bind (wpAny_bind (wpAny_bind (wpAny_holding (wpAny_nextOf_list_item hit hl hx λ h1 hit1 hs1=>?_))))
 refine wpAny_pure ?_
 dsimp only
 rw [List.forIn_nil]
 refine wpAny_pure ?_
 have hM1:=(hs1.2 M hMI).trans hM
 refine wpAny_bind (wpAny_field hM1 rfl (x:=.ref fa) rfl ?_)
 refine wpAny_bind (wpAny_holding (wpAny_mono (hcall h1 _ hit1 hs1) (λ v s' q=>?_) λ ξ ξ e=>e))
 refine wpAny_bind (wpAny_letGo ?_)
 exact wpAny_pure ⟨v,rfl,wpAny_pure q⟩
theorem ed9 {M T I l fa:Addr} {i:Nat} {e9:Array Value} {Q:Option Value->Shared->Prop} (hh:A.handled=none) (hM:s.heap.get? M=some (bi2 T (.ref fa))) (hT:s.heap.get? T=some (bc8 I)) (hit:s.heap.IsListIter I l i) (hl:s.heap.IsList l e9) (hx:e9[i]?=none)
  (h:∀ h',Heap.ExtBut I s.heap h'->Q none { s with heap:=h' }) :
  wpAny (model prog w) A (pyNext (.ref M)) Q E s:=by
 have hTy:s.TypeIs (.ref M) "map":=⟨_,hM,rfl⟩
 unfold pyNext
 refine wpAny_bind (wpAny_attempt (wpAny_callSpecial?_slot (name:=Str.ofString "__next__") hTy af5 (wpAny_call_entry af5 hTy ax2 ?_ (bb9 _))))
 unfold Builtin.«map.__next__»
 refine wpAny_bind (wpAny_pure ?_)
 refine wpAny_bind (wpAny_field hM rfl (x:=.ref T) rfl ?_)
 refine wpAny_bind (wpAny_seqItems hT rfl ?_)
 dsimp only
 rw [<- Array.forIn_toList]
 show wpAny _ _ (forIn [Value.ref I] _ _ >>= _) _ _ _
 rw [List.forIn_cons]
 refine wpAny_bind (wpAny_bind (wpAny_bind (wpAny_holding (wpAny_nextOf_list_end hh hit hl hx λ h1 e hs1 ho=>?_))))
 obtain ⟨o,ho,hc⟩:=ho
 refine wpAny_bind (wpAny_isInstance (T:="StopIteration") (b:=true) ⟨o,ho,hc⟩ isSubtype_stop ?_)
 exact wpAny_pure (h _ hs1)
end
section
variable {w:World} {qa:Heap} {mg mb:Str->Option Value} {A:Around} {E:Value->Shared->Prop}
theorem ea6 {f:String} {j:Nat} {sp:List D->Option D} {M T I S l fa:Addr} {vs:List Value} {ds qe:List D} {B0:FM} {s0:Shared} {R:Result->Shared->Prop} {res:Value}
  (hf:mg (Str.ofString f)=some (.ref fa)) (hF:ad6 w qa mg j f sp) (rm:Rm j A.in1.in1) (stk:Stk A B0 s0.heap) (hb:∀ a o,qa.get? a=some o->B0 a=some o) (ht0:0 < s0.toks)
  (hMI:M≠I) (hMS:M≠S) (hTI:T≠I) (hTS:T≠S) (hSI:S≠I) (hlI:l≠I) (hlS:l≠S) (hSn:s0.heap.get? S=none) (hIn:s0.heap.get? I=none)
  (houts:ds.mapM (λ d=>sp [d])=some qe) (hsz:ds.length<=sizeLine) :
  ∀ (k i:Nat) (s:Shared) (B:FM) (acc:List Value) (c:Nat),ds.length - i=k->i<=ds.length->Gr B0 s0.heap B s.heap->k6 s0 s->B S=none->B I=none->s.heap.get? M=some (bi2 T (.ref fa))->s.heap.get? T=some (bc8 I)->s.heap.IsListIter I l i->s.heap.IsList l vs.toArray->RdL prog w B ds vs->
   s.heap.get? S=some { cls:=.type "list",dict:=none,data:=.seq acc.toArray c,slots:=#[] }->RdL prog w B (qe.take i) acc->
   (∀ s' B' acc' c',Gr B0 s0.heap B' s'.heap->k6 s0 s'->s'.heap.get? S=some { cls:=.type "list",dict:=none,data:=.seq (List.toArray acc') c',slots:=#[] }->RdL prog w B' qe acc'->R (.ok (.ret res)) s')->
   codeAny (model prog w) A (.builtin "list.extend.loop" ⟨[.ref S,.ref M,res],[]⟩) R s:=by
 obtain ⟨hol,qg⟩:=ah5 houts
 intro k
 induction k with
 | zero=>
  intro i s B acc c hk hi g m hBS hBI hM hT hit hl hr hS hacc hR
  have hin:i=ds.length:=by lia
  subst hin
  refine codeAny_builtin F.entry_extend_loop ?_
  rw [Around.under_plainId F.plain_extend_loop _]
  show wpAny _ A.in1 (pyNext (.ref M) >>= _) _ _ s
  have hx:vs.toArray[ds.length]?=none:=by simp [hr.length]
  refine wpAny_bind (ed9 (show A.in1.handled=none from rm.handled) hM hT hit hl hx λ h' he=>?_)
  have hoff:∀ b o,¬ b=I->s.heap.get? b=some o->h'.get? b=some o:=λ b o q e=>he b o q e
  refine wpAny_pure (hR { s with heap:=h' } B acc c (g.off hoff λ b q=>by subst q;exact ⟨hIn,hBI⟩) ⟨m.gens,m.os,m.toks⟩ (hoff S _ hSI hS) ?_)
  rw [<- hol,List.take_length] at hacc
  exact hacc
 | succ k ih=>
  intro i s B acc c hk hi g m hBS hBI hM hT hit hl hr hS hacc hR
  have hlt:i < ds.length:=by exact bt9 ‹_›
  refine codeAny_builtin F.entry_extend_loop ?_
  rw [Around.under_plainId F.plain_extend_loop _]
  show wpAny _ A.in1 (pyNext (.ref M) >>= _) _ _ s
  have hlv:i < vs.length:=by rw [hr.length];exact hlt
  have hx:vs.toArray[i]?=some vs[i]:=by simp [hlv]
  refine wpAny_bind (dt5 hM hT hit hl hx hMI λ h1 E' hit1 hs1=>?_)
  have hoff:∀ b o,¬ b=I->s.heap.get? b=some o->h1.get? b=some o:=λ b o q e=>(hs1.2 b q).trans e
  have g1:Gr B0 s0.heap B h1:=g.off hoff λ b q=>by subst q;exact ⟨hIn,hBI⟩
  obtain ⟨fa',o,fd,hf',ho,hfd,hc⟩:=hF
  rw [hf] at hf'
  cases hf'
  obtain ⟨y,hy,hyo⟩:=qg i ds[i] (List.getElem?_eq_getElem hlt)
  have hrd:Rd prog w B ds[i] vs[i]:=an2 hr (List.getElem?_eq_getElem hlv) (List.getElem?_eq_getElem hlt)
  refine wpAny_call (codeAny_mono (hc (s:={ s with heap:=h1 }) rm ((stk.step g1).fr rfl) g1.keep (λ a o e=>g1.le a o (hb a o e)) (Nat.lt_of_lt_of_le ht0 m.toks) (RdL.cons hrd RdL.nil) hy) λ r' s2 q=>?_)
  obtain ⟨v,rfl,B2,g2,r2,m2⟩:=q
  dsimp only
  have hBS2:B2 S=none:=g2.none_of hBS (by rw [hoff S _ hSI hS];simp)
  have hIe:h1.get? I≠none:=by obtain ⟨o,e,_⟩:=hit1;rw [e];simp
  have hBI2:B2 I=none:=g2.none_of hBI hIe
  have hS2:=g2.old.solid (hoff S _ hSI hS) (.seq rfl)
  show wpAny _ A.in1 (updateSeq S (·.push v) >>= _) _ _ _
  have qf:=hacc.length
  have htl:(qe.take i).length=i:=by rw [List.length_take,hol];lia
  refine wpAny_bind (wpAny_updateSeq hS2 rfl (wpAny_pure ⟨plainId_quiet F.plain_extend_loop _,?_⟩) (by simp only [List.size_toArray];lia) (by show (acc.toArray.push v).size<=sizeLine+1;simp only [Array.size_push,List.size_toArray];lia))
  have hoff2:∀ b o,¬ b=S->s2.heap.get? b=some o->(s2.heap.update S (Obj.mapSeq (·.push v))).get? b=some o:=λ b o q e=>(Heap.get?_update_other _ _ (λ h=>q h.symm)).trans e
  have g3:Gr B0 s0.heap B2 (s2.heap.update S (Obj.mapSeq (·.push v))):=(g1.trans g2).off hoff2 λ b q=>by subst q;exact ⟨hSn,hBS2⟩
  have hS3:=Heap.get?_update_self (Obj.mapSeq (·.push v)) hS2 rfl
  have hit2:s2.heap.IsListIter I l (i+1):=by obtain ⟨o,e,q1,q2⟩:=hit1;exact ⟨o,g2.old.solid e (.fields q2),q1,q2⟩
  refine ih (i+1) { s2 with heap:=s2.heap.update S (Obj.mapSeq (·.push v)) } B2 (acc ++ [v]) _ (by exact ay7 ‹_›) hlt g3 ⟨(m.trans ⟨m2.gens,m2.os,m2.toks⟩).gens,(m.trans ⟨m2.gens,m2.os,m2.toks⟩).os,(m.trans ⟨m2.gens,m2.os,m2.toks⟩).toks⟩ hBS2 hBI2 (hoff2 M _ hMS (g2.old.solid (hoff M _ hMI hM) (.fields rfl))) (hoff2 T _ hTS (g2.old.solid (hoff T _ hTI hT) (.seq rfl)))
   (by obtain ⟨o,e,q⟩:=hit2;exact ⟨o,hoff2 I _ (λ e=>hSI e.symm) e,q⟩) ((g2.old.list (hl.at λ o e=>hoff l o hlI e)).at λ o e=>hoff2 l o hlS e) (hr.mono g2.le) (by rw [hS3];simp [Obj.mapSeq];rfl) ?_ hR
  rw [List.take_add_one,hyo]
  exact (hacc.mono g2.le).append (RdL.cons r2 RdL.nil)
end
end
section
open PySem.Calls PySem.SeqAt
open AutoSeq1 (wpAny_loadPart')
section
variable {w:World} {qa:Heap} {mg mb:Str->Option Value} {A:Around} {E:Value->Shared->Prop} {s:Shared}
theorem co8 {f:String} {j:Nat} {sp:List D->Option D} {M T I l fa:Addr} {vs:List Value} {ds qe:List D} {B0 B:FM} {s0:Shared} {Q:List Value->Shared->Prop}
  (hf:mg (Str.ofString f)=some (.ref fa)) (hF:ad6 w qa mg j f sp) (rm:Rm j A.in1.in1) (stk:Stk A B0 s0.heap) (hb:∀ a o,qa.get? a=some o->B0 a=some o) (ht0:0 < s0.toks)
  (hMI:M≠I) (hTI:T≠I) (hlI:l≠I) (hIn:s0.heap.get? I=none) (houts:ds.mapM (λ d=>sp [d])=some qe) (hsz:ds.length<=sizeLine)
  (g:Gr B0 s0.heap B s.heap) (m:k6 s0 s) (hBI:B I=none) (hM:s.heap.get? M=some (bi2 T (.ref fa))) (hT:s.heap.get? T=some (bc8 I)) (hit:s.heap.IsListIter I l 0) (hl:s.heap.IsList l vs.toArray) (hr:RdL prog w B ds vs)
  (hQ:∀ s' B' acc,Gr B0 s0.heap B' s'.heap->k6 s0 s'->RdL prog w B' qe acc->Q acc s'):wpAny (model prog w) A (collect (.ref M)) Q E s:=by
 have hTy:s.TypeIs (.ref M) "map":=⟨_,hM,rfl⟩
 unfold collect
 refine wpAny_bind (wpAny_runValue (codeAny_builtin F.entry_proto_collect ?_))
 rw [Around.under_plainId F.plain_proto_collect _]
 show wpAny _ A.in1 (newList [] >>= λ l=>again (.builtin "list.__iadd__" ⟨[l,.ref M],[]⟩)) _ _ s
 refine wpAny_bind (wpAny_newObj_type ?_)
 refine wpAny_pure ⟨plainId_quiet F.plain_list_iadd _,codeAny_builtin F.entry_list_iadd ?_⟩
 rw [Around.under_plainId F.plain_list_iadd _]
 have hSn:s.heap.get? s.heap.objs.size=none:=g8 (Nat.le_refl _)
 have hk1:∀ b o,s.heap.get? b=some o->(s.heap.push { cls:=.type "list",data:=.seq ([]:List Value).toArray }).get? b=some o:=λ b o e=>Heap.get?_push_of_some _ e
 have hS₁:(s.heap.push { cls:=.type "list",data:=.seq ([]:List Value).toArray }).get? s.heap.objs.size=some { cls:=.type "list",data:=.seq ([]:List Value).toArray }:=Heap.get?_push_size _ rfl
 have neS:∀ b,s.heap.get? b≠none->b≠s.heap.objs.size:=λ b q e=>by subst e;exact q hSn
 have hMS:M≠s.heap.objs.size:=neS M (by rw [hM];simp)
 have hTS:T≠s.heap.objs.size:=neS T (by rw [hT];simp)
 have hIS:I≠s.heap.objs.size:=neS I (by obtain ⟨o,e,_⟩:=hit;rw [e];simp)
 have hlS:l≠s.heap.objs.size:=neS l (by obtain ⟨o,e,_⟩:=hl;rw [e];simp)
 have hTy1:Shared.TypeIs ({ s with heap:=s.heap.push { cls:=.type "list",data:=.seq ([]:List Value).toArray } }:Shared) (.ref M) "map":=⟨_,hk1 _ _ hM,rfl⟩
 show wpAny _ A.in1 (Builtin.List.listExtendWith (.ref s.heap.objs.size) (.ref M) (.ref s.heap.objs.size)) _ _ _
 unfold Builtin.List.listExtendWith
 refine wpAny_bind (wpAny_typeOf hTy1 ?_)
 have h1:Builtin.List.listSameRef (.ref s.heap.objs.size) (.ref M)=false:=by simp [Builtin.List.listSameRef,Ne.symm hMS]
 have h2:(Value.type "map" == Value.type "list")=false:=by decide
 have h3:(Value.type "map" == Value.type "tuple")=false:=by decide
 simp only [h1,h2,h3,Bool.or_false,Bool.false_eq_true,if_false]
 refine wpAny_bind (dv6 (s:={ s with heap:=s.heap.push { cls:=.type "list",data:=.seq ([]:List Value).toArray } }) (hk1 _ _ hM) ?_)
 refine wpAny_bind (wpAny_holding ?_)
 unfold Builtin.List.listLengthHint
 refine wpAny_bind (wpAny_specialOf hTy1 da1 ?_)
 show wpAny _ A.in1 (specialOf (Value.ref M) (Str.ofString "__length_hint__") >>= _) _ _ _
 refine wpAny_bind (wpAny_specialOf hTy1 cr7 ?_)
 refine wpAny_pure ?_
 show wpAny _ A.in1 (rule "list.extend.makes-room" >>= λ ξ=>Builtin.List.listTouch (.ref s.heap.objs.size) >>= λ ξ=>
  again (.builtin "list.extend.loop" ⟨[.ref s.heap.objs.size,.ref M,.ref s.heap.objs.size],[]⟩)) _ _ _
 refine wpAny_bind (wpAny_rule ?_)
 refine wpAny_bind ?_
 show wpAny _ A.in1 (updateSeq s.heap.objs.size (·.push .none) >>= λ ξ=>updateSeq s.heap.objs.size (·.pop)) _ _ _
 refine wpAny_bind (wpAny_updateSeq hS₁ rfl ?_)
 have hS₂:=Heap.get?_update_self (Obj.mapSeq (·.push Value.none)) hS₁ rfl
 refine wpAny_updateSeq hS₂ rfl ?_
 have hS₃:=Heap.get?_update_self (Obj.mapSeq (·.pop)) hS₂ rfl
 have oth:∀ b o,s.heap.get? b=some o->
   (((s.heap.push { cls:=.type "list",data:=.seq ([]:List Value).toArray }).update s.heap.objs.size (Obj.mapSeq (·.push Value.none))).update s.heap.objs.size (Obj.mapSeq (·.pop))).get? b=some o:=
  λ b o e=>(Heap.get?_update_other _ _ (λ q=>neS b (by rw [e];simp) q.symm)).trans ((Heap.get?_update_other _ _ (λ q=>neS b (by rw [e];simp) q.symm)).trans (hk1 b o e))
 have hBS:B s.heap.objs.size=none:=t7 (s:=s) g.keep hSn
 have hS0:s0.heap.get? s.heap.objs.size=none:=by
  exact g.old.back hSn
 refine wpAny_pure ⟨plainId_quiet F.plain_extend_loop _,ea6 (qa:=qa) (mg:=mg) (j:=j) (sp:=sp) (f:=f) (M:=M) (T:=T) (I:=I) (S:=s.heap.objs.size) (l:=l) (fa:=fa) (vs:=vs) (ds:=ds) (qe:=qe) (B0:=B0) (s0:=s0) hf hF rm stk hb ht0 hMI hMS hTI hTS (Ne.symm hIS) hlI hlS hS0 hIn houts hsz ds.length 0 _ B [] _ rfl (Nat.zero_le _)
  (g.trans (Gr.heap g.keep oth)) ⟨m.gens,m.os,m.toks⟩ hBS hBI (oth _ _ hM) (oth _ _ hT) (by obtain ⟨o,e,q⟩:=hit;exact ⟨o,oth _ _ e,q⟩) (hl.at λ o e=>oth _ _ e) hr hS₃ (by simpa using RdL.nil) λ s' B' acc c' g' m' hS' hr'=>?_⟩
 show wpAny _ A (load s.heap.objs.size >>= _) _ _ s'
 refine wpAny_bind (wpAny_load hS' ?_)
 refine wpAny_pure ?_
 simpa using hQ s' B' acc g' m' hr'
theorem dm4 {f:String} {j:Nat} {sp:List D->Option D} {fa:Addr} {ds qe:List D} {B0:FM} {v:Value}
  (hf:mg (Str.ofString f)=some (.ref fa)) (hF:ad6 w qa mg j f sp) (rm:Rm j A.in1.in1.in1.in1) (stk:Stk A B0 s.heap) (hb:∀ a o,qa.get? a=some o->B0 a=some o) (ht0:0 < s.toks) (kp:j4 B0 s.heap)
  (houts:ds.mapM (λ d=>sp [d])=some qe) (hsz:ds.length<=sizeLine) (t:f8 prog w s.heap B0 (.list ds) v) :
  wpAny (model prog w) A (call (.type "map") [.ref fa,v]) (λ u s1=>wpAny (model prog w) A (call (.type "tuple") [u]) (FrP prog w B0 s (.tuple qe)) E s1) E s:=by
 obtain ⟨l,o,vs,rfl,ho,x,rr⟩:=t
 refine dq1 (x.isList ho) ?_
 have z1:(s.heap.push (bb8 l 0)).objs.size=s.heap.objs.size+1:=Heap.size_push ..
 have z2:((s.heap.push (bb8 l 0)).push (bc8 s.heap.objs.size)).objs.size=s.heap.objs.size+2:=by rw [Heap.size_push,z1]
 have e1:(s.heap.push (bb8 l 0)).get? s.heap.objs.size=some (bb8 l 0):=Heap.get?_push_size _ rfl
 have e2:((s.heap.push (bb8 l 0)).push (bc8 s.heap.objs.size)).get? (s.heap.objs.size+1)=some (bc8 s.heap.objs.size):=by rw [<- z1];exact Heap.get?_push_size _ rfl
 have e3:(((s.heap.push (bb8 l 0)).push (bc8 s.heap.objs.size)).push (bi2 (s.heap.push (bb8 l 0)).objs.size (.ref fa))).get? (s.heap.objs.size+2)=some (bi2 (s.heap.push (bb8 l 0)).objs.size (.ref fa)):=by rw [<- z2];exact Heap.get?_push_size _ rfl
 rw [z2]
 rw [z1] at e3⊢
 have old:∀ b o,s.heap.get? b=some o->(((s.heap.push (bb8 l 0)).push (bc8 s.heap.objs.size)).push (bi2 (s.heap.objs.size+1) (.ref fa))).get? b=some o:=λ b o e=>Heap.get?_push_of_some _ (Heap.get?_push_of_some _ (Heap.get?_push_of_some _ e))
 have e2':=Heap.get?_push_of_some (bi2 (s.heap.objs.size+1) (.ref fa)) e2
 have e1':=Heap.get?_push_of_some (bi2 (s.heap.objs.size+1) (.ref fa)) (Heap.get?_push_of_some (bc8 s.heap.objs.size) e1)
 generalize ((s.heap.push (bb8 l 0)).push (bc8 s.heap.objs.size)).push (bi2 (s.heap.objs.size+1) (.ref fa))=H at e1' e2' e3 old
 have hlt:l < s.heap.objs.size:=Heap.lt_size ho
 refine callType_codes (Q₁:=λ obj s₁=>s₁.TypeIs obj "tuple"/\FrP prog w B0 s (.tuple qe) obj s₁) F.called_tuple (F.typeCall_tuple_1 _) F.entry_object_init ?_ λ obj s₁ h₁=>?_
 ·refine codeAny_of_tree ?_
  show wpAny _ A.in1.in1 (do checkBuiltinCall "tuple.__new__" ⟨[.type "tuple",.ref (s.heap.objs.size+2)],[]⟩;again (.builtin "tuple.__new__" ⟨[.type "tuple",.ref (s.heap.objs.size+2)],[]⟩)) _ _ _
  refine wpAny_bind (wpAny_of_eq (F.newCall_tuple_1 _) (wpAny_pure ⟨plainId_quiet F.plain_tuple_new _,codeAny_builtin F.entry_tuple_new ?_⟩))
  rw [Around.under_plainId F.plain_tuple_new _]
  have hsub:=sub_tuple_self
  have hinit:=init_tuple_lookup
  have hmh:=madeHere_tuple
  have hTI:Shared.TypeIs ({ s with heap:=H }:Shared) (.ref (s.heap.objs.size+2)) "map":=⟨_,e3,rfl⟩
  have hcol:=λ (Q:List Value->Shared->Prop) (E:Value->Shared->Prop) hQ=>co8 (A:=A.in1.in1) (E:=E) (Q:=Q) (s:={ s with heap:=H }) (s0:=s) (B0:=B0) (B:=B0) (I:=s.heap.objs.size) (T:=s.heap.objs.size+1) (M:=s.heap.objs.size+2) (l:=l) hf hF rm (stk.fr rfl) hb ht0
   (Nat.ne_of_gt (Nat.lt_succ_of_lt (Nat.lt_succ_self _))) (Nat.succ_ne_self _) (Nat.ne_of_lt hlt) (g8 (Nat.le_refl _)) houts hsz (Gr.heap kp old) ⟨rfl,rfl,Nat.le_refl _⟩ (t7 (s:=s) kp (g8 (Nat.le_refl _))) e3 e2' ⟨_,e1',rfl,rfl⟩ ((x.isList ho).at λ o e=>old _ o e) rr hQ
  wp_walk using wpAny_typeOf hTI,hcol
  intro s' B' acc g' m' hr'
  refine wpAny_bind (wpAny_pure ?_)
  show wpAny _ _ (Builtin.Tuple.tupleExact acc.toArray >>= λ v=>ret v) _ _ _
  unfold Builtin.Tuple.tupleExact
  have hol:=(ah5 houts).1
  refine wpAny_bind (wpAny_newObj_type ?_ (by show acc.toArray.size<=sizeLine;simp only [List.size_toArray];rw [hr'.length,hol];exact hsz))
  refine wpAny_pure ?_
  refine ⟨⟨_,Heap.get?_push_size _ rfl,rfl⟩,?_⟩
  exact FrP.after (s1:=s') g' m' (FrP.tuple (k:=s'.toks) g'.keep (Nat.le_refl _) hr')
 ·exact ⟨h₁.1,F.args_object_init_2 obj _,object_init_meets F.called_tuple.init.lookup F.called_tuple.made (by decide) prog w A.in1 _ s₁ ⟨h₁.1,rfl,h₁.2⟩⟩
end
section
variable {w:World} {qa:Heap} {mg mb:Str->Option Value} {k:Nat} {U:String->List D->Option D} {sc:Scope}
theorem di1 {x y g:Str} {f:String} {e:PySem.Expr} {a:IR} {p1 p2 p3 p4 pos:Pos} {j:Nat} (G:Glb qa mg mb) (hx:i5 sc x=true) (hxe:x="tuple") (hy:i5 sc y=true) (hye:y="map") (hg:i5 sc g=true) (hf:Str.ofString f=g) (hj:j+1<=k)
  (hF:ad6 w qa mg j f (U f)) (he:ae1 w qa k U sc e a) (hn:j9 e=true) :
  j3 w qa k U sc (.Call (.Name x p1) [.Call (.Name y p2) [.Name g p3,e] [] p4] [] pos) (.tupmap f a):=λ A E s env r B d ok hd=>by
 obtain ⟨d0,h1,hd⟩:=a6 hd
 obtain ⟨l,hl,hd⟩:=a6 hd
 obtain ⟨hz,hd⟩:=i4 hd
 obtain ⟨qe,houts,hd⟩:=a6 hd
 cases hd
 obtain rfl:=r8 hl
 subst hxe hye
 have hF':=hF
 obtain ⟨fa,o,fd,hm,ho,hfd,_⟩:=hF'
 have rm4:Rm j A.in1.in1.in1.in1:=⟨ok.rm.handled,by have:=ok.rm.depth;show A.depth+j<=900;lia,by have:=ok.rm.units;show A.units+1+1+1+1+10 * j+200<=cLine;lia⟩
 refine Call_ (w9 G ok hx (G.b' (v:=(.type "tuple")) ⋯) ?_)
 refine callWith_type1 ?_ (d6 rfl) rfl
 rw [d6 rfl,l0]
 refine spliced_cons (Call_ (w9 G ok hy (G.b' (v:=(.type "map")) ⋯) ?_))
 refine callWith_type1 ?_ (d6 rfl) (by rw [d6 hn,l0];rfl)
 rw [d6 rfl,d6 hn,l0,l0]
 refine spliced_cons (ak7 G ok hg (hf▸hm) ?_)
 refine spliced_cons (u0 he ok h1 λ v s1 B1 g1 m1 t1 ok1=>spliced_nil ?_)
 refine wpAny_mono (dm4 hm hF rm4 ok1.stk ok1.base ok1.toks ok1.keep houts (ai7 hz) t1) (λ u s2 q=>spliced_nil (wpAny_mono q (λ w s3 q=>(FrP.after g1 m1 q).ev) λ ξ ξ e=>e)) λ ξ ξ e=>e
end
end
section
open PySem.Calls PySem.SeqAt
section
variable {w:World} {qa:Heap} {mg mb:Str->Option Value} {k:Nat} {U:String->List D->Option D} {qc:String->Bool} {sc:Scope}
noncomputable def dc2 (prog:Program) (w:World) (h0:Heap) (B0:FM) (sc:Scope) (binds:List (Str×Value)) (r1:Rho) (B1:FM) (s1:Shared):Prop:=
 ∀ ⦃env:Env⦄ ⦃A:Around⦄ ⦃E:Value->Shared->Prop⦄ ⦃s2:Shared⦄ ⦃Q:PUnit->Shared->Prop⦄,j6 env sc->Sim prog w h0 B0 env sc (ac9 sc) B1 (λ ξ=>False) s2.heap->(∀ a o,s1.heap.get? a=some o->s2.heap.get? a=some o)->(∀ a,isOwn env sc a->s1.heap.get? a=none)->s1.toks<=s2.toks->
  (∀ h' tk,s2.toks<=tk->0 < tk->Sim prog w h0 B0 env sc r1 B1 (λ ξ=>False) h'->Q PUnit.unit { s2 with heap:=h',toks:=tk })->
  wpAny (model prog w) A (forIn binds PUnit.unit λ (p:Str×Value) u=>(do storeName env p.1 p.2;pure (ForInStep.yield PUnit.unit):Sem _)) Q E s2
set_option tactic.hygienic true in
theorem by0 {name:Str} {params:Arguments} {body:List Stmt} {pm cd doc:Value} {fa:Addr} {o:Obj} {h0:Heap} {B0 B:FM} {A:Around} {s:Shared} {vs:List Value} {r1:Rho} {R:Result->Shared->Prop} (G:Glb qa mg mb)
  (ho:qa.get? fa=some o) (hd:o.data = .func (docDef name params body sc pm cd doc)) (hcr:qa.CodeRec cd name) (fs:FnS sc) (hco:sc.isCoroutine=false) (hgen:sc.isGenerator=false)
  (rm:Rm (k+1) A) (hb:∀ a o,qa.get? a=some o->B0 a=some o) (g:Gr B0 h0 B s.heap) (stk:Stk A B0 h0)
  (hbind:∀ (Q:List (Str×Value)->Shared->Prop) (E:Value->Shared->Prop),(∀ binds s1 B1,Gr B0 h0 B1 s1.heap->k6 s s1->dc2 prog w h0 B0 sc binds r1 B1 s1->Q binds s1)->wpAny (model prog w) A.in1 (bindArgs (docDef name params body sc pm cd doc) ⟨vs,[]⟩) Q E s)
  (hbody:∀ ⦃A':Around⦄ ⦃E:Value->Shared->Prop⦄ ⦃env:Env⦄ ⦃B1:FM⦄ ⦃s1:Shared⦄,Rm k A'->j6 env sc->env.code=cd->0 < s1.toks->FrA A' env B0 h0->Sim prog w h0 B0 env sc r1 B1 (λ ξ=>False) s1.heap->k6 s s1->wpAny (model prog w) A' (PySem.execs body env) (λ fl s3=>∃ v,fl = .ret v/\R (.ok (.ret v)) s3) E s1) :
  codeAny (model prog w) A (.call (.ref fa) ⟨vs,[]⟩) R s:=by
 have old0:∀ a o,qa.get? a=some o->s.heap.get? a=some o:=λ a o e=>g.keep a o (g.le a o (hb a o e))
 refine codeAny_call_function (o:=o) (fd:=docDef name params body sc pm cd doc) (body:=body) ?_ (old0 _ _ ho) hd hco hgen rfl ?_ ?_
 ·have:=rm.depth
  show A.depth < 1000
  lia
 ·exact hcr.keeps old0
 ·refine hbind _ _ λ binds s1 B1 g1 m1 hst=>?_
  refine di3 fs.nodup λ h' cells hce ca hns hcls old hloc=>?_
  subst hce
  have S0:=Sim.fn0 (w:=w) (sc:=sc) (qual:=name ++ ".<locals>.") (fa:=some fa) (code:=cd) g1 fs ca hns hcls old
  refine hst (co7 (qual:=name ++ ".<locals>.") (fa:=some fa) (code:=cd) fs) (s2:={ s1 with heap:=h' }) S0 old (λ a q=>(Sim.fn0 (w:=w) (sc:=sc) (qual:=name ++ ".<locals>.") (fa:=some fa) (code:=cd) (Gr.refl g1.keep) fs ca hns hcls old).own0 a q |>.1) (Nat.le_refl _) λ h2 tk htk ht0 S1=>?_
  have old1:∀ a o,qa.get? a=some o->h2.get? a=some o:=λ a o e=>S1.gr.keep a o (S1.gr.le a o (hb a o e))
  refine ⟨G.nolimit.keeps λ a o e=>old1 a o e,?_⟩
  have rm':Rm k (A.deeper (newEnv sc s1.heap.objs.size mainGlobals (cellsFrom (s1.heap.objs.size+1) sc.names []) (name ++ ".<locals>.") (some fa) cd none builtinsNs)):=by
   refine ⟨rm.handled,?_,?_⟩
   ·have:=rm.depth
    show A.depth+1+k<=900
    lia
   ·have:=rm.units
    show A.units+3+10 * k+200<=cLine
    lia
  have htk':s.toks<=tk:=Nat.le_trans m1.toks htk
  have fa':FrA (A.deeper (newEnv sc s1.heap.objs.size mainGlobals (cellsFrom (s1.heap.objs.size+1) sc.names []) (name ++ ".<locals>.") (some fa) cd none builtinsNs)) (newEnv sc s1.heap.objs.size mainGlobals (cellsFrom (s1.heap.objs.size+1) sc.names []) (name ++ ".<locals>.") (some fa) cd none builtinsNs) B0 h0:=by
   obtain ⟨l,e1,e2⟩:=stk
   refine ⟨rfl,newEnv sc s1.heap.objs.size mainGlobals (cellsFrom (s1.heap.objs.size+1) sc.names []) (name ++ ".<locals>.") (some fa) cd none builtinsNs,l,?_,?_,rfl,e2⟩
   ·show A.frames.map _=_
    rw [e1];rfl
   ·show sc.kind≠.module
    rw [fs.kind];decide
  refine codeAny_func (wpAny_mono (hbody rm' (co7 fs) rfl ht0 fa' S1 ⟨m1.gens,m1.os,htk'⟩) (λ fl s3 q=>?_) λ ξ ξ e=>e)
  obtain ⟨v,rfl,q⟩:=q
  exact q
theorem bp9 {name:Str} {params:Arguments} {body:List Stmt} {pm cd doc:Value} {fa:Addr} {o:Obj} {h0:Heap} {B0 B:FM} {A:Around} {s:Shared} {vs:List Value} {F:Rho->Option (Fl×Rho)} {bb:Bool} {d:D} {r1 r':Rho} {R:Result->Shared->Prop} (G:Glb qa mg mb)
  (ho:qa.get? fa=some o) (hd:o.data = .func (docDef name params body sc pm cd doc)) (hcr:qa.CodeRec cd name) (fs:FnS sc) (hco:sc.isCoroutine=false) (hgen:sc.isGenerator=false)
  (rm:Rm (k+1) A) (hb:∀ a o,qa.get? a=some o->B0 a=some o) (g:Gr B0 h0 B s.heap) (stk:Stk A B0 h0)
  (hbind:∀ (Q:List (Str×Value)->Shared->Prop) (E:Value->Shared->Prop),(∀ binds s1 B1,Gr B0 h0 B1 s1.heap->k6 s s1->dc2 prog w h0 B0 sc binds r1 B1 s1->Q binds s1)->wpAny (model prog w) A.in1 (bindArgs (docDef name params body sc pm cd doc) ⟨vs,[]⟩) Q E s)
  (nm:j7 sc r1) (hbody:ca9 prog w qa k sc (PySem.execs body) F) (hF:F r1=some (.ret bb d,r'))
  (hR:∀ v s',dj3 w h0 B0 bb d v s s'->R (.ok (.ret v)) s') :
  codeAny (model prog w) A (.call (.ref fa) ⟨vs,[]⟩) R s:=
 by0 G ho hd hcr fs hco hgen rm hb g stk hbind λ A' E env B1 s1 rm' ek ξ ht fa' S1 m1=>wpAny_mono (hbody rm' ek hb ht fa' nm S1 hF) (λ fl s3 q=>by
  unfold FlP at q
  cases fl <;> first | exact q.elim | skip
  obtain ⟨B',g',m,q⟩:=q
  exact ⟨_,rfl,hR _ s3 ⟨B',g',m1.trans m,q⟩⟩) λ ξ ξ e=>e
theorem ch1 {B:FM} {b:Bool} {d:D} {v:Value} {s s':Shared} (h:dj3 w s.heap B b d v s s'):EvP prog w B s d v s':=by
 obtain ⟨B',g,m,q⟩:=h
 cases b
 ·exact ⟨B',g,q,m⟩
 ·obtain ⟨a,rfl,e1,e2,t,hpl⟩:=q
  exact (FrP.ev ⟨B',a,rfl,g,e1,e2,t,m,hpl⟩)
theorem bj1 {is:List Nat} {ds:List D} (hl:ds.length=is.length):j7 sc (ab3 (ac9 sc) is ds):=λ i d' q=>by
 have:=(ag0 is ds (ac9 sc) i _ d' hl q (by simp)).1
 rw [an9] at this;cases this
theorem er8 {f:String} {sp:List D->Option D} {name:Str} {params:Arguments} {body:List Stmt} {pm cd doc:Value} {fa:Addr} {o:Obj} {xs:List Str} {is:List Nat} {F:Rho->Option (Fl×Rho)} (G:Glb qa mg mb)
  (hm:mg (Str.ofString f)=some (.ref fa)) (ho:qa.get? fa=some o) (hd:o.data = .func (docDef name params body sc pm cd doc)) (hcr:qa.CodeRec cd name) (fs:FnS sc) (hco:sc.isCoroutine=false) (hgen:sc.isGenerator=false)
  (hbind:∀ vs:List Value,vs.length=xs.length->bindArgs (docDef name params body sc pm cd doc) ⟨vs,[]⟩=pure (xs.zip vs)) (hp:b8 (λ x i=>j5 sc x=some i) xs is) (hbody:ca9 prog w qa k sc (PySem.execs body) F)
  (hsp:∀ ds d,sp ds=some d->ds.length=is.length/\∃ b r',F (ab3 (ac9 sc) is ds)=some (.ret b d,r')):ad6 w qa mg (k+1) f sp:=by
 refine ⟨fa,o,_,hm,ho,hd,λ A s B vs ds d rm stk kp hb ht r h=>?_⟩
 obtain ⟨hl,bb,r',hex⟩:=hsp ds d h
 refine bp9 G ho hd hcr fs hco hgen rm hb (Gr.refl kp) stk (λ Q E hQ=>?_) (bj1 hl) hbody hex λ v s' q=>⟨v,rfl,ch1 q⟩
 rw [hbind vs (by rw [r.length,hl,as9 hp])]
 refine wpAny_pure (hQ _ s B (Gr.refl kp) (.refl s) λ env A E s2 Q ek S old ξ hle hQ2=>?_)
 rw [<- List.append_nil (xs.zip vs)]
 refine ba8 (rest:=[]) hp ek S r hl λ h2 tk htk S1=>?_
 rw [List.forIn_nil]
 exact wpAny_pure (hQ2 h2 tk htk (Nat.lt_of_lt_of_le ht (Nat.le_trans hle htk)) S1)
end
end
section
open PySem.Calls PySem.SeqAt
section
variable {w:World} {A:Around} {E:Value->Shared->Prop} {s:Shared}
theorem ch3:isSubtype (.type "str") (.type "str")=pure true:=by rw [isSubtype_type];kernel_rfl
theorem co3:builtinKind "issubclass.nested"=none:=by decide +kernel
theorem cg0:plainId "issubclass.nested"=true:=by decide +kernel
theorem ck7 (a b c:Value):argsOk "issubclass.nested" ⟨[a,b,c],[]⟩:=by unfold argsOk;kernel_rfl
theorem cw0 {prog:Program} {k:Value} {dep:Int} {tk:Tok} {Q:Fin->Shared->Prop} (hk:k = .int dep tk) (hq:Q (.done (.ret (.bool true))) s) :
  wpAny (model prog w) A (Builtin.«issubclass.nested» ⟨[.type "str",.type "str",k],[]⟩) Q E s:=by
 subst hk
 have hself:=ch3
 wp_walk
 exact hq
theorem cv7 {prog:Program} {a:Addr} {k:Value} {dep:Int} {tk:Tok} {Q:Fin->Shared->Prop} (hk:k = .int dep tk) (hd:dep=0) (ht:s.heap.IsTuple a #[.type "str",.type "bytes"]) (hq:Q (.done (.ret (.bool true))) s) :
  wpAny (model prog w) A (Builtin.«issubclass.nested» ⟨[.type "str",.ref a,k],[]⟩) Q E s:=by
 subst hk hd
 have hT:s.TypeIs (.ref a) "tuple":=by obtain ⟨o,h1,h2,_⟩:=ht;exact ⟨o,h1,h2⟩
 have hsub:=sub_tuple_self
 unfold Builtin.«issubclass.nested»
 wp_walk using wpAny_typeOf hT
 obtain ⟨o,ho,hc,n,hd⟩:=ht
 refine wpAny_load ho ?_
 rw [hd]
 refine wpAny_pure ?_
 dsimp only [Option.getD_some]
 rw [<- Array.forIn_toList]
 show wpAny _ _ (forIn [Value.type "str",Value.type "bytes"] _ _ >>= _) _ _ _
 rw [List.forIn_cons]
 refine wpAny_bind (wpAny_bind (wpAny_bind (call_function_entry co3 cg0 F.entry_issubclass_nested (ck7 _ _ _) (cw0 rfl ⟨_,rfl,?_⟩))))
 refine wpAny_bind (wpAny_truthy_bool ?_)
 refine ah3 rfl ?_
 refine wpAny_bind (wpAny_pure (wpAny_pure ?_))
 dsimp only
 refine wpAny_pure ?_
 dsimp only
 exact wpAny_pure hq
theorem cv5 {a:Addr} {Q:Value->Shared->Prop} (ht:s.heap.IsTuple a #[.type "str",.type "bytes"]) (hq:Q (.bool true) s):wpAny (model prog w) A (call (.builtin "issubclass") [.type "str",.ref a]) Q E s:=
 call_issubclass (S:=λ ξ R s=>s.heap.IsTuple a #[.type "str",.type "bytes"]/\R (.ok (.ret (.bool true))) s) (λ prog w A R s hs=>issubclass_outer (cv7 rfl rfl hs.1 hs.2)) ⟨ht,hq⟩
end
section
variable {w:World} {qa:Heap} {mg mb:Str->Option Value} {k:Nat} {U:String->List D->Option D} {qc:String->Bool} {sc:Scope}
theorem cl8 {i j:Nat} {x y ti is st bt:Str} {p1 p2 p3 p4 p5 p6 p7 p8 p9 p10 p11 p12 p13 p14:Pos} {kd:Nat} {els rest:List Stmt} (G:Glb qa mg mb)
  (hx:d8 sc x=some i) (hy:j5 sc y=some j) (hyl:sc.names.lookup y=some .local) (hij:x≠y) (hti:i5 sc ti=true) (tie:ti="type") (his:i5 sc is=true) (ise:is="issubclass") (hst:i5 sc st=true) (ste:st="str") (hbt:i5 sc bt=true) (bte:bt="bytes") :
  ca9 prog w qa k sc (PySem.execs (.Assign [.Name y p1] (.Call (.Name ti p2) [.Name x p3] [] p4) p5 :: .If (.Call (.Name is p6) [.Name y p7,.Tuple [.Name st p8,.Name bt p9] kd p10] [] p11) [.Return (some (.Name x p12)) p13] els p14 :: rest))
   (λ r=>do let d <- bw3 (r.get i);let u <- u6 d;some (.ret false (.str u),r)):=λ A E env r B s h0 B0 Y res rm ek hb ht fa hn S h=>by
 obtain ⟨d,hr,h⟩:=a6 h
 obtain ⟨u,hu,h⟩:=a6 h
 cases h
 obtain rfl:=l9 hu
 have hr:=az5 hr
 subst tie ise ste bte
 have ok:=Sim.ok S rm ek hb ht fa
 obtain ⟨v,a0,t0,_⟩:=S.vars x i _ _ hx hr
 obtain ⟨t,_,rfl⟩:=t0
 obtain ⟨hyw,_⟩:=f4 hy
 have hl:=ek.loc y hyl
 obtain ⟨m,hns⟩:=S.fm.ns
 refine wpAny_execs_cons (ak6 rfl (Call_ (w9 G ok hti (G.b' (v:=(.type "type")) ⋯) ?_)))
 refine callWith_type1 ?_ (d6 rfl) rfl
 rw [d6 rfl,l0]
 refine spliced_cons (a0.load ek.kind (i9 hx) (spliced_nil ?_))
 refine call_type_of (Tx:="str") rfl (by decide) ?_
 refine wpAny_assign_Name (wpAny_storeName_local hl hns (λ h' hns' hsb=>?_) (by rw [ek.kind];rfl))
 have hk:∀ b o,¬ b=env.locals->s.heap.get? b=some o->h'.get? b=some o:=λ b o q e=>(hsb.2 b q).trans e
 have old0:∀ a o,qa.get? a=some o->h'.get? a=some o:=λ a o e=>hk a o (λ q=>by subst q;have:=(S.own0 _ (.inl rfl)).2;rw [S.gr.le _ _ (hb _ _ e)] at this;cases this) (ok.old a o e)
 have hax:At env h' x (.str u t):=by
  cases a0 with
  | loc m' e hn' hv=>
   have:=bk2 hns hn'
   subst this
   exact .loc _ e hns' (by simp [hij,hv])
  | cell c e hc hv=>exact .cell c e hc (hv.sameBut hsb (λ q=>ap0 hns hv q.symm))
 have hay:At env h' y (.type "str"):=.loc _ hl hns' (by simp)
 refine wpAny_execs_cons (wpAny_If ?_)
 refine aq9 rfl ?_
 refine Call_ (at7 G ek his (G.b' (v:=(.builtin "issubclass")) ⋯) old0 ?_)
 refine callWith_builtin1 ?_ (d6 rfl) rfl
 rw [d6 rfl,d6 rfl,l0,l0]
 refine spliced_cons (hay.load ek.kind (i9 hyw) ?_)
 refine spliced_cons (Tuple_ ?_)
 rw [d6 rfl,d6 rfl,l0,l0]
 refine spliced_cons (at7 G ek hst (G.b' (v:=(.type "str")) ⋯) old0 (spliced_cons (at7 G ek hbt (G.b' (v:=(.type "bytes")) ⋯) old0 (spliced_nil ?_))))
 refine wpAny_newObj_type ?_ (by show 2<=sizeLine;rw [sizeLine_eq];exact Nat.le_add_left ..)
 refine spliced_nil ?_
 have ntup:∀ o:Obj,o.isFreed=false->(h'.push o).get? h'.objs.size=some o:=λ o q=>Heap.get?_push_size _ q
 refine cv5 ⟨_,ntup _ rfl,rfl,_,rfl⟩ ?_
 refine wpAny_truthy_bool ?_
 have hold:∀ b o,h'.get? b=some o->(h'.push { cls:=Value.type "tuple",data:=Data.seq [Value.type "str",Value.type "bytes"].toArray }).get? b=some o:=λ b o e=>Heap.get?_push_of_some _ e
 refine wpAny_execs_cons (wpAny_Return_some ((hax.keeps (.of hold)).load ek.kind (i9 hx) ?_))
 have g1:Gr B0 h0 B h':=S.gr.off hk λ b q=>by subst q;exact S.own0 _ (.inl rfl)
 exact ⟨B,g1.trans (Gr.heap g1.keep hold),⟨rfl,rfl,Nat.le_succ _⟩,(bj7 (w:=w) (B:=B)).mpr ⟨t,trivial,rfl⟩⟩
end
end
section
open PySem.Calls PySem.SeqAt
section
variable {w:World} {qa:Heap} {mg mb:Str->Option Value} {k:Nat} {U:String->List D->Option D} {qc:String->Bool} {sc:Scope}
variable (w qa mg k) in

inductive cs9 (f:String) (sp:List D->Option D):Prop
 | mk (fa o fd:_) (h1:mg (Str.ofString f)=some (.ref fa)) (h2:qa.get? fa=some o) (h3:o.data = .func fd) (h4:∀ ⦃A:Around⦄ ⦃s:Shared⦄ ⦃h0:Heap⦄ ⦃B0 B:FM⦄ ⦃vs:List Value⦄ ⦃ds:List D⦄ ⦃dp d:D⦄ ⦃a:Addr⦄,Rm k A->Stk A B0 h0->Gr B0 h0 B s.heap->(∀ a o,qa.get? a=some o->B0 a=some o)->0 < s.toks->RdL prog w B ds vs->f8 prog w s.heap B dp (.ref a)->B a=none->h0.get? a=none->v8 s.heap a->sp (dp :: ds)=some d->codeAny (model prog w) A (.call (.ref fa) ⟨.ref a :: vs,[]⟩) (λ r s'=>∃ v,r = .ok (.ret v)/\dj3 w h0 B0 true d v s s') s)
theorem dz7 {f:String} {sp:List D->Option D} {name:Str} {params:Arguments} {body:List Stmt} {pm cd doc:Value} {fa:Addr} {o:Obj} {x:Str} {xs:List Str} {i:Nat} {is:List Nat} {F:Rho->Option (Fl×Rho)} (G:Glb qa mg mb)
  (hm:mg (Str.ofString f)=some (.ref fa)) (ho:qa.get? fa=some o) (hd:o.data = .func (docDef name params body sc pm cd doc)) (hcr:qa.CodeRec cd name) (fs:FnS sc) (hco:sc.isCoroutine=false) (hgen:sc.isGenerator=false)
  (hbind:∀ vs:List Value,vs.length=(x :: xs).length->bindArgs (docDef name params body sc pm cd doc) ⟨vs,[]⟩=pure ((x :: xs).zip vs)) (hpx:j5 sc x=some i) (hp:b8 (λ x i=>j5 sc x=some i) xs is) (hbody:ca9 prog w qa k sc (PySem.execs body) F)
  (hsp:∀ dp ds d,sp (dp :: ds)=some d->ds.length=is.length/\∃ r',F (ab3 ((ac9 sc).set i (some (.own,dp))) is ds)=some (.ret true d,r')):cs9 w qa mg (k+1) f sp:=by
 refine ⟨fa,o,_,hm,ho,hd,λ A s h0 B0 B vs ds dp d a rm stk g0 hb ht r2 tp hBa hz hpa h=>?_⟩
 obtain ⟨hl2,r',hex⟩:=hsp dp ds d h
 have hae:s.heap.get? a≠none:=n9 tp g0.keep
 obtain ⟨hsx,hkx⟩:=f4 hpx
 have hem:∀ j m d',(ac9 sc).get j=some (m,d')->False:=λ j m d' q=>by rw [an9] at q;cases q
 refine bp9 G ho hd hcr fs hco hgen rm hb g0 stk (λ Q E hQ=>?_) (?_) hbody hex λ v s' q=>⟨v,rfl,q⟩
 ·rw [hbind (.ref a :: vs) (congrArg (·+1) (by rw [r2.length,hl2,as9 hp]))]
  refine wpAny_pure (hQ _ s B g0 (.refl s) λ env A E s2 Q ek S old hown hle hQ2=>?_)
  rw [List.zip_cons_cons,List.forIn_cons]
  have hna:¬ isOwn env sc a:=λ q=>hae (hown _ q)
  have t2:f8 prog w s2.heap B dp (.ref a):=tp.off (X:=λ b=>b≠a) (λ b o q e=>old b o e) (.refl _) λ b q e=>by cases e;exact q rfl
  have p2:v8 s2.heap a:=λ o q=>by
   cases e1:s.heap.get? a with
   | none=>exact absurd e1 hae
   | some o'=>rw [old a o' e1] at q;cases q;exact hpa _ e1
  refine wpAny_bind (wpAny_bind (Sim.put (s:=s2) (m0:=.own) S ek hsx hkx t2 (λ q=>by cases q) (λ b q e=>by cases e;exact q.elim hna id) (λ ξ=>⟨a,rfl,hz,hBa,p2⟩)
   (λ y j m1 d' b q1 q2 q3=>(hem j m1 d' q3).elim) (λ ξ y j m' d' q1 q2 q3=>(hem j m' d' q3).elim) λ h3 tk3 b3 htk3 hob hsb S3 hoth hax=>wpAny_pure ?_))
  rw [<- List.append_nil (xs.zip vs)]
  refine ba8 (s:={ s2 with heap:=h3,toks:=tk3 }) (rest:=[]) hp ek S3 r2 hl2 λ h4 tk4 htk4 S4=>?_
  rw [List.forIn_nil]
  have hx:=Nat.le_trans htk3 htk4
  exact wpAny_pure (hQ2 h4 tk4 hx (Nat.lt_of_lt_of_le ht (Nat.le_trans hle hx)) S4)
 ·intro j d' q
  have q1:=(ag0 is ds _ j _ d' hl2 q (by simp)).1
  rw [g9] at q1
  split at q1
  ·rename_i hc;exact ⟨x,hc.1▸hsx⟩
  ·exact (hem j _ d' q1).elim
theorem cx2 {x:Str} {f:String} {e:PySem.Expr} {es:List PySem.Expr} {ir:IR} {qd:List IR} {p pos:Pos} (G:Glb qa mg mb) (hF:cs9 w qa mg k f (U f)) (hx:i5 sc x=true) (hf:Str.ofString f=x) (hne:j9 e=true) (hfr:bt0 w qa k U sc e ir)
  (hn:es.all j9=true) (h:b8 (j3 w qa k U sc) es qd):j3 w qa k U sc (.Call (.Name x p) (e :: es) [] pos) (.call f (ir :: qd)):=λ A E s env r B d ok hd=>by
 obtain ⟨ds,h1,hd⟩:=a6 hd
 obtain ⟨dp,hp,h1⟩:=a6 h1
 obtain ⟨dt,h2,h1⟩:=a6 h1
 cases h1
 obtain ⟨fa,o,fd,hm,ho,hfd,hc⟩:=hF
 subst hf
 refine Call_ (ak7 G ok hx hm ?_)
 refine callWith_def (o:=o) (fd:=fd) hfd ?_ (d6 hne)
 rw [d6 hne,l0]
 refine spliced_cons (wpAny_mono (hfr ok hp) (λ v s2 q=>?_) λ ξ ξ e=>e)
 obtain ⟨B2,a,rfl,g2,hna,hBa,tp,m2,hpa⟩:=q
 refine au1 h hn (ok.step g2 m2) h2 λ vs s3 B3 g3 m3 r3 ok3=>⟨ok3.old _ _ ho,?_⟩
 refine wpAny_call (codeAny_mono (hc ok.rm ok.stk (g2.trans g3) ok.base ok3.toks r3 (tp.mono g3.old g3.le) (dh3 g3 hBa (n9 tp g2.keep)) hna (hpa.keeps g3.old (bl6 tp g2.keep)) hd) λ r' s4 q=>?_)
 obtain ⟨v,rfl,B4,g4,m4,q⟩:=q
 exact ch1 ⟨B4,g4,(m2.trans m3).trans m4,q⟩
end
end
section
end
section
end
section
open PySem.Calls PySem.SeqAt
section
variable {w:World} {qa:Heap} {mg mb:Str->Option Value} {k:Nat} {U:String->List D->Option D} {qc:String->Bool} {sc:Scope}
theorem em8 {f:String} {sp:List D->Option D} {name:Str} {params:Arguments} {body:List Stmt} {pm cd doc:Value} {fa:Addr} {o:Obj} {x y:Str} {i j:Nat} {F:Rho->Option (Fl×Rho)} (G:Glb qa mg mb)
  (hm:mg (Str.ofString f)=some (.ref fa)) (ho:qa.get? fa=some o) (hd:o.data = .func (docDef name params body sc pm cd doc)) (hcr:qa.CodeRec cd name) (fs:FnS sc) (hco:sc.isCoroutine=false) (hgen:sc.isGenerator=false)
  (hbind:∀ (v:Value) (vs:List Value),bindArgs (docDef name params body sc pm cd doc) ⟨v :: vs,[]⟩=(do let t <- newTuple vs;pure [(x,v),(y,t)])) (hx:j5 sc x=some i) (hy:j5 sc y=some j) (hbody:ca9 prog w qa k sc (PySem.execs body) F)
  (hsp:∀ ds d,sp ds=some d->∃ e es,ds=e :: es/\sz es.length=true/\∃ b r',F (((ac9 sc).set i (some (.fr,e))).set j (some (.fr,.tuple es)))=some (.ret b d,r')):ad6 w qa mg (k+1) f sp:=by
 refine ⟨fa,o,_,hm,ho,hd,λ A s B vs ds d rm stk kp hb ht r h=>?_⟩
 obtain ⟨e,es,rfl,hz,bb,r',hex⟩:=hsp ds d h
 obtain ⟨v,vs,rfl,rv,r⟩:=r
 refine bp9 G ho hd hcr fs hco hgen rm hb (Gr.refl kp) stk (λ Q E hQ=>?_) (λ l d' q=>?_) hbody hex λ v s' q=>⟨v,rfl,ch1 q⟩
 ·rw [hbind]
  refine wpAny_bind (wpAny_newObj_type ?_ (r.size_le hz))
  obtain ⟨B',g,rt,m⟩:=(FrP.tuple (s:=s) (k:=s.toks) (n:=0) kp (Nat.le_refl _) r).ev
  refine wpAny_pure (hQ _ { s with heap:=s.heap.push _ } B' g m λ env A E s2 Q ek S old ξ hle hQ2=>?_)
  obtain ⟨hs,hk⟩:=f4 hx
  obtain ⟨hs2,hk2⟩:=f4 hy
  rw [List.forIn_cons]
  refine wpAny_bind (wpAny_bind (S.store ek hs hk (rv.mono g.le) λ h1 tk1 a1 ht1 ξ ξ S1 ξ=>wpAny_pure ?_))
  dsimp only
  rw [List.forIn_cons]
  refine wpAny_bind (wpAny_bind (S1.store (s:={ s2 with heap:=h1,toks:=tk1 }) ek hs2 hk2 rt λ h2 tk2 a2 ht2 ξ ξ S2 ξ=>wpAny_pure ?_))
  dsimp only
  rw [List.forIn_nil]
  have htk:=Nat.le_trans ht1 ht2
  exact wpAny_pure (hQ2 h2 tk2 htk (Nat.lt_of_lt_of_le ht (Nat.le_trans hle htk)) S2)
 ·have:=(an1 (an1 q nofun).1 nofun).1
  rw [an9] at this;cases this
end
end
section
open PySem.Calls PySem.SeqAt
inductive ex5 (Z:Addr->Prop) (h:Heap) (e:Addr) (vs:Array Value) (f:Value):Prop
 | mk (T oT ts:_) (h1:vs[1]?=some (.ref T)) (h2:T≠e) (h3:Z T) (h4:h.get? T=some oT) (h5:oT.data = .fields ts) (h6:ts[3]?=some f)
noncomputable def ej4 (Z:Addr->Prop) (h:Heap) (e:Addr) (vs:Array Value):Option Value->Prop
 | none=>vs[1]?=some .none
 | some f=>ex5 Z h e vs f
inductive ag5 (Z:Addr->Prop) (h:Heap) (e:Addr) (c:Value) (fl:Option Value):Prop
 | mk (h1:Z e) (oe vs:_) (h2:h.get? e=some oe) (h3:oe.cls = .type "IndexError") (h4:oe.data = .fields vs) (h5:vs[2]?=some c) (h6:ej4 Z h e vs fl)
theorem ag5.keeps {Z Z':Addr->Prop} {h h':Heap} {e:Addr} {c:Value} {fl:Option Value} (x:ag5 Z h e c fl) (hz:∀ a,Z a->Z' a) (k:∀ a o,Z a->h.get? a=some o->(∃ vs,o.data = .fields vs)->h'.get? a=some o):ag5 Z' h' e c fl:=by
 obtain ⟨z,oe,vs,h1,h2,h3,h4,h5⟩:=x
 refine ⟨hz _ z,oe,vs,k _ _ z h1 ⟨_,h3⟩,h2,h3,h4,?_⟩
 cases fl with
 | none=>exact h5
 | some f=>
  obtain ⟨T,oT,ts,q1,q2,q3,q4,q5,q6⟩:=h5
  exact ⟨T,oT,ts,q1,q2,hz _ q3,k _ _ q3 q4 ⟨_,q5⟩,q5,q6⟩
theorem ag5.old {Z:Addr->Prop} {h h':Heap} {e:Addr} {c:Value} {fl:Option Value} (x:ag5 Z h e c fl) (k:Old h h'):ag5 Z h' e c fl:=
 x.keeps (λ ξ q=>q) λ a o ξ q d=>let ⟨_,d⟩:=d;k.solid q (.fields d)
section
variable {α:Type} {w:World} {A:Around} {E:Value->Shared->Prop} {s:Shared}
structure es7 (h h':Heap) (e:Addr) (c:Value):Prop where
 keeps:∀ b o,h.get? b=some o->h'.get? b=some o
 new:h.get? e=none
 there:∃ ob t,h'.get? e=some ob/\ob.cls = .type "IndexError"/\ob.data = .fields #[t,.none,c,.none,.bool false,.none]
theorem bz0:entryFor table "proto.unchain"=some Builtin.«proto.unchain»:=entryFor_of_tree (by kernel_rfl)
theorem cl9 {msg:String} {Q:α->Shared->Prop} {c:Value} (hh:(A.handled=none/\c = .none)\/∃ h1 o1 vs1,A.handled=some (.ref h1)/\c = .ref h1/\s.heap.get? h1=some o1/\o1.data = .fields vs1/\vs1[2]?=some .none)
  (h:∀ h' tk e,s.toks<=tk->es7 s.heap h' e c->E (.ref e) { s with heap:=h',toks:=tk }) :
  wpAny (model prog w) A (raiseErrorWords "IndexError" msg:Sem α) Q E s:=by
 have hp:=plainExc_IndexError
 unfold raiseErrorWords
 refine wpAny_bind (wpAny_mkText (wpAny_bind ?_))
 unfold newExc newTuple
 refine wpAny_bind (wpAny_newObj_type ?_)
 refine wpAny_bind (m:=firstArgMember _ _) (wpAny_of_eq (a:=Value.none) (by simp only [firstArgMember,hp.first];rfl) ?_)
 rw [hp.own]
 refine wpAny_newObj_type ?_
 unfold raiseNew
 refine wpAny_bind (wpAny_handled ?_)
 rcases hh with ⟨hh,rfl⟩ | ⟨h1,o1,vs1,hh,rfl,ho,hd,h2⟩
 ·rw [hh]
  first
   | refine wpAny_throw ?_
   | refine wpAny_bind (wpAny_pure (wpAny_throw ?_))
  exact h _ _ _ (by simp) ⟨λ b o hb=>Heap.get?_push_of_some _ (Heap.get?_push_of_some _ hb),Heap.get?_none_of_le (by simp),_,.ref s.heap.objs.size,Heap.get?_push_size _ rfl,rfl,by simp⟩
 ·rw [hh]
  dsimp only
  have k2:∀ (a b:Obj) {c:Addr} {o:Obj},s.heap.get? c=some o->((s.heap.push a).push b).get? c=some o:=λ a b c o hb=>Heap.get?_push_of_some _ (Heap.get?_push_of_some _ hb)
  have hlt:=Heap.lt_size ho
  have hsz:∀ o:Obj,(s.heap.push o).objs.size=s.heap.objs.size+1:=λ o=>by simp
  have hne:¬ Value.ref h1=Value.ref (s.heap.push { cls:=Value.type "tuple",data:=Data.seq #[Value.str (Str.ofString msg) s.toks] }).objs.size:=by
   rw [hsz];intro q;injection q with q;exact absurd (q▸hlt:s.heap.objs.size+1 < s.heap.objs.size) (by lia)
  rw [if_pos (by rw [bne_iff_ne];exact hne)]
  refine wpAny_bind (wpAny_holding (wpAny_runValue (codeAny_builtin bz0 ?_)))
  unfold Builtin.«proto.unchain»
  dsimp only
  refine wpAny_bind (wpAny_field (k2 _ _ ho) hd h2 ?_)
  rw [if_pos (show (Value.none == Value.none)=true from rfl)]
  refine wpAny_pure ?_
  dsimp only
  have he:∀ (a b:Obj),b.isFreed=false->((s.heap.push a).push b).get? (s.heap.push a).objs.size=some b:=λ a b q=>Heap.get?_push_size _ q
  unfold updateField
  refine wpAny_bind (wpAny_bind (wpAny_load (he _ _ rfl) ?_))
  dsimp only
  rw [if_pos (by simp)]
  refine wpAny_update (he _ _ rfl) (wpAny_throw ?_)
  refine h _ _ _ (by simp) ⟨λ b o hb=>?_,Heap.get?_none_of_le (by simp),_,.ref s.heap.objs.size,Heap.get?_update_self _ (he _ _ rfl) rfl,rfl,by simp [Obj.mapFields]⟩
  rw [Heap.get?_update_other _ _ (by rw [hsz];exact Nat.ne_of_gt (Nat.lt_succ_of_lt (Heap.lt_size hb)))]
  exact k2 _ _ hb
end
section
variable {w:World} {A:Around} {E:Value->Shared->Prop} {s:Shared}
theorem de9 {B:FM} {h:Heap}:∀ {l:List Env},br4 B h l->h.FunFrames {} l
 | [],_=>trivial
 | e :: l,x=>by
  obtain ⟨k,f,o,es,ep,q1,q2,q3,q4,q5⟩:=x e (by simp)
  exact ⟨k,⟨f,o,q1,by first | rfl | (simp [Heap.get?]),q2,λ vs q=>by rw [q3] at q;cases q⟩,de9 λ e' he=>x e' (by simp [he])⟩
theorem eb7 {B:FM} {h h':Heap} {l:List Env} (x:br4 B h l) (kp:j4 B h) (q:Heap.SlotsOnly (l.filterMap (·.frame)) h h'):Gr B h B h':=by
 have mem:∀ b,b∈l.filterMap (·.frame)->∃ o es ep,h.get? b=some o/\o.data = .dict es ep/\o.cls≠.type "dict"/\B b=none:=λ b hb=>by
  obtain ⟨e,he,hf⟩:=List.mem_filterMap.mp hb
  obtain ⟨k,f,o,es,ep,q1,q2,q3,q4,q5⟩:=x e he
  rw [q1] at hf;cases hf
  exact ⟨o,es,ep,q2,q3,q4,q5⟩
 refine ⟨.refl _,λ a o e=>?_,λ a o e=>?_,λ a o e=>.inl e⟩
 ·by_cases m:a∈l.filterMap (·.frame)
  ·obtain ⟨o',es,ep,q1,q2,q3,_⟩:=mem a m
   rw [e] at q1;cases q1
   obtain ⟨sl,q4⟩:=q.2.2 a o e
   exact .inr ⟨⟨es,ep,q2⟩,q3,sl,q4⟩
  ·exact .inl ((q.2.1 a m).trans e)
 ·have e1:=kp a o e
  by_cases m:a∈l.filterMap (·.frame)
  ·obtain ⟨o',es,ep,_,_,_,q4⟩:=mem a m
   rw [q4] at e;cases e
  ·exact (q.2.1 a m).trans e1
theorem cl6 {env e0:Env} {outer:List Env} {L:Addr} {Q:Value->Shared->Prop} (hfr:A.frames=some (e0 :: outer)) (hl:s.heap.FunFrames {} (e0 :: outer))
  (hf0:e0.frame=some L) (hf:env.frame=some L) (h:∀ h',Heap.SlotsOnly ((e0 :: outer).filterMap (·.frame)) s.heap h'->Q (.ref L) { s with heap:=h' }):wpAny (model prog w) A (PySem.frameOf env) Q E s:=by
 unfold PySem.frameOf
 refine wpAny_bind (wpAny_frameEnvs hfr ?_)
 have hdw:((e0 :: outer).dropWhile λ x=>x.frame != env.frame)=e0 :: outer:=by simp [List.dropWhile,hf0,hf]
 rw [hdw]
 unfold frameObject
 refine wpAny_bind (wpAny_bind (wpAny_readyFrames_fun hl λ h₁ hs₁=>wpAny_pure ?_))
 rw [hf0]
 exact wpAny_pure (h h₁ hs₁)
end
section
variable {w:World} {h0:Heap} {B0:FM} {env:Env} {sc:Scope} {r:Rho} {B:FM} {Z:Addr->Prop} {s:Shared} {A:Around} {E:Value->Shared->Prop}
theorem co9 {e:Addr} {c:Value} {Q:Unit->Shared->Prop} (fa:FrA A env B0 h0) (S:Sim prog w h0 B0 env sc r B Z s.heap) (x:ag5 Z s.heap e c none)
  (h:∀ h' Z',Sim prog w h0 B0 env sc r B Z' h'->ag5 Z' h' e c (some (rawInt env.locals))->Q () { s with heap:=h' }):wpAny (model prog w) A (noteFrame (.ref e) env) Q E s:=by
 obtain ⟨hf,e0,l,e1,e2,e3,e4⟩:=id fa
 obtain ⟨l',q1,q2⟩:=fa.stk S
 rw [e1] at q1;cases q1
 obtain ⟨z,oe,vs,h1,h2,h3,h4,h5⟩:=x
 unfold noteFrame
 simp only [hf]
 refine wpAny_bind (wpAny_field h1 h3 h5 ?_)
 rw [if_neg (by decide)]
 refine wpAny_bind (cl6 e1 (de9 q2) e3 hf λ hh hs=>?_)
 have g1:=eb7 q2 S.gr.keep hs
 have S1:=S.ev g1
 have h1':=g1.old.solid h1 (.fields h3)
 refine wpAny_bind (wpAny_entryPlaceOf λ pl hpl=>?_)
 unfold EntryCells.newEntry newFields
 refine wpAny_bind (wpAny_newObj_type ?_ (hpl.sizeOk5 _ _ _ _ _))
 generalize hoT:({ cls:=.type "traceback",dict:=none,data:=.fields ([Value.none,.ref env.locals,.none,rawInt env.locals,.none] ++ (if pl.isEmpty then List.replicate 6 Value.none else pl)).toArray }:Obj)=oT
 have hTd:∃ ts:Array Value,oT.data = .fields ts/\ts[3]?=some (rawInt env.locals):=by
  subst hoT
  exact ⟨_,rfl,by rcases hpl with rfl | ⟨_,_,_,_,_,_,_,rfl⟩ <;> simp⟩
 obtain ⟨ts,hT1,hT2⟩:=hTd
 have h1'':=Heap.get?_push_of_some (h:=hh) oT h1'
 have hT:=Heap.get?_push_size hh (o:=oT) (Obj.isFreed_of_fields hT1)
 have hsz:1 < vs.size:=(Array.getElem?_eq_some_iff.mp h5).1
 refine wpAny_setField h1'' h3 hsz ?_
 have hTe:hh.objs.size≠e:=Nat.ne_of_gt (Heap.lt_size h1')
 have hd3:=Obj.data_mapFields h3 (·.setIfInBounds 1 (Value.ref hh.objs.size))
 have he3:=Heap.get?_update_self (Obj.mapFields (·.setIfInBounds 1 (Value.ref hh.objs.size))) h1'' (Obj.isFreed_of_fields hd3)
 have hT3:=(Heap.get?_update_other (hh.push oT) (Obj.mapFields (·.setIfInBounds 1 (Value.ref hh.objs.size))) (Ne.symm hTe)).trans hT
 have gp:Gr B hh B (hh.push oT):=Gr.heap S1.gr.keep λ a o q=>Heap.get?_push_of_some _ q
 have hBn:B hh.objs.size=none:=by
  cases q:B hh.objs.size with
  | none=>rfl
  | some o=>exact absurd (Heap.lt_size (S1.gr.keep _ _ q)) (Nat.lt_irrefl _)
 have S2:=S1.addY (Y':=λ a=>a=hh.objs.size) gp λ a q=>by subst q;exact ⟨g8 (Nat.le_refl _),hBn,by rw [hT];simp⟩
 have other:∀ b,b≠e->((hh.push oT).update e (Obj.mapFields (·.setIfInBounds 1 (Value.ref hh.objs.size)))).get? b=(hh.push oT).get? b:=λ b q=>Heap.get?_update_other _ _ (Ne.symm q)
 have S3:=S2.off (h':=(hh.push oT).update e (Obj.mapFields (·.setIfInBounds 1 (Value.ref hh.objs.size)))) (λ b o hb e'=>by
   rw [other b (λ q=>hb (.inl (q▸z)))];exact e') (λ b hb=>by
   by_cases q:b=e
   ·subst q;rw [he3];simp
   ·rw [other b q];exact (S2.y0 b hb).2.2)
 refine h _ _ S3 ⟨.inl z,_,_,he3,?_,hd3,?_,hh.objs.size,oT,ts,?_,hTe,.inr rfl,hT3,hT1,hT2⟩
 ·rw [Obj.cls_mapFields];exact h2
 ·rw [Array.getElem?_setIfInBounds_ne (by decide)];exact h4
 ·simp [hsz]
theorem ao8 {e:Addr} {c:Value} {Q:Unit->Shared->Prop} (hf:env.frame=some env.locals) (x:ag5 Z s.heap e c (some (rawInt env.locals))) (h:Q () s):wpAny (model prog w) A (noteFrame (.ref e) env) Q E s:=by
 obtain ⟨z,oe,vs,h1,h2,h3,h4,T,oT,ts,q1,q2,q3,q4,q5,q6⟩:=x
 exact wpAny_noteFrame_inFlight hf h1 h3 q1 q4 q5 q6 h
theorem an6 {e:Addr} {c fl:Value} {fr:Option Addr} {Q:Unit->Shared->Prop} (S:Sim prog w h0 B0 env sc r B Z s.heap) (x:ag5 Z s.heap e c (some fl))
  (h:∀ h',Sim prog w h0 B0 env sc r B Z h'->ag5 Z h' e c (some (fr.elim .none λ f=>rawInt f))->Q () { s with heap:=h' }):wpAny (model prog w) A (setFlight (.ref e) fr) Q E s:=by
 obtain ⟨z,oe,vs,h1,h2,h3,h4,T,oT,ts,q1,q2,q3,q4,q5,q6⟩:=x
 unfold setFlight
 refine wpAny_bind (wpAny_field h1 h3 q1 ?_)
 rw [if_pos (show (Value.ref T != Value.none)=true from by simp)]
 have hsz:3 < ts.size:=(Array.getElem?_eq_some_iff.mp q6).1
 refine wpAny_setField q4 q5 hsz ?_
 have hd:=Obj.data_mapFields q5 (·.setIfInBounds 3 (fr.elim Value.none λ f=>rawInt f))
 have hT:=Heap.get?_update_self (Obj.mapFields (·.setIfInBounds 3 (fr.elim Value.none λ f=>rawInt f))) q4 (Obj.isFreed_of_fields hd)
 have other:∀ b,b≠T->(s.heap.update T (Obj.mapFields (·.setIfInBounds 3 (fr.elim Value.none λ f=>rawInt f)))).get? b=s.heap.get? b:=λ b q=>Heap.get?_update_other _ _ (Ne.symm q)
 refine h _ (S.off (λ b o hb e'=>by rw [other b (λ q=>hb (q▸q3))];exact e') λ b hb=>?_) ⟨z,oe,vs,(other e (Ne.symm q2)).trans h1,h2,h3,h4,T,_,_,q1,q2,q3,hT,hd,by simp [hsz]⟩
 by_cases q:b=T
 ·subst q;rw [hT];simp
 ·rw [other b q];exact (S.y0 b hb).2.2
theorem bh3 {e:Addr} {c fl:Value} (hf:env.frame=some env.locals) (S:Sim prog w h0 B0 env sc r B Z s.heap) (x:ag5 Z s.heap e c (some fl))
  (h:∀ h',Sim prog w h0 B0 env sc r B Z h'->ag5 Z h' e c (some (rawInt env.locals))->E (.ref e) { s with heap:=h' }):cameBackBy (model prog w) A env E (.ref e) s:=by
 unfold cameBackBy
 obtain ⟨z,oe,vs,h1,h2,h3,h4,T,oT,ts,q1,q2,q3,q4,q5,q6⟩:=id x
 refine wpAny_bind (wpAny_field h1 h3 q1 ?_)
 rw [if_neg (by simp)]
 rw [hf]
 exact an6 S x h
theorem ej2 {α:Type} {what:String} {e:Addr} {c fl:Value} {Q:α->Shared->Prop} (hf:env.frame=some env.locals) (S:Sim prog w h0 B0 env sc r B Z s.heap) (x:ag5 Z s.heap e c (some fl))
  (h:∀ h',Sim prog w h0 B0 env sc r B Z h'->ag5 Z h' e c (some (rawInt env.locals))->E (.ref e) { s with heap:=h' }):wpAny (model prog w) A (PySem.passOn what (.ref e) env:Sem α) Q E s:=by
 unfold PySem.passOn
 obtain ⟨z,oe,vs,h1,h2,h3,h4,T,oT,ts,q1,q2,q3,q4,q5,q6⟩:=id x
 refine wpAny_bind (wpAny_field h1 h3 q1 ?_)
 rw [if_neg (by simp)]
 rw [hf]
 exact wpAny_bind (an6 S x λ h' S' x'=>wpAny_throw (h h' S' x'))
end
end
section
open PySem.Calls PySem.SeqAt
section
variable (prog:Program) (w:World) (h0:Heap) (B0:FM) (env:Env) (sc:Scope)
noncomputable def HdX (Z:Addr->Prop) (h:Heap):Option (Addr×Option Value)->Prop
 | none=>True
 | some (e,fl)=>ag5 Z h e .none fl
noncomputable def HdA (A:Around):Option (Addr×Option Value)->Prop
 | none=>A.handled=none
 | some (e,_)=>A.handled=some (.ref e)
noncomputable def cq8:Option (Addr×Option Value)->Value
 | none=>.none
 | some (e,_)=>.ref e
inductive SX (r:Rho) (x:Option (Addr×Option Value)) (s0 s:Shared):Prop
 | mk (B Z:_) (h1:Sim prog w h0 B0 env sc r B Z s.heap) (h2:k6 s0 s) (h3:HdX Z s.heap x)
inductive XE (r:Rho) (c:Value) (fl:Option Value) (s0:Shared) (v:Value) (s:Shared):Prop
 | mk (e B Z:_) (h1:v = .ref e) (h2:Sim prog w h0 B0 env sc r B Z s.heap) (h3:k6 s0 s) (h4:ag5 Z s.heap e c fl)
end
theorem FrA.own {A:Around} {env:Env} {B0:FM} {h0:Heap} (x:FrA A env B0 h0):env.frame=some env.locals:=let ⟨h,_,_,_,_,_,_⟩:=x;h
section
variable {w:World} {h0:Heap} {B0:FM} {env:Env} {sc:Scope} {r:Rho} {B:FM} {Z:Addr->Prop} {s:Shared} {A:Around} {E:Value->Shared->Prop} {x:Option (Addr×Option Value)}
theorem HdX.keeps {Z':Addr->Prop} {h h':Heap} (q:HdX Z h x) (hz:∀ a,Z a->Z' a) (k:∀ a o,Z a->h.get? a=some o->(∃ vs,o.data = .fields vs)->h'.get? a=some o):HdX Z' h' x:=by
 cases x with
 | none=>trivial
 | some p=>exact ag5.keeps q hz k
theorem HdX.old {h h':Heap} (q:HdX Z h x) (k:Old h h'):HdX Z h' x:=q.keeps (λ ξ e=>e) λ a o ξ e d=>let ⟨_,d⟩:=d;k.solid e (.fields d)
theorem SX.after {s0 s1 s2:Shared} (m:k6 s0 s1) (q:SX prog w h0 B0 env sc r x s1 s2):SX prog w h0 B0 env sc r x s0 s2:=let ⟨B,Z,S,m',h⟩:=q;⟨B,Z,S,m.trans m',h⟩
theorem XE.after {s0 s1 s2:Shared} {c:Value} {fl:Option Value} {v:Value} (m:k6 s0 s1) (q:XE prog w h0 B0 env sc r c fl s1 v s2):XE prog w h0 B0 env sc r c fl s0 v s2:=let ⟨e,B,Z,hv,S,m',h⟩:=q;⟨e,B,Z,hv,S,m.trans m',h⟩
theorem bo7 {α:Type} {msg:String} {Q:α->Shared->Prop} (S:Sim prog w h0 B0 env sc r B Z s.heap) (hx:HdX Z s.heap x) (hA:HdA A x) (h:∀ v s',XE prog w h0 B0 env sc r (cq8 x) none s v s'->E v s') :
  wpAny (model prog w) A (raiseErrorWords "IndexError" msg:Sem α) Q E s:=by
 have key:∀ h' tk e,s.toks<=tk->es7 s.heap h' e (cq8 x)->E (.ref e) { s with heap:=h',toks:=tk }:=λ h' tk e htk n=>by
  obtain ⟨ob,t,q1,q2,q3⟩:=n.there
  have g:Gr B s.heap B h':=Gr.heap S.gr.keep n.keeps
  have hBn:B e=none:=by
   cases q:B e with
   | none=>rfl
   | some o=>have:=S.gr.keep _ _ q;rw [n.new] at this;cases this
  have S2:=S.addY (Y':=λ a=>a=e) g λ a q=>by subst q;exact ⟨n.new,hBn,by rw [q1];simp⟩
  exact h _ _ ⟨e,_,_,rfl,S2,⟨rfl,rfl,htk⟩,.inr rfl,_,_,q1,q2,q3,by simp,by simp [ej4]⟩
 refine cl9 ?_ key
 cases x with
 | none=>exact .inl ⟨hA,rfl⟩
 | some p=>
  obtain ⟨z,oe,vs,h1,h2,h3,h4,_⟩:=hx
  exact .inr ⟨p.1,oe,vs,hA,rfl,h1,h3,h4⟩
theorem ci8 {l:Addr} {e9:Array Value} {n:Nat} {k:Int} {t:Tok} {Q:Value->Shared->Prop} (S:Sim prog w h0 B0 env sc r B Z s.heap) (hx:HdX Z s.heap x) (hA:HdA A x) (hl:s.heap.IsList l e9)
  (hk:k=(n:Int)) (hout:e9.size<=n) (hhi:n < 2 ^ 63) (hE:∀ v s',XE prog w h0 B0 env sc r (cq8 x) none s v s'->E v s') :
  wpAny (model prog w) A (getItem (.ref l) (.int k t)) Q E s:=by
 obtain ⟨o,ho,hc,ne,hd⟩:=id hl
 unfold getItem
 try with_reducible refine wpAny_holding ?_
 first | refine wpAny_bind (wpAny_pure ?_) | skip
 refine wpAny_bind (wpAny_sequenceKey hl.typeIs (by decide) ?_)
 refine wpAny_bind (wpAny_callSpecial?_slot (name:=Str.ofString "__getitem__") hl.typeIs slot_list_getitem
  (wpAny_call_entry slot_list_getitem hl.typeIs entry_list_getitem ?_ (args_list_getitem _ _)))
 show wpAny _ _ (Builtin.List.listSubscript? (.int k t) >>= _) _ _ s
 have fits:=fitsIndex_both (k:=k) (by lia) (by lia)
 clear hhi
 refine wpAny_bind (wpAny_listSubscript_int fits ?_)
 clear fits
 subst hk
 have hx':e9[n]?=none:=Array.getElem?_eq_none hout
 show wpAny _ _ ((seqItemAt l n >>= λ r=>pure (r.map (n,·))) >>= _) _ _ s
 refine wpAny_bind (wpAny_bind (wpAny_seqItemAt ho hd (wpAny_pure ?_)))
 rw [hx']
 first
  | exact wpAny_bind (wpAny_rule (bo7 S hx hA hE))
  | exact wpAny_bind (wpAny_rule (wpAny_bind (bo7 S hx hA hE)))
  | exact wpAny_bind (wpAny_bind (wpAny_rule (bo7 S hx hA hE)))
  | exact wpAny_rule (bo7 S hx hA hE)
theorem ek2 {xn yn:Str} {ix iy:Nat} {px py pos:Pos} {X:List D} {n:Nat} {Q:Value->Shared->Prop} (ek:j6 env sc) (S:Sim prog w h0 B0 env sc r B Z s.heap) (hx:HdX Z s.heap x) (hA:HdA A x)
  (s1:d8 sc xn=some ix) (s2:d8 sc yn=some iy) (r1:r.get ix=some (.fr,.list X)) (r2:r.get iy=some (.fr,.int n)) (hn:n < 1152921504606846976)
  (h1:∀ d v,X[n]?=some d->Rd prog w B d v->Q v s) (h2:X.length<=n->∀ v s',XE prog w h0 B0 env sc r (cq8 x) none s v s'->E v s') :
  wpAny (model prog w) A (PySem.eval (.Subscript (.Name xn px) (.Name yn py) pos) env) Q E s:=by
 obtain ⟨v1,a1,t1,f1,_⟩:=S.vars xn ix _ _ s1 r1
 obtain ⟨v2,a2,t2,f2,_⟩:=S.vars yn iy _ _ s2 r2
 refine Subscript_ (a1.load ek.kind (i9 s1) (a2.load ek.kind (i9 s2) ?_))
 obtain ⟨l,o,vs,rfl,ho,hs,hr⟩:=t1
 obtain ⟨t,ht,rfl⟩:=t2
 refine ah8 (hs.isList ho).typeIs slot_list_getitem.lookup ?_
 by_cases hlt:n < X.length
 ·obtain ⟨d,e⟩:∃ d,X[n]?=some d:=⟨_,List.getElem?_eq_getElem hlt⟩
  obtain ⟨v,e',hv⟩:=hr.get e
  exact wpAny_getItem_list (hs.isList ho) (by lia) (by lia) (by simpa using e') (h1 d v e hv)
 ·exact ci8 S hx hA (hs.isList ho) rfl (by have:=hr.length;simp;lia) (by exact Nat.le_trans ‹_› (Nat.le_of_ble_eq_true rfl)) (h2 (by exact Nat.not_lt.mp ‹_›))
theorem ek7 {xn:Str} {ix:Nat} {p p2 pos:Pos} {kd:Nat} {n:Int} {Q:Flow->Shared->Prop} (ek:j6 env sc) (S:Sim prog w h0 B0 env sc r B Z s.heap) (hx:HdX Z s.heap x)
  (hw:j5 sc xn=some ix) (hr:r.get ix=some (.fr,.int n)) (h:∀ s',SX prog w h0 B0 env sc (r.set ix (some (.fr,.int (n+1)))) x s s'->Q .next s') :
  wpAny (model prog w) A (PySem.exec (.AugAssign (.Name xn p) .Add (.Constant (.int 1) kd p2) pos) env) Q E s:=by
 obtain ⟨hs,hxl⟩:=f4 hw
 obtain ⟨u,a0,t0,f0,_⟩:=S.vars xn ix _ _ hs hr
 obtain ⟨t,_,rfl⟩:=t0
 refine wpAny_AugAssign_Name (a0.loadName ek.kind (i9 hs) ?_)
 refine wpAny_Constant_int ?_
 refine wpAny_iadd_int ?_
 have S1:Sim prog w h0 B0 env sc r B Z ({ s with toks:=s.toks+1+1 }:Shared).heap:=S
 refine S1.store (s:={ s with toks:=s.toks+1+1 }) ek hs hxl (d:=.int (n+1)) (ax1.mpr ⟨_,trivial,rfl⟩) λ h' tk a htk hob hsb S4 hoth=>?_
 refine h _ ⟨B,Z,S4,⟨rfl,rfl,by simp at htk ⊢;lia⟩,hx.keeps (λ ξ q=>q) λ b o zb e ξ=>(hsb.2 b (λ q=>S.yown a hob (q▸zb))).trans e⟩
theorem eg1 {xn yn en:Str} {ix iy ie:Nat} {p1 p2 p3 p4 p5 pos:Pos} {body:List Stmt} {X:List D} {n:Nat} {y:Str} {Q:Flow->Shared->Prop} (ek:j6 env sc) (fa:FrA A env B0 h0) (S:Sim prog w h0 B0 env sc r B Z s.heap) (hx:HdX Z s.heap x) (hA:HdA A x)
  (s1:d8 sc xn=some ix) (s2:d8 sc yn=some iy) (s3:d8 sc en=some ie) (r1:r.get ix=some (.fr,.list X)) (r2:r.get iy=some (.fr,.int n)) (r3:r.get ie=some (.fr,.str y)) (hn:n < 1152921504606846976)
  (hd:∀ d,X[n]?=some d->∃ z,d = .str z/\z≠y)
  (h1:n < X.length->Q .next s) (h2:X.length<=n->∀ v s',XE prog w h0 B0 env sc r (cq8 x) (some (rawInt env.locals)) s v s'->E v s') :
  wpAny (model prog w) A (PySem.exec (.While (.Compare (.Subscript (.Name xn p1) (.Name yn p2) p3) [.Eq] [.Name en p4] p5) body [] pos) env) Q E s:=by
 refine wpAny_While (codeAny_whileLoop (λ ξ sq=>sq=s) (λ ξ sq e=>?_) 0 rfl)
 subst e
 refine wpAny_isTrue_Compare1 (ek2 ek S hx hA s1 s2 r1 r2 hn (λ d v e hv=>?_) λ qf v s' q=>?_) rfl
 ·obtain ⟨z,rfl,hz⟩:=hd d e
  obtain ⟨v3,a3,t3,_⟩:=S.vars en ie _ _ s3 r3
  refine a3.load ek.kind (i9 s3) ?_
  obtain ⟨t,_,rfl⟩:=hv
  obtain ⟨u,_,rfl⟩:=t3
  refine P.eq_str ?_
  rw [dp7,show (z == y)=false by simpa using hz]
  refine wpAny_truthy_bool ?_
  exact wpAny_execs_nil (h1 (List.getElem?_eq_some_iff.mp e).1)
 ·obtain ⟨e,B',Z',rfl,S',m,xx⟩:=q
  refine co9 fa S' xx λ h' Z'' S'' xx'=>?_
  refine bh3 fa.own S'' xx' λ h3 S3 xx3=>?_
  exact h2 qf _ _ ⟨e,B',Z'',rfl,S3,⟨m.gens,m.os,m.toks⟩,xx3⟩
end
end
section
open PySem.Calls PySem.SeqAt
section
variable {w:World} {h0:Heap} {B0:FM} {env:Env} {sc:Scope} {r:Rho} {B:FM} {Z:Addr->Prop} {s:Shared} {A:Around} {E:Value->Shared->Prop} {x:Option (Addr×Option Value)}
theorem ej1 {value slice:PySem.Expr} {X:List D} {n:Nat} {a b:Value} (kp:j4 B s.heap) (ha:f8 prog w s.heap B (.list X) a) (hb:f8 prog w s.heap B (.int n) b) (hz:sz X.length=true) :
  wpAny (model prog w) A (subscriptTail value slice a (.ref s.heap.objs.size)) (FrP prog w B s (.list (X.drop n))) E { s with heap:=s.heap.push { cls:=.type "slice",data:=.fields #[b,.none,.none] } }:=by
 obtain ⟨g,m⟩:=bh2 kp b .none .none (Nat.le_refl s.toks)
 obtain ⟨l,o,vs,rfl,ho,hsq,hr⟩:=ha
 obtain ⟨t,ht,rfl⟩:=hb
 have hl:=(hsq.isList ho).push { cls:=.type "slice",data:=.fields #[.int n t,.none,.none] }
 refine ah8 (Heap.IsList.typeIs (s:={ s with heap:=s.heap.push _ }) hl) slot_list_getitem.lookup ?_
 refine wpAny_getItem_list_slice hl (Heap.IsSliceOf.new ..) (.int _ t) .none .none (by simp) ?_ (by have:=ai7 hz;rw [<- hr.length] at this;simpa using this)
 rw [show slicePick vs.toArray (some (n:Int)) none none=(vs.drop n).toArray by rw [slicePick_from']]
 exact FrP.after g m (FrP.list g.keep (Nat.le_refl _) (hr.drop n))
theorem co5 {mn xn yn:Str} {im ix iy:Nat} {np ap cp ep p1 p2 p3 p4:Pos} {X l:List D} {n:Nat} {Q:Flow->Shared->Prop} (ek:j6 env sc) (S:Sim prog w h0 B0 env sc r B Z s.heap) (hx:HdX Z s.heap x)
  (s0:d8 sc mn=some im) (s1:d8 sc xn=some ix) (s2:d8 sc yn=some iy) (r0:r.get im=some (.own,.list l)) (r1:r.get ix=some (.fr,.list X)) (r2:r.get iy=some (.fr,.int n)) (hp:(ap.endLine == cp.line)=true)
  (hz:sz (l.length+X.length)=true) (h:∀ s',SX prog w h0 B0 env sc (r.set im (some (.own,.list (l ++ X.drop n)))) x s s'->Q .next s') :
  wpAny (model prog w) A (PySem.exec (.Expr (.Call (.Attribute (.Name mn np) "extend" ap) [.Subscript (.Name xn p1) (.Slice (some (.Name yn p2)) none none p3) p4] [] cp) ep) env) Q E s:=by
 obtain ⟨a,vs,m,ha,ho,rl⟩:=ar9 S s0 r0
 obtain ⟨v1,a1,t1,f1,_⟩:=S.vars xn ix _ _ s1 r1
 obtain ⟨v2,a2,t2,f2,_⟩:=S.vars yn iy _ _ s2 r2
 refine wpAny_Expr (wpAny_Call_method (ba9 rfl) (bd6 (by rfl) (by show 1 < 20;decide)) hp F.plainAttrs_list PySem.F.slot_list_extend PySem.F.type_list_extend ?_) (aq2 ek) rfl
 refine ha.load ek.kind (i9 s0) ⟨⟨_,ho,rfl⟩,λ b q=>(by cases q;exact ⟨_,ho,rfl⟩),?_⟩
 refine callWith_method1 ?_ (d6 rfl) rfl
 rw [d6 rfl,l0]
 refine spliced_cons (Subscript_ (a1.load ek.kind (i9 s1) ?_))
 show wpAny _ _ (do let l <- PySem.eval (.Name yn p2) env;let u <- holding [l] (pure .none:Sem Value);let st <- holding [l,u] (pure .none:Sem Value);newFields "slice" [l,u,st]) _ _ _
 refine wpAny_bind (a2.load ek.kind (i9 s2) (wpAny_bind (wpAny_holding (wpAny_pure (wpAny_bind (wpAny_holding (wpAny_pure (al2 ?_))))))))
 have hzX:sz X.length=true:=by unfold sz at hz ⊢;simp at hz ⊢;lia
 refine wpAny_mono (ej1 S.gr.keep t1 t2 hzX) (λ v s2 q=>spliced_nil ?_) λ ξ ξ e=>e
 obtain ⟨B2,b,rfl,g2,hbn,hbB,tb,m2,hpl⟩:=q
 obtain ⟨b',ob,ws,e,hob,⟨c1,n2,c2⟩,rw2⟩:=tb
 cases e
 obtain ⟨p1',p2'⟩:=hpl ob hob
 obtain ⟨cls,dct,dt,sl⟩:=ob
 simp only at c1 c2 p1' p2'
 subst c1 c2 p1' p2'
 have S2:=S.ev g2
 have ho2:=g2.old.solid ho (.seq rfl)
 have hlen1:=rl.length
 have hlen2:=rw2.length
 have hsz':vs.toArray.size+ws.toArray.size<=sizeLine:=by
  have:=ai7 hz
  simp only [List.size_toArray,hlen1,hlen2,List.length_drop];lia
 refine call_meets PySem.F.slot_list_extend ⟨_,ho2,rfl⟩ PySem.F.entry_list_extend (PySem.F.args_list_extend_2 _ _) (AutoSeq1.list_extend_list_list_0 a vs.toArray m b ws.toArray n2 (extend_door hsz') (Nat.le_trans (Nat.le_add_right _ _) hsz')) ⟨ho2,hob,?_⟩
 have e:vs.toArray ++ ws.toArray=(vs ++ ws).toArray:=by simp
 have ho6:(s2.heap.update a (Obj.mapSeq λ x=>x ++ ws.toArray)).get? a=some { cls:=.type "list",data:=.seq (vs ++ ws).toArray (if (vs.toArray ++ ws.toArray).size == vs.toArray.size then m else m+1) }:=by
  rw [Heap.get?_update_self _ ho2 (by rw [mapSeq_app];rfl),mapSeq_app,e]
 have hsb:Heap.SameBut a s2.heap (s2.heap.update a (Obj.mapSeq λ x=>x ++ ws.toArray)):=Heap.SameBut.update ..
 have tt:f8 prog w (s2.heap.update a (Obj.mapSeq λ x=>x ++ ws.toArray)) B2 (.list (l ++ X.drop n)) (.ref a):=bq5.mpr ⟨a,_,vs ++ ws,rfl,ho6,⟨rfl,_,rfl⟩,(rl.mono g2.le).append rw2⟩
 have hpl6:v8 (s2.heap.update a (Obj.mapSeq λ x=>x ++ ws.toArray)) a:=λ o q=>by rw [ho6] at q;cases q;exact ⟨rfl,rfl⟩
 have S3:=S2.mut s0 r0 (ha.keeps g2.old) hsb tt hpl6
 have na:∀ c,Z c->c≠a:=λ c zc q=>by
  obtain ⟨v0,a0,_,_,n0,_⟩:=S.vars mn im _ _ s0 r0
  have:=ha.unique a0
  subst this
  exact n0 c (.inr zc) (by rw [q])
 refine h _ ⟨B2,Z,S3,⟨m2.gens,m2.os,m2.toks⟩,(hx.old g2.old).keeps (λ ξ q=>q) λ c o zc e' ξ=>(hsb.2 c (na c zc)).trans e'⟩
end
end
section
open PySem.Calls PySem.SeqAt
noncomputable def ltS (x y:Str):Bool:=decide (x.cps.toList < y.cps.toList)
noncomputable def ad0:List Str->List Str->List Str×List Str
 | [],Y=>([],Y)
 | x :: X,[]=>(x :: X,[])
 | x :: X,y :: Y=>if ltS x y then (x :: (ad0 X (y :: Y)).1,(ad0 X (y :: Y)).2)
   else if ltS y x then ((ad0 (x :: X) Y).1,y :: (ad0 (x :: X) Y).2) else ad0 X Y
termination_by X Y=>X.length+Y.length
theorem cs8 (Y:List Str):ad0 [] Y=([],Y):=by rw [ad0]
theorem cc3 (X:List Str):ad0 X []=(X,[]):=by cases X <;> rw [ad0]
theorem bb2 (x y:Str) (X Y:List Str):ad0 (x :: X) (y :: Y)=if ltS x y then (x :: (ad0 X (y :: Y)).1,(ad0 X (y :: Y)).2)
   else if ltS y x then ((ad0 (x :: X) Y).1,y :: (ad0 (x :: X) Y).2) else ad0 X Y:=by rw [ad0]
noncomputable def LS (X:List Str):D:=.list (X.map .str)
noncomputable def ek3 (o:Option D):Slot:=o.map λ d=>(.fr,d)
noncomputable def rS (X Y:List Str) (i j:Nat) (m u:List Str) (e a:Option D):Rho:=
 [some (.fr,LS X),some (.fr,LS Y),some (.fr,.int (i:Int)),some (.fr,.int (j:Int)),some (.own,LS m),some (.own,LS u),ek3 e,ek3 a,none]
structure da4 (sc:Scope) (xn yn iN jN mN uN eN aN:Str):Prop where
 x:j5 sc xn=some 0
 y:j5 sc yn=some 1
 i:j5 sc iN=some 2
 j:j5 sc jN=some 3
 m:j5 sc mN=some 4
 u:j5 sc uN=some 5
 e:j5 sc eN=some 6
 a:j5 sc aN=some 7
inductive ez3 (e:PySem.Expr) (xn iN:Str):Prop
 | mk (p1 p2 p3:_) (h1:e = .Subscript (.Name xn p1) (.Name iN p2) p3)
inductive er1 (e:PySem.Expr) (op:CmpOp) (xn yn:Str):Prop
 | mk (p1 p2 p3:_) (h1:e = .Compare (.Name xn p1) [op] [.Name yn p2] p3)
inductive em3 (st:Stmt) (eN xn iN:Str):Prop
 | mk (p1 p2 p3 p4 p5:_) (h1:st = .Assign [.Name eN p1] (.Subscript (.Name xn p2) (.Name iN p3) p4) p5)
inductive eb3 (st:Stmt) (iN:Str):Prop
 | mk (p1 kd p2 p3:_) (h1:st = .AugAssign (.Name iN p1) .Add (.Constant (.int 1) kd p2) p3)
inductive cm9 (st:Stmt) (xn iN eN:Str):Prop
 | mk (p1 p2 p3 p4 p5 body pos:_) (h1:st = .While (.Compare (.Subscript (.Name xn p1) (.Name iN p2) p3) [.Eq] [.Name eN p4] p5) body [] pos)
inductive ep2 (st:Stmt) (mN eN:Str):Prop
 | mk (np ap p cp ep:_) (h1:(ap.endLine == cp.line)=true) (h2:st = .Expr (.Call (.Attribute (.Name mN np) "append" ap) [.Name eN p] [] cp) ep)
inductive co6 (st:Stmt) (mN xn iN:Str):Prop
 | mk (np ap cp ep p1 p2 p3 p4:_) (h1:(ap.endLine == cp.line)=true) (h2:st = .Expr (.Call (.Attribute (.Name mN np) "extend" ap) [.Subscript (.Name xn p1) (.Slice (some (.Name iN p2)) none none p3) p4] [] cp) ep)
section
variable {w:World} {qa:Heap} {k:Nat} {h0:Heap} {B0:FM} {env:Env} {sc:Scope} {r:Rho} {B:FM} {Z:Addr->Prop} {s:Shared} {A:Around} {E:Value->Shared->Prop} {x:Option (Addr×Option Value)}
variable {xn yn iN jN mN uN eN aN:Str}
theorem cr4 (N:da4 sc xn yn iN jN mN uN eN aN) {X Y:List Str} {i j:Nat} {m u:List Str} {e a:Option D}:j7 sc (rS X Y i j m u e a):=by
 intro t d h
 have hm:=(f4 N.m).1
 have hu:=(f4 N.u).1
 rcases t with _ | _ | _ | _ | _ | _ | _ | _ | _ | t
 ·cases h
 ·cases h
 ·cases h
 ·cases h
 ·exact ⟨_,hm⟩
 ·exact ⟨_,hu⟩
 ·cases e <;> cases h
 ·cases a <;> cases h
 ·cases h
 ·simp [rS,Rho.get] at h
theorem el7 {st:Stmt} {en xn yn:Str} {ie ix iy:Nat} {X:List D} {n:Nat} {Q:Flow->Shared->Prop} (hst:em3 st en xn yn) (ek:j6 env sc) (S:Sim prog w h0 B0 env sc r B Z s.heap) (hx:HdX Z s.heap x) (hA:HdA A x)
  (w0:j5 sc en=some ie) (s1:d8 sc xn=some ix) (s2:d8 sc yn=some iy) (r1:r.get ix=some (.fr,.list X)) (r2:r.get iy=some (.fr,.int n)) (hn:n < 1152921504606846976)
  (h1:∀ d s',X[n]?=some d->SX prog w h0 B0 env sc (r.set ie (some (.fr,d))) x s s'->Q .next s') (h2:X.length<=n->∀ v s',XE prog w h0 B0 env sc r (cq8 x) none s v s'->E v s') :
  wpAny (model prog w) A (PySem.exec st env) Q E s:=by
 obtain ⟨p1,p2,p3,p4,p5,rfl⟩:=hst
 obtain ⟨hs,hxl⟩:=f4 w0
 refine ak6 rfl (ek2 ek S hx hA s1 s2 r1 r2 hn (λ d v e hv=>?_) h2)
 refine wpAny_assign_Name (S.store ek hs hxl hv λ h' tk a htk hob hsb S4 hoth=>?_)
 exact h1 d _ e ⟨B,Z,S4,⟨rfl,rfl,htk⟩,hx.keeps (λ ξ q=>q) λ b o zb e ξ=>(hsb.2 b (λ q=>S.yown a hob (q▸zb))).trans e⟩
theorem cj9 {st:Stmt} {xn yn en:Str} {ix iy ie:Nat} {X:List D} {n:Nat} {y:Str} {Q:Flow->Shared->Prop} (hst:cm9 st xn yn en) (ek:j6 env sc) (fa:FrA A env B0 h0) (S:Sim prog w h0 B0 env sc r B Z s.heap) (hx:HdX Z s.heap x) (hA:HdA A x)
  (s1:d8 sc xn=some ix) (s2:d8 sc yn=some iy) (s3:d8 sc en=some ie) (r1:r.get ix=some (.fr,.list X)) (r2:r.get iy=some (.fr,.int n)) (r3:r.get ie=some (.fr,.str y)) (hn:n < 1152921504606846976)
  (hd:∀ d,X[n]?=some d->∃ z,d = .str z/\z≠y)
  (h1:n < X.length->Q .next s) (h2:X.length<=n->∀ v s',XE prog w h0 B0 env sc r (cq8 x) (some (rawInt env.locals)) s v s'->E v s') :
  wpAny (model prog w) A (PySem.exec st env) Q E s:=by
 obtain ⟨p1,p2,p3,p4,p5,body,pos,rfl⟩:=hst
 exact eg1 ek fa S hx hA s1 s2 s3 r1 r2 r3 hn hd h1 h2
theorem el8 {st:Stmt} {mn en:Str} {im ie:Nat} {l:List D} {d:D} {Q:Flow->Shared->Prop} (hst:ep2 st mn en) (rm:Rm k A) (ek:j6 env sc) (hb:∀ a o,qa.get? a=some o->B0 a=some o) (ht:0 < s.toks) (fa:FrA A env B0 h0) (hn:j7 sc r) (S:Sim prog w h0 B0 env sc r B Z s.heap)
  (s0:d8 sc mn=some im) (s1:d8 sc en=some ie) (r0:r.get im=some (.own,.list l)) (r1:r.get ie=some (.fr,d)) (hz:sz (l.length+1)=true)
  (h:∀ s',SX prog w h0 B0 env sc (r.set im (some (.own,.list (l ++ [d])))) none s s'->Q .next s') :
  wpAny (model prog w) A (PySem.exec st env) Q E s:=by
 obtain ⟨np,ap,p,cp,ep,hp,rfl⟩:=hst
 have hfz:aw7 r (.var ie)=r:=by
  show r.frz ie=r
  unfold Rho.frz;rw [r1]
 refine wpAny_mono (cd8 (w:=w) (qa:=qa) (k:=k) (U:=λ ξ ξ=>none) (qc:=λ ξ=>false) s0 hp rfl (g6 s1) rm ek hb ht fa hn S (res:=(.next,r.set im (some (.own,.list (l ++ [d]))))) ?_) (λ f s' q=>?_) λ ξ ξ e=>e
 ·show (do let d <- eval (λ ξ ξ=>none) (.var ie) (aw7 r (.var ie));let l <- w8 (<- az9 ((aw7 r (.var ie)).get im));gd (sz (l.length+1)) (do some (Fl.next,<- (aw7 r (.var ie)).put im .own (.list (l ++ [d])))))=_
  have e1:eval (λ ξ ξ=>none) (.var ie) r=some d:=congrArg bw3 r1
  rw [hfz,e1,r0]
  show gd (sz (l.length+1)) (do some (Fl.next,<- r.put im .own (.list (l ++ [d]))))=_
  rw [hz,ee1 r0];rfl
 ·cases f <;> first | exact q.elim | skip
  obtain ⟨B',_,S',m',_⟩:=q
  exact h s' ⟨B',Z,S',m',trivial⟩
end
end
section
open PySem.Calls PySem.SeqAt
inductive eu5 (st:Stmt) (xn yn iN jN eN aN:Str):Prop
 | mk (w3 j2 w4 pt:_) (h1:st = .Try [w3] [] [] [j2,w4] pt) (h2:cm9 w3 xn iN eN) (h3:eb3 j2 jN) (h4:cm9 w4 yn jN aN)
section
variable {w:World} {qa:Heap} {k:Nat} {h0:Heap} {B0:FM} {env:Env} {sc:Scope} {r:Rho} {B:FM} {Z:Addr->Prop} {s:Shared} {A:Around} {E:Value->Shared->Prop} {x:Option (Addr×Option Value)}
variable {xn yn iN jN mN uN eN aN:Str}
theorem FrA.mark (fa:FrA A env B0 h0) (v:Option Value):FrA (A.mark v) env B0 h0:=by
 obtain ⟨a,e0,l,b,c,d,e⟩:=fa
 refine ⟨a,e0,l,?_,c,d,e⟩
 cases A;exact b
theorem es4 {x y:Str} {t u:Tok} {Q:Value->Shared->Prop} (h:Q (.bool (y.cps.toList < x.cps.toList)) s):wpAny (model prog w) A (compareOp .Gt (.str x t) (.str y u)) Q E s:=
 compareOp_gives (op:=.Gt) (typeIs_str s x t) (typeIs_str s y u) F.slot_str_gt F.entry_str_gt (F.args_str_gt_2 _ _) (gives_str_gt x y t u) (λ e=>nomatch e) h
theorem ek1 {t:PySem.Expr} {op:CmpOp} {en an:Str} {ie ia:Nat} {x y:Str} {b:Bool} {Q:Bool->Shared->Prop} (hst:er1 t op en an) (hop:(op = .Lt/\b=ltS x y)\/(op = .Gt/\b=ltS y x)) (rm:Rm k A) (ek:j6 env sc) (hb:∀ a o,qa.get? a=some o->B0 a=some o) (ht:0 < s.toks) (fa:FrA A env B0 h0) (S:Sim prog w h0 B0 env sc r B Z s.heap)
  (s0:d8 sc en=some ie) (s1:d8 sc an=some ia) (r0:r.get ie=some (.fr,.str x)) (r1:r.get ia=some (.fr,.str y)) (h:∀ s',SX prog w h0 B0 env sc r none s s'->Q b s') :
  wpAny (model prog w) A (isTrue t env (PySem.eval t env)) Q E s:=by
 obtain ⟨p1,p2,p3,rfl⟩:=hst
 have hm:behindInMarks op (.Name an p2)=false:=by rcases hop with ⟨rfl,_⟩ | ⟨rfl,_⟩ <;> rfl
 obtain ⟨v1,a1,t1,_⟩:=S.vars en ie _ _ s0 r0
 obtain ⟨v2,a2,t2,_⟩:=S.vars an ia _ _ s1 r1
 obtain ⟨t,_,rfl⟩:=t1
 obtain ⟨u,_,rfl⟩:=t2
 refine wpAny_isTrue_Compare1 (a1.load ek.kind (i9 s0) (a2.load ek.kind (i9 s1) ?_)) hm
 have hq:wpAny (model prog w) A (truthy (.bool b)) Q E s:=wpAny_truthy_bool (h s ⟨B,Z,S,.refl s,trivial⟩)
 rcases hop with ⟨rfl,rfl⟩ | ⟨rfl,rfl⟩
 ·exact P.lt_str hq
 ·exact es4 hq
theorem ew2 {st:Stmt} {X Y m u:List Str} {i j:Nat} {e a:Str} {Q:Flow->Shared->Prop} (hst:eu5 st xn yn iN jN eN aN) (N:da4 sc xn yn iN jN mN uN eN aN) (hA:A.handled=none) (ek:j6 env sc) (fa:FrA A env B0 h0)
  (S:Sim prog w h0 B0 env sc (rS X Y i j m u (some (.str e)) (some (.str a))) B Z s.heap) (hi:i < 1152921504606846976) (hj:j+1 < 1152921504606846976)
  (hX:∀ z,X[i]?=some z->z≠e) (hY:∀ z,Y[j+1]?=some z->z≠a)
  (h1:∀ s',i < X.length->j+1 < Y.length->SX prog w h0 B0 env sc (rS X Y i (j+1) m u (some (.str e)) (some (.str a))) none s s'->Q .next s')
  (h2:∀ c v s',(X.length<=i\/Y.length<=j+1)->XE prog w h0 B0 env sc (rS X Y i (j+1) m u (some (.str e)) (some (.str a))) c (some (rawInt env.locals)) s v s'->E v s') :
  wpAny (model prog w) A (PySem.exec st env) Q E s:=by
 obtain ⟨w3,j2,w4,pt,rfl,hw3,hj2,hw4⟩:=hst
 obtain ⟨q1,kd,q2,q3,rfl⟩:=hj2
 have hdX:∀ d:D,(X.map PyData.str)[i]?=some d->∃ z,d = .str z/\z≠e:=λ d hd=>by
  rw [List.getElem?_map,Option.map_eq_some_iff] at hd
  obtain ⟨z,hz,rfl⟩:=hd
  exact ⟨z,rfl,hX z hz⟩
 have hdY:∀ d:D,(Y.map PyData.str)[j+1]?=some d->∃ z,d = .str z/\z≠a:=λ d hd=>by
  rw [List.getElem?_map,Option.map_eq_some_iff] at hd
  obtain ⟨z,hz,rfl⟩:=hd
  exact ⟨z,rfl,hY z hz⟩
 have sx:=(f4 N.x).1
 have sy:=(f4 N.y).1
 have si:=(f4 N.i).1
 have sj:=(f4 N.j).1
 have se:=(f4 N.e).1
 have sa:=(f4 N.a).1

 have last:∀ {A':Around} {E':Value->Shared->Prop} {Q':Flow->Shared->Prop} {s1:Shared} {B1:FM} {Z1:Addr->Prop} {x:Option (Addr×Option Value)},FrA A' env B0 h0->HdA A' x->HdX Z1 s1.heap x->Sim prog w h0 B0 env sc (rS X Y i j m u (some (.str e)) (some (.str a))) B1 Z1 s1.heap->
   (∀ s',j+1 < Y.length->SX prog w h0 B0 env sc (rS X Y i (j+1) m u (some (.str e)) (some (.str a))) x s1 s'->Q' .next s')->
   (∀ v s',Y.length<=j+1->XE prog w h0 B0 env sc (rS X Y i (j+1) m u (some (.str e)) (some (.str a))) (cq8 x) (some (rawInt env.locals)) s1 v s'->E' v s')->
   wpAny (model prog w) A' (PySem.execs [.AugAssign (.Name jN q1) .Add (.Constant (.int 1) kd q2) q3,w4] env) Q' E' s1:=by
  intro A' E' Q' s1 B1 Z1 x fa' ha' hx' S1 k1 k2
  refine wpAny_execs_cons (ek7 ek S1 hx' N.j rfl λ s2 p=>?_)
  obtain ⟨B2,Z2,S2,m2,hx2⟩:=p
  have S2:Sim prog w h0 B0 env sc (rS X Y i (j+1) m u (some (.str e)) (some (.str a))) B2 Z2 s2.heap:=S2
  refine wpAny_execs_cons (cj9 (n:=j+1) hw4 ek fa' S2 hx2 ha' sy sj sa rfl rfl rfl hj hdY (λ hlt=>wpAny_execs_nil (k1 s2 (by simpa using hlt) ⟨B2,Z2,S2,m2,hx2⟩)) λ hle v s' p=>k2 v s' (by simpa using hle) (p.after m2))
 refine wpAny_Try_finally ?_
 refine wpAny_execs_cons (cj9 (n:=i) (x:=none) hw3 ek fa S trivial hA sx si se rfl rfl rfl hi hdX (λ hlt=>wpAny_execs_nil ?_) λ hle v s' p=>?_)
 ·dsimp only
  refine wpAny_execs_nil ?_
  refine last (x:=none) fa hA trivial S (λ s' hj' p=>h1 s' (by simpa using hlt) hj' p) λ v s' hj' p=>?_
  obtain ⟨e1,B1,Z1,rfl,S1,m1,x1⟩:=p
  refine ao8 fa.own x1 (bh3 fa.own S1 x1 λ h3 S3 x3=>?_)
  exact h2 _ _ _ (.inr hj') ⟨e1,B1,Z1,rfl,S3,⟨m1.gens,m1.os,m1.toks⟩,x3⟩
 ·obtain ⟨e1,B1,Z1,rfl,S1,m1,x1⟩:=p
  refine ao8 fa.own x1 ⟨(by intro q;cases q),ao8 fa.own x1 ?_⟩
  refine an6 (fr:=none) S1 x1 λ h3 S3 x3=>?_
  refine last (x:=some (e1,some .none)) (fa.mark _) (by cases A;rfl) x3 S3 (λ s4 hj' p=>?_) λ v s4 hj' p=>?_
  ·obtain ⟨B4,Z4,S4,m4,x4⟩:=p
   refine ej2 fa.own S4 x4 λ h5 S5 x5=>?_
   exact h2 _ _ _ (.inl (by simpa using hle)) ⟨e1,B4,Z4,rfl,S5,⟨m4.gens.trans m1.gens,m4.os.trans m1.os,Nat.le_trans m1.toks m4.toks⟩,x5⟩
  ·obtain ⟨e4,B4,Z4,rfl,S4,m4,x4⟩:=p
   refine ao8 fa.own x4 (bh3 fa.own S4 x4 λ h5 S5 x5=>?_)
   exact h2 _ _ _ (.inr hj') ⟨e4,B4,Z4,rfl,S5,⟨m4.gens.trans m1.gens,m4.os.trans m1.os,Nat.le_trans m1.toks m4.toks⟩,x5⟩
end
end
section
open PySem.Calls PySem.SeqAt
noncomputable def tgt (X Y:List Str) (i j:Nat) (m u:List Str):List Str×List Str:=(m ++ (ad0 (X.drop i) (Y.drop j)).1,u ++ (ad0 (X.drop i) (Y.drop j)).2)
structure ch6 (X Y:List Str) (i j:Nat) (m u:List Str):Prop where
 hi:i<=X.length
 hj:j<=Y.length
 hm:m.length<=i
 hu:u.length<=j
theorem at6 {X:List Str} {i:Nat} {x:Str} (h:X[i]?=some x):X.drop i=x :: X.drop (i+1):=by
 obtain ⟨hl,e⟩:=List.getElem?_eq_some_iff.mp h
 rw [List.drop_eq_getElem_cons hl,e]
theorem dw9 {X Y:List Str} {i j:Nat} {m u:List Str} {x y:Str} (hx:X[i]?=some x) (hy:Y[j]?=some y) (h:ltS x y=true):tgt X Y (i+1) j (m ++ [x]) u=tgt X Y i j m u:=by
 unfold tgt
 rw [at6 hx,at6 hy,bb2,if_pos h]
 simp
theorem dr6 {X Y:List Str} {i j:Nat} {m u:List Str} {x y:Str} (hx:X[i]?=some x) (hy:Y[j]?=some y) (h0:ltS x y=false) (h:ltS y x=true):tgt X Y i (j+1) m (u ++ [y])=tgt X Y i j m u:=by
 unfold tgt
 rw [at6 hx,at6 hy,bb2,if_neg (by simp [h0]),if_pos h]
 simp
theorem dv2 {X Y:List Str} {i j:Nat} {m u:List Str} {x y:Str} (hx:X[i]?=some x) (hy:Y[j]?=some y) (h0:ltS x y=false) (h:ltS y x=false):tgt X Y (i+1) (j+1) m u=tgt X Y i j m u:=by
 unfold tgt
 rw [at6 hx,at6 hy,bb2,if_neg (by simp [h0]),if_neg (by simp [h])]
theorem bp4 {X:List Str} (hn:X.Nodup) {i:Nat} {x z:Str} (hx:X[i]?=some x) (hz:X[i+1]?=some z):z≠x:=by
 obtain ⟨h1,e1⟩:=List.getElem?_eq_some_iff.mp hx
 obtain ⟨h2,e2⟩:=List.getElem?_eq_some_iff.mp hz
 intro e
 subst e
 exact List.pairwise_iff_getElem.mp hn i (i+1) h1 h2 (by exact Nat.lt_succ_self _) (e1.trans e2.symm)
inductive dr7 (body:List Stmt) (xn yn iN jN mN uN eN aN:Str):Prop
 | mk (c1 c2 t1 a1 i1 w1 t2 a2 j2 w2 i3 f3 p1 p2:_) (h1:body=[c1,c2,.If t1 [a1,i1,w1] [.If t2 [a2,j2,w2] [i3,f3] p2] p1]) (h2:em3 c1 eN xn iN) (h3:em3 c2 aN yn jN) (h4:er1 t1 .Lt eN aN) (h5:ep2 a1 mN eN) (h6:eb3 i1 iN) (h7:cm9 w1 xn iN eN) (h8:er1 t2 .Gt eN aN) (h9:ep2 a2 uN aN) (h10:eb3 j2 jN) (h11:cm9 w2 yn jN aN) (h12:eb3 i3 iN) (h13:eu5 f3 xn yn iN jN eN aN)
section
variable {w:World} {qa:Heap} {k:Nat} {h0:Heap} {B0:FM} {env:Env} {sc:Scope} {r:Rho} {B:FM} {Z:Addr->Prop} {s:Shared} {A:Around} {E:Value->Shared->Prop} {x:Option (Addr×Option Value)}
variable {xn yn iN jN mN uN eN aN:Str}
theorem bp8 {X:List Str} {i:Nat} {d:D} (h:(X.map PyData.str)[i]?=some d):∃ x,d = .str x/\X[i]?=some x:=by
 rw [List.getElem?_map,Option.map_eq_some_iff] at h
 obtain ⟨z,hz,rfl⟩:=h
 exact ⟨z,rfl,hz⟩
theorem cx8 {st:Stmt} {xn:Str} {ix:Nat} {n:Int} {Q:Flow->Shared->Prop} (hst:eb3 st xn) (ek:j6 env sc) (S:Sim prog w h0 B0 env sc r B Z s.heap) (hx:HdX Z s.heap x)
  (hw:j5 sc xn=some ix) (hr:r.get ix=some (.fr,.int n)) (h:∀ s',SX prog w h0 B0 env sc (r.set ix (some (.fr,.int (n+1)))) x s s'->Q .next s') :
  wpAny (model prog w) A (PySem.exec st env) Q E s:=by
 obtain ⟨p1,kd,p2,p3,rfl⟩:=hst
 exact ek7 ek S hx hw hr h
theorem er0 {body:List Stmt} {X Y m u:List Str} {i j:Nat} {e a:Option D} {Q:Flow->Shared->Prop} (hst:dr7 body xn yn iN jN mN uN eN aN) (N:da4 sc xn yn iN jN mN uN eN aN) (rm:Rm k A) (ek:j6 env sc) (hb:∀ a o,qa.get? a=some o->B0 a=some o) (ht:0 < s.toks) (fa:FrA A env B0 h0)
  (S:Sim prog w h0 B0 env sc (rS X Y i j m u e a) B Z s.heap) (iv:ch6 X Y i j m u) (nX:X.Nodup) (nY:Y.Nodup) (hz:X.length+Y.length < 16777216)
  (hnext:∀ s' i' j' m' u' e' a',SX prog w h0 B0 env sc (rS X Y i' j' m' u' e' a') none s s'->ch6 X Y i' j' m' u'->i+j < i'+j'->tgt X Y i' j' m' u'=tgt X Y i j m u->Q .next s')
  (hexc:∀ c fl v s' i' j' m' u' e' a',XE prog w h0 B0 env sc (rS X Y i' j' m' u' e' a') c fl s v s'->(fl=none\/fl=some (rawInt env.locals))->ch6 X Y i' j' m' u'->(X.length<=i'\/Y.length<=j')->tgt X Y i' j' m' u'=tgt X Y i j m u->E v s') :
  wpAny (model prog w) A (PySem.execs body env) Q E s:=by
 obtain ⟨c1,c2,t1,a1,i1,w1,t2,a2,j2,w2,i3,f3,p1,p2,rfl,hc1,hc2,ht1,ha1,hi1,hw1,ht2,ha2,hj2,hw2,hi3,hf3⟩:=hst
 have hA:=rm.handled
 have sx:=(f4 N.x).1
 have sy:=(f4 N.y).1
 have si:=(f4 N.i).1
 have sj:=(f4 N.j).1
 have sm:=(f4 N.m).1
 have su:=(f4 N.u).1
 have se:=(f4 N.e).1
 have sa:=(f4 N.a).1
 have bi:=iv.hi
 have bj:=iv.hj
 have bm:=iv.hm
 have bu:=iv.hu
 have up:∀ {st:Shared},k6 s st->0 < st.toks:=λ m=>Nat.lt_of_lt_of_le ht m.toks

 refine wpAny_execs_cons (el7 (x:=none) hc1 ek S trivial hA N.e sx si (X:=X.map .str) (n:=i) rfl rfl (by lia) (λ d s1 hd p=>?_) λ hle v s' p=>?_)
 case refine_2=>exact hexc _ _ _ _ _ _ _ _ _ _ p (.inl rfl) iv (.inl (by simpa using hle)) rfl
 obtain ⟨x,rfl,hx⟩:=bp8 hd
 obtain ⟨B1,Z1,S1,m1,_⟩:=p
 have S1:Sim prog w h0 B0 env sc (rS X Y i j m u (some (.str x)) a) B1 Z1 s1.heap:=S1

 refine wpAny_execs_cons (el7 (x:=none) hc2 ek S1 trivial hA N.a sy sj (X:=Y.map .str) (n:=j) rfl rfl (by lia) (λ d s2 hd p=>?_) λ hle v s' p=>?_)
 case refine_2=>exact hexc _ _ _ _ _ _ _ _ _ _ (p.after m1) (.inl rfl) iv (.inr (by simpa using hle)) rfl
 obtain ⟨y,rfl,hy⟩:=bp8 hd
 obtain ⟨B2,Z2,S2,m2,_⟩:=p
 have S2:Sim prog w h0 B0 env sc (rS X Y i j m u (some (.str x)) (some (.str y))) B2 Z2 s2.heap:=S2
 have m12:=m1.trans m2
 have ltX:i < X.length:=(List.getElem?_eq_some_iff.mp hx).1
 have ltY:j < Y.length:=(List.getElem?_eq_some_iff.mp hy).1
 have lm:(m ++ [x]).length=m.length+1:=by simp
 have lu:(u ++ [y]).length=u.length+1:=by simp
 refine wpAny_execs_cons (wpAny_If (ek1 (b:=ltS x y) ht1 (.inl ⟨rfl,rfl⟩) rm ek hb (up m12) fa S2 se sa rfl rfl λ s3 p=>?_))
 obtain ⟨B3,Z3,S3,m3,_⟩:=p
 have m123:=m12.trans m3
 cases hlt:ltS x y with
 | true=>
  refine wpAny_execs_cons (el8 (l:=m.map .str) (d:=.str x) ha1 rm ek hb (up m123) fa (cr4 N) S3 sm se rfl rfl (by unfold sz;simp;lia) λ s4 p=>?_)
  obtain ⟨B4,Z4,S4,m4,_⟩:=p
  have S4:Sim prog w h0 B0 env sc (rS X Y i j (m ++ [x]) u (some (.str x)) (some (.str y))) B4 Z4 s4.heap:=by
   have:rS X Y i j (m ++ [x]) u (some (.str x)) (some (.str y))=(rS X Y i j m u (some (.str x)) (some (.str y))).set 4 (some (.own,.list (m.map .str ++ [.str x]))):=by simp [rS,LS]
   rw [this];exact S4
  refine wpAny_execs_cons (cx8 (x:=none) hi1 ek S4 trivial N.i rfl λ s5 p=>?_)
  obtain ⟨B5,Z5,S5,m5,_⟩:=p
  have S5:Sim prog w h0 B0 env sc (rS X Y (i+1) j (m ++ [x]) u (some (.str x)) (some (.str y))) B5 Z5 s5.heap:=S5
  have mA:=(m123.trans m4).trans m5
  have iv':ch6 X Y (i+1) j (m ++ [x]) u:=⟨by assumption,bj,by lia,bu⟩
  refine wpAny_execs_cons (cj9 (x:=none) (X:=X.map .str) (n:=i+1) hw1 ek fa S5 trivial hA sx si se rfl rfl rfl (by lia) (λ d hd=>?_) (λ ξ=>wpAny_execs_nil (wpAny_execs_nil ?_)) λ hle v s' p=>?_)
  ·obtain ⟨z,rfl,hz'⟩:=bp8 hd
   exact ⟨z,rfl,bp4 nX hx hz'⟩
  ·exact hnext _ _ _ _ _ _ _ ⟨B5,Z5,S5,mA,trivial⟩ iv' (by lia) (dw9 hx hy hlt)
  ·exact hexc _ _ _ _ _ _ _ _ _ _ (p.after mA) (.inr rfl) iv' (.inl (by simpa using hle)) (dw9 hx hy hlt)
 | false=>
  refine wpAny_execs_cons (wpAny_If (ek1 (b:=ltS y x) ht2 (.inr ⟨rfl,rfl⟩) rm ek hb (up m123) fa S3 se sa rfl rfl λ s4 p=>?_))
  obtain ⟨B4,Z4,S4,m4,_⟩:=p
  have m1234:=m123.trans m4
  cases hgt:ltS y x with
  | true=>
   refine wpAny_execs_cons (el8 (l:=u.map .str) (d:=.str y) ha2 rm ek hb (up m1234) fa (cr4 N) S4 su sa rfl rfl (by unfold sz;simp;lia) λ s5 p=>?_)
   obtain ⟨B5,Z5,S5,m5,_⟩:=p
   have S5:Sim prog w h0 B0 env sc (rS X Y i j m (u ++ [y]) (some (.str x)) (some (.str y))) B5 Z5 s5.heap:=by
    have:rS X Y i j m (u ++ [y]) (some (.str x)) (some (.str y))=(rS X Y i j m u (some (.str x)) (some (.str y))).set 5 (some (.own,.list (u.map .str ++ [.str y]))):=by simp [rS,LS]
    rw [this];exact S5
   refine wpAny_execs_cons (cx8 (x:=none) hj2 ek S5 trivial N.j rfl λ s6 p=>?_)
   obtain ⟨B6,Z6,S6,m6,_⟩:=p
   have S6:Sim prog w h0 B0 env sc (rS X Y i (j+1) m (u ++ [y]) (some (.str x)) (some (.str y))) B6 Z6 s6.heap:=S6
   have mA:=(m1234.trans m5).trans m6
   have iv':ch6 X Y i (j+1) m (u ++ [y]):=⟨bi,by assumption,bm,by lia⟩
   refine wpAny_execs_cons (cj9 (x:=none) (X:=Y.map .str) (n:=j+1) hw2 ek fa S6 trivial hA sy sj sa rfl rfl rfl (by lia) (λ d hd=>?_) (λ ξ=>wpAny_execs_nil (wpAny_execs_nil (wpAny_execs_nil ?_))) λ hle v s' p=>?_)
   ·obtain ⟨z,rfl,hz'⟩:=bp8 hd
    exact ⟨z,rfl,bp4 nY hy hz'⟩
   ·exact hnext _ _ _ _ _ _ _ ⟨B6,Z6,S6,mA,trivial⟩ iv' (by lia) (dr6 hx hy hlt hgt)
   ·exact hexc _ _ _ _ _ _ _ _ _ _ (p.after mA) (.inr rfl) iv' (.inr (by simpa using hle)) (dr6 hx hy hlt hgt)
  | false=>
   refine wpAny_execs_cons (cx8 (x:=none) hi3 ek S4 trivial N.i rfl λ s5 p=>?_)
   obtain ⟨B5,Z5,S5,m5,_⟩:=p
   have S5:Sim prog w h0 B0 env sc (rS X Y (i+1) j m u (some (.str x)) (some (.str y))) B5 Z5 s5.heap:=S5
   have mA:=m1234.trans m5
   have iv':ch6 X Y (i+1) (j+1) m u:=⟨by assumption,by assumption,by exact Nat.le_succ_of_le ‹_›,by exact Nat.le_succ_of_le ‹_›⟩
   refine wpAny_execs_cons (ew2 hf3 N hA ek fa S5 (by lia) (by lia) (λ z hz'=>bp4 nX hx hz') (λ z hz'=>bp4 nY hy hz') (λ s6 ξ ξ p=>wpAny_execs_nil (wpAny_execs_nil (wpAny_execs_nil ?_))) λ c v s' hor p=>?_)
   ·exact hnext _ _ _ _ _ _ _ (p.after mA) iv' (by lia) (dv2 hx hy hlt hgt)
   ·exact hexc _ _ _ _ _ _ _ _ _ _ (p.after mA) (.inr rfl) iv' hor (dv2 hx hy hlt hgt)
end
end
section
open PySem.Calls PySem.SeqAt
inductive ej0 (body:List Stmt) (xn yn iN jN mN uN eN aN xN:Str):Prop
 | mk (p1 p2 kd p3 p4 p5 p6 p7 p8 p9 p10 kd2 p11 turn p12 x1 x2 p13 p14 p15 p16 p17 p18 kd3 p19 p20:_) (h1:body=[.Assign [.Name iN p1,.Name jN p2] (.Constant (.int 0) kd p3) p4,.Assign [.Name mN p5] (.List [] p6) p7,.Assign [.Name uN p8] (.List [] p9) p10,.While (.Constant (.bool true) kd2 p11) [.Try turn [.ExceptHandler (some (.Name xN p12)) none [x1,x2,.Break p13] p14] [] [] p15] [] p16,.Return (some (.Tuple [.Name mN p17,.Name uN p18] kd3 p19)) p20]) (h2:dr7 turn xn yn iN jN mN uN eN aN) (h3:co6 x1 mN xn iN) (h4:co6 x2 uN yn jN)
noncomputable def cw2 (ds:List D):Option D:=do
 let p <- two ds
 let a <- w8 p.1
 let b <- w8 p.2
 let X <- a.mapM u6
 let Y <- b.mapM u6
 gd (decide X.Nodup && (decide Y.Nodup && decide (X.length+Y.length < 1048576))) (some (.tuple [LS (ad0 X Y).1,LS (ad0 X Y).2]))
theorem cd1 {ds:List D} {d:D} (h:cw2 ds=some d):∃ X Y:List Str,ds=[LS X,LS Y]/\X.Nodup/\Y.Nodup/\X.length+Y.length < 1048576/\d = .tuple [LS (ad0 X Y).1,LS (ad0 X Y).2]:=by
 obtain ⟨p,h1,h⟩:=a6 h
 obtain ⟨a,h2,h⟩:=a6 h
 obtain ⟨b,h3,h⟩:=a6 h
 obtain ⟨X,hX,h⟩:=a6 h
 obtain ⟨Y,hY,h⟩:=a6 h
 obtain ⟨hc,h⟩:=i4 h
 obtain ⟨c1,hc⟩:=b9 hc
 exact ⟨X,Y,by rw [bp2 h1,r8 h2,r8 h3,bf9 hX,bf9 hY];rfl,of_decide_eq_true c1,of_decide_eq_true (b9 hc).1,of_decide_eq_true (b9 hc).2,(Option.some.inj h).symm⟩
noncomputable def ev5 (r:Rho):Option (Fl×Rho):=do
 let a <- bw3 (r.get 0)
 let b <- bw3 (r.get 1)
 (cw2 [a,b]).map λ d=>(.ret false d,[])
section
variable {w:World} {qa:Heap} {mg mb:Str->Option Value} {k:Nat} {h0:Heap} {B0:FM} {env:Env} {sc:Scope} {r:Rho} {B:FM} {Z:Addr->Prop} {s:Shared} {A:Around} {E:Value->Shared->Prop} {x:Option (Addr×Option Value)}
variable {xn yn iN jN mN uN eN aN xN:Str}
theorem eo3 {x1 x2:Stmt} {p12 p13 p14:Pos} {X Y m u:List Str} {i j:Nat} {e a:Option D} {ea:Addr} {c fl:Value} {Q:Flow->Shared->Prop} (G:Glb qa mg mb) (N:da4 sc xn yn iN jN mN uN eN aN) (hxN:i5 sc xN=true) (xNe:xN="IndexError") (ek:j6 env sc) (hb:∀ a o,qa.get? a=some o->B0 a=some o)
  (S:Sim prog w h0 B0 env sc (rS X Y i j m u e a) B Z s.heap) (xx:ag5 Z s.heap ea c (some fl)) (h1:co6 x1 mN xn iN) (h2:co6 x2 uN yn jN) (iv:ch6 X Y i j m u) (hz:X.length+Y.length < 1048576)
  (hQ:∀ s',SX prog w h0 B0 env sc (rS X Y i j (m ++ X.drop i) (u ++ Y.drop j) e a) none s s'->Q .brk s') :
  wpAny (model prog w) A (handleBy (.ref ea) env [.ExceptHandler (some (.Name xN p12)) none [x1,x2,.Break p13] p14]) Q E s:=by
 subst xNe
 have bi:=iv.hi
 have bj:=iv.hj
 have bm:=iv.hm
 have bu:=iv.hu
 refine wpAny_handleBy_builtin (X:="IndexError") (T:="IndexError") (b:=true) F.isExc_IndexError F.notTuple_IndexError F.self_IndexError ?_
 refine at7 G ek hxN (G.b' (v:=(.type "IndexError")) ⋯) (λ b o q=>S.gr.keep b o (S.gr.le _ _ (hb b o q))) ⟨rfl,?_,?_⟩
 ·obtain ⟨z,oe,vs,q1,q2,_⟩:=xx
  exact ⟨oe,q1,q2⟩
 ·simp only [if_true]
  refine an6 (fr:=none) S xx λ h3 S3 x3=>?_
  obtain ⟨np,ap,cp,ep,q1,q2,q3,q4,hp,rfl⟩:=h1
  obtain ⟨np',ap',cp',ep',q1',q2',q3',q4',hp',rfl⟩:=h2
  refine wpAny_execs_cons (co5 (x:=none) (l:=m.map .str) (X:=X.map .str) (n:=i) ek S3 trivial (f4 N.m).1 (f4 N.x).1 (f4 N.i).1 rfl rfl rfl hp (by unfold sz;simp;lia) λ s4 p=>?_)
  obtain ⟨B4,Z4,S4,m4,_⟩:=p
  have S4:Sim prog w h0 B0 env sc (rS X Y i j (m ++ X.drop i) u e a) B4 Z4 s4.heap:=by
   have:rS X Y i j (m ++ X.drop i) u e a=(rS X Y i j m u e a).set 4 (some (.own,.list (m.map .str ++ (X.map .str).drop i))):=by simp [rS,LS]
   rw [this];exact S4
  refine wpAny_execs_cons (co5 (x:=none) (l:=u.map .str) (X:=Y.map .str) (n:=j) ek S4 trivial (f4 N.u).1 (f4 N.y).1 (f4 N.j).1 rfl rfl rfl hp' (by unfold sz;simp;lia) λ s5 p=>?_)
  obtain ⟨B5,Z5,S5,m5,_⟩:=p
  have S5:Sim prog w h0 B0 env sc (rS X Y i j (m ++ X.drop i) (u ++ Y.drop j) e a) B5 Z5 s5.heap:=by
   have:rS X Y i j (m ++ X.drop i) (u ++ Y.drop j) e a=(rS X Y i j (m ++ X.drop i) u e a).set 5 (some (.own,.list (u.map .str ++ (Y.map .str).drop j))):=by simp [rS,LS]
   rw [this];exact S5
  refine wpAny_execs_cons (wpAny_Break ?_)
  exact hQ s5 ⟨B5,Z5,S5,⟨m5.gens.trans m4.gens,m5.os.trans m4.os,Nat.le_trans m4.toks m5.toks⟩,trivial⟩
theorem ee4 {X Y m u:List Str} {i j:Nat} (h:X.length<=i\/Y.length<=j):(m ++ X.drop i,u ++ Y.drop j)=tgt X Y i j m u:=by
 unfold tgt
 rcases h with h | h
 ·rw [List.drop_eq_nil_of_le h,cs8]
 ·rw [List.drop_eq_nil_of_le h,cc3]
theorem ei7 {x1 x2:Stmt} {p12 p13 p14:Pos} {X Y m u:List Str} {i j:Nat} {e a:Option D} {c v:Value} {fl:Option Value} {s0:Shared} {Q:Flow->Shared->Prop} (G:Glb qa mg mb) (N:da4 sc xn yn iN jN mN uN eN aN) (hxN:i5 sc xN=true) (xNe:xN="IndexError") (ek:j6 env sc) (fa:FrA A env B0 h0) (hb:∀ a o,qa.get? a=some o->B0 a=some o)
  (x:XE prog w h0 B0 env sc (rS X Y i j m u e a) c fl s0 v s) (hfl:fl=none\/fl=some (rawInt env.locals)) (h1:co6 x1 mN xn iN) (h2:co6 x2 uN yn jN) (iv:ch6 X Y i j m u) (hz:X.length+Y.length < 1048576)
  (hQ:∀ s',SX prog w h0 B0 env sc (rS X Y i j (m ++ X.drop i) (u ++ Y.drop j) e a) none s0 s'->Q .brk s') :
  wpAny (model prog w) A (noteFrame v env) (λ ξ s2=>wpAny (model prog w) A (setFlight v none) (λ ξ s3=>wpAny (model prog w) A (handleBy v env [.ExceptHandler (some (.Name xN p12)) none [x1,x2,.Break p13] p14]) Q E s3) E s2) E s:=by
 obtain ⟨ea,B6,Z6,rfl,S6,m6,x6⟩:=x
 have key:∀ {h7:Heap} {Z7:Addr->Prop},Sim prog w h0 B0 env sc (rS X Y i j m u e a) B6 Z7 h7->ag5 Z7 h7 ea c (some (rawInt env.locals))->wpAny (model prog w) A (setFlight (.ref ea) none) (λ ξ s3=>wpAny (model prog w) A (handleBy (.ref ea) env [.ExceptHandler (some (.Name xN p12)) none [x1,x2,.Break p13] p14]) Q E s3) E { s with heap:=h7 }:=λ S7 x7=>
  an6 (s:={ s with heap:=_ }) (fr:=none) S7 x7 λ h8 S8 x8=>eo3 (s:={ s with heap:=h8 }) G N hxN xNe ek hb S8 x8 h1 h2 iv hz λ s9 p=>hQ s9 (p.after (s1:={ s with heap:=h8 }) ⟨m6.gens,m6.os,m6.toks⟩)
 rcases hfl with rfl | rfl
 ·exact co9 fa S6 x6 λ h7 Z7 S7 x7=>key S7 x7
 ·exact ao8 fa.own x6 (key S6 x6)
variable (w h0 B0 env sc) in
inductive eu1 (X Y:List Str) (s:Shared) (n:Nat) (st:Shared):Prop
 | mk (i j:Nat) (m u:List Str) (e a:Option D) (h1:SX prog w h0 B0 env sc (rS X Y i j m u e a) none s st) (h2:ch6 X Y i j m u) (h3:n=X.length+Y.length - (i+j)) (h4:tgt X Y i j m u=ad0 X Y):eu1 X Y s n st
theorem dx2 {turn:List Stmt} {x1 x2:Stmt} {kd2:Nat} {p11 p12 p13 p14 p15 p16:Pos} {X Y:List Str} {Q:Flow->Shared->Prop} (G:Glb qa mg mb) (N:da4 sc xn yn iN jN mN uN eN aN) (hxN:i5 sc xN=true) (xNe:xN="IndexError") (rm:Rm k A) (ek:j6 env sc) (fa:FrA A env B0 h0) (hb:∀ a o,qa.get? a=some o->B0 a=some o)
  (hturn:dr7 turn xn yn iN jN mN uN eN aN) (h1:co6 x1 mN xn iN) (h2:co6 x2 uN yn jN) (nX:X.Nodup) (nY:Y.Nodup) (hz:X.length+Y.length < 1048576) (ht:0 < s.toks) (S:Sim prog w h0 B0 env sc (rS X Y 0 0 [] [] none none) B Z s.heap)
  (hQ:∀ s' i j e a,SX prog w h0 B0 env sc (rS X Y i j (ad0 X Y).1 (ad0 X Y).2 e a) none s s'->Q .next s') :
  wpAny (model prog w) A (PySem.exec (.While (.Constant (.bool true) kd2 p11) [.Try turn [.ExceptHandler (some (.Name xN p12)) none [x1,x2,.Break p13] p14] [] [] p15] [] p16) env) Q E s:=by
 refine wpAny_While (codeAny_whileLoop (eu1 w h0 B0 env sc X Y s) (λ n st I=>?_) (X.length+Y.length - (0+0)) ⟨0,0,[],[],none,none,⟨B,Z,S,.refl s,trivial⟩,⟨Nat.zero_le _,Nat.zero_le _,Nat.le_refl _,Nat.le_refl _⟩,rfl,rfl⟩)
 obtain ⟨i,j,m,u,e,a,⟨B5,Z5,S5,m5,_⟩,iv,rfl,ht5⟩:=I
 refine aq9 rfl (wpAny_Constant_bool (wpAny_truthy_bool (wpAny_execs_cons (wpAny_Try_except (er0 hturn N rm ek hb (Nat.lt_of_lt_of_le ht m5.toks) fa S5 iv nX nY (Nat.lt_trans hz (by decide)) (λ s6 i' j' m' u' e' a' p iv' hlt ht6=>wpAny_execs_nil (wpAny_execs_nil ?_)) λ c fl v s6 i' j' m' u' e' a' p hfl iv' hor ht6=>ei7 G N hxN xNe ek fa hb p hfl h1 h2 iv' hz λ s9 q=>?_)))))
 ·exact ⟨_,Nat.sub_lt_sub_left (Nat.lt_of_lt_of_le hlt (Nat.add_le_add iv'.hi iv'.hj)) hlt,i',j',m',u',e',a',p.after m5,iv',rfl,ht6.trans ht5⟩
 ·have e1:=(ee4 (m:=m') (u:=u') hor).trans (ht6.trans ht5)
  rw [show m' ++ X.drop i'=(ad0 X Y).1 from congrArg Prod.fst e1,show u' ++ Y.drop j'=(ad0 X Y).2 from congrArg Prod.snd e1] at q
  exact hQ s9 i' j' e' a' (q.after m5)
theorem j7.setFr {i:Nat} {d:D} (n:j7 sc r):j7 sc (r.set i (some (.fr,d))):=λ j d' q=>n j d' (an1 q (by simp)).1
theorem dz9 {body:List Stmt} (G:Glb qa mg mb) (hst:ej0 body xn yn iN jN mN uN eN aN xN) (N:da4 sc xn yn iN jN mN uN eN aN) (hxN:i5 sc xN=true) (xNe:xN="IndexError"):ca9 prog w qa k sc (PySem.execs body) ev5:=λ A E env r B s h0 B0 Y res rm ek hb ht fa hn S h=>by
 obtain ⟨p1,p2,kd,p3,p4,p5,p6,p7,p8,p9,p10,kd2,p11,turn,p12,x1,x2,p13,p14,p15,p16,p17,p18,kd3,p19,p20,rfl,hturn,hx1,hx2⟩:=hst
 obtain ⟨da,hda,h⟩:=a6 h
 obtain ⟨db,hdb,h⟩:=a6 h
 obtain ⟨d,hd,rfl⟩:=u9 h
 obtain ⟨X,Yy,hds,nX,nY,hz,rfl⟩:=cd1 hd
 cases (hds)
 obtain ⟨si,xi⟩:=f4 N.i
 obtain ⟨sj,xj⟩:=f4 N.j
 have part:∀ i m d,Rho.get [some (.fr,LS X),some (.fr,LS Yy),none,none,none,none,none,none,none] i=some (m,d)->r.get i=some (m,d):=λ i m d q=>by
  rcases i with _ | _ | _ | _ | _ | _ | _ | _ | _ | i <;> cases (q)
  ·exact az5 hda
  ·exact az5 hdb
 have n2:j7 sc _:=j7.setFr (i:=3) (d:=.int 0) (j7.setFr (i:=2) (d:=.int 0) λ i d q=>hn i d (part i .own d q))
 have frl:∀ {p:Pos},bt0 w qa k (λ ξ ξ=>none) sc (.List [] p) (.list []):=λ {p} A E s env r B d ok hd=>cg5 .nil rfl ok hd
 have T:∀ lst,bu9 w qa k (λ ξ ξ=>none) (λ ξ=>false) sc (_ :: _ :: lst) [.assign 4 true (.list []),.assign 5 true (.list [])] lst:=λ lst=>ai8 (y6 (pos:=p7) (p:=p5) N.m rfl (frl (p:=p6)) rfl) (ai8 (y6 (pos:=p10) (p:=p8) N.u rfl (frl (p:=p9)) rfl) cm6)
 refine wpAny_execs_cons (wpAny_Assign_two (wpAny_Constant_int ?_))
 refine wpAny_assign_Name ((S.part part).store (s:={ s with toks:=s.toks+1 }) ek si xi (d:=.int 0) (ax1.mpr ⟨_,trivial,rfl⟩) λ h1 tk1 a1 ht1 ξ ξ S1 ξ=>?_)
 refine wpAny_assign_Name (S1.store (s:={ s with heap:=h1,toks:=tk1 }) ek sj xj (d:=.int 0) (ax1.mpr ⟨_,trivial,rfl⟩) λ h2 tk2 a2 ht2 ξ ξ S2 ξ=>?_)
 have m2:k6 s { s with heap:=h2,toks:=tk2 }:=⟨rfl,rfl,Nat.le_trans (Nat.le_succ _) (Nat.le_trans ht1 ht2)⟩
 refine T _ rm ek hb (Nat.lt_of_lt_of_le ht m2.toks) fa n2 S2 (r':=rS X Yy 0 0 [] [] none none) rfl λ s4 B4 l4 S4 m4 n4=>?_
 have m04:=m2.trans m4
 refine wpAny_execs_cons (dx2 G N hxN xNe rm ek fa hb hturn hx1 hx2 nX nY hz (Nat.lt_of_lt_of_le ht m04.toks) S4 λ s9 i j e a p=>?_)
 obtain ⟨B9,Z9,S9,m9,_⟩:=p
 obtain ⟨Ba,_,Sa⟩:=S9.frz (f4 N.m).1 rfl
 obtain ⟨Bb,_,Sb⟩:=Sa.frz (f4 N.u).1 rfl
 have m09:=m04.trans m9
 refine wpAny_execs_cons (wpAny_Return_some (al8 (br2 (U:=λ ξ ξ=>none) (.cons (g6 (f4 N.m).1) (.cons (g6 (f4 N.u).1) .nil)) rfl) (Sim.ok (k:=k) (qa:=qa) Sb rm ek hb (Nat.lt_of_lt_of_le ht m09.toks) fa) (d:=.tuple [LS (ad0 X Yy).1,LS (ad0 X Yy).2]) rfl λ v s2 B2 g2 m2 r2 ok2=>?_))
 exact ⟨B2,Sb.gr.trans g2,m09.trans m2,r2⟩
end
end
section
open PySem.Calls PySem.SeqAt
section
variable {w:World} {qa:Heap} {mg mb:Str->Option Value} {k:Nat} {U:String->List D->Option D} {qc:String->Bool} {sc:Scope}
variable (w qa mg k) in

inductive bz8 (f:String) (sp:List D->Option D):Prop
 | mk (fa o fd:_) (h1:mg (Str.ofString f)=some (.ref fa)) (h2:qa.get? fa=some o) (h3:o.data = .func fd) (h4:∀ ⦃A:Around⦄ ⦃s:Shared⦄ ⦃B:FM⦄ ⦃vs:List Value⦄ ⦃ds:List D⦄ ⦃d:D⦄,Rm k A->Stk A B s.heap->j4 B s.heap->(∀ a o,qa.get? a=some o->B a=some o)->0 < s.toks->RdL prog w B ds vs->sp ds=some d->codeAny (model prog w) A (.call (.ref fa) ⟨vs,[]⟩) (λ r s'=>∃ v,r = .ok (.ret v)/\FrP prog w B s d v s') s)
theorem bz8.ok {f:String} {sp:List D->Option D} (h:bz8 w qa mg k f sp):ad6 w qa mg k f sp:=by
 obtain ⟨fa,o,fd,h1,h2,h3,h4⟩:=h
 exact ⟨fa,o,fd,h1,h2,h3,λ A s B vs ds d rm stk kp hb ht r hsp=>codeAny_mono (h4 rm stk kp hb ht r hsp) λ r' s' ⟨v,e,q⟩=>⟨v,e,q.ev⟩⟩
theorem bz8.le {j:Nat} {f:String} {sp:List D->Option D} (h:bz8 w qa mg j f sp) (hjk:j<=k):bz8 w qa mg k f sp:=by
 obtain ⟨fa,o,fd,h1,h2,h3,h4⟩:=h
 exact ⟨fa,o,fd,h1,h2,h3,λ A s B vs ds d rm stk kp hb ht r hsp=>h4 (rm.le hjk) stk kp hb ht r hsp⟩
theorem ef0 {f:String} {sp:List D->Option D} {name:Str} {params:Arguments} {body:List Stmt} {pm cd doc:Value} {fa:Addr} {o:Obj} {xs:List Str} {is:List Nat} {F:Rho->Option (Fl×Rho)} (G:Glb qa mg mb)
  (hm:mg (Str.ofString f)=some (.ref fa)) (ho:qa.get? fa=some o) (hd:o.data = .func (docDef name params body sc pm cd doc)) (hcr:qa.CodeRec cd name) (fs:FnS sc) (hco:sc.isCoroutine=false) (hgen:sc.isGenerator=false)
  (hbind:∀ vs:List Value,vs.length=xs.length->bindArgs (docDef name params body sc pm cd doc) ⟨vs,[]⟩=pure (xs.zip vs)) (hp:b8 (λ x i=>j5 sc x=some i) xs is) (hbody:ca9 prog w qa k sc (PySem.execs body) F)
  (hsp:∀ ds d,sp ds=some d->ds.length=is.length/\∃ r',F (ab3 (ac9 sc) is ds)=some (.ret true d,r')):bz8 w qa mg (k+1) f sp:=by
 refine ⟨fa,o,_,hm,ho,hd,λ A s B vs ds d rm stk kp hb ht r h=>?_⟩
 obtain ⟨hl,r',hex⟩:=hsp ds d h
 refine bp9 G ho hd hcr fs hco hgen rm hb (Gr.refl kp) stk (λ Q E hQ=>?_) (bj1 hl) hbody hex λ v s' q=>⟨v,rfl,?_⟩
 ·rw [hbind vs (by rw [r.length,hl,as9 hp])]
  refine wpAny_pure (hQ _ s B (Gr.refl kp) (.refl s) λ env A E s2 Q ek S old ξ hle hQ2=>?_)
  rw [<- List.append_nil (xs.zip vs)]
  refine ba8 (rest:=[]) hp ek S r hl λ h2 tk htk S1=>?_
  rw [List.forIn_nil]
  exact wpAny_pure (hQ2 h2 tk htk (Nat.lt_of_lt_of_le ht (Nat.le_trans hle htk)) S1)
 ·obtain ⟨B',g,m,a,rfl,e1,e2,t,hpl⟩:=q
  exact ⟨B',a,rfl,g,e1,e2,t,m,hpl⟩
theorem ei8 {x:Str} {f:String} {es:List PySem.Expr} {qd:List IR} {p pos:Pos} (G:Glb qa mg mb) (C:bz8 w qa mg k f (U f)) (hx:i5 sc x=true) (hf:Str.ofString f=x) (hn:es.all j9=true) (hne:(!es.isEmpty)=true) (h:b8 (j3 w qa k U sc) es qd) :
  bt0 w qa k U sc (.Call (.Name x p) es [] pos) (.call f qd):=λ A E s env r B d ok hd=>by
 obtain ⟨ds,h1,hd⟩:=a6 hd
 obtain ⟨fa,o,fd,hm,ho,hfd,hc⟩:=C
 subst hf
 refine Call_ (ak7 G ok hx hm ?_)
 cases es with
 | nil=>cases hne
 | cons e rest=>
  have hn':=b9 hn
  refine callWith_def (o:=o) (fd:=fd) hfd (au1 h hn ok h1 λ vs s1 B1 g1 m1 r1 ok1=>⟨ok1.old _ _ ho,?_⟩) (d6 hn'.1)
  refine wpAny_call (codeAny_mono (hc ok1.rm ok1.stk ok1.keep ok1.base ok1.toks r1 hd) λ r' s' q=>?_)
  obtain ⟨v,rfl,q⟩:=q
  exact FrP.after g1 m1 q
end
end
section
inductive Av (ar:Nat->Nat->Prop) (S:Nat->Prop) (a:Nat):Nat->Prop
 | refl:Av ar S a a
 | step {b c:Nat} (h:Av ar S a b) (h1:ar b c) (h2:¬ S c):Av ar S a c
section
variable {ar:Nat->Nat->Prop} {S T:Nat->Prop}
theorem Av.mono (h:∀ y,T y->S y) {a b:Nat} (x:Av ar S a b):Av ar T a b:=by
 induction x with
 | refl=>exact .refl
 | step x h1 h2 ih=>exact .step ih h1 λ q=>h2 (h _ q)
theorem Av.trans {a b c:Nat} (x:Av ar S a b) (y:Av ar S b c):Av ar S a c:=by
 induction y with
 | refl=>exact x
 | step y h1 h2 ih=>exact .step ih h1 h2
end
structure Tr (ks:List Nat) (P:Nat->List Nat):Prop where
 z:P 0=[0]
 z0:0∈ks
 up:∀ x∈ks,x≠0->∃ p∈ks,P x=P p ++ [x]
section
variable {ar:Nat->Nat->Prop} {ks:List Nat} {P:Nat->List Nat}
theorem af1 (l:List Nat) (x:Nat):(l ++ [x]).length=l.length+1:=List.length_append
theorem bg0 {l:List Nat} {x n:Nat} (h:(l ++ [x]).length<=n+1):l.length<=n:=Nat.le_of_succ_le_succ (Nat.le_trans (Nat.le_of_eq (af1 l x).symm) h)
theorem Tr.pre (t:Tr ks P):∀ (n:Nat) {x y:Nat},(P x).length<=n->x∈ks->y∈P x->y∈ks/\P y <+: P x:=by
 intro n
 induction n with
 | zero=>
  intro x y hl hx hy
  rw [List.eq_nil_of_length_eq_zero (Nat.le_zero.mp hl)] at hy
  cases hy
 | succ n ih=>
  intro x y hl hx hy
  by_cases e:x=0
  ·rw [e,t.z] at hy
   rw [List.mem_singleton.mp hy,e]
   exact ⟨t.z0,List.prefix_refl _⟩
  ·obtain ⟨p,hp,e2⟩:=t.up x hx e
   by_cases q:y=x
   ·rw [q];exact ⟨hx,List.prefix_refl _⟩
   ·rw [e2] at hy hl
    have hy:=(List.mem_append.mp hy).resolve_right λ r=>q (List.mem_singleton.mp r)
    obtain ⟨i1,i2⟩:=ih (bg0 hl) hp hy
    exact ⟨i1,e2▸i2.trans (List.prefix_append _ _)⟩
theorem Tr.mem (t:Tr ks P) {x y:Nat} (hx:x∈ks) (hy:y∈P x):y∈ks/\P y <+: P x:=t.pre _ (Nat.le_refl _) hx hy
theorem Tr.self (t:Tr ks P) {x:Nat} (hx:x∈ks):x∈P x:=by
 by_cases e:x=0
 ·rw [e,t.z];exact List.mem_cons_self
 ·obtain ⟨p,_,e2⟩:=t.up x hx e
  rw [e2];exact List.mem_append_right _ List.mem_cons_self
theorem Tr.iff (t:Tr ks P) {x y:Nat} (hx:x∈ks) (hy:y∈ks):y∈P x↔P y <+: P x:=⟨λ h=>(t.mem hx h).2,λ h=>h.subset (t.self hy)⟩
theorem Tr.last (t:Tr ks P) {x:Nat} (hx:x∈ks):(P x).getLast?=some x:=by
 by_cases e:x=0
 ·rw [e,t.z];rfl
 ·obtain ⟨p,_,e2⟩:=t.up x hx e
  rw [e2,List.getLast?_append];rfl
theorem Tr.inj (t:Tr ks P) {x y:Nat} (hx:x∈ks) (hy:y∈ks) (h:P x=P y):x=y:=Option.some.inj ((t.last hx).symm.trans (h▸t.last hy))
theorem Tr.zero (t:Tr ks P) {x:Nat} (hx:x∈ks):0∈P x:=by
 have key:∀ (n:Nat) {x:Nat},(P x).length<=n->x∈ks->0∈P x:=by
  intro n
  induction n with
  | zero=>
   intro x hl hx
   have:=t.self hx
   rw [List.eq_nil_of_length_eq_zero (Nat.le_zero.mp hl)] at this
   cases this
  | succ n ih=>
   intro x hl hx
   by_cases e:x=0
   ·rw [e];exact t.self t.z0
   ·obtain ⟨p,hp,e2⟩:=t.up x hx e
    rw [e2] at hl⊢
    exact List.mem_append_left _ (ih (bg0 hl) hp)
 exact key _ (Nat.le_refl _) hx
theorem Tr.above (t:Tr ks P) {x p:Nat} (hx:x∈ks) (hp:p∈ks) (e:P x=P p ++ [x]):x ∉ P p:=λ q=>by
 have:=(t.mem hp q).2.length_le
 rw [e,af1] at this
 exact Nat.not_succ_le_self _ this
theorem Tr.pin (t:Tr ks P) {x p r:Nat} (hp:p∈ks) (hr:r∈ks) (e:P x=P p ++ [x]) (e2:P x=P r ++ [x]):p=r:=t.inj hp hr (List.append_cancel_right (e.symm.trans e2))
noncomputable def JJ (ar:Nat->Nat->Prop) (ks:List Nat) (P:Nat->List Nat):Prop:=∀ x∈ks,∀ p∈ks,P x=P p ++ [x]->Av ar (λ y=>y∈P p/\y≠p) p x
noncomputable def II (ar:Nat->Nat->Prop) (ks:List Nat) (P:Nat->List Nat):Prop:=∀ x∈ks,∀ d,d ∉ P x->Av ar (·=d) 0 x
theorem cr8 (t:Tr ks P) (J:JJ ar ks P) {q:Nat} (hq:q∈ks):∀ (n:Nat) {r:Nat},(P r).length<=n->r∈ks->q∈P r->Av ar (λ y=>y∈P q/\y≠q) q r:=by
 intro n
 induction n with
 | zero=>
  intro r hl hr h
  rw [List.eq_nil_of_length_eq_zero (Nat.le_zero.mp hl)] at h
  cases h
 | succ n ih=>
  intro r hl hr h
  by_cases e:r=q
  ·rw [e];exact .refl
  ·by_cases e0:r=0
   ·rw [e0,t.z] at h
    exact absurd (e0.trans (List.mem_singleton.mp h).symm) e
   ·obtain ⟨p,hp,e2⟩:=t.up r hr e0
    rw [e2] at hl
    have hqp:q∈P p:=(List.mem_append.mp (e2▸h)).resolve_right λ s=>e (List.mem_singleton.mp s).symm
    refine (ih (bg0 hl) hp hqp).trans ((J r hr p hp e2).mono λ y hy=>⟨(t.mem hp hqp).2.subset hy.1,λ s=>?_⟩)
    subst s
    have:=(t.mem hq hy.1).2.eq_of_length_le (t.mem hp hqp).2.length_le
    exact hy.2 (t.inj hp hq this)
noncomputable def ba4 (P:Nat->List Nat) (v q x:Nat):List Nat:=if v∈P x then P q ++ v :: (P x).drop (P v).length else P x
structure ay3 (ar:Nat->Nat->Prop) (ks:List Nat) (P:Nat->List Nat) (v p q:Nat):Prop where
 vk:v∈ks
 pk:p∈ks
 qk:q∈ks
 e:P v=P p ++ [v]
 l:q∈P p
 m:∀ y∈P p,y ∉ P q->∃ u∈ks,ar u v/\y ∉ P u
section
variable {v p q:Nat}
theorem bo8 {x:Nat} (h:v ∉ P x):ba4 P v q x=P x:=if_neg h
theorem da3 (t:Tr ks P) (L:ay3 ar ks P v p q):ba4 P v q v=P q ++ [v]:=by
 rw [ba4,if_pos (t.self L.vk),List.drop_length]
theorem cu3 (t:Tr ks P) (L:ay3 ar ks P v p q):ba4 P v q q=P q:=bo8 λ h=>t.above L.vk L.pk L.e ((t.mem L.pk L.l).2.subset h)
theorem de2 (t:Tr ks P) (L:ay3 ar ks P v p q) {x r:Nat} (hx:x∈ks) (hr:r∈ks) (hv:x≠v) (e:P x=P r ++ [x]):ba4 P v q x=ba4 P v q r ++ [x]:=by
 unfold ba4
 by_cases h:v∈P r
 ·rw [if_pos h,if_pos (e▸List.mem_append_left _ h),e,List.drop_append_of_le_length (t.mem hr h).2.length_le,<- List.cons_append,List.append_assoc]
 ·rw [if_neg h,if_neg λ s=>(List.mem_append.mp (e▸s)).elim h λ s=>hv (List.mem_singleton.mp s).symm,e]
theorem de5 (t:Tr ks P) (L:ay3 ar ks P v p q):Tr ks (ba4 P v q) where
 z:=by
  rw [bo8,t.z]
  rw [t.z]
  intro h
  have hv:=List.mem_singleton.mp h
  have e:=L.e
  rw [hv,t.z] at e
  have h0:=t.self L.pk
  cases hP:P p with
  | nil=>rw [hP] at h0;cases h0
  | cons a l=>rw [hP] at e;exact absurd (congrArg List.length e) (by simp)
 z0:=t.z0
 up:=λ x hx h0=>by
  by_cases e:x=v
  ·rw [e];exact ⟨q,L.qk,by rw [da3 t L,cu3 t L]⟩
  ·obtain ⟨r,hr,e2⟩:=t.up x hx h0
   exact ⟨r,hr,de2 t L hx hr e e2⟩
theorem dx8 (t:Tr ks P) (L:ay3 ar ks P v p q) {r y:Nat} (hr:r∈ks) (h:y∈ba4 P v q r):y∈P r:=by
 unfold ba4 at h
 split at h
 ·rename_i hv
  have hpv:=(t.mem hr hv).2
  rcases List.mem_append.mp h with h | h
  ·exact hpv.subset (L.e▸List.mem_append_left _ ((t.mem L.pk L.l).2.subset h))
  ·rcases List.mem_cons.mp h with h | h
   ·rw [h];exact hv
   ·exact List.mem_of_mem_drop h
 ·exact h
theorem en2 (t:Tr ks P) (L:ay3 ar ks P v p q) (J:JJ ar ks P):JJ ar ks (ba4 P v q):=λ x hx r hr e=>by
 have t':=de5 t L
 by_cases hv:x=v
 ·subst hv
  have:q=r:=t'.pin L.qk hr (by rw [da3 t L,cu3 t L]) e
  subst this
  rw [cu3 t L]
  exact cr8 t J L.qk _ (Nat.le_refl _) L.vk (L.e▸List.mem_append_left _ L.l)
 ·by_cases h0:x=0
  ·subst h0
   have h1:=t'.self hr
   rw [t'.z] at e
   cases hP:ba4 P v q r with
   | nil=>rw [hP] at h1;cases h1
   | cons a l=>rw [hP] at e;exact absurd (congrArg List.length e) (by simp)
  ·obtain ⟨r2,hr2,e2⟩:=t.up x hx h0
   have:r2=r:=t'.pin hr2 hr (de2 t L hx hr2 hv e2) e
   subst this
   exact (J x hx r2 hr2 e2).mono λ y hy=>⟨dx8 t L hr2 hy.1,hy.2⟩
theorem ep4 (t:Tr ks P) (L:ay3 ar ks P v p q) (J:JJ ar ks P) (I:II ar ks P):II ar ks (ba4 P v q):=λ x hx d hd=>by
 by_cases hv:v∈P x
 ·by_cases hdx:d∈P x
  ·rw [ba4,if_pos hv] at hd
   have hpv:=(t.mem hx hv).2
   obtain ⟨s,hs⟩:=hpv
   rw [<- hs,List.drop_left] at hd
   rw [<- hs,L.e] at hdx
   have hnq:d ∉ P q:=λ h=>hd (List.mem_append_left _ h)
   have hnv:d≠v:=λ h=>hd (List.mem_append_right _ (h▸List.mem_cons_self))
   have hns:d ∉ s:=λ h=>hd (List.mem_append_right _ (List.mem_cons_of_mem _ h))
   have hdp:d∈P p:=by
    rcases List.mem_append.mp hdx with h | h
    ·exact (List.mem_append.mp h).resolve_right λ h=>hnv (List.mem_singleton.mp h)
    ·exact absurd h hns
   obtain ⟨u,hu,h1,h2⟩:=L.m d hdp hnq
   have w:=(I u hu d h2).step h1 λ h=>hnv h.symm
   exact w.trans ((cr8 t J L.vk _ (Nat.le_refl _) hx hv).mono λ y hy=>hy▸⟨L.e▸List.mem_append_left _ hdp,hnv⟩)
  ·exact I x hx d hdx
 ·rw [bo8 hv] at hd
  exact I x hx d hd
end
theorem dg8 (t:Tr ks P) (hc:∀ u∈ks,∀ v,ar u v->v∈ks) (hf:∀ v∈ks,∀ p∈ks,P v=P p ++ [v]->∀ u∈ks,ar u v->p∈P u) {d x:Nat} (h0:d≠0) (h:Av ar (·=d) 0 x):x∈ks/\d ∉ P x:=by
 induction h with
 | refl=>exact ⟨t.z0,λ h=>h0 (List.mem_singleton.mp (t.z▸h))⟩
 | @step b c h h1 h2 ih=>
  have hcs:=hc _ ih.1 _ h1
  refine ⟨hcs,λ hd=>?_⟩
  by_cases e:c=0
  ·rw [e,t.z] at hd;exact h0 (List.mem_singleton.mp hd)
  ·obtain ⟨p,hp,e2⟩:=t.up c hcs e
   have hdp:d∈P p:=(List.mem_append.mp (e2▸hd)).resolve_right λ s=>h2 (List.mem_singleton.mp s).symm
   exact ih.2 ((t.mem ih.1 (hf c hcs p hp e2 b ih.1 h1)).2.subset hdp)
end
end
section
noncomputable def ae5 {α:Type} [DecidableEq α]:List α->List α->List α
 | x :: a,y :: b=>if x=y then x :: ae5 a b else []
 | _,_=>[]
section
variable {α:Type} [DecidableEq α]
theorem bi4:∀ a b:List α,ae5 a b <+: a
 | [],b=>List.nil_prefix
 | x :: a,[]=>List.nil_prefix
 | x :: a,y :: b=>by
  show (if x=y then x :: ae5 a b else []) <+: _
  split
  ·exact (List.prefix_cons_inj x).mpr (bi4 a b)
  ·exact List.nil_prefix
theorem cz0:∀ a b:List α,ae5 a b <+: b
 | [],b=>List.nil_prefix
 | x :: a,[]=>List.nil_prefix
 | x :: a,y :: b=>by
  show (if x=y then x :: ae5 a b else []) <+: _
  split
  ·rename_i e;subst e;exact (List.prefix_cons_inj x).mpr (cz0 a b)
  ·exact List.nil_prefix
theorem bg2:∀ {a b c:List α},c <+: a->c <+: b->c <+: ae5 a b
 | a,b,[],_,_=>List.nil_prefix
 | [],b,z :: c,h,_=>absurd (List.prefix_nil.mp h) (List.cons_ne_nil _ _)
 | x :: a,[],z :: c,_,h=>absurd (List.prefix_nil.mp h) (List.cons_ne_nil _ _)
 | x :: a,y :: b,z :: c,h1,h2=>by
  obtain ⟨e1,h3⟩:=List.cons_prefix_cons.mp h1
  obtain ⟨e2,h4⟩:=List.cons_prefix_cons.mp h2
  subst e1 e2
  rw [show ae5 (z :: a) (z :: b)=z :: ae5 a b from if_pos rfl]
  exact (List.prefix_cons_inj _).mpr (bg2 h3 h4)
noncomputable def at8 (a:List α) (ls:List (List α)):List α:=ls.foldl ae5 a
theorem bc5:∀ (ls:List (List α)) (a:List α),at8 a ls <+: a
 | [],a=>List.prefix_refl a
 | b :: ls,a=>(bc5 ls (ae5 a b)).trans (bi4 a b)
theorem da5:∀ (ls:List (List α)) (a:List α),∀ b∈ls,at8 a ls <+: b
 | b :: ls,a,c,h=>by
  rcases List.mem_cons.mp h with rfl | h
  ·exact (bc5 ls (ae5 a c)).trans (cz0 a c)
  ·exact da5 ls (ae5 a b) c h
theorem bf1:∀ (ls:List (List α)) (a c:List α),c <+: a->(∀ b∈ls,c <+: b)->c <+: at8 a ls
 | [],a,c,h,_=>h
 | b :: ls,a,c,h,h2=>bf1 ls (ae5 a b) c (bg2 h (h2 b List.mem_cons_self)) λ d hd=>h2 d (List.mem_cons_of_mem _ hd)
end
section
variable {ar:Nat->Nat->Prop} {ks:List Nat} {P:Nat->List Nat}
theorem Tr.cut (t:Tr ks P):∀ (n:Nat) {x:Nat} {l:List Nat},(P x).length<=n->x∈ks->l <+: P x->l≠[]->∃ q∈ks,l=P q:=by
 intro n
 induction n with
 | zero=>
  intro x l hl hx h hn
  rw [List.eq_nil_of_length_eq_zero (Nat.le_zero.mp hl)] at h
  exact absurd (List.prefix_nil.mp h) hn
 | succ n ih=>
  intro x l hl hx h hn
  by_cases e:l=P x
  ·exact ⟨x,hx,e⟩
  ·by_cases e0:x=0
   ·subst e0
    rw [t.z] at h e
    obtain ⟨s,hs⟩:=h
    cases l with
    | nil=>exact absurd rfl hn
    | cons a l=>
     injection hs with h1 h2
     rw [h1,(List.append_eq_nil_iff.mp h2).1] at e
     exact absurd rfl e
   ·obtain ⟨p,hp,e2⟩:=t.up x hx e0
    rw [e2] at h e hl
    exact ih (bg0 hl) hp ((List.prefix_concat_iff.mp h).resolve_left e) hn
noncomputable def aw5 (P:Nat->List Nat) (us:List Nat) (v:Nat):List Nat:=at8 (P v).dropLast (us.map P)
noncomputable def ak5 (ks:List Nat) (pre:Nat->List Nat) (P:Nat->List Nat) (v:Nat):Nat->List Nat:=λ x=>if v∈ks/\v∈P x then aw5 P (pre v) v ++ v :: (P x).drop (P v).length else P x
noncomputable def bc4 (ks:List Nat) (P:Nat->List Nat):Nat:=(ks.map λ x=>(P x).length).sum
structure ax3 (ar:Nat->Nat->Prop) (ks:List Nat) (P:Nat->List Nat):Prop where
 t:Tr ks P
 J:JJ ar ks P
 I:II ar ks P
theorem ea3 {f g:Nat->Nat}:∀ {l:List Nat},(∀ x∈l,f x<=g x)->(∃ x∈l,f x < g x)->(l.map f).sum < (l.map g).sum
 | a :: l,h,hx=>by
  rw [List.map_cons,List.map_cons,List.sum_cons,List.sum_cons]
  have ha:=h a List.mem_cons_self
  have hl:∀ x∈l,f x<=g x:=λ x hx=>h x (List.mem_cons_of_mem _ hx)
  obtain ⟨x,hx,hlt⟩:=hx
  rcases List.mem_cons.mp hx with rfl | hx
  ·refine Nat.add_lt_add_of_lt_of_le hlt ?_
   have:∀ {l:List Nat},(∀ x∈l,f x<=g x)->(l.map f).sum<=(l.map g).sum:=by
    intro l
    induction l with
    | nil=>exact λ _=>Nat.le_refl _
    | cons a l ih=>
     intro h
     rw [List.map_cons,List.map_cons,List.sum_cons,List.sum_cons]
     exact Nat.add_le_add (h a List.mem_cons_self) (ih λ x hx=>h x (List.mem_cons_of_mem _ hx))
   exact this hl
  ·exact Nat.add_lt_add_of_le_of_lt ha (ea3 hl ⟨x,hx,hlt⟩)
inductive ed5 (ar:Nat->Nat->Prop) (ks:List Nat) (pre:Nat->List Nat) (P:Nat->List Nat) (v:Nat):Prop
 | stay (e:aw5 P (pre v) v=(P v).dropLast) (h:∀ x∈ks,ak5 ks pre P v x=P x) (f:∀ p∈ks,P v=P p ++ [v]->∀ u∈pre v,p∈P u)
 | go (e:aw5 P (pre v) v≠(P v).dropLast) (k:ax3 ar ks (ak5 ks pre P v)) (h:bc4 ks (ak5 ks pre P v) < bc4 ks P)
theorem df2 {pre:Nat->List Nat} (K:ax3 ar ks P) (hpre:∀ v,∀ u∈pre v,u∈ks/\ar u v) {v:Nat} (hv:v∈ks) (h0:v≠0):ed5 ar ks pre P v:=by
 obtain ⟨t,J,I⟩:=K
 obtain ⟨p,hp,e⟩:=t.up v hv h0
 have hd:(P v).dropLast=P p:=by rw [e,List.dropLast_concat]
 have hl:aw5 P (pre v) v <+: P p:=hd▸bc5 _ _
 have hr:∀ u∈pre v,aw5 P (pre v) v <+: P u:=λ u hu=>da5 _ _ _ (List.mem_map.mpr ⟨u,hu,rfl⟩)
 have hz:P 0 <+: aw5 P (pre v) v:=by
  refine bf1 _ _ _ (hd▸(t.mem hp (t.zero hp)).2) λ b hb=>?_
  obtain ⟨u,hu,rfl⟩:=List.mem_map.mp hb
  exact (t.mem (hpre v u hu).1 (t.zero (hpre v u hu).1)).2
 have hne:aw5 P (pre v) v≠[]:=λ q=>by
  rw [q,t.z] at hz
  exact absurd (List.prefix_nil.mp hz) (List.cons_ne_nil _ _)
 obtain ⟨q,hq,eq⟩:=t.cut _ (Nat.le_refl _) hp hl hne
 by_cases e2:aw5 P (pre v) v=(P v).dropLast
 ·refine .stay e2 (λ x hx=>?_) λ p2 hp2 e3 u hu=>?_
  ·unfold ak5
   split
   ·rename_i h
    obtain ⟨s,hs⟩:=(t.mem hx h.2).2
    rw [e2,hd,<- hs,List.drop_left,e,List.append_assoc];rfl
   ·rfl
  ·have:=t.pin hp hp2 e e3
   subst this
   have h2:=hr u hu
   rw [e2,hd] at h2
   exact h2.subset (t.self hp)
 ·have hqp:q∈P p:=(t.iff hp hq).mpr (eq▸hl)
  have L:ay3 ar ks P v p q:=⟨hv,hp,hq,e,hqp,λ y hy hn=>by
   refine Classical.byContradiction λ hh=>hn ?_
   have hyk:=(t.mem hp hy).1
   have:P y <+: aw5 P (pre v) v:=bf1 _ _ _ (hd▸(t.mem hp hy).2) λ b hb=>by
    obtain ⟨u,hu,rfl⟩:=List.mem_map.mp hb
    obtain ⟨u1,u2⟩:=hpre v u hu
    exact (t.mem u1 (Classical.byContradiction λ s=>hh ⟨u,u1,u2,s⟩)).2
   exact (t.iff hq hyk).mpr (eq▸this)⟩
  have es:ak5 ks pre P v=ba4 P v q:=funext λ x=>by
   unfold ak5 ba4
   rw [eq]
   by_cases h:v∈P x
   ·rw [if_pos ⟨hv,h⟩,if_pos h]
   ·rw [if_neg λ s=>h s.2,if_neg h]
  refine .go e2 (es▸⟨de5 t L,en2 t L J,ep4 t L J I⟩) (es▸ea3 (λ x hx=>?_) ⟨v,hv,?_⟩)
  ·by_cases h:v∈P x
   ·rw [ba4,if_pos h]
    obtain ⟨s,hs⟩:=(t.mem hx h).2
    rw [<- hs,List.drop_left,e,List.length_append,List.length_append,af1,List.length_cons,Nat.add_comm s.length 1,<- Nat.add_assoc]
    exact Nat.add_le_add_right (Nat.succ_le_succ (t.mem hp hqp).2.length_le) _
   ·rw [bo8 h];exact Nat.le_refl _
  ·rw [da3 t L,e,af1,af1]
   refine Nat.succ_lt_succ (Nat.lt_of_le_of_ne (t.mem hp hqp).2.length_le λ s=>e2 ?_)
   rw [hd,eq];exact (t.mem hp hqp).2.eq_of_length s
end
end
section
open PySem.StrLaws PySem.Builtin PySem.Builtin.Str
noncomputable abbrev SS (X:List Str):Prop:=X.Pairwise λ x y=>cl x < cl y
noncomputable def leS (x y:Str):Bool:=!decide (cl y < cl x)
noncomputable def al0 (L:List Str):List Str:=L.mergeSort leS
theorem cx3 {x y:Str} (h:cl x=cl y):x=y:=am2 h
theorem dg9 {a b:List Nat} (h:a < b):¬ b < a:=λ q=>List.lt_irrefl a (List.lt_trans h q)
theorem dk5 (a b c:Str) (h1:leS a b=true) (h2:leS b c=true):leS a c=true:=by
 simp only [leS,Bool.not_eq_true',decide_eq_false_iff_not,List.not_lt] at *
 exact List.le_trans h1 h2
theorem di4 (a b:Str):(leS a b || leS b a)=true:=by
 simp only [leS,Bool.or_eq_true,Bool.not_eq_true',decide_eq_false_iff_not,List.not_lt]
 exact List.le_total (cl a) (cl b)
theorem dz0 {a b:Str} (h1:leS a b=true) (h2:leS b a=true):a=b:=by
 simp only [leS,Bool.not_eq_true',decide_eq_false_iff_not,List.not_lt] at *
 exact cx3 (List.le_antisymm h1 h2)
theorem ag1 (L:List Str):(al0 L).Perm L:=List.mergeSort_perm ..
theorem ds1 (L:List Str):(al0 L).Pairwise λ a b=>leS a b=true:=List.pairwise_mergeSort dk5 di4 L
theorem bv3 {L:List Str} (h:L.Nodup):SS (al0 L):=by
 have h1:=ds1 L
 have h2:(al0 L).Nodup:=(ag1 L).nodup_iff.mpr h
 refine (h1.and h2).imp λ {a b} q=>?_
 obtain ⟨q1,q2⟩:=q
 rcases Decidable.em (cl a < cl b) with e | e
 ·exact e
 ·exact absurd (dz0 q1 (by simp only [leS,Bool.not_eq_true',decide_eq_false_iff_not];exact e)) q2
theorem bq9 {X:List Str} (h:SS X):X.Nodup:=h.imp λ {a b} q e=>by subst e;exact List.lt_irrefl _ q
theorem bs4 {L:List Str} (hl:L.length < 64) (ho:∀ x∈L,PyData.strOk x=true):bg6 (L.map .str)=some ((al0 L).map .str):=by
 unfold bg6
 have h1:(L.map PyData.str).all isStr=true:=by simp [isStr]
 have h2:SeqAt.shaped (.list (L.map .str))=true:=by
  have h3:∀ l:List Str,(∀ x∈l,PyData.strOk x=true)->PyData.canLayAll0 (l.map .str)=true/\PyData.depthAll (l.map .str)=0:=by
   intro l
   induction l with
   | nil=>intro _;exact ⟨by simp [PyData.canLayAll0],by simp [PyData.depthAll]⟩
   | cons a l ih=>
    intro h
    obtain ⟨i1,i2⟩:=ih λ x hx=>h x (by simp [hx])
    exact ⟨by simp [PyData.canLayAll0,PyData.canLay0,i1,h a (by simp)],by simp [PyData.depthAll,PyData.depth,i2]⟩
  obtain ⟨i1,i2⟩:=h3 L ho
  simp [SeqAt.shaped,PyData.canLay0,PyData.depth,i1,i2]
 simp only [h1,h2,List.length_map,hl,decide_true,Bool.or_true,Bool.true_or,Bool.and_true,if_true]
 congr 1
 refine (List.map_mergeSort λ a ξ b ξ=>?_).symm
 rfl
theorem av6:∀ {X Y:List Str},SS X->SS Y->(ad0 X Y).1=X.filter (λ x=>decide (x ∉ Y))/\(ad0 X Y).2=Y.filter (λ y=>decide (y ∉ X))
 | [],Y,_,_=>by rw [cs8];exact ⟨rfl,(List.filter_eq_self.mpr (by simp)).symm⟩
 | x :: X,[],_,_=>by rw [cc3];exact ⟨(List.filter_eq_self.mpr (by simp)).symm,rfl⟩
 | x :: X,y :: Y,hX,hY=>by
  rw [bb2]
  have hX':=List.pairwise_cons.mp hX
  have hY':=List.pairwise_cons.mp hY
  unfold ltS
  by_cases h1:cl x < cl y
  ·obtain ⟨i1,i2⟩:=av6 (X:=X) (Y:=y :: Y) hX'.2 hY
   have hx:x ∉ y :: Y:=λ q=>by
    rcases List.mem_cons.mp q with e | e
    ·subst e;exact List.lt_irrefl _ h1
    ·exact dg9 h1 (hY'.1 x e)
   rw [if_pos (decide_eq_true h1)]
   refine ⟨?_,?_⟩
   ·rw [List.filter_cons_of_pos (by simpa using hx),<- i1]
   ·rw [show ((x :: (ad0 X (y :: Y)).1,(ad0 X (y :: Y)).2):List Str×List Str).2=(ad0 X (y :: Y)).2 from rfl,i2]
    refine List.filter_congr λ z hz=>?_
    have:z≠x:=λ e=>hx (e▸hz)
    simp [this]
  ·rw [if_neg (by simpa using h1)]
   by_cases h2:cl y < cl x
   ·obtain ⟨i1,i2⟩:=av6 (X:=x :: X) (Y:=Y) hX hY'.2
    have hy:y ∉ x :: X:=λ q=>by
     rcases List.mem_cons.mp q with e | e
     ·subst e;exact List.lt_irrefl _ h2
     ·exact dg9 h2 (hX'.1 y e)
    rw [if_pos (decide_eq_true h2)]
    refine ⟨?_,?_⟩
    ·rw [show (((ad0 (x :: X) Y).1,y :: (ad0 (x :: X) Y).2):List Str×List Str).1=(ad0 (x :: X) Y).1 from rfl,i1]
     refine List.filter_congr λ z hz=>?_
     have:z≠y:=λ e=>hy (e▸hz)
     simp [this]
    ·rw [List.filter_cons_of_pos (by simpa using hy),<- i2]
   ·rw [if_neg (by simpa using h2)]
    have e:x=y:=cx3 (List.le_antisymm (List.not_lt.mp h2) (List.not_lt.mp h1))
    subst e
    obtain ⟨i1,i2⟩:=av6 (X:=X) (Y:=Y) hX'.2 hY'.2
    rw [List.filter_cons_of_neg (by simp),List.filter_cons_of_neg (by simp),i1,i2]
    refine ⟨List.filter_congr λ z hz=>?_,List.filter_congr λ z hz=>?_⟩
    ·have:z≠x:=λ e=>by subst e;exact List.lt_irrefl _ (hX'.1 _ hz)
     simp [this]
    ·have:z≠x:=λ e=>by subst e;exact List.lt_irrefl _ (hY'.1 _ hz)
     simp [this]
termination_by X Y=>X.length+Y.length
noncomputable def lcp:List Str->List Str->List Str
 | x :: a,y :: b=>if x=y then x :: lcp a b else []
 | _,_=>[]
noncomputable abbrev NA (l:List Str):Prop:=∀ n∈l,ba3 n
theorem NA.pre {l m:List Str} (h:NA l) (p:m <+: l):NA m:=λ n hn=>h n (p.subset hn)
noncomputable def top (e:List Str×List Str):Str:=PS (lcp e.1 e.2)
end
section
open PySem.Calls PySem.SeqAt
section
variable {w:World} {qa:Heap} {mg mb:Str->Option Value} {k:Nat} {U:String->List D->Option D} {qc:String->Bool} {sc:Scope}
theorem bd7 {st:Stmt} {sts:List Stmt} {sis:List SI}:ab1 prog w qa k U qc sc (st :: sts) (.stuck :: sis):=λ A E env r B s h0 B0 Y res rm ek hb ht fa hn S h=>by cases h
theorem au6 {sc' sc:Scope} {it:PySem.Expr} (h:ay4 sc' sc it=true):an7 sc' sc:=(aj4 h).1
theorem al1 {elt target iter:PySem.Expr} {ifs:List PySem.Expr} {sc':Scope} {pos:Pos} {tgt:List Nat} {isrc:IR} {qd:List IR} {ir:IR} {cap:List (Option Nat)}
  (hc:ay4 sc' sc iter=true) (hcap:ad3 sc' sc=cap) (tg:z5 sc' target tgt) (hsrc:ad5 w qa k U sc iter isrc target) (ht:b8 (ai4 w qa k U sc') ifs qd) (he:j3 w qa k U sc' elt ir) :
  j3 w qa k U sc (.ListComp elt [⟨target,iter,ifs,0⟩] sc' pos) (.comp cap tgt isrc qd ir):=by
 subst hcap;exact ei3 (au6 hc) (aj4 hc).2 tg hsrc ht he
theorem at2 {x:Str} {i:Nat} {own:Bool} {p pos:Pos} {key elt target iter:PySem.Expr} {sc':Scope} {cpos:Pos} {tgt:List Nat} {isrc:IR} {ik ir:IR} {cap:List (Option Nat)} (G:Glb qa mg mb) (hw:j5 sc x=some i)
  (hc:ay4 sc' sc iter=true) (hcap:ad3 sc' sc=cap) (tg:z5 sc' target tgt) (hsrc:ad5 w qa k U sc iter isrc target) (hk:j3 w qa k U sc' key ik) (he:j3 w qa k U sc' elt ir) :
  ae9 prog w qa k U qc sc (.Assign [.Name x p] (.DictComp key elt [⟨target,iter,[],0⟩] sc' cpos) pos) (.assign i own (.dcomp cap tgt isrc [] ik ir)):=by
 subst hcap;exact bm9 G hw (au6 hc) (aj4 hc).2 tg hsrc hk he
theorem aa4 {x:Str} {i:Nat} {own:Bool} {p pos:Pos} {elt target iter:PySem.Expr} {ifs:List PySem.Expr} {sc':Scope} {cpos:Pos} {tgt:List Nat} {isrc:IR} {qd:List IR} {ir:IR} {cap:List (Option Nat)} (hw:j5 sc x=some i)
  (hc:ay4 sc' sc iter=true) (hcap:ad3 sc' sc=cap) (tg:z5 sc' target tgt) (hsrc:ad5 w qa k U sc iter isrc target) (ht:b8 (ai4 w qa k U sc') ifs qd) (he:j3 w qa k U sc' elt ir) :
  ae9 prog w qa k U qc sc (.Assign [.Name x p] (.ListComp elt [⟨target,iter,ifs,0⟩] sc' cpos) pos) (.assign i own (.comp cap tgt isrc qd ir)):=by
 subst hcap;exact bq4 hw (au6 hc) (aj4 hc).2 tg hsrc ht he
theorem bx7 {x:Str} {i:Nat} {np tp pos cpos:Pos} {kd:Nat} {elt target iter:PySem.Expr} {sc':Scope} {tgt:List Nat} {isrc ir:IR} {cap:List (Option Nat)} (G:Glb qa mg mb) (hw:j5 sc x=some i)
  (hc:ay4 sc' sc iter=true) (hcap:ad3 sc' sc=cap) (tg:z5 sc' target tgt) (hsrc:ad5 w qa k U sc iter isrc target) (he:j3 w qa k U sc' elt ir) :
  ae9 prog w qa k U qc sc (.Assign [.Tuple [.Name x np] kd tp] (.SetComp elt [⟨target,iter,[],0⟩] sc' cpos) pos) (.unpackS i cap tgt isrc ir):=by
 subst hcap;exact by3 G hw (au6 hc) (aj4 hc).2 tg hsrc he
theorem eq7 {a b:List Nat} (h:(a.all λ i=>!b.contains i)=true):∀ i∈a,i ∉ b:=λ i hi q=>by have:=List.all_eq_true.mp h i hi;simp [q] at this
theorem bi9 {x:Str} {i:Nat} {own:Bool} {p pos:Pos} {elt target iter t2 i2:PySem.Expr} {ifs:List PySem.Expr} {sc':Scope} {cpos:Pos} {tgt tgt2:List Nat} {isrc isrc2:IR} {qd:List IR} {ir:IR} {cap:List (Option Nat)} (hw:j5 sc x=some i)
  (hc:ay4 sc' sc iter=true) (hcap:ad3 sc' sc=cap) (tg:z5 sc' target tgt) (tg2:z5 sc' t2 tgt2) (hdis:(tgt2.all λ i=>!tgt.contains i)=true) (hset2:aa0 i2=true) (hsrc2:ad5 w qa k U sc' i2 isrc2 t2) (hsrc:ad5 w qa k U sc iter isrc target) (ht:b8 (ai4 w qa k U sc') ifs qd) (he:j3 w qa k U sc' elt ir) :
  ae9 prog w qa k U qc sc (.Assign [.Name x p] (.ListComp elt [⟨target,iter,[],0⟩,⟨t2,i2,ifs,0⟩] sc' cpos) pos) (.assign i own (.comp2 cap tgt isrc tgt2 isrc2 qd ir)):=by
 subst hcap
 exact bi8 hw (ct8 (au6 hc) (aj4 hc).2 tg tg2 (eq7 hdis) hset2 hsrc2 hsrc ht he) rfl (λ env=>⟨_,rfl⟩) (λ env u=>⟨_,rfl⟩) (λ env=>⟨_,rfl⟩) λ env=>rfl
theorem do5 {elt target iter:PySem.Expr} {ifs:List PySem.Expr} {sc':Scope} {pos:Pos} {tgt:List Nat} {isrc:IR} {qd:List IR} {ir:IR} {cap:List (Option Nat)}
  (hc:ay4 sc' sc iter=true) (hcap:ad3 sc' sc=cap) (tg:z5 sc' target tgt) (hsrc:ad5 w qa k U sc iter isrc target) (ht:b8 (ai4 w qa k U sc') ifs qd) (he:j3 w qa k U sc' elt ir) :
  bt0 w qa k U sc (.ListComp elt [⟨target,iter,ifs,0⟩] sc' pos) (.comp cap tgt isrc qd ir):=λ A E s env r B d ok hd=>by
 subst hcap;exact dw6 (bi1 (au6 hc) (aj4 hc).2 tg hsrc ht he) (λ env=>⟨_,rfl⟩) ok hd
theorem LkW {e:PySem.Expr} {ir:IR} (hv:ir.v=none) (h:j3 w qa k U sc e ir):ae1 w qa k U sc e ir:=h.lk hv
theorem LvW {e:PySem.Expr} {ir:IR} (hv:ir.v=none) (h:j3 w qa k U sc e ir):du1 w qa k U sc e ir:=h.lv hv
theorem TsW {e:PySem.Expr} {ir:IR} (hp:bh4 e=true) (h1:bg4 ir=true) (h:ae1 w qa k U sc e ir):ai4 w qa k U sc e ir:=dw7 h hp h1
theorem am9 {e:PySem.Expr} {ir:IR} {pos:Pos} (hv:ir.v=none) (he:j3 w qa k U sc e ir):ae9 prog w qa k U qc sc (.Return (some e) pos) (.ret ir):=eo0 he hv
theorem ay9 {es:List PySem.Expr} {qd:List IR} {pos:Pos} (hn:es.all j9=true) (h:b8 (j3 w qa k U sc) es qd):bt0 w qa k U sc (.List es pos) (.list qd):=λ A E s env r B d ok hd=>cg5 h hn ok hd
theorem dn4 {es:List (Option PySem.Expr)} {qd:List IR} (h:b8 (λ o ir=>∃ e,o=some e/\j3 w qa k U sc e ir) es qd):∃ ks,es=ks.map some/\b8 (j3 w qa k U sc) ks qd:=by
 induction h with
 | nil=>exact ⟨[],rfl,.nil⟩
 | cons h _ ih=>
  obtain ⟨e,rfl,he⟩:=h
  obtain ⟨ks,rfl,hk⟩:=ih
  exact ⟨e :: ks,rfl,.cons he hk⟩
theorem cm2 {ks:List (Option PySem.Expr)} {vs:List PySem.Expr} {iks ivs:List IR} {pos:Pos} (G:Glb qa mg mb) (hl:ks.length=vs.length) (h0:(!ks.isEmpty)=true) (h15:ks.length<=15)
  (hk:b8 (λ o ir=>∃ e,o=some e/\j3 w qa k U sc e ir) ks iks) (hv:b8 (j3 w qa k U sc) vs ivs):bt0 w qa k U sc (.Dict ks vs pos) (.dict iks ivs):=λ A E s env r B d ok hd=>by
 obtain ⟨ks',rfl,hk'⟩:=dn4 hk
 exact ef1 G hk' hv ((List.length_map ..).symm.trans hl) (by rintro rfl;cases h0) (Nat.le_trans (Nat.le_of_eq (List.length_map ..).symm) h15) ok hd
theorem az6 {ks:List (Option PySem.Expr)} {vs:List PySem.Expr} {iks ivs:List IR} {pos:Pos} (G:Glb qa mg mb) (hl:ks.length=vs.length) (h0:(!ks.isEmpty)=true) (h15:ks.length<=15)
  (hk:b8 (λ o ir=>∃ e,o=some e/\j3 w qa k U sc e ir) ks iks) (hv:b8 (j3 w qa k U sc) vs ivs):j3 w qa k U sc (.Dict ks vs pos) (.dict iks ivs):=λ A E s env r B d ok hd=>
 wpAny_mono (cm2 G hl h0 h15 hk hv ok hd) (λ ξ ξ q=>q.ev) λ ξ ξ e=>e
theorem as4 {m:MF} {o:PySem.Expr} {a:IR} {nm:Str} {es:List PySem.Expr} {qd:List IR} {ap pos:Pos} (hr:ba2 o=true) (hp:(ap.endLine == pos.line)=true) (hl:es.length < 20)
  (hm:de4 m=false) (hj:at9 m=false) (hf:Str.ofString (be1 m)=nm) (hn:es.all j9=true) (ho:ae1 w qa k U sc o a) (h:b8 (j3 w qa k U sc) es qd) :
  j3 w qa k U sc (.Call (.Attribute o nm ap) es [] pos) (.meth m a qd):=dg0 ho hr hp hl hm hf (by rw [hj];exact h) hn
theorem bw7 {o:PySem.Expr} {a:IR} {nm:Str} {es:List PySem.Expr} {qd:List IR} {ap pos:Pos} (hr:ba2 o=true) (hp:(ap.endLine == pos.line)=true) (hl:es.length < 20)
  (hf:Str.ofString (be1 .join)=nm) (hn:es.all j9=true) (ho:ae1 w qa k U sc o a) (h:b8 (ae1 w qa k U sc) es qd) :
  j3 w qa k U sc (.Call (.Attribute o nm ap) es [] pos) (.meth .join a qd):=dg0 ho hr hp hl rfl hf h hn
theorem ei9 {o:PySem.Expr} {a:IR} {nm:Str} {es:List PySem.Expr} {qd:List IR} {ap pos:Pos} (hr:ba2 o=true) (hp:(ap.endLine == pos.line)=true) (hnm:nm="get") (hn:es.all j9=true) (hl:es.length < 20) (ho:ae1 w qa k U sc o a)
  (h:b8 (j3 w qa k U sc) es qd):j3 w qa k U sc (.Call (.Attribute o nm ap) es [] pos) (.meth .get a qd):=by subst hnm;exact ep5 ho hr hp h hn hl
theorem i0 {o:PySem.Expr} {a:IR} {nm x y:Str} {k1 k2:Nat} {p1 p2 ap pos:Pos} (hnm:nm="replace") (hr:ba2 o=true) (hp:(ap.endLine == pos.line)=true) (ho:ae1 w qa k U sc o a) :
  j3 w qa k U sc (.Call (.Attribute o nm ap) [.Constant (.str x) k1 p1,.Constant (.str y) k2 p2] [] pos) (.replace a x y):=by subst hnm;exact cy7 ho hr hp
theorem da8 {x nm:Str} {i:Nat} {np ap cp ep:Pos} {e:PySem.Expr} {ir:IR} (hnm:nm="append") (hs:d8 sc x=some i) (hp:(ap.endLine == cp.line)=true) (hne:j9 e=true) (he:j3 w qa k U sc e ir) :
  ae9 prog w qa k U qc sc (.Expr (.Call (.Attribute (.Name x np) nm ap) [e] [] cp) ep) (.append i ir):=by subst hnm;exact cd8 hs hp hne he
theorem av1 {ts:List PySem.Expr} {is:List Nat} {kd:Nat} {p pos:Pos} {e:PySem.Expr} {ir:IR} (hts:b8 (λ e i=>∃ x p,e=PySem.Expr.Name x p/\j5 sc x=some i) ts is) (hc:dh7 e=true) (hl:2<=is.length) (he:j3 w qa k U sc e ir) :
  ae9 prog w qa k U qc sc (.Assign [.Tuple ts kd p] e pos) (.unpack is ir):=do0 hts hc he
noncomputable def dp6 (f:String):Bool:=f == "_law_lifted"
variable (w qa mg k U) in
noncomputable def t8:Prop:=∀ f ds d,dp6 f=false->U f ds=some d->ad6 w qa mg k f (U f)
theorem k7 {x:Str} {f:String} {es:List PySem.Expr} {qd:List IR} {p pos:Pos} (G:Glb qa mg mb) (C:t8 w qa mg k U) (hx:i5 sc x=true) (hf:Str.ofString f=x) (hn:es.all j9=true) (hne:(!es.isEmpty)=true) (hO:dp6 f=false) (h:b8 (j3 w qa k U sc) es qd) :
  j3 w qa k U sc (.Call (.Name x p) es [] pos) (.call f qd):=λ A E s env r B d ok hd=>by
 obtain ⟨ds,h1,hd⟩:=a6 hd
 obtain ⟨fa,o,fd,hm,ho,hfd,hc⟩:=C f ds d hO hd
 subst hf
 refine Call_ (ak7 G ok hx hm ?_)
 cases es with
 | nil=>cases hne
 | cons e rest=>
  have hn':=b9 hn
  refine callWith_def (o:=o) (fd:=fd) hfd (au1 h hn ok h1 λ vs s1 B1 g1 m1 r1 ok1=>⟨ok1.old _ _ ho,?_⟩) (d6 hn'.1)
  refine wpAny_call (codeAny_mono (hc ok1.rm ok1.stk ok1.keep ok1.base ok1.toks r1 hd) λ r' s' q=>?_)
  obtain ⟨v,rfl,q⟩:=q
  exact q.after g1 m1
end
end
section
open PySem.Calls PySem.SeqAt
noncomputable def i6 (p:Program) (i:Nat):DefRec:=match p.main.body[i]? with
 | some (.FunctionDef name a b _ _ _ sc _ _ pos)=>⟨name,a,b,sc,pos⟩
 | _=>⟨"",⟨[],[],none,[],[],none,[]⟩,[],⟨.function,[],false,false,[]⟩,⟨0,0,0,0⟩⟩
end
section
noncomputable def bl3:List SI:=[.if_ (.isinst (.var 0) "bytes") [.stuck] [.ret (.str "/")]]
noncomputable def dg6:List SI:=[.assign 0 false (.call "fspath" [(.var 0)]),.assign 2 false (.call "_get_sep" [(.var 0)]),.assign 3 false (.var 0),.try_ [.for_ [4] (.var 1) [.assign 4 false (.call "fspath" [(.var 4)]),.if_ (.or [(.meth .startswith (.var 4) [(.var 2)]),(.not (.var 3))]) [.assign 3 false (.var 4)] [.if_ (.meth .endswith (.var 3) [(.var 2)]) [.aug 3 .Add (.var 4)] [.aug 3 .Add (.bin .Add (.var 2) (.var 4))]]]],.ret (.var 3)]
noncomputable def br7:List SI:=[.assign 0 false (.call "fspath" [(.var 0)]),.assign 1 false (.call "_get_sep" [(.var 0)]),.assign 2 false (.bin .Add (.meth .rfind (.var 0) [(.var 1)]) (.int 1)),.assign 3 false (.upto (.var 0) (.var 2)),.if_ (.andT [(.var 3),(.cmp .NotEq (.var 3) (.bin .Mult (.var 1) (.bcall .len [(.var 3)])))]) [.assign 3 false (.meth .rstrip (.var 3) [(.var 1)])] [],.ret (.var 3)]
noncomputable def ar4:List SI:=[.assign 0 false (.tupmap "fspath" (.var 0)),.if_ (.not (.var 0)) [.stuck] [],.if_ (.isinst (.idx (.var 0) (.int 0)) "bytes") [.stuck,.stuck] [.assign 1 false (.str "/"),.assign 2 false (.str ".")],.try_ [.assign 3 false (.comp [none,none,some 1] [1] (.var 0) [] (.meth .split (.var 1) [(.var 2)])),.try_ [.unpackS 4 [none,none,some 1] [1] (.var 0) (.meth .startswith (.var 1) [(.var 2)])],.assign 3 false (.comp [none,none,some 2] [1] (.var 3) [] (.comp [none,none,some 2] [1] (.var 1) [(.andT [(.var 1),(.cmp .NotEq (.var 1) (.var 2))])] (.var 1))),.assign 6 false (.bcall .min [(.var 3)]),.assign 7 false (.bcall .max [(.var 3)]),.assign 8 false (.var 6),.for_ [9,5] (.enum (.var 6)) [.if_ (.cmp .NotEq (.var 5) (.idx (.var 7) (.var 9))) [.assign 8 false (.upto (.var 6) (.var 9)),.brk] []],.assign 10 false (.ite (.var 4) (.var 1) (.upto (.var 1) (.int 0))),.ret (.bin .Add (.var 10) (.meth .join (.var 1) [(.var 8)]))]]
noncomputable def as2:List SI:=[.try_ [.if_ (.cmp .In (.str "&") (.var 0)) [.assign 0 false (.replace (.var 0) "&" "&amp;")] [],.if_ (.cmp .In (.str "<") (.var 0)) [.assign 0 false (.replace (.var 0) "<" "&lt;")] [],.if_ (.cmp .In (.str ">") (.var 0)) [.assign 0 false (.replace (.var 0) ">" "&gt;")] [],.ret (.var 0)]]
noncomputable def aq3:List SI:=[.try_ [.if_ (.cmp .In (.str "&") (.var 0)) [.assign 0 false (.replace (.var 0) "&" "&amp;")] [],.if_ (.cmp .In (.str "<") (.var 0)) [.assign 0 false (.replace (.var 0) "<" "&lt;")] [],.if_ (.cmp .In (.str ">") (.var 0)) [.assign 0 false (.replace (.var 0) ">" "&gt;")] [],.if_ (.cmp .In (.str "\"") (.var 0)) [.assign 0 false (.replace (.var 0) "\"" "&quot;")] [],.if_ (.cmp .In (.str "\x0d") (.var 0)) [.assign 0 false (.replace (.var 0) "\x0d" "&#13;")] [],.if_ (.cmp .In (.str "\n") (.var 0)) [.assign 0 false (.replace (.var 0) "\n" "&#10;")] [],.if_ (.cmp .In (.str "\t") (.var 0)) [.assign 0 false (.replace (.var 0) "\t" "&#09;")] [],.ret (.var 0)]]
noncomputable def ah9:List SI:=[.try_ [.if_ (.cmp .In (.str "&") (.var 0)) [.assign 0 false (.replace (.var 0) "&" "&amp;")] [],.if_ (.cmp .In (.str ">") (.var 0)) [.assign 0 false (.replace (.var 0) ">" "&gt;")] [],.if_ (.cmp .In (.str "\"") (.var 0)) [.assign 0 false (.replace (.var 0) "\"" "&quot;")] [],.ret (.var 0)]]
noncomputable def ai6:List SI:=[.try_ [.if_ (.cmp .In (.str "&") (.var 0)) [.assign 0 false (.replace (.var 0) "&" "&amp;")] [],.if_ (.cmp .In (.str "<") (.var 0)) [.assign 0 false (.replace (.var 0) "<" "&lt;")] [],.if_ (.cmp .In (.str ">") (.var 0)) [.assign 0 false (.replace (.var 0) ">" "&gt;")] [],.if_ (.cmp .In (.str "\x0d") (.var 0)) [.assign 0 false (.replace (.var 0) "\x0d" "&#xD;")] [],.ret (.var 0)]]
noncomputable def ah4:List SI:=[.try_ [.if_ (.cmp .In (.str "&") (.var 0)) [.assign 0 false (.replace (.var 0) "&" "&amp;")] [],.if_ (.cmp .In (.str "<") (.var 0)) [.assign 0 false (.replace (.var 0) "<" "&lt;")] [],.if_ (.cmp .In (.str "\"") (.var 0)) [.assign 0 false (.replace (.var 0) "\"" "&quot;")] [],.if_ (.cmp .In (.str "\t") (.var 0)) [.assign 0 false (.replace (.var 0) "\t" "&#x9;")] [],.if_ (.cmp .In (.str "\n") (.var 0)) [.assign 0 false (.replace (.var 0) "\n" "&#xA;")] [],.if_ (.cmp .In (.str "\x0d") (.var 0)) [.assign 0 false (.replace (.var 0) "\x0d" "&#xD;")] [],.ret (.var 0)]]
noncomputable def ar6:List SI:=[.assign 1 true (.list [(.int 17),(.int 157860),(.int 8),(.int 12)]),.for_ [2,3] (.enum (.upto (.var 0) (.int 60))) [.augItem 1 (.bin .Mod (.var 2) (.int 4)) .Add (.bin .Mod (.var 3) (.int 10000000))],.assign 4 false (.list [(.str "\t"),(.str "\n"),(.str "\x0d"),(.str "\""),(.str "&"),(.str "&lt;"),(.str "#"),(.str "'"),(.str "<"),(.str "="),(.str ">"),(.str "a")]),.assign 5 false (.comp [none,none,some 1,some 4] [1] (.range [(.int 5)]) [] (.idx (.var 3) (.bin .Mod (.bin .Add (.bin .FloorDiv (.idx (.var 2) (.int 0)) (.int 5)) (.var 1)) (.int 12)))),.assign 6 false (.comp2 [none,none,none,none] [1] (.range [(.int 5)]) [2] (.range [(.int 5)]) [(.cmp .NotEq (.var 2) (.var 1))] (.tup [(.var 1),(.var 2)])),.assign 6 false (.comp [none,none,none,some 1] [1,2] (.enum (.var 6)) [(.bin .BitAnd (.bin .RShift (.idx (.var 3) (.int 1)) (.var 1)) (.int 1))] (.var 2)),.assign 8 true (.list []),.assign 9 false (.idx (.var 1) (.int 3)),.for_ [2] (.range [(.int 5)]) [.unpack [9,7] (.bcall .divmod [(.var 9),(.bin .Add (.var 2) (.int 1))]),.insert 8 (.var 7) (.var 2)],.ret (.tup [(.bin .Mod (.idx (.var 1) (.int 0)) (.int 5)),(.var 5),(.var 6),(.idx (.var 1) (.int 2)),(.var 8)])]
noncomputable def au9:List SI:=[.assign 2 false (.list [(.dict [(.str "&"),(.str "<"),(.str ">")] [(.str "&amp;"),(.str "&lt;"),(.str "&gt;")]),(.dict [(.str "&"),(.str "<"),(.str ">"),(.str "\x0d")] [(.str "&amp;"),(.str "&lt;"),(.str "&gt;"),(.str "&#xD;")]),(.dict [(.str "&"),(.str "<"),(.str ">"),(.str "\""),(.str "\x0d"),(.str "\n"),(.str "\t")] [(.str "&amp;"),(.str "&lt;"),(.str "&gt;"),(.str "&quot;"),(.str "&#13;"),(.str "&#10;"),(.str "&#09;")]),(.dict [(.str "&"),(.str "<"),(.str "\""),(.str "\x0d"),(.str "\n"),(.str "\t")] [(.str "&amp;"),(.str "&lt;"),(.str "&quot;"),(.str "&#xD;"),(.str "&#xA;"),(.str "&#x9;")]),(.dict [(.str "&"),(.str ">"),(.str "\"")] [(.str "&amp;"),(.str "&gt;"),(.str "&quot;")])]),.ret (.meth .join (.str "") [(.comp [none,none,some 2,some 1] [1] (.var 0) [] (.meth .get (.idx (.var 2) (.var 3)) [(.var 1),(.var 1)]))])]
noncomputable def al4:List SI:=[.if_ (.cmp .Eq (.var 1) (.int 0)) [.ret (.call "_escape_cdata" [(.var 0)])] [],.if_ (.cmp .Eq (.var 1) (.int 1)) [.ret (.call "_escape_cdata_c14n" [(.var 0)])] [],.if_ (.cmp .Eq (.var 1) (.int 2)) [.ret (.call "_escape_attrib" [(.var 0)])] [],.if_ (.cmp .Eq (.var 1) (.int 3)) [.ret (.call "_escape_attrib_c14n" [(.var 0)])] [],.ret (.call "_escape_attrib_html" [(.var 0)])]
noncomputable def ar1:List SI:=[.assign 2 true (.list [(.int 0)]),.for_ [3] (.range [(.int 4)]) [.for_ [4,5] (.var 0) [.if_ (.and [(.cmp .In (.var 4) (.var 2)),(.cmp .NotIn (.var 5) (.var 2)),(.cmp .NotEq (.var 5) (.var 1))]) [.append 2 (.var 5)] []]],.ret (.var 2)]
noncomputable def ar8:List SI:=[.assign 3 true (.dict [(.idx (.var 0) (.int 0))] [(.call "join" [(.str "/"),(.idx (.var 0) (.int 0))])]),.for_ [4] (.range [(.int 4)]) [.assign 5 true (.list []),.for_ [6] (.var 3) [.augList 5 (.comp [none,none,some 6,some 3] [1] (.idx (.call "sorted_list_difference" [(.idx (.var 1) (.var 6)),(.bcall .sorted [(.var 3)])]) (.int 0)) [] (.list [(.idx (.var 3) (.var 2)),(.var 1)]))],.if_ (.cmp .NotEq (.var 5) (.list [])) [.unpack [2,8] (.bcall .divmod [(.var 2),(.bcall .len [(.var 5)])]),.unpack [9,7] (.idx (.bcall .sorted [(.var 5)]) (.var 8)),.setItem 3 (.var 7) (.call "join" [(.var 9),(.var 7)])] []],.ret (.var 3)]
noncomputable def ao9:List SI:=[.assign 3 false (.bool true),.for_ [4] (.range [(.int 12)]) [.if_ (.var 3) [.assign 3 false (.bool false),.for_ [5] (.var 1) [.if_ (.cmp .In (.var 5) (.var 0)) [.assign 6 false (.idx (.var 0) (.var 5)),.assign 8 false (.call "commonpath" [(.bin .Add (.list [(.call "dirname" [(.var 6)])]) (.comp [none,none,some 0] [1] (.idx (.var 2) (.var 5)) [(.cmp .In (.var 1) (.var 2))] (.idx (.var 2) (.var 1))))]),.if_ (.cmp .NotEq (.var 8) (.call "dirname" [(.var 6)])) [.assign 3 false (.bool true),.assign 9 false (.comp [none,none,none,some 6,some 0] [1] (.var 0) [(.cmp .Eq (.call "commonpath" [(.list [(.var 3),(.idx (.var 4) (.var 1))])]) (.var 3))] (.var 1)),.for_ [7] (.var 9) [.setItem 0 (.var 7) (.bin .Add (.call "join" [(.var 8),(.var 5)]) (.from (.idx (.var 0) (.var 7)) (.bcall .len [(.var 6)])))]] []] []]] []],.ret (.var 0)]
noncomputable def cj0:List SI:=[.unpack [1,2,3,4,5] (.call "_law_drawn" [(.var 0)]),.assign 6 false (.comp [none,none,none,some 1] [1] (.var 2) [] (.call "_law_written" [(.var 1),(.var 3)])),.assign 7 false (.dcomp [none,none,none,some 3,some 6] [1] (.range [(.int 5)]) [] (.idx (.var 4) (.var 1)) (.bcall .sorted [(.comp [none,none,none,some 1,some 4] [1,2] (.var 3) [(.cmp .Eq (.var 1) (.var 3))] (.idx (.var 4) (.var 2)))])),.assign 8 false (.dcomp [none,none,some 3,some 6] [1] (.range [(.int 5)]) [] (.idx (.var 3) (.var 1)) (.comp [none,none,none,some 1,some 3] [1,2] (.var 2) [(.cmp .Eq (.var 2) (.var 3))] (.idx (.var 4) (.var 1)))),.assign 9 false (.call "_law_lifted" [(.call "_law_grown" [(.var 6),(.var 7),(.var 4)]),(.comp [none,none,some 6] [1] (.var 5) [(.cmp .NotEq (.var 1) (.int 0))] (.idx (.var 2) (.var 1))),(.var 8)])]
end
section
open PySem.Calls PySem.SeqAt
section
variable {w:World} {qa:Heap} {mg mb:Str->Option Value} {k:Nat} {U:String->List D->Option D} {qc:String->Bool}
theorem cf8 (G:Glb qa mg mb) (C:t8 w qa mg k U):ab1 prog w qa k U qc (i6 PySem.Challenge.pw_rt0078_03 13).scope (i6 PySem.Challenge.pw_rt0078_03 13).body bl3 :=by
 refine a7 ?_ ?_
 refine n8 ?_ ?_ ?_
 refine TsW rfl rfl ?_
 refine LkW rfl ?_
 refine ce3 G ⋯ rfl ⋯ rfl ?_ rfl
 exact (b7 ⋯)
 exact bd7
 refine a7 ?_ ?_
 refine am9 rfl ?_
 exact a8
 exact c7
 exact c7
theorem dp5 (G:Glb qa mg mb) (C:t8 w qa mg k U):ab1 prog w qa k U qc (i6 PySem.Challenge.pw_rt0078_03 14).scope (i6 PySem.Challenge.pw_rt0078_03 14).body dg6 :=by
 refine a7 ?_ ?_
 refine c8 ⋯ rfl ?_ rfl
 refine k7 G C ⋯ rfl rfl rfl (by decide) ?_
 refine b8.cons ?_ ?_
 exact (g6 ⋯)
 exact b8.nil
 refine a7 ?_ ?_
 refine c8 ⋯ rfl ?_ rfl
 refine k7 G C ⋯ rfl rfl rfl (by decide) ?_
 refine b8.cons ?_ ?_
 exact (g6 ⋯)
 exact b8.nil
 refine a7 ?_ ?_
 refine c8 ⋯ rfl ?_ rfl
 exact (g6 ⋯)
 refine a7 ?_ ?_
 refine ax7 ?_
 refine a7 ?_ ?_
 refine ap7 (.name ⋯) rfl ?_ ?_
 refine i7 rfl ?_
 exact (aa2 ⋯)
 refine a7 ?_ ?_
 refine c8 ⋯ rfl ?_ rfl
 refine k7 G C ⋯ rfl rfl rfl (by decide) ?_
 refine b8.cons ?_ ?_
 exact (g6 ⋯)
 exact b8.nil
 refine a7 ?_ ?_
 refine n8 ?_ ?_ ?_
 refine eo9 ?_
 refine b8.cons ?_ ?_
 refine TsW rfl rfl ?_
 refine LkW rfl ?_
 refine as4 rfl rfl (by decide) rfl rfl rfl rfl ?_ ?_
 exact (b7 ⋯)
 refine b8.cons ?_ ?_
 exact (g6 ⋯)
 exact b8.nil
 refine b8.cons ?_ ?_
 refine dp2 ?_
 refine TsW rfl rfl ?_
 exact (b7 ⋯)
 exact b8.nil
 refine a7 ?_ ?_
 refine c8 ⋯ rfl ?_ rfl
 exact (g6 ⋯)
 exact c7
 refine a7 ?_ ?_
 refine n8 ?_ ?_ ?_
 refine TsW rfl rfl ?_
 refine LkW rfl ?_
 refine as4 rfl rfl (by decide) rfl rfl rfl rfl ?_ ?_
 exact (b7 ⋯)
 refine b8.cons ?_ ?_
 exact (g6 ⋯)
 exact b8.nil
 refine a7 ?_ ?_
 refine ea0 ⋯ ?_
 exact (b7 ⋯)
 exact c7
 refine a7 ?_ ?_
 refine ea0 ⋯ ?_
 refine LkW rfl ?_
 refine ae6 ?_ ?_
 exact (b7 ⋯)
 exact (b7 ⋯)
 exact c7
 exact c7
 exact c7
 exact c7
 refine a7 ?_ ?_
 exact (aa7 ⋯)
 exact c7
theorem co0 (G:Glb qa mg mb) (C:t8 w qa mg k U):ab1 prog w qa k U qc (i6 PySem.Challenge.pw_rt0078_03 15).scope (i6 PySem.Challenge.pw_rt0078_03 15).body br7 :=by
 refine a7 ?_ ?_
 refine c8 ⋯ rfl ?_ rfl
 refine k7 G C ⋯ rfl rfl rfl (by decide) ?_
 refine b8.cons ?_ ?_
 exact (g6 ⋯)
 exact b8.nil
 refine a7 ?_ ?_
 refine c8 ⋯ rfl ?_ rfl
 refine k7 G C ⋯ rfl rfl rfl (by decide) ?_
 refine b8.cons ?_ ?_
 exact (g6 ⋯)
 exact b8.nil
 refine a7 ?_ ?_
 refine c8 ⋯ rfl ?_ rfl
 refine ae6 ?_ ?_
 refine LkW rfl ?_
 refine as4 rfl rfl (by decide) rfl rfl rfl rfl ?_ ?_
 exact (b7 ⋯)
 refine b8.cons ?_ ?_
 exact (g6 ⋯)
 exact b8.nil
 refine LkW rfl ?_
 exact c9
 refine a7 ?_ ?_
 refine c8 ⋯ rfl ?_ rfl
 refine bo9 ?_ ?_
 exact (b7 ⋯)
 exact (b7 ⋯)
 refine a7 ?_ ?_
 refine n8 ?_ ?_ ?_
 refine dg5 ?_
 refine b8.cons ?_ ?_
 refine TsW rfl rfl ?_
 exact (b7 ⋯)
 refine b8.cons ?_ ?_
 refine j1 ?_ ?_ rfl
 exact (b7 ⋯)
 refine LkW rfl ?_
 refine ae6 ?_ ?_
 exact (b7 ⋯)
 refine LkW rfl ?_
 refine ae8 G ⋯ rfl ?_ rfl
 refine b8.cons ?_ ?_
 exact (b7 ⋯)
 exact b8.nil
 exact b8.nil
 refine a7 ?_ ?_
 refine c8 ⋯ rfl ?_ rfl
 refine as4 rfl rfl (by decide) rfl rfl rfl rfl ?_ ?_
 exact (b7 ⋯)
 refine b8.cons ?_ ?_
 exact (g6 ⋯)
 exact b8.nil
 exact c7
 exact c7
 refine a7 ?_ ?_
 exact (aa7 ⋯)
 exact c7
theorem bs5 (G:Glb qa mg mb) (C:t8 w qa mg k U) {j:Nat} (HJ:j+1<=k) (HF:ad6 w qa mg j "fspath" (U "fspath")):ab1 prog w qa k U qc (i6 PySem.Challenge.pw_rt0078_03 16).scope (i6 PySem.Challenge.pw_rt0078_03 16).body ar4 :=by
 refine a7 ?_ ?_
 refine c8 ⋯ rfl ?_ rfl
 refine di1 G ⋯ rfl ⋯ rfl ⋯ rfl HJ HF ?_ rfl
 exact (b7 ⋯)
 refine a7 ?_ ?_
 refine n8 ?_ ?_ ?_
 refine dp2 ?_
 refine TsW rfl rfl ?_
 exact (b7 ⋯)
 exact bd7
 exact c7
 refine a7 ?_ ?_
 refine n8 ?_ ?_ ?_
 refine TsW rfl rfl ?_
 refine LkW rfl ?_
 refine ce3 G ⋯ rfl ⋯ rfl ?_ rfl
 refine LkW rfl ?_
 refine u7 ?_ ?_
 exact (b7 ⋯)
 refine LkW rfl ?_
 exact c9
 exact bd7
 refine a7 ?_ ?_
 refine c8 ⋯ rfl ?_ rfl
 exact a8
 refine a7 ?_ ?_
 refine c8 ⋯ rfl ?_ rfl
 exact a8
 exact c7
 refine a7 ?_ ?_
 refine ax7 ?_
 refine a7 ?_ ?_
 refine aa4 ⋯ ⋯ ⋯ (.name ⋯) ?_ ?_ ?_
 refine i7 rfl ?_
 exact (aa2 ⋯)
 exact b8.nil
 refine as4 rfl rfl (by decide) rfl rfl rfl rfl ?_ ?_
 exact (b7 ⋯)
 refine b8.cons ?_ ?_
 exact (g6 ⋯)
 exact b8.nil
 refine a7 ?_ ?_
 refine ax7 ?_
 refine a7 ?_ ?_
 refine bx7 G ⋯ ⋯ ⋯ (.name ⋯) ?_ ?_
 refine i7 rfl ?_
 exact (aa2 ⋯)
 refine as4 rfl rfl (by decide) rfl rfl rfl rfl ?_ ?_
 exact (b7 ⋯)
 refine b8.cons ?_ ?_
 exact (g6 ⋯)
 exact b8.nil
 exact c7
 refine a7 ?_ ?_
 refine aa4 ⋯ ⋯ ⋯ (.name ⋯) ?_ ?_ ?_
 refine i7 rfl ?_
 exact (aa2 ⋯)
 exact b8.nil
 refine al1 ⋯ ⋯ (.name ⋯) ?_ ?_ ?_
 refine i7 rfl ?_
 exact (aa2 ⋯)
 refine b8.cons ?_ ?_
 refine dg5 ?_
 refine b8.cons ?_ ?_
 refine TsW rfl rfl ?_
 exact (b7 ⋯)
 refine b8.cons ?_ ?_
 refine j1 ?_ ?_ rfl
 exact (b7 ⋯)
 exact (b7 ⋯)
 exact b8.nil
 exact b8.nil
 exact (g6 ⋯)
 refine a7 ?_ ?_
 refine c8 ⋯ rfl ?_ rfl
 refine ae8 G ⋯ rfl ?_ rfl
 refine b8.cons ?_ ?_
 exact (b7 ⋯)
 exact b8.nil
 refine a7 ?_ ?_
 refine c8 ⋯ rfl ?_ rfl
 refine ae8 G ⋯ rfl ?_ rfl
 refine b8.cons ?_ ?_
 exact (b7 ⋯)
 exact b8.nil
 refine a7 ?_ ?_
 refine c8 ⋯ rfl ?_ rfl
 exact (g6 ⋯)
 refine a7 ?_ ?_
 refine ap7 (.tup (.cons ⟨_,_,rfl,⋯⟩ (.cons ⟨_,_,rfl,⋯⟩ .nil)) (by decide)) rfl ?_ ?_
 refine bd4 G ⋯ rfl ?_ rfl
 exact (aa2 ⋯)
 refine a7 ?_ ?_
 refine n8 ?_ ?_ ?_
 refine j1 ?_ ?_ rfl
 exact (b7 ⋯)
 refine LkW rfl ?_
 refine u7 ?_ ?_
 exact (b7 ⋯)
 exact (b7 ⋯)
 refine a7 ?_ ?_
 refine c8 ⋯ rfl ?_ rfl
 refine bo9 ?_ ?_
 exact (b7 ⋯)
 exact (b7 ⋯)
 refine a7 ?_ ?_
 exact er3
 exact c7
 exact c7
 exact c7
 refine a7 ?_ ?_
 refine c8 ⋯ rfl ?_ rfl
 refine dv4 ?_ ?_ ?_
 refine TsW rfl rfl ?_
 exact (b7 ⋯)
 exact (g6 ⋯)
 refine bo9 ?_ ?_
 exact (b7 ⋯)
 refine LkW rfl ?_
 exact c9
 refine a7 ?_ ?_
 refine am9 rfl ?_
 refine ae6 ?_ ?_
 exact (b7 ⋯)
 refine LkW rfl ?_
 refine bw7 rfl rfl (by decide) rfl rfl ?_ ?_
 exact (b7 ⋯)
 refine b8.cons ?_ ?_
 exact (b7 ⋯)
 exact b8.nil
 exact c7
 exact c7
theorem bh0 (G:Glb qa mg mb) (C:t8 w qa mg k U):ab1 prog w qa k U qc (i6 PySem.Challenge.pw_rt0078_03 21).scope (i6 PySem.Challenge.pw_rt0078_03 21).body as2 :=by
 refine a7 ?_ ?_
 refine ax7 ?_
 refine a7 ?_ ?_
 refine n8 ?_ ?_ ?_
 refine j1 ?_ ?_ rfl
 refine LkW rfl ?_
 exact a8
 exact (b7 ⋯)
 refine a7 ?_ ?_
 refine c8 ⋯ rfl ?_ rfl
 refine i0 rfl rfl rfl ?_
 exact (b7 ⋯)
 exact c7
 exact c7
 refine a7 ?_ ?_
 refine n8 ?_ ?_ ?_
 refine j1 ?_ ?_ rfl
 refine LkW rfl ?_
 exact a8
 exact (b7 ⋯)
 refine a7 ?_ ?_
 refine c8 ⋯ rfl ?_ rfl
 refine i0 rfl rfl rfl ?_
 exact (b7 ⋯)
 exact c7
 exact c7
 refine a7 ?_ ?_
 refine n8 ?_ ?_ ?_
 refine j1 ?_ ?_ rfl
 refine LkW rfl ?_
 exact a8
 exact (b7 ⋯)
 refine a7 ?_ ?_
 refine c8 ⋯ rfl ?_ rfl
 refine i0 rfl rfl rfl ?_
 exact (b7 ⋯)
 exact c7
 exact c7
 refine a7 ?_ ?_
 exact (aa7 ⋯)
 exact c7
 exact c7
theorem bc2 (G:Glb qa mg mb) (C:t8 w qa mg k U):ab1 prog w qa k U qc (i6 PySem.Challenge.pw_rt0078_03 22).scope (i6 PySem.Challenge.pw_rt0078_03 22).body aq3 :=by
 refine a7 ?_ ?_
 refine ax7 ?_
 refine a7 ?_ ?_
 refine n8 ?_ ?_ ?_
 refine j1 ?_ ?_ rfl
 refine LkW rfl ?_
 exact a8
 exact (b7 ⋯)
 refine a7 ?_ ?_
 refine c8 ⋯ rfl ?_ rfl
 refine i0 rfl rfl rfl ?_
 exact (b7 ⋯)
 exact c7
 exact c7
 refine a7 ?_ ?_
 refine n8 ?_ ?_ ?_
 refine j1 ?_ ?_ rfl
 refine LkW rfl ?_
 exact a8
 exact (b7 ⋯)
 refine a7 ?_ ?_
 refine c8 ⋯ rfl ?_ rfl
 refine i0 rfl rfl rfl ?_
 exact (b7 ⋯)
 exact c7
 exact c7
 refine a7 ?_ ?_
 refine n8 ?_ ?_ ?_
 refine j1 ?_ ?_ rfl
 refine LkW rfl ?_
 exact a8
 exact (b7 ⋯)
 refine a7 ?_ ?_
 refine c8 ⋯ rfl ?_ rfl
 refine i0 rfl rfl rfl ?_
 exact (b7 ⋯)
 exact c7
 exact c7
 refine a7 ?_ ?_
 refine n8 ?_ ?_ ?_
 refine j1 ?_ ?_ rfl
 refine LkW rfl ?_
 exact a8
 exact (b7 ⋯)
 refine a7 ?_ ?_
 refine c8 ⋯ rfl ?_ rfl
 refine i0 rfl rfl rfl ?_
 exact (b7 ⋯)
 exact c7
 exact c7
 refine a7 ?_ ?_
 refine n8 ?_ ?_ ?_
 refine j1 ?_ ?_ rfl
 refine LkW rfl ?_
 exact a8
 exact (b7 ⋯)
 refine a7 ?_ ?_
 refine c8 ⋯ rfl ?_ rfl
 refine i0 rfl rfl rfl ?_
 exact (b7 ⋯)
 exact c7
 exact c7
 refine a7 ?_ ?_
 refine n8 ?_ ?_ ?_
 refine j1 ?_ ?_ rfl
 refine LkW rfl ?_
 exact a8
 exact (b7 ⋯)
 refine a7 ?_ ?_
 refine c8 ⋯ rfl ?_ rfl
 refine i0 rfl rfl rfl ?_
 exact (b7 ⋯)
 exact c7
 exact c7
 refine a7 ?_ ?_
 refine n8 ?_ ?_ ?_
 refine j1 ?_ ?_ rfl
 refine LkW rfl ?_
 exact a8
 exact (b7 ⋯)
 refine a7 ?_ ?_
 refine c8 ⋯ rfl ?_ rfl
 refine i0 rfl rfl rfl ?_
 exact (b7 ⋯)
 exact c7
 exact c7
 refine a7 ?_ ?_
 exact (aa7 ⋯)
 exact c7
 exact c7
theorem at3 (G:Glb qa mg mb) (C:t8 w qa mg k U):ab1 prog w qa k U qc (i6 PySem.Challenge.pw_rt0078_03 23).scope (i6 PySem.Challenge.pw_rt0078_03 23).body ah9 :=by
 refine a7 ?_ ?_
 refine ax7 ?_
 refine a7 ?_ ?_
 refine n8 ?_ ?_ ?_
 refine j1 ?_ ?_ rfl
 refine LkW rfl ?_
 exact a8
 exact (b7 ⋯)
 refine a7 ?_ ?_
 refine c8 ⋯ rfl ?_ rfl
 refine i0 rfl rfl rfl ?_
 exact (b7 ⋯)
 exact c7
 exact c7
 refine a7 ?_ ?_
 refine n8 ?_ ?_ ?_
 refine j1 ?_ ?_ rfl
 refine LkW rfl ?_
 exact a8
 exact (b7 ⋯)
 refine a7 ?_ ?_
 refine c8 ⋯ rfl ?_ rfl
 refine i0 rfl rfl rfl ?_
 exact (b7 ⋯)
 exact c7
 exact c7
 refine a7 ?_ ?_
 refine n8 ?_ ?_ ?_
 refine j1 ?_ ?_ rfl
 refine LkW rfl ?_
 exact a8
 exact (b7 ⋯)
 refine a7 ?_ ?_
 refine c8 ⋯ rfl ?_ rfl
 refine i0 rfl rfl rfl ?_
 exact (b7 ⋯)
 exact c7
 exact c7
 refine a7 ?_ ?_
 exact (aa7 ⋯)
 exact c7
 exact c7
theorem au7 (G:Glb qa mg mb) (C:t8 w qa mg k U):ab1 prog w qa k U qc (i6 PySem.Challenge.pw_rt0078_03 24).scope (i6 PySem.Challenge.pw_rt0078_03 24).body ai6 :=by
 refine a7 ?_ ?_
 refine ax7 ?_
 refine a7 ?_ ?_
 refine n8 ?_ ?_ ?_
 refine j1 ?_ ?_ rfl
 refine LkW rfl ?_
 exact a8
 exact (b7 ⋯)
 refine a7 ?_ ?_
 refine c8 ⋯ rfl ?_ rfl
 refine i0 rfl rfl rfl ?_
 exact (b7 ⋯)
 exact c7
 exact c7
 refine a7 ?_ ?_
 refine n8 ?_ ?_ ?_
 refine j1 ?_ ?_ rfl
 refine LkW rfl ?_
 exact a8
 exact (b7 ⋯)
 refine a7 ?_ ?_
 refine c8 ⋯ rfl ?_ rfl
 refine i0 rfl rfl rfl ?_
 exact (b7 ⋯)
 exact c7
 exact c7
 refine a7 ?_ ?_
 refine n8 ?_ ?_ ?_
 refine j1 ?_ ?_ rfl
 refine LkW rfl ?_
 exact a8
 exact (b7 ⋯)
 refine a7 ?_ ?_
 refine c8 ⋯ rfl ?_ rfl
 refine i0 rfl rfl rfl ?_
 exact (b7 ⋯)
 exact c7
 exact c7
 refine a7 ?_ ?_
 refine n8 ?_ ?_ ?_
 refine j1 ?_ ?_ rfl
 refine LkW rfl ?_
 exact a8
 exact (b7 ⋯)
 refine a7 ?_ ?_
 refine c8 ⋯ rfl ?_ rfl
 refine i0 rfl rfl rfl ?_
 exact (b7 ⋯)
 exact c7
 exact c7
 refine a7 ?_ ?_
 exact (aa7 ⋯)
 exact c7
 exact c7
theorem as1 (G:Glb qa mg mb) (C:t8 w qa mg k U):ab1 prog w qa k U qc (i6 PySem.Challenge.pw_rt0078_03 25).scope (i6 PySem.Challenge.pw_rt0078_03 25).body ah4 :=by
 refine a7 ?_ ?_
 refine ax7 ?_
 refine a7 ?_ ?_
 refine n8 ?_ ?_ ?_
 refine j1 ?_ ?_ rfl
 refine LkW rfl ?_
 exact a8
 exact (b7 ⋯)
 refine a7 ?_ ?_
 refine c8 ⋯ rfl ?_ rfl
 refine i0 rfl rfl rfl ?_
 exact (b7 ⋯)
 exact c7
 exact c7
 refine a7 ?_ ?_
 refine n8 ?_ ?_ ?_
 refine j1 ?_ ?_ rfl
 refine LkW rfl ?_
 exact a8
 exact (b7 ⋯)
 refine a7 ?_ ?_
 refine c8 ⋯ rfl ?_ rfl
 refine i0 rfl rfl rfl ?_
 exact (b7 ⋯)
 exact c7
 exact c7
 refine a7 ?_ ?_
 refine n8 ?_ ?_ ?_
 refine j1 ?_ ?_ rfl
 refine LkW rfl ?_
 exact a8
 exact (b7 ⋯)
 refine a7 ?_ ?_
 refine c8 ⋯ rfl ?_ rfl
 refine i0 rfl rfl rfl ?_
 exact (b7 ⋯)
 exact c7
 exact c7
 refine a7 ?_ ?_
 refine n8 ?_ ?_ ?_
 refine j1 ?_ ?_ rfl
 refine LkW rfl ?_
 exact a8
 exact (b7 ⋯)
 refine a7 ?_ ?_
 refine c8 ⋯ rfl ?_ rfl
 refine i0 rfl rfl rfl ?_
 exact (b7 ⋯)
 exact c7
 exact c7
 refine a7 ?_ ?_
 refine n8 ?_ ?_ ?_
 refine j1 ?_ ?_ rfl
 refine LkW rfl ?_
 exact a8
 exact (b7 ⋯)
 refine a7 ?_ ?_
 refine c8 ⋯ rfl ?_ rfl
 refine i0 rfl rfl rfl ?_
 exact (b7 ⋯)
 exact c7
 exact c7
 refine a7 ?_ ?_
 refine n8 ?_ ?_ ?_
 refine j1 ?_ ?_ rfl
 refine LkW rfl ?_
 exact a8
 exact (b7 ⋯)
 refine a7 ?_ ?_
 refine c8 ⋯ rfl ?_ rfl
 refine i0 rfl rfl rfl ?_
 exact (b7 ⋯)
 exact c7
 exact c7
 refine a7 ?_ ?_
 exact (aa7 ⋯)
 exact c7
 exact c7
theorem bt4 (G:Glb qa mg mb) (C:t8 w qa mg k U):ab1 prog w qa k U qc (i6 PySem.Challenge.pw_rt0078_03 27).scope (i6 PySem.Challenge.pw_rt0078_03 27).body ar6 :=by
 refine a7 ?_ ?_
 refine y6 ⋯ rfl ?_ rfl
 refine ay9 rfl ?_
 refine b8.cons ?_ ?_
 exact c9
 refine b8.cons ?_ ?_
 exact c9
 refine b8.cons ?_ ?_
 exact c9
 refine b8.cons ?_ ?_
 exact c9
 exact b8.nil
 refine a7 ?_ ?_
 refine ap7 (.tup (.cons ⟨_,_,rfl,⋯⟩ (.cons ⟨_,_,rfl,⋯⟩ .nil)) (by decide)) rfl ?_ ?_
 refine bd4 G ⋯ rfl ?_ rfl
 refine LvW rfl ?_
 refine bo9 ?_ ?_
 exact (b7 ⋯)
 refine LkW rfl ?_
 exact c9
 refine a7 ?_ ?_
 refine cw8 ⋯ rfl ?_ ?_
 refine LkW rfl ?_
 refine ae6 ?_ ?_
 exact (b7 ⋯)
 refine LkW rfl ?_
 exact c9
 refine LkW rfl ?_
 refine ae6 ?_ ?_
 exact (b7 ⋯)
 refine LkW rfl ?_
 exact c9
 exact c7
 refine a7 ?_ ?_
 refine c8 ⋯ rfl ?_ rfl
 refine av3 ?_ rfl
 refine b8.cons ?_ ?_
 exact a8
 refine b8.cons ?_ ?_
 exact a8
 refine b8.cons ?_ ?_
 exact a8
 refine b8.cons ?_ ?_
 exact a8
 refine b8.cons ?_ ?_
 exact a8
 refine b8.cons ?_ ?_
 exact a8
 refine b8.cons ?_ ?_
 exact a8
 refine b8.cons ?_ ?_
 exact a8
 refine b8.cons ?_ ?_
 exact a8
 refine b8.cons ?_ ?_
 exact a8
 refine b8.cons ?_ ?_
 exact a8
 refine b8.cons ?_ ?_
 exact a8
 exact b8.nil
 refine a7 ?_ ?_
 refine aa4 ⋯ ⋯ ⋯ (.name ⋯) ?_ ?_ ?_
 refine y7 G ⋯ rfl ?_ rfl
 refine b8.cons ?_ ?_
 refine LkW rfl ?_
 exact c9
 exact b8.nil
 exact b8.nil
 refine u7 ?_ ?_
 exact (b7 ⋯)
 refine LkW rfl ?_
 refine ae6 ?_ ?_
 refine LkW rfl ?_
 refine ae6 ?_ ?_
 refine LkW rfl ?_
 refine ae6 ?_ ?_
 refine LkW rfl ?_
 refine u7 ?_ ?_
 exact (b7 ⋯)
 refine LkW rfl ?_
 exact c9
 refine LkW rfl ?_
 exact c9
 exact (b7 ⋯)
 refine LkW rfl ?_
 exact c9
 refine a7 ?_ ?_
 refine bi9 ⋯ ⋯ ⋯ (.name ⋯) (.name ⋯) rfl rfl ?_ ?_ ?_ ?_
 refine y7 G ⋯ rfl ?_ rfl
 refine b8.cons ?_ ?_
 refine LkW rfl ?_
 exact c9
 exact b8.nil
 refine y7 G ⋯ rfl ?_ rfl
 refine b8.cons ?_ ?_
 refine LkW rfl ?_
 exact c9
 exact b8.nil
 refine b8.cons ?_ ?_
 refine j1 ?_ ?_ rfl
 exact (b7 ⋯)
 exact (b7 ⋯)
 exact b8.nil
 refine br2 ?_ rfl
 refine b8.cons ?_ ?_
 exact (g6 ⋯)
 refine b8.cons ?_ ?_
 exact (g6 ⋯)
 exact b8.nil
 refine a7 ?_ ?_
 refine aa4 ⋯ ⋯ ⋯ (.tup (.cons ⟨_,_,rfl,⋯⟩ (.cons ⟨_,_,rfl,⋯⟩ .nil)) (by decide)) ?_ ?_ ?_
 refine bd4 G ⋯ rfl ?_ rfl
 exact (aa2 ⋯)
 refine b8.cons ?_ ?_
 refine TsW rfl rfl ?_
 refine LkW rfl ?_
 refine ae6 ?_ ?_
 refine LkW rfl ?_
 refine ae6 ?_ ?_
 refine LkW rfl ?_
 refine u7 ?_ ?_
 exact (b7 ⋯)
 refine LkW rfl ?_
 exact c9
 exact (b7 ⋯)
 refine LkW rfl ?_
 exact c9
 exact b8.nil
 exact (g6 ⋯)
 refine a7 ?_ ?_
 refine y6 ⋯ rfl ?_ rfl
 refine ay9 rfl ?_
 exact b8.nil
 refine a7 ?_ ?_
 refine c8 ⋯ rfl ?_ rfl
 refine u7 ?_ ?_
 exact (b7 ⋯)
 refine LkW rfl ?_
 exact c9
 refine a7 ?_ ?_
 refine ap7 (.name ⋯) rfl ?_ ?_
 refine y7 G ⋯ rfl ?_ rfl
 refine b8.cons ?_ ?_
 refine LkW rfl ?_
 exact c9
 exact b8.nil
 refine a7 ?_ ?_
 refine av1 (.cons ⟨_,_,rfl,⋯⟩ (.cons ⟨_,_,rfl,⋯⟩ .nil)) rfl (by decide) ?_
 refine ae8 G ⋯ rfl ?_ rfl
 refine b8.cons ?_ ?_
 exact (b7 ⋯)
 refine b8.cons ?_ ?_
 refine LkW rfl ?_
 refine ae6 ?_ ?_
 exact (b7 ⋯)
 refine LkW rfl ?_
 exact c9
 exact b8.nil
 refine a7 ?_ ?_
 refine di7 rfl ⋯ rfl rfl rfl ?_ ?_
 exact (b7 ⋯)
 exact (g6 ⋯)
 exact c7
 refine a7 ?_ ?_
 refine am9 rfl ?_
 refine br2 ?_ rfl
 refine b8.cons ?_ ?_
 refine ae6 ?_ ?_
 refine LkW rfl ?_
 refine u7 ?_ ?_
 exact (b7 ⋯)
 refine LkW rfl ?_
 exact c9
 refine LkW rfl ?_
 exact c9
 refine b8.cons ?_ ?_
 exact (g6 ⋯)
 refine b8.cons ?_ ?_
 exact (g6 ⋯)
 refine b8.cons ?_ ?_
 refine u7 ?_ ?_
 exact (b7 ⋯)
 refine LkW rfl ?_
 exact c9
 refine b8.cons ?_ ?_
 exact (g6 ⋯)
 exact b8.nil
 exact c7
theorem bz9 (G:Glb qa mg mb) (C:t8 w qa mg k U):ab1 prog w qa k U qc (i6 PySem.Challenge.pw_rt0078_03 28).scope (i6 PySem.Challenge.pw_rt0078_03 28).body au9 :=by
 refine a7 ?_ ?_
 refine c8 ⋯ rfl ?_ rfl
 refine av3 ?_ rfl
 refine b8.cons ?_ ?_
 refine az6 G rfl rfl (by decide) ?_ ?_
 refine b8.cons ?_ ?_
 refine ⟨_,rfl,?_⟩
 exact a8
 refine b8.cons ?_ ?_
 refine ⟨_,rfl,?_⟩
 exact a8
 refine b8.cons ?_ ?_
 refine ⟨_,rfl,?_⟩
 exact a8
 exact b8.nil
 refine b8.cons ?_ ?_
 exact a8
 refine b8.cons ?_ ?_
 exact a8
 refine b8.cons ?_ ?_
 exact a8
 exact b8.nil
 refine b8.cons ?_ ?_
 refine az6 G rfl rfl (by decide) ?_ ?_
 refine b8.cons ?_ ?_
 refine ⟨_,rfl,?_⟩
 exact a8
 refine b8.cons ?_ ?_
 refine ⟨_,rfl,?_⟩
 exact a8
 refine b8.cons ?_ ?_
 refine ⟨_,rfl,?_⟩
 exact a8
 refine b8.cons ?_ ?_
 refine ⟨_,rfl,?_⟩
 exact a8
 exact b8.nil
 refine b8.cons ?_ ?_
 exact a8
 refine b8.cons ?_ ?_
 exact a8
 refine b8.cons ?_ ?_
 exact a8
 refine b8.cons ?_ ?_
 exact a8
 exact b8.nil
 refine b8.cons ?_ ?_
 refine az6 G rfl rfl (by decide) ?_ ?_
 refine b8.cons ?_ ?_
 refine ⟨_,rfl,?_⟩
 exact a8
 refine b8.cons ?_ ?_
 refine ⟨_,rfl,?_⟩
 exact a8
 refine b8.cons ?_ ?_
 refine ⟨_,rfl,?_⟩
 exact a8
 refine b8.cons ?_ ?_
 refine ⟨_,rfl,?_⟩
 exact a8
 refine b8.cons ?_ ?_
 refine ⟨_,rfl,?_⟩
 exact a8
 refine b8.cons ?_ ?_
 refine ⟨_,rfl,?_⟩
 exact a8
 refine b8.cons ?_ ?_
 refine ⟨_,rfl,?_⟩
 exact a8
 exact b8.nil
 refine b8.cons ?_ ?_
 exact a8
 refine b8.cons ?_ ?_
 exact a8
 refine b8.cons ?_ ?_
 exact a8
 refine b8.cons ?_ ?_
 exact a8
 refine b8.cons ?_ ?_
 exact a8
 refine b8.cons ?_ ?_
 exact a8
 refine b8.cons ?_ ?_
 exact a8
 exact b8.nil
 refine b8.cons ?_ ?_
 refine az6 G rfl rfl (by decide) ?_ ?_
 refine b8.cons ?_ ?_
 refine ⟨_,rfl,?_⟩
 exact a8
 refine b8.cons ?_ ?_
 refine ⟨_,rfl,?_⟩
 exact a8
 refine b8.cons ?_ ?_
 refine ⟨_,rfl,?_⟩
 exact a8
 refine b8.cons ?_ ?_
 refine ⟨_,rfl,?_⟩
 exact a8
 refine b8.cons ?_ ?_
 refine ⟨_,rfl,?_⟩
 exact a8
 refine b8.cons ?_ ?_
 refine ⟨_,rfl,?_⟩
 exact a8
 exact b8.nil
 refine b8.cons ?_ ?_
 exact a8
 refine b8.cons ?_ ?_
 exact a8
 refine b8.cons ?_ ?_
 exact a8
 refine b8.cons ?_ ?_
 exact a8
 refine b8.cons ?_ ?_
 exact a8
 refine b8.cons ?_ ?_
 exact a8
 exact b8.nil
 refine b8.cons ?_ ?_
 refine az6 G rfl rfl (by decide) ?_ ?_
 refine b8.cons ?_ ?_
 refine ⟨_,rfl,?_⟩
 exact a8
 refine b8.cons ?_ ?_
 refine ⟨_,rfl,?_⟩
 exact a8
 refine b8.cons ?_ ?_
 refine ⟨_,rfl,?_⟩
 exact a8
 exact b8.nil
 refine b8.cons ?_ ?_
 exact a8
 refine b8.cons ?_ ?_
 exact a8
 refine b8.cons ?_ ?_
 exact a8
 exact b8.nil
 exact b8.nil
 refine a7 ?_ ?_
 refine am9 rfl ?_
 refine bw7 rfl rfl (by decide) rfl rfl ?_ ?_
 refine LkW rfl ?_
 exact a8
 refine b8.cons ?_ ?_
 refine LkW rfl ?_
 refine al1 ⋯ ⋯ (.name ⋯) ?_ ?_ ?_
 refine i7 rfl ?_
 exact (aa2 ⋯)
 exact b8.nil
 refine ei9 rfl rfl rfl rfl (by decide) ?_ ?_
 refine LkW rfl ?_
 refine u7 ?_ ?_
 exact (b7 ⋯)
 exact (b7 ⋯)
 refine b8.cons ?_ ?_
 exact (g6 ⋯)
 refine b8.cons ?_ ?_
 exact (g6 ⋯)
 exact b8.nil
 exact b8.nil
 exact c7
theorem bh7 (G:Glb qa mg mb) (C:t8 w qa mg k U):ab1 prog w qa k U qc (i6 PySem.Challenge.pw_rt0078_03 29).scope (i6 PySem.Challenge.pw_rt0078_03 29).body al4 :=by
 refine a7 ?_ ?_
 refine n8 ?_ ?_ ?_
 refine j1 ?_ ?_ rfl
 exact (b7 ⋯)
 refine LkW rfl ?_
 exact c9
 refine a7 ?_ ?_
 refine am9 rfl ?_
 refine k7 G C ⋯ rfl rfl rfl (by decide) ?_
 refine b8.cons ?_ ?_
 exact (g6 ⋯)
 exact b8.nil
 exact c7
 exact c7
 refine a7 ?_ ?_
 refine n8 ?_ ?_ ?_
 refine j1 ?_ ?_ rfl
 exact (b7 ⋯)
 refine LkW rfl ?_
 exact c9
 refine a7 ?_ ?_
 refine am9 rfl ?_
 refine k7 G C ⋯ rfl rfl rfl (by decide) ?_
 refine b8.cons ?_ ?_
 exact (g6 ⋯)
 exact b8.nil
 exact c7
 exact c7
 refine a7 ?_ ?_
 refine n8 ?_ ?_ ?_
 refine j1 ?_ ?_ rfl
 exact (b7 ⋯)
 refine LkW rfl ?_
 exact c9
 refine a7 ?_ ?_
 refine am9 rfl ?_
 refine k7 G C ⋯ rfl rfl rfl (by decide) ?_
 refine b8.cons ?_ ?_
 exact (g6 ⋯)
 exact b8.nil
 exact c7
 exact c7
 refine a7 ?_ ?_
 refine n8 ?_ ?_ ?_
 refine j1 ?_ ?_ rfl
 exact (b7 ⋯)
 refine LkW rfl ?_
 exact c9
 refine a7 ?_ ?_
 refine am9 rfl ?_
 refine k7 G C ⋯ rfl rfl rfl (by decide) ?_
 refine b8.cons ?_ ?_
 exact (g6 ⋯)
 exact b8.nil
 exact c7
 exact c7
 refine a7 ?_ ?_
 refine am9 rfl ?_
 refine k7 G C ⋯ rfl rfl rfl (by decide) ?_
 refine b8.cons ?_ ?_
 exact (g6 ⋯)
 exact b8.nil
 exact c7
theorem bs0 (G:Glb qa mg mb) (C:t8 w qa mg k U):ab1 prog w qa k U qc (i6 PySem.Challenge.pw_rt0078_03 30).scope (i6 PySem.Challenge.pw_rt0078_03 30).body ar1 :=by
 refine a7 ?_ ?_
 refine y6 ⋯ rfl ?_ rfl
 refine ay9 rfl ?_
 refine b8.cons ?_ ?_
 exact c9
 exact b8.nil
 refine a7 ?_ ?_
 refine ap7 (.name ⋯) rfl ?_ ?_
 refine y7 G ⋯ rfl ?_ rfl
 refine b8.cons ?_ ?_
 refine LkW rfl ?_
 exact c9
 exact b8.nil
 refine a7 ?_ ?_
 refine ap7 (.tup (.cons ⟨_,_,rfl,⋯⟩ (.cons ⟨_,_,rfl,⋯⟩ .nil)) (by decide)) rfl ?_ ?_
 refine i7 rfl ?_
 exact (aa2 ⋯)
 refine a7 ?_ ?_
 refine n8 ?_ ?_ ?_
 refine dh4 ?_
 refine b8.cons ?_ ?_
 refine j1 ?_ ?_ rfl
 exact (b7 ⋯)
 exact (b7 ⋯)
 refine b8.cons ?_ ?_
 refine j1 ?_ ?_ rfl
 exact (b7 ⋯)
 exact (b7 ⋯)
 refine b8.cons ?_ ?_
 refine j1 ?_ ?_ rfl
 exact (b7 ⋯)
 exact (b7 ⋯)
 exact b8.nil
 refine a7 ?_ ?_
 refine da8 rfl ⋯ rfl rfl ?_
 exact (g6 ⋯)
 exact c7
 exact c7
 exact c7
 exact c7
 refine a7 ?_ ?_
 exact (aa7 ⋯)
 exact c7
theorem bu1 (G:Glb qa mg mb) (C:t8 w qa mg k U):ab1 prog w qa k U qc (i6 PySem.Challenge.pw_rt0078_03 32).scope (i6 PySem.Challenge.pw_rt0078_03 32).body ar8 :=by
 refine a7 ?_ ?_
 refine y6 ⋯ rfl ?_ rfl
 refine cm2 G rfl rfl (by decide) ?_ ?_
 refine b8.cons ?_ ?_
 refine ⟨_,rfl,?_⟩
 refine u7 ?_ ?_
 exact (b7 ⋯)
 refine LkW rfl ?_
 exact c9
 exact b8.nil
 refine b8.cons ?_ ?_
 refine k7 G C ⋯ rfl rfl rfl (by decide) ?_
 refine b8.cons ?_ ?_
 exact a8
 refine b8.cons ?_ ?_
 refine u7 ?_ ?_
 exact (b7 ⋯)
 refine LkW rfl ?_
 exact c9
 exact b8.nil
 exact b8.nil
 refine a7 ?_ ?_
 refine ap7 (.name ⋯) rfl ?_ ?_
 refine y7 G ⋯ rfl ?_ rfl
 refine b8.cons ?_ ?_
 refine LkW rfl ?_
 exact c9
 exact b8.nil
 refine a7 ?_ ?_
 refine y6 ⋯ rfl ?_ rfl
 refine ay9 rfl ?_
 exact b8.nil
 refine a7 ?_ ?_
 refine ap7 (.name ⋯) rfl ?_ ?_
 refine i7 rfl ?_
 exact (aa2 ⋯)
 refine a7 ?_ ?_
 refine ct4 ⋯ ?_
 refine do5 ⋯ ⋯ (.name ⋯) ?_ ?_ ?_
 refine i7 rfl ?_
 refine LvW rfl ?_
 refine u7 ?_ ?_
 refine LkW rfl ?_
 refine k7 G C ⋯ rfl rfl rfl (by decide) ?_
 refine b8.cons ?_ ?_
 refine u7 ?_ ?_
 exact (b7 ⋯)
 exact (b7 ⋯)
 refine b8.cons ?_ ?_
 refine ae8 G ⋯ rfl ?_ rfl
 refine b8.cons ?_ ?_
 exact (b7 ⋯)
 exact b8.nil
 exact b8.nil
 refine LkW rfl ?_
 exact c9
 exact b8.nil
 refine av3 ?_ rfl
 refine b8.cons ?_ ?_
 refine u7 ?_ ?_
 exact (b7 ⋯)
 exact (b7 ⋯)
 refine b8.cons ?_ ?_
 exact (g6 ⋯)
 exact b8.nil
 exact c7
 refine a7 ?_ ?_
 refine n8 ?_ ?_ ?_
 refine j1 ?_ ?_ rfl
 exact (b7 ⋯)
 refine LkW rfl ?_
 refine av3 ?_ rfl
 exact b8.nil
 refine a7 ?_ ?_
 refine av1 (.cons ⟨_,_,rfl,⋯⟩ (.cons ⟨_,_,rfl,⋯⟩ .nil)) rfl (by decide) ?_
 refine ae8 G ⋯ rfl ?_ rfl
 refine b8.cons ?_ ?_
 exact (b7 ⋯)
 refine b8.cons ?_ ?_
 refine LkW rfl ?_
 refine ae8 G ⋯ rfl ?_ rfl
 refine b8.cons ?_ ?_
 exact (b7 ⋯)
 exact b8.nil
 exact b8.nil
 refine a7 ?_ ?_
 refine av1 (.cons ⟨_,_,rfl,⋯⟩ (.cons ⟨_,_,rfl,⋯⟩ .nil)) rfl (by decide) ?_
 refine u7 ?_ ?_
 refine LkW rfl ?_
 refine ae8 G ⋯ rfl ?_ rfl
 refine b8.cons ?_ ?_
 exact (b7 ⋯)
 exact b8.nil
 exact (b7 ⋯)
 refine a7 ?_ ?_
 refine bd0 ⋯ ?_ ?_
 exact (b7 ⋯)
 refine k7 G C ⋯ rfl rfl rfl (by decide) ?_
 refine b8.cons ?_ ?_
 exact (g6 ⋯)
 refine b8.cons ?_ ?_
 exact (g6 ⋯)
 exact b8.nil
 exact c7
 exact c7
 exact c7
 refine a7 ?_ ?_
 exact (aa7 ⋯)
 exact c7
theorem bn0 (G:Glb qa mg mb) (C:t8 w qa mg k U):ab1 prog w qa k U qc (i6 PySem.Challenge.pw_rt0078_03 33).scope (i6 PySem.Challenge.pw_rt0078_03 33).body ao9 :=by
 refine a7 ?_ ?_
 refine c8 ⋯ rfl ?_ rfl
 exact ar0
 refine a7 ?_ ?_
 refine ap7 (.name ⋯) rfl ?_ ?_
 refine y7 G ⋯ rfl ?_ rfl
 refine b8.cons ?_ ?_
 refine LkW rfl ?_
 exact c9
 exact b8.nil
 refine a7 ?_ ?_
 refine n8 ?_ ?_ ?_
 refine TsW rfl rfl ?_
 exact (b7 ⋯)
 refine a7 ?_ ?_
 refine c8 ⋯ rfl ?_ rfl
 exact ar0
 refine a7 ?_ ?_
 refine ap7 (.name ⋯) rfl ?_ ?_
 refine i7 rfl ?_
 exact (aa2 ⋯)
 refine a7 ?_ ?_
 refine n8 ?_ ?_ ?_
 refine j1 ?_ ?_ rfl
 exact (b7 ⋯)
 exact (b7 ⋯)
 refine a7 ?_ ?_
 refine c8 ⋯ rfl ?_ rfl
 refine u7 ?_ ?_
 exact (b7 ⋯)
 exact (b7 ⋯)
 refine a7 ?_ ?_
 refine c8 ⋯ rfl ?_ rfl
 refine k7 G C ⋯ rfl rfl rfl (by decide) ?_
 refine b8.cons ?_ ?_
 refine ae6 ?_ ?_
 refine LkW rfl ?_
 refine av3 ?_ rfl
 refine b8.cons ?_ ?_
 refine k7 G C ⋯ rfl rfl rfl (by decide) ?_
 refine b8.cons ?_ ?_
 exact (g6 ⋯)
 exact b8.nil
 exact b8.nil
 refine LkW rfl ?_
 refine al1 ⋯ ⋯ (.name ⋯) ?_ ?_ ?_
 refine i7 rfl ?_
 refine LvW rfl ?_
 refine u7 ?_ ?_
 exact (b7 ⋯)
 exact (b7 ⋯)
 refine b8.cons ?_ ?_
 refine j1 ?_ ?_ rfl
 exact (b7 ⋯)
 exact (b7 ⋯)
 exact b8.nil
 refine u7 ?_ ?_
 exact (b7 ⋯)
 exact (b7 ⋯)
 exact b8.nil
 refine a7 ?_ ?_
 refine n8 ?_ ?_ ?_
 refine j1 ?_ ?_ rfl
 exact (b7 ⋯)
 refine LkW rfl ?_
 refine k7 G C ⋯ rfl rfl rfl (by decide) ?_
 refine b8.cons ?_ ?_
 exact (g6 ⋯)
 exact b8.nil
 refine a7 ?_ ?_
 refine c8 ⋯ rfl ?_ rfl
 exact ar0
 refine a7 ?_ ?_
 refine aa4 ⋯ ⋯ ⋯ (.name ⋯) ?_ ?_ ?_
 refine i7 rfl ?_
 exact (aa2 ⋯)
 refine b8.cons ?_ ?_
 refine j1 ?_ ?_ rfl
 refine LkW rfl ?_
 refine k7 G C ⋯ rfl rfl rfl (by decide) ?_
 refine b8.cons ?_ ?_
 refine av3 ?_ rfl
 refine b8.cons ?_ ?_
 exact (g6 ⋯)
 refine b8.cons ?_ ?_
 refine u7 ?_ ?_
 exact (b7 ⋯)
 exact (b7 ⋯)
 exact b8.nil
 exact b8.nil
 exact (b7 ⋯)
 exact b8.nil
 exact (g6 ⋯)
 refine a7 ?_ ?_
 refine ap7 (.name ⋯) rfl ?_ ?_
 refine i7 rfl ?_
 exact (aa2 ⋯)
 refine a7 ?_ ?_
 refine bd0 ⋯ ?_ ?_
 exact (b7 ⋯)
 refine ae6 ?_ ?_
 refine LkW rfl ?_
 refine k7 G C ⋯ rfl rfl rfl (by decide) ?_
 refine b8.cons ?_ ?_
 exact (g6 ⋯)
 refine b8.cons ?_ ?_
 exact (g6 ⋯)
 exact b8.nil
 refine LkW rfl ?_
 refine ee7 ?_ ?_
 refine LkW rfl ?_
 refine u7 ?_ ?_
 exact (b7 ⋯)
 exact (b7 ⋯)
 refine LkW rfl ?_
 refine ae8 G ⋯ rfl ?_ rfl
 refine b8.cons ?_ ?_
 exact (b7 ⋯)
 exact b8.nil
 exact c7
 exact c7
 exact c7
 exact c7
 exact c7
 exact c7
 exact c7
 exact c7
 exact c7
 refine a7 ?_ ?_
 exact (aa7 ⋯)
 exact c7
theorem ec6 (G:Glb qa mg mb) (C:t8 w qa mg k U) (HO:cs9 w qa mg k "_law_lifted" (U "_law_lifted")) (HG:bz8 w qa mg k "_law_grown" (U "_law_grown")):bu9 w qa k U qc (i6 PySem.Challenge.pw_rt0078_03 34).scope (i6 PySem.Challenge.pw_rt0078_03 34).body cj0 ((i6 PySem.Challenge.pw_rt0078_03 34).body.drop 5):=by
 refine ai8 ?_ ?_
 refine av1 (.cons ⟨_,_,rfl,⋯⟩ (.cons ⟨_,_,rfl,⋯⟩ (.cons ⟨_,_,rfl,⋯⟩ (.cons ⟨_,_,rfl,⋯⟩ (.cons ⟨_,_,rfl,⋯⟩ .nil))))) rfl (by decide) ?_
 refine k7 G C ⋯ rfl rfl rfl (by decide) ?_
 refine b8.cons ?_ ?_
 exact (g6 ⋯)
 exact b8.nil
 refine ai8 ?_ ?_
 refine aa4 ⋯ ⋯ ⋯ (.name ⋯) ?_ ?_ ?_
 refine i7 rfl ?_
 exact (aa2 ⋯)
 exact b8.nil
 refine k7 G C ⋯ rfl rfl rfl (by decide) ?_
 refine b8.cons ?_ ?_
 exact (g6 ⋯)
 refine b8.cons ?_ ?_
 exact (g6 ⋯)
 exact b8.nil
 refine ai8 ?_ ?_
 refine at2 G ⋯ ⋯ ⋯ (.name ⋯) ?_ ?_ ?_
 refine y7 G ⋯ rfl ?_ rfl
 refine b8.cons ?_ ?_
 refine LkW rfl ?_
 exact c9
 exact b8.nil
 refine u7 ?_ ?_
 exact (b7 ⋯)
 exact (b7 ⋯)
 refine ae8 G ⋯ rfl ?_ rfl
 refine b8.cons ?_ ?_
 refine LkW rfl ?_
 refine al1 ⋯ ⋯ (.tup (.cons ⟨_,_,rfl,⋯⟩ (.cons ⟨_,_,rfl,⋯⟩ .nil)) (by decide)) ?_ ?_ ?_
 refine i7 rfl ?_
 exact (aa2 ⋯)
 refine b8.cons ?_ ?_
 refine j1 ?_ ?_ rfl
 exact (b7 ⋯)
 exact (b7 ⋯)
 exact b8.nil
 refine u7 ?_ ?_
 exact (b7 ⋯)
 exact (b7 ⋯)
 exact b8.nil
 refine ai8 ?_ ?_
 refine at2 G ⋯ ⋯ ⋯ (.name ⋯) ?_ ?_ ?_
 refine y7 G ⋯ rfl ?_ rfl
 refine b8.cons ?_ ?_
 refine LkW rfl ?_
 exact c9
 exact b8.nil
 refine u7 ?_ ?_
 exact (b7 ⋯)
 exact (b7 ⋯)
 refine al1 ⋯ ⋯ (.tup (.cons ⟨_,_,rfl,⋯⟩ (.cons ⟨_,_,rfl,⋯⟩ .nil)) (by decide)) ?_ ?_ ?_
 refine i7 rfl ?_
 exact (aa2 ⋯)
 refine b8.cons ?_ ?_
 refine j1 ?_ ?_ rfl
 exact (b7 ⋯)
 exact (b7 ⋯)
 exact b8.nil
 refine u7 ?_ ?_
 exact (b7 ⋯)
 exact (b7 ⋯)
 refine ai8 ?_ ?_
 refine c8 ⋯ rfl ?_ rfl
 refine cx2 G HO ⋯ rfl rfl ?_ rfl ?_
 refine ei8 G HG ⋯ rfl rfl rfl ?_
 refine b8.cons ?_ ?_
 exact (g6 ⋯)
 refine b8.cons ?_ ?_
 exact (g6 ⋯)
 refine b8.cons ?_ ?_
 exact (g6 ⋯)
 exact b8.nil
 refine b8.cons ?_ ?_
 refine al1 ⋯ ⋯ (.name ⋯) ?_ ?_ ?_
 refine i7 rfl ?_
 exact (aa2 ⋯)
 refine b8.cons ?_ ?_
 refine j1 ?_ ?_ rfl
 exact (b7 ⋯)
 refine LkW rfl ?_
 exact c9
 exact b8.nil
 refine u7 ?_ ?_
 exact (b7 ⋯)
 exact (b7 ⋯)
 refine b8.cons ?_ ?_
 exact (g6 ⋯)
 exact b8.nil
 exact cm6
end
end
section
open PySem.Calls PySem.SeqAt
noncomputable def du2 (n:Nat) (is:List Nat) (iv:Option Nat) (ds:List D):Rho:=match iv with
 | none=>ab3 (List.replicate n none) is ds
 | some i=>(ab3 (List.replicate n none) is (ds.take is.length)).set i (some (.fr,.tuple (ds.drop is.length)))
noncomputable def eu8:Fl->Option D
 | .ret _ d=>some d
 | _=>none
noncomputable def al6 (U:String->List D->Option D) (qc:String->Bool) (n:Nat) (is:List Nat) (iv:Option Nat) (ir:List SI) (ds:List D):Option D:=
 gd (decide (is.length<=ds.length) && (iv.isSome || ds.length == is.length) && sz ds.length) (do
  let p <- execs U qc ir (du2 n is iv ds)
  eu8 p.1)
theorem cr5 {f:Fl} {d:D} (h:eu8 f=some d):∃ b,f = .ret b d:=by
 cases f with
 | ret b e=>cases h;exact ⟨b,rfl⟩
 | _=>cases h
section
variable {w:World} {qa:Heap} {mg mb:Str->Option Value} {k:Nat} {U:String->List D->Option D} {qc:String->Bool} {sc:Scope}
inductive az8 (mg:Str->Option Value) (qa:Heap) (d:DefRec):Prop
 | mk (a o pm code doc:_) (h1:mg d.name=some (.ref a)) (h2:qa.get? a=some o) (h3:o.data = .func (docDef d.name d.params d.body d.scope pm code doc)) (h4:qa.CodeRec code d.name)
theorem ct6 (sc:Scope):ac9 sc=List.replicate sc.names.length none:=by
 unfold ac9;exact List.map_const' ..
theorem ad6.le {j:Nat} {f:String} {sp:List D->Option D} (h:ad6 w qa mg j f sp) (hjk:j<=k):ad6 w qa mg k f sp:=by
 obtain ⟨fa,o,fd,h1,h2,h3,h4⟩:=h
 exact ⟨fa,o,fd,h1,h2,h3,λ A s B vs ds d rm stk kp hb ht r hs=>h4 (rm.le hjk) stk kp hb ht r hs⟩
noncomputable def c6:List (String×(List D->Option D))->String->List D->Option D
 | [],_=>λ ξ=>none
 | p :: l,f=>if f=p.1 then p.2 else c6 l f
theorem ay1 {l:List (String×(List D->Option D))} (h:∀ p∈l,dp6 p.1=false->ad6 w qa mg k p.1 p.2):t8 w qa mg k (c6 l):=λ f ds d hO hd=>by
 have key:∀ l:List (String×(List D->Option D)),(∀ p∈l,dp6 p.1=false->ad6 w qa mg k p.1 p.2)->c6 l f ds=some d->ad6 w qa mg k f (c6 l f):=by
  intro l
  induction l with
  | nil=>intro _ hd;cases hd
  | cons p l ih=>
   intro h hd
   by_cases e:f=p.1
   ·subst e
    have:c6 (p :: l) p.1=p.2:=if_pos rfl
    rw [this];exact h p (by simp) hO
   ·have:c6 (p :: l) f=c6 l f:=by
     show (if f=p.1 then p.2 else c6 l f)=_
     rw [if_neg e]
    rw [this] at hd⊢
    exact ih (λ q hq=>h q (by simp [hq])) hd
 exact key l h hd
end
end
section
open PySem.Calls PySem.SeqAt
noncomputable def bt7 (d:DefRec):List Str:=d.params.args.map (·.arg)
noncomputable def bl7 (d:DefRec) (f:String) (is:List Nat) (n:Nat):Bool:=
 (Str.ofString f == d.name && d.scope.names.length == n) && (ej7 d.scope.kind && decide ((d.scope.names.map (·.1)).Nodup) && d.scope.names.all (λ p=>p.2 != .free)) && (!d.scope.isCoroutine && !d.scope.isGenerator) && ((bt7 d).map (j5 d.scope) == is.map some)
section
variable {w:World} {qa:Heap} {mg mb:Str->Option Value} {k:Nat} {U:String->List D->Option D} {qc:String->Bool} {sc:Scope}
theorem cr9:∀ {xs:List Str} {is:List Nat},xs.map (j5 sc)=is.map some->b8 (λ x i=>j5 sc x=some i) xs is
 | [],[],_=>.nil
 | x :: xs,i :: is,h=>.cons (List.cons.inj h).1 (cr9 (List.cons.inj h).2)
structure et5 (d:DefRec) (f:String) (is:List Nat) (n:Nat):Prop where
 name:Str.ofString f=d.name
 len:d.scope.names.length=n
 fs:FnS d.scope
 co:d.scope.isCoroutine=false
 gen:d.scope.isGenerator=false
 pars:b8 (λ x i=>j5 d.scope x=some i) (bt7 d) is
theorem bb1 {d:DefRec} {f:String} {is:List Nat} {n:Nat} (h:bl7 d f is n=true):et5 d f is n:=by
 obtain ⟨h,h4⟩:=b9 h
 obtain ⟨h,h3⟩:=b9 h
 obtain ⟨h1,h2⟩:=b9 h
 obtain ⟨h2,h5⟩:=b9 h2
 refine ⟨af8 (b9 h1).1,af8 (b9 h1).2,⟨?_,of_decide_eq_true (b9 h2).2,λ x hx=>?_⟩,(Bool.not_eq_true' _).mp (b9 h3).1,(Bool.not_eq_true' _).mp (b9 h3).2,cr9 (af8 h4)⟩
 ·have q:=(b9 h2).1
  cases e:d.scope.kind <;> rw [e] at q <;> first | rfl | cases q
 ·have q:(NameKind.free != NameKind.free)=true:=List.all_eq_true.mp h5 _ (bd2 hx)
  exact absurd q (by decide)
noncomputable abbrev bm4 (d:DefRec) (n:Nat):Prop:=∀ (pm cd doc:Value) (vs:List Value),vs.length=n->bindArgs (docDef d.name d.params d.body d.scope pm cd doc) ⟨vs,[]⟩=pure ((bt7 d).zip vs)
theorem ax5 {d:DefRec} (h:∀ (pm cd doc a:Value),bindArgs (docDef d.name d.params d.body d.scope pm cd doc) ⟨[a],[]⟩=pure ((bt7 d).zip [a])):bm4 d 1:=λ pm cd doc vs e=>ap9 e λ a ξ e=>cb6 e (h pm cd doc a)
theorem cs3 {d:DefRec} (h:∀ (pm cd doc a b:Value),bindArgs (docDef d.name d.params d.body d.scope pm cd doc) ⟨[a,b],[]⟩=pure ((bt7 d).zip [a,b])):bm4 d 2:=λ pm cd doc vs e=>ap9 e λ a ξ e=>ap9 e λ b ξ e=>cb6 e (h pm cd doc a b)
theorem ew1 {d:DefRec} (h:∀ (pm cd doc a b c:Value),bindArgs (docDef d.name d.params d.body d.scope pm cd doc) ⟨[a,b,c],[]⟩=pure ((bt7 d).zip [a,b,c])):bm4 d 3:=λ pm cd doc vs e=>ap9 e λ a ξ e=>ap9 e λ b ξ e=>ap9 e λ c ξ e=>cb6 e (h pm cd doc a b c)
theorem aj2 {d:DefRec} {f:String} {is:List Nat} {n:Nat} (H:et5 d f is n):ac9 d.scope=List.replicate n none:=by rw [ct6,H.len]
theorem ck2 {f:String} {d:DefRec} {is:List Nat} {n:Nat} {sp:List D->Option D} {F:Rho->Option (Fl×Rho)} (G:Glb qa mg mb) (H:az8 mg qa d) (hB:bl7 d f is n=true) (hb:bm4 d is.length)
  (hbody:ca9 prog w qa k d.scope (PySem.execs d.body) F)
  (hsp:∀ ds e,sp ds=some e->ds.length=is.length/\∃ b r',F (du2 n is none ds)=some (.ret b e,r')):ad6 w qa mg (k+1) f sp:=by
 have T:=bb1 hB
 obtain ⟨fa,o,pm,code,doc,h1,h2,h3,h4⟩:=H
 refine er8 G (by rw [T.name];exact h1) h2 h3 h4 T.fs T.co T.gen (λ vs e=>hb pm code doc vs (e.trans (as9 T.pars))) T.pars hbody λ ds d' hs=>?_
 rw [aj2 T]
 exact hsp ds d' hs
theorem af6 {f:String} {d:DefRec} {is:List Nat} {ir:List SI} {n:Nat} (G:Glb qa mg mb) (H:az8 mg qa d) (hB:bl7 d f is n=true) (hb:bm4 d is.length)
  (hbody:ab1 prog w qa k U qc d.scope d.body ir):ad6 w qa mg (k+1) f (al6 U qc n is none ir):=ck2 G H hB hb hbody λ ds e h=>by
 obtain ⟨hc,h⟩:=i4 h
 obtain ⟨⟨fl,r'⟩,he,h⟩:=a6 h
 obtain ⟨b,rfl⟩:=cr5 h
 exact ⟨af8 (b9 (b9 hc).1).2,b,r',he⟩
theorem ee5 {f:String} {d:DefRec} {x y:Str} {i j:Nat} {ir:List SI} {n:Nat} (G:Glb qa mg mb) (H:az8 mg qa d) (hB:bl7 d f [i] n=true) (hx:bt7 d=[x]) (hy:j5 d.scope y=some j)
  (hb:∀ (pm cd doc v:Value) (vs:List Value),bindArgs (docDef d.name d.params d.body d.scope pm cd doc) ⟨v :: vs,[]⟩=(do let t <- newTuple vs;pure [(x,v),(y,t)]))
  (hbody:ab1 prog w qa k U qc d.scope d.body ir):ad6 w qa mg (k+1) f (al6 U qc n [i] (some j) ir):=by
 have T:=bb1 hB
 obtain ⟨fa,o,pm,code,doc,h1,h2,h3,h4⟩:=H
 have hp:=T.pars
 rw [hx] at hp
 cases hp with
 | cons p1 _=>
 refine em8 G (by rw [T.name];exact h1) h2 h3 h4 T.fs T.co T.gen (hb pm code doc) p1 hy hbody λ ds e h=>?_
 obtain ⟨hc,h⟩:=i4 h
 obtain ⟨⟨fl,r'⟩,he,h⟩:=a6 h
 obtain ⟨b,rfl⟩:=cr5 h
 cases ds with
 | nil=>cases (b9 (b9 hc).1).1
 | cons a as=>
  refine ⟨a,as,rfl,decide_eq_true (Nat.le_of_succ_le (of_decide_eq_true (b9 hc).2)),b,r',?_⟩
  rw [aj2 T]
  exact he
end
end
section
open PySem.Calls PySem.SeqAt
noncomputable abbrev P2:Program:=PySem.Challenge.pw_rt0078_03
noncomputable def fr2 (f:String):Bool:=f == "_law_grown"
noncomputable def bu2 (ds:List D):Option D:=do
 let x <- u6 (<- one ds)
 some (.str x)
section
variable {w:World} {qa:Heap} {mg mb:Str->Option Value} {k:Nat} {U:String->List D->Option D} {qc:String->Bool}
theorem ce5 (G:Glb qa mg mb) (H:az8 mg qa (i6 P2 9)):ad6 w qa mg (k+1) "fspath" bu2:=by
 refine ck2 (is:=[0]) (n:=14) (F:=λ r=>do let d <- bw3 (r.get 0);let u <- u6 d;some (.ret false (.str u),r)) G H ⋯ (ax5 λ ξ ξ ξ ξ=>⋯) (cl8 (j:=1) G ⋯ ⋯ ⋯ (by decide +kernel) ⋯ rfl ⋯ rfl ⋯ rfl ⋯ rfl) λ ds e h=>?_
 obtain ⟨d,h1,h⟩:=a6 h
 obtain ⟨u,h2,h⟩:=a6 h
 cases h
 obtain rfl:=ak1 h1
 obtain rfl:=l9 h2
 exact ⟨rfl,false,_,rfl⟩
theorem ep3 (G:Glb qa mg mb) (H:az8 mg qa (i6 P2 18)):ad6 w qa mg (k+1) "sorted_list_difference" cw2:=by
 refine ck2 (is:=[0,1]) (n:=9) (F:=ev5) G H ⋯ (cs3 λ ξ ξ ξ ξ ξ=>⋯) (dz9 (xn:="expected") (yn:="actual") (iN:="i") (jN:="j") (mN:="missing") (uN:="unexpected") (eN:="e") (aN:="a") (xN:="IndexError") G ?_ ⟨by kernel_rfl,⋯,⋯,⋯,⋯,⋯,⋯,⋯⟩ ⋯ rfl) λ ds e h=>?_
 ·refine ⟨_,_,_,_,_,_,_,_,_,_,_,_,_,_,_,_,_,_,_,_,_,_,_,_,_,_,rfl,?_,?_,?_⟩
  ·exact ⟨_,_,_,_,_,_,_,_,_,_,_,_,_,_,rfl,⟨_,_,_,_,_,rfl⟩,⟨_,_,_,_,_,rfl⟩,⟨_,_,_,rfl⟩,⟨_,_,_,_,_,rfl,rfl⟩,⟨_,_,_,_,rfl⟩,⟨_,_,_,_,_,_,_,rfl⟩,⟨_,_,_,rfl⟩,⟨_,_,_,_,_,rfl,rfl⟩,⟨_,_,_,_,rfl⟩,⟨_,_,_,_,_,_,_,rfl⟩,⟨_,_,_,_,rfl⟩,
    ⟨_,_,_,_,rfl,⟨_,_,_,_,_,_,_,rfl⟩,⟨_,_,_,_,rfl⟩,⟨_,_,_,_,_,_,_,rfl⟩⟩⟩
  ·exact ⟨_,_,_,_,_,_,_,_,rfl,rfl⟩
  ·exact ⟨_,_,_,_,_,_,_,_,rfl,rfl⟩
 ·obtain ⟨X,Y,rfl,h1,h2,h3,rfl⟩:=cd1 h
  refine ⟨rfl,false,[],?_⟩
  show (cw2 [LS X,LS Y]).map _=_
  rw [h];rfl
end
end
section
open PySem.Calls PySem.SeqAt
noncomputable def au5:List D->Option D:=al6 (c6 []) fr2 3 [0] none bl3
noncomputable def af7:List D->Option D:=al6 (c6 []) fr2 4 [0] none as2
noncomputable def ae3:List D->Option D:=al6 (c6 []) fr2 4 [0] none aq3
noncomputable def aa1:List D->Option D:=al6 (c6 []) fr2 4 [0] none ah9
noncomputable def aa5:List D->Option D:=al6 (c6 []) fr2 4 [0] none ai6
noncomputable def z9:List D->Option D:=al6 (c6 []) fr2 4 [0] none ah4
noncomputable def ah7:List D->Option D:=al6 (c6 []) fr2 13 [0] none ar6
noncomputable def ad8:List D->Option D:=al6 (c6 []) fr2 3 [0,1] none au9
noncomputable def ah6:List D->Option D:=al6 (c6 []) fr2 7 [0,1] none ar1
noncomputable def L2a:List (String×(List D->Option D)):=[("fspath",bu2),("sorted_list_difference",cw2),("_get_sep",au5),("_escape_cdata",af7),("_escape_attrib",ae3),("_escape_attrib_html",aa1),("_escape_cdata_c14n",aa5),("_escape_attrib_c14n",z9),("_law_drawn",ah7),("_law_told",ad8),("_law_reach",ah6)]
noncomputable def bd1:List D->Option D:=al6 (c6 L2a) fr2 11 [0] (some 1) dg6
noncomputable def aj7:List D->Option D:=al6 (c6 L2a) fr2 7 [0] none br7
noncomputable def ab7:List D->Option D:=al6 (c6 L2a) fr2 23 [0] none ar4
noncomputable def z6:List D->Option D:=al6 (c6 L2a) fr2 7 [0,1] none al4
noncomputable def L2b:List (String×(List D->Option D)):=[("join",bd1),("dirname",aj7),("commonpath",ab7),("_law_written",z6)] ++ L2a
noncomputable def eb2 {α:Type}:List α->Option (α×α×α) | [a,b,c]=>some (a,b,c) | _=>none
theorem cd7 {α:Type} {l:List α} {p:α×α×α} (h:eb2 l=some p):l=[p.1,p.2.1,p.2.2]:=by
 cases l with
 | nil=>exact nomatch h
 | cons a l=>
 cases l with
 | nil=>exact nomatch h
 | cons b l=>
 cases l with
 | nil=>exact nomatch h
 | cons c l=>
 cases l with
 | nil=>exact congrArg (λ p:α×α×α=>[p.1,p.2.1,p.2.2]) (Option.some.inj h)
 | cons=>exact nomatch h
noncomputable def er5:Fl->Option D
 | .ret true d=>some d
 | _=>none
theorem cr6 {f:Fl} {d:D} (h:er5 f=some d):f = .ret true d:=by
 match f,h with
 | .ret true d,h=>cases h;rfl
noncomputable def ds4 (U:String->List D->Option D) (qc:String->Bool) (n:Nat) (ir:List SI) (ds:List D):Option D:=do
 let p <- eb2 ds
 let q <- execs U qc ir (ab3 (List.replicate n none) [0,1,2] [p.1,p.2.1,p.2.2])
 er5 q.1
noncomputable def dc5 (U:String->List D->Option D) (qc:String->Bool) (n:Nat) (ir:List SI) (ds:List D):Option D:=do
 let p <- eb2 ds
 let q <- execs U qc ir (ab3 ((List.replicate n none).set 0 (some (.own,p.1))) [1,2] [p.2.1,p.2.2])
 er5 q.1
noncomputable def ai1:List D->Option D:=ds4 (c6 L2b) fr2 16 ar8
noncomputable def af2:List D->Option D:=dc5 (c6 L2b) fr2 15 ao9
noncomputable def an5 (mg:Str->Option Value) (qa:Heap):Prop:=∀ i∈[9,13,14,15,16,18,21,22,23,24,25,27,28,29,30,31,32,33,34],az8 mg qa (i6 P2 i)
section
variable {w:World} {qa:Heap} {mg mb:Str->Option Value} {k:Nat} {U:String->List D->Option D} {qc:String->Bool}
theorem av7:t8 w qa mg k (c6 []):=ay1 λ p hp ξ=>by cases hp
theorem cy0 (G:Glb qa mg mb) (H:an5 mg qa):ad6 w qa mg (k+1) "_get_sep" au5:=af6 G (H 13 (by decide)) ⋯ (ax5 λ ξ ξ ξ ξ=>⋯) (cf8 G av7)
theorem bn5 (G:Glb qa mg mb) (H:an5 mg qa):ad6 w qa mg (k+1) "_escape_cdata" af7:=af6 G (H 21 (by decide)) ⋯ (ax5 λ ξ ξ ξ ξ=>⋯) (bh0 G av7)
theorem bi6 (G:Glb qa mg mb) (H:an5 mg qa):ad6 w qa mg (k+1) "_escape_attrib" ae3:=af6 G (H 22 (by decide)) ⋯ (ax5 λ ξ ξ ξ ξ=>⋯) (bc2 G av7)
theorem aw8 (G:Glb qa mg mb) (H:an5 mg qa):ad6 w qa mg (k+1) "_escape_attrib_html" aa1:=af6 G (H 23 (by decide)) ⋯ (ax5 λ ξ ξ ξ ξ=>⋯) (at3 G av7)
theorem ba5 (G:Glb qa mg mb) (H:an5 mg qa):ad6 w qa mg (k+1) "_escape_cdata_c14n" aa5:=af6 G (H 24 (by decide)) ⋯ (ax5 λ ξ ξ ξ ξ=>⋯) (au7 G av7)
theorem aw6 (G:Glb qa mg mb) (H:an5 mg qa):ad6 w qa mg (k+1) "_escape_attrib_c14n" z9:=af6 G (H 25 (by decide)) ⋯ (ax5 λ ξ ξ ξ ξ=>⋯) (as1 G av7)
theorem cj4 (G:Glb qa mg mb) (H:an5 mg qa):ad6 w qa mg (k+1) "_law_drawn" ah7:=af6 G (H 27 (by decide)) ⋯ (ax5 λ ξ ξ ξ ξ=>⋯) (bt4 G av7)
theorem ck9 (G:Glb qa mg mb) (H:an5 mg qa):ad6 w qa mg (k+1) "_law_told" ad8:=af6 G (H 28 (by decide)) ⋯ (cs3 λ ξ ξ ξ ξ ξ=>⋯) (bz9 G av7)
theorem cf5 (G:Glb qa mg mb) (H:an5 mg qa):ad6 w qa mg (k+1) "_law_reach" ah6:=af6 G (H 30 (by decide)) ⋯ (cs3 λ ξ ξ ξ ξ ξ=>⋯) (bs0 G av7)
theorem l2a (G:Glb qa mg mb) (H:an5 mg qa):∀ p∈L2a,ad6 w qa mg (k+1) p.1 p.2:=by
 intro p hp
 simp only [L2a,List.mem_cons,List.not_mem_nil,or_false] at hp
 rcases hp with rfl | rfl | rfl | rfl | rfl | rfl | rfl | rfl | rfl | rfl | rfl
 ·exact ce5 G (H 9 (by decide))
 ·exact ep3 G (H 18 (by decide))
 ·exact cy0 G H
 ·exact bn5 G H
 ·exact bi6 G H
 ·exact aw8 G H
 ·exact ba5 G H
 ·exact aw6 G H
 ·exact cj4 G H
 ·exact ck9 G H
 ·exact cf5 G H
theorem en1 (G:Glb qa mg mb) (H:an5 mg qa) (C:t8 w qa mg k (c6 L2a)):ad6 w qa mg (k+1) "join" bd1:=ee5 G (H 14 (by decide)) ⋯ rfl (y:="p") ⋯ (λ ξ ξ ξ ξ vs=>by cases vs <;> kernel_rfl) (dp5 G C)
theorem di0 (G:Glb qa mg mb) (H:an5 mg qa) (C:t8 w qa mg k (c6 L2a)):ad6 w qa mg (k+1) "dirname" aj7:=af6 G (H 15 (by decide)) ⋯ (ax5 λ ξ ξ ξ ξ=>⋯) (co0 G C)
theorem cu4:c6 L2a "fspath"=bu2:=⋯
theorem cf6 (G:Glb qa mg mb) (H:an5 mg qa) (C:t8 w qa mg (k+2) (c6 L2a)):ad6 w qa mg (k+3) "commonpath" ab7:=af6 G (H 16 (by decide)) ⋯ (ax5 λ ξ ξ ξ ξ=>⋯) (bs5 G C (Nat.le_refl (k+1+1)) (by rw [cu4];exact ce5 G (H 9 (by decide))))
theorem bx8 (G:Glb qa mg mb) (H:an5 mg qa) (C:t8 w qa mg k (c6 L2a)):ad6 w qa mg (k+1) "_law_written" z6:=af6 G (H 29 (by decide)) ⋯ (cs3 λ ξ ξ ξ ξ ξ=>⋯) (bh7 G C)
theorem l2b (G:Glb qa mg mb) (H:an5 mg qa):∀ p∈L2b,ad6 w qa mg (k+4) p.1 p.2:=by
 have C:t8 w qa mg (k+2) (c6 L2a):=ay1 λ p hp ξ=>l2a G H p hp
 intro p hp
 rcases List.mem_append.mp hp with hp | hp
 ·simp only [List.mem_cons,List.not_mem_nil,or_false] at hp
  rcases hp with rfl | rfl | rfl | rfl
  ·exact (en1 G H C).le (by lia)
  ·exact (di0 G H C).le (by lia)
  ·exact (cf6 G H C).le (by lia)
  ·exact (bx8 G H C).le (by lia)
 ·exact l2a G H p hp
theorem c2b (G:Glb qa mg mb) (H:an5 mg qa):t8 w qa mg (k+4) (c6 L2b):=ay1 λ p hp ξ=>l2b G H p hp
theorem dn3 {f:String} {d:DefRec} {n:Nat} {ir:List SI} (G:Glb qa mg mb) (H:az8 mg qa d) (hB:bl7 d f [0,1,2] n=true) (hb:bm4 d 3) (hbody:ab1 prog w qa k U qc d.scope d.body ir) :
  bz8 w qa mg (k+1) f (ds4 U qc n ir):=by
 have T:=bb1 hB
 obtain ⟨fa,o,pm,code,doc,h1,h2,h3,h5⟩:=H
 refine ef0 G (by rw [T.name];exact h1) h2 h3 h5 T.fs T.co T.gen (λ vs e=>hb pm code doc vs (e.trans (as9 T.pars))) T.pars hbody λ ds e hs=>?_
 obtain ⟨p,h6,hs⟩:=a6 hs
 obtain ⟨⟨fl,r'⟩,he,hs⟩:=a6 hs
 obtain rfl:=cr6 hs
 obtain rfl:=cd7 h6
 refine ⟨rfl,r',?_⟩
 rw [aj2 T]
 exact he
theorem cx4 {f:String} {d:DefRec} {x1 x2 x3:Str} {n:Nat} {ir:List SI} (G:Glb qa mg mb) (H:az8 mg qa d) (hB:bl7 d f [0,1,2] n=true) (hp:bt7 d=[x1,x2,x3])
  (hbind:∀ (pm cd doc v1 v2 v3:Value),bindArgs (docDef d.name d.params d.body d.scope pm cd doc) ⟨[v1,v2,v3],[]⟩=pure [(x1,v1),(x2,v2),(x3,v3)])
  (hbody:ab1 prog w qa k U qc d.scope d.body ir):cs9 w qa mg (k+1) f (dc5 U qc n ir):=by
 have T:=bb1 hB
 obtain ⟨fa,o,pm,code,doc,h1,h2,h3,h5⟩:=H
 have pa:=T.pars
 rw [hp] at pa
 cases pa with
 | cons p1 pa=>
 refine dz7 (x:=x1) (xs:=[x2,x3]) (i:=0) (is:=[1,2]) G (by rw [T.name];exact h1) h2 h3 h5 T.fs T.co T.gen ?_ p1 pa hbody ?_
 ·exact λ vs e=>ap9 e λ a ξ e=>ap9 e λ b ξ e=>ap9 e λ c ξ e=>cb6 e (hbind pm code doc a b c)
 ·intro dp ds2 e hs
  obtain ⟨p,h6,hs⟩:=a6 hs
  obtain ⟨⟨fl,r'⟩,he,hs⟩:=a6 hs
  obtain rfl:=cr6 hs
  obtain ⟨rfl,rfl⟩:=List.cons.inj (cd7 h6)
  refine ⟨rfl,r',?_⟩
  rw [aj2 T]
  exact he
theorem be8 (G:Glb qa mg mb) (H:an5 mg qa):bz8 w qa mg (k+5) "_law_grown" ai1:=dn3 G (H 32 (by decide)) ⋯ (ew1 λ ξ ξ ξ ξ ξ ξ=>⋯) (bu1 G (c2b G H))
theorem ck4:∃ x1 x2 x3,bt7 (i6 P2 33)=[x1,x2,x3]/\∀ (pm cd doc v1 v2 v3:Value),bindArgs (docDef (i6 P2 33).name (i6 P2 33).params (i6 P2 33).body (i6 P2 33).scope pm cd doc) ⟨[v1,v2,v3],[]⟩=pure [(x1,v1),(x2,v2),(x3,v3)]:=⟨_,_,_,rfl,λ ξ ξ ξ ξ ξ ξ=>⋯⟩
theorem cb0 (G:Glb qa mg mb) (H:an5 mg qa):cs9 w qa mg (k+5) "_law_lifted" af2:=by
 obtain ⟨x1,x2,x3,hp,hq⟩:=ck4
 exact cx4 G (H 33 (by decide)) ⋯ hp hq (bn0 G (c2b G H))
end
end
section
open PySem.Calls PySem.SeqAt
noncomputable def L2d:List (String×(List D->Option D)):=[("_law_grown",ai1),("_law_lifted",af2)] ++ L2b
section
variable {w:World} {qa:Heap} {mg mb:Str->Option Value} {k:Nat}
theorem l2d (G:Glb qa mg mb) (H:an5 mg qa):t8 w qa mg (k+5) (c6 L2d):=ay1 λ p hp hO=>by
 rcases List.mem_append.mp hp with hp | hp
 ·simp only [List.mem_cons,List.not_mem_nil,or_false] at hp
  rcases hp with rfl | rfl
  ·exact (be8 G H).ok
  ·exact absurd (show dp6 "_law_lifted"=false from hO) (by decide)
 ·exact (l2b (k:=k) G H p hp).le (by lia)
end
end
section
open PySem.StrLaws PySem.Builtin PySem.Builtin.Str
theorem szl {n:Nat} (h:n<=16777216):sz n=true:=decide_eq_true h
theorem ob {α β:Type} {o:Option α} {f:α->Option β} {a:α} {b:Option β} (h1:o=some a) (h2:f a=b):(o >>= f)=b:=by rw [h1];exact h2
theorem bu6 {α:Type} {o p q:Option α} (h1:o=none) (h2:p=q):o.or p=q:=by rw [h1];exact h2
theorem dh8 {α:Type} {o p:Option α} {a:α} (h1:o=some a):o.or p=some a:=by rw [h1];rfl
theorem r6 {α:Type} {c:Bool} {o p:Option α} (h:c=true) (h2:o=p):gd c o=p:=by rw [h];exact h2
section
variable {U:String->List D->Option D} {fr:String->Bool} {r r' r2:Rho}
theorem l_e {e:IR} {d:D} (hv:e.v=none) (h:eval U e r=some d):look U e r=some d:=by unfold look;rw [hv];exact h
theorem ah0 {i:Nat} {m:aa3} {d:D} (h:r.get i=some (m,d)):look U (.var i) r=some d:=congrArg (Option.map Prod.snd) h
theorem d9 {i:Nat} {r:Rho} {d:D} (h:r.get i=some (.fr,d)):look U (.var i) r=some d:=ah0 h
theorem k0 {i:Nat} {d:D} (h:r.get i=some (.fr,d)):eval U (.var i) r=some d:=congrArg bw3 h
theorem cc1 {i:Int}:eval U (.int i) r=some (.int i):=rfl
theorem am0 {i:Str}:eval U (.str i) r=some (.str i):=rfl
theorem da9 {i:Bool}:eval U (.bool i) r=some (.bool i):=rfl
theorem z7 {i:Int}:look U (.int i) r=some (.int i):=rfl
theorem cq3 {i:Str}:look U (.str i) r=some (.str i):=rfl
theorem j0:ac3 U [] r=some []:=rfl
theorem d7 {e:IR} {es:List IR} {d:D} {ds:List D} (h1:eval U e r=some d) (h2:ac3 U es r=some ds):ac3 U (e :: es) r=some (d :: ds):=ob h1 (ob h2 rfl)
theorem y9:aq5 U [] r=some []:=rfl
theorem m7 {e:IR} {es:List IR} {d:D} {ds:List D} (h1:look U e r=some d) (h2:aq5 U es r=some ds):aq5 U (e :: es) r=some (d :: ds):=ob h1 (ob h2 rfl)
theorem ap5 {es:List IR} {ds:List D} (h:ac3 U es r=some ds) (hz:sz ds.length=true):eval U (.list es) r=some (.list ds):=ob h (r6 hz rfl)
theorem ek9 {es:List IR} {ds:List D} (h:ac3 U es r=some ds) (hz:sz ds.length=true):eval U (.tup es) r=some (.tuple ds):=ob h (r6 hz rfl)
theorem al9 {op:Operator} {a b:IR} {x y d:D} (h1:look U a r=some x) (h2:look U b r=some y) (h3:bf4 op x y=some d):eval U (.bin op a b) r=some d:=ob h1 (ob h2 h3)
theorem bk6 {o:Option Bool} {t:Bool} (h:o=some t):o.map PyData.bool=some (.bool t):=congrArg _ h
theorem ae4 {op:CmpOp} {a b:IR} {x y:D} {t:Bool} (h1:look U a r=some x) (h2:look U b r=some y) (h3:bb7 op x y=some t):eval U (.cmp op a b) r=some (.bool t):=bk6 (ob h1 (ob h2 h3))
theorem aa8 {a i:IR} {x y d:D} (h1:look U a r=some x) (h2:look U i r=some y) (h3:bz4 x y=some d):eval U (.idx a i) r=some d:=ob h1 (ob h2 h3)
theorem ct7 {a n:IR} {r:Rho} {x y d:D} (h1:look U a r=some x) (h2:look U n r=some y) (h3:bc0 x y=some d):eval U (.upto a n) r=some d:=ob h1 (ob h2 h3)
theorem en4 {a n:IR} {x y d:D} (h1:look U a r=some x) (h2:look U n r=some y) (h3:co1 x y=some d):eval U (.from a n) r=some d:=ob h1 (ob h2 h3)
theorem aj9 {f:BF} {es:List IR} {ds:List D} {d:D} (h:aq5 U es r=some ds) (h2:bfD f ds=some d):eval U (.bcall f es) r=some d:=ob h h2
theorem cj8 {m:MF} {a:IR} {es:List IR} {x:D} {ds:List D} {d:D} (hm:at9 m=false) (hb:mbD m=none) (h1:look U a r=some x) (h:ac3 U es r=some ds) (h2:mfD m x ds=some d):eval U (.meth m a es) r=some d:=by
 show (bif (mbD m).isSome then _ else (do let x <- look U a r;let ds <- bif at9 m then aq5 U es r else ac3 U es r;mfD m x ds))=_
 rw [hb,hm]
 exact ob h1 (ob h h2)
theorem cg2 {m:MF} {f:Str->Str->Bool} {a e:IR} {x y:Str} (hf:mbD m=some f) (h1:look U a r=some (.str x)) (h:eval U e r=some (.str y)):eval U (.meth m a [e]) r=some (.bool (f x y)):=by
 show (bif (mbD m).isSome then (do let f <- mbD m;let x <- look U a r;let ds <- ac3 U [e] r;az0 (λ x y=>some (f x y)) x (<- one ds)).map PyData.bool else _)=_
 rw [hf]
 exact bk6 (ob rfl (ob h1 (ob (d7 h j0) rfl)))
theorem ch7 {a:IR} {es:List IR} {x:D} {ds:List D} {d:D} (h1:look U a r=some x) (h:aq5 U es r=some ds) (h2:mfD .join x ds=some d):eval U (.meth .join a es) r=some d:=ob h1 (ob h h2)
theorem w7 {f:String} {es:List IR} {ds:List D} {d:D} (h:ac3 U es r=some ds) (h2:U f ds=some d):eval U (.call f es) r=some d:=ob h h2
theorem ek0 {a:IR} {t:Bool} (h:ab4 U a r=some t):eval U (.not a) r=some (.bool (!t)):=bk6 (congrArg (Option.map (!·)) h)
theorem cp9 {a:IR} {ty:String} {x:Str} (h:look U a r=some (.str x)):eval U (.isinst a ty) r=some (.bool false):=bk6 (ob h rfl)
theorem dl0 {a:IR} {x y s:Str} (h:look U a r=some (.str s)) (hz:((x != y) && decide (s.length+(s.length+1) * y.length<=16777216))=true):eval U (.replace a x y) r=some (.str (Txt.replace s x y)):=ob h (ob rfl (r6 hz rfl))
theorem bh8 {ks vs:List IR} {kd vd:List D} {m:List (D×D)} (h1:ac3 U ks r=some kd) (h2:ac3 U vs r=some vd) (h3:(kd.all z8 && (kd.length == vd.length && decide (kd.length<=15)))=true) (h4:(kd.zip vd).foldl (λ m e=>ag8 m e.1 e.2) []=m):eval U (.dict ks vs) r=some (.dict m):=ob h1 (ob h2 (r6 h3 (congrArg (λ m=>some (PyData.dict m)) h4)))
theorem dc8 {c a b:IR} {d:D} (h:ab4 U c r=some true) (h2:eval U a r=some d):eval U (.ite c a b) r=some d:=ob h h2
theorem t_e {e:IR} {d:D} {t:Bool} (hv:bg4 e=true) (h:look U e r=some d) (h2:ay6 d=some t):ab4 U e r=some t:=by
 obtain ⟨h3,h4⟩:=b9 hv
 unfold ab4
 cases hb:e.bl with
 | false=>rw [(Bool.not_eq_true' _).mp h3];exact ob h h2
 | true=>
  rw [hb] at h4
  have hn:e.v=none:=by
   cases hn:e.v with
   | none=>rfl
   | some i=>rw [hn] at h4;cases h4
  have h:=cj3 hn h
  unfold eval at h
  rw [hb] at h
  obtain ⟨u,h5,rfl⟩:=u9 h
  exact h5.trans h2
theorem t_b {e:IR} {t:Bool} (hv:bg4 e=true) (hv2:e.v=none) (h:eval U e r=some (.bool t)):ab4 U e r=some t:=t_e hv (l_e hv2 h) rfl
theorem eb8:bj8 U [] r=some true:=rfl
theorem a_t {e:IR} {es:List IR} {b:Option Bool} (h:ab4 U e r=some true) (h2:bj8 U es r=b):bj8 U (e :: es) r=b:=ob h h2
theorem a_f {e:IR} {es:List IR} (h:ab4 U e r=some false):bj8 U (e :: es) r=some false:=ob h rfl
theorem o_f {e:IR} {es:List IR} {b:Option Bool} (h:ab4 U e r=some false) (h2:orE U es r=b):orE U (e :: es) r=b:=ob h h2
theorem ey2 {es:List IR} {t:Bool} (h:orE U es r=some t):eval U (.or es) r=some (.bool t):=bk6 h
theorem bx6 {es:List IR} {t:Bool} (h:bj8 U es r=some t):eval U (.and es) r=some (.bool t):=bk6 h
theorem dx3 {α:Type} {f:Str->Str->Option α} {x:D} {l:List D}:az0 f x (.list l)=none:=by cases x <;> rfl
theorem cp7 {x:D} {l:List D} (h1:SeqAt.shaped x=true) (h2:SeqAt.shaped (.list l)=true):inL x (.list l)=some (l.any λ y=>PyData.eqv y x):=ob rfl (r6 (g7 h1 h2) rfl)
theorem ei1 {x:D} {l:List D} (h1:SeqAt.shaped x=true) (h2:SeqAt.shaped (.list l)=true):inD x (.list l)=some (l.any λ y=>PyData.eqv y x):=bu6 dx3 (by rw [cp7 h1 h2];rfl)
theorem br6 {x:D} {l:List D} (h1:SeqAt.shaped x=true) (h2:SeqAt.shaped (.list l)=true):bb7 .NotIn x (.list l)=some (!l.any λ y=>PyData.eqv y x):=congrArg (Option.map (!·)) (cp7 h1 h2)
theorem dq6 {a b:List D} (h1:SeqAt.shaped (.list a)=true) (h2:SeqAt.shaped (.list b)=true):eqD (.list a) (.list b)=some (PyData.eqvAll a b):=bu6 rfl (r6 (g7 h1 h2) rfl)
theorem ea7 (c:Str):bb7 .NotEq (.str c) (.str c)=some false:=by show some (!(c == c))=_;rw [beq_self_eq_true];rfl
theorem eo6 {c d:Str} (h:c≠d):bb7 .NotEq (.str c) (.str d)=some true:=by show some (!(c == d))=_;rw [beq_eq_false_iff_ne.mpr h];rfl
theorem ac4 {α β:Type} {f:α->Option β} {g:α->β}:∀ {l:List α},(∀ x∈l,f x=some (g x))->l.mapM f=some (l.map g)
 | [],_=>by simp
 | a :: l,h=>by
  rw [List.mapM_cons,h a (by simp),ac4 (l:=l) λ x hx=>h x (by simp [hx])]
  rfl
theorem am5 {α β:Type} {p:α->Bool} {g:α->β}:∀ {l:List α},(l.map λ x=>if p x then some (g x) else none).filterMap id=(l.filter p).map g
 | []=>rfl
 | a :: l=>by
  rw [List.map_cons,List.filterMap_cons,am5 (l:=l)]
  by_cases h:p a=true <;> simp [h]
theorem dm8:ah1 U [] r=some true:=rfl
theorem ag7 {c:IR} {t:Bool} (h:ab4 U c r=some t):ah1 U [c] r=some t:=ob h (by cases t <;> rfl)
theorem ag6 {α:Type} {cap:List (Option Nat)} {tgt:List Nat} {src:IR} {ifs:List IR} {elt:IR} {xs:List α} {g h:α->D} {p:α->Bool} {R:α->Rho} (hi:e9 U src r=some (xs.map g)) (hb:∀ x∈xs,m8 (as7 r cap) tgt (g x)=some (R x)) (ht:∀ x∈xs,ah1 U ifs (R x)=some (p x))
  (he:∀ x∈xs,p x=true->eval U elt (R x)=some (h x)) (hz:sz xs.length=true):eval U (.comp cap tgt src ifs elt) r=some (.list ((xs.filter p).map h)):=by
 refine ob hi (ob (a:=xs.map λ x=>if p x then some (h x) else none) ?_ (r6 ?_ ?_))
 ·rw [List.mapM_map]
  refine ac4 λ x hx=>ob (hb x hx) (ob (ht x hx) ?_)
  cases q:p x with
  | true=>exact congrArg (Option.map some) (he x hx q)
  | false=>rfl
 ·rw [am5,List.length_map]
  exact szl (Nat.le_trans (List.length_filter_le ..) (of_decide_eq_true hz))
 ·rw [am5]
theorem ax9 {α:Type} {cap:List (Option Nat)} {tgt:List Nat} {src:IR} {elt:IR} {xs:List α} {g h:α->D} {R:α->Rho} (hi:e9 U src r=some (xs.map g)) (hb:∀ x∈xs,m8 (as7 r cap) tgt (g x)=some (R x))
  (he:∀ x∈xs,eval U elt (R x)=some (h x)) (hz:sz xs.length=true):eval U (.comp cap tgt src [] elt) r=some (.list (xs.map h)):=by
 have:=ag6 (ifs:=[]) (p:=λ ξ=>true) hi hb (λ x hx=>dm8) (λ x hx ξ=>he x hx) hz
 rw [this,List.filter_eq_self.mpr (by simp)]
theorem i_e {e:IR} {d:D} {l:List D} (hv:e.sr=false) (h:look U e r=some d) (h2:ch5 d=some l):e9 U e r=some l:=by unfold e9;rw [hv];exact ob h h2
theorem ah2 {e:IR} {l:List D} (hv:e.sr=false) (h:look U e r=some (.list l)):e9 U e r=some l:=i_e hv h rfl
theorem ak2 {es:List IR} {ds l:List D} (h:aq5 U es r=some ds) (h2:cf4 ds=some l):e9 U (.range es) r=some l:=ob h h2
theorem cy4 {e:IR} {l:List D} (h:look U e r=some (.list l)):e9 U (.enum e) r=some (ac2 0 l):=ob h rfl
theorem f7 {U:String->List D->Option D} {fr:String->Bool} {x:Nat} {own:Bool} {e:IR} {r r2:Rho} {d:D} (hv:aw7 r e=r) (h:eval U e r=some d) (hp:r.put x (bif own && bh1 fr e then .own else .fr) d=some r2):exec U fr (.assign x own e) r=some (.next,r2):=by
 rw [<- hv] at h hp
 exact ob h (ob hp rfl)
theorem el5 {x:Nat} {e:IR} {a b v:D} (h:look U e r=some b) (hx:r.get x=some (.fr,a)) (hv:dl1 a b=some v) (hp:r.put x .fr v=some r2):exec U fr (.aug x .Add e) r=some (.next,r2):=
 ob h (ob (congrArg bw3 hx) (ob hv (ob hp rfl)))
theorem dw4 {x:Nat} {e:IR} {l:List D} {d:D} (hv:aw7 r e=r) (h:eval U e r=some d) (hx:r.get x=some (.own,.list l)) (hz:sz (l.length+1)=true) (hp:r.put x .own (.list (l ++ [d]))=some r2):exec U fr (.append x e) r=some (.next,r2):=by
 rw [<- hv] at h hx hp
 exact ob h (ob (congrArg az9 hx) (ob rfl (r6 hz (ob hp rfl))))
theorem ar5 {c:IR} {a b:List SI} {o:Option (Fl×Rho)} (h:ab4 U c r=some true) (h2:execs U fr a r=o):exec U fr (.if_ c a b) r=o:=ob h h2
theorem aj1 {c:IR} {a b:List SI} {o:Option (Fl×Rho)} (h:ab4 U c r=some false) (h2:execs U fr b r=o):exec U fr (.if_ c a b) r=o:=ob h h2
theorem dx7 {b:List SI}:exec U fr (.try_ b) r=execs U fr b r:=rfl
theorem ar2:execs U fr [] r=some (.next,r):=rfl
theorem r7 {s:SI} {ss:List SI} {r r':Rho} (h:exec U fr s r=some (.next,r')):execs U fr (s :: ss) r=execs U fr ss r':=ob h rfl
theorem bj9 {s:SI} {ss:List SI} {r r':Rho} {b:Bool} {d:D} (h:exec U fr s r=some (.ret b d,r')):execs U fr (s :: ss) r=some (.ret b d,r'):=ob h rfl
theorem l8 {s:SI} {o:Option (Fl×Rho)} (h:exec U fr s r=o):execs U fr [s] r=o:=by
 show (do let p <- exec U fr s r;et0 (execs U fr []) p)=_
 rw [h]
 match o with
 | none=>rfl
 | some (.next,r')=>rfl
 | some (.brk,r')=>rfl
 | some (.ret b d,r')=>rfl
noncomputable def ap3 (U:String->List D->Option D) (fr:String->Bool) (tgt:List Nat) (body:List SI) (d:D) (r:Rho):Option (Fl×Rho):=do execs U fr body (<- ad9 r tgt d)
theorem ba0 {tgt:List Nat} {src:IR} {body:List SI} {its:List D} {f:Fl} (hi:e9 U src (cl4 r src)=some its) (h:j8 (ap3 U fr tgt body) its (ac1 r src)=some (f,r')) (hu:ab8 r r' src=r2):exec U fr (.for_ tgt src body) r=some (f,r2):=by
 rw [<- hu]
 exact ob hi (ob h rfl)
theorem bj0 {x y:Nat} {a b:D} {r1:Rho} (h1:r.put x .fr a=some r1) (h2:r1.put y .fr b=some r2):ad9 r [x,y] (.tuple [a,b])=some r2:=(show av0 r [x,y] [a,b]=some r2 from ob h1 (ob h2 rfl))
theorem ad4 {tgt:List Nat} {body:List SI} {d:D} {o:Option (Fl×Rho)} (h1:ad9 r tgt d=some r') (h2:execs U fr body r'=o):ap3 U fr tgt body d r=o:=ob h1 h2
theorem u8 {f:D->Rho->Option (Fl×Rho)} {d:D} {ds:List D} (h:f d r=some (.next,r')):j8 f (d :: ds) r=j8 f ds r':=ob h rfl
theorem ct3 {f:D->Rho->Option (Fl×Rho)} {d:D} {ds:List D} (h:f d r=some (.brk,r')):j8 f (d :: ds) r=some (.next,r'):=ob h rfl
theorem bm5 {f:D->Rho->Option (Fl×Rho)} {α:Type} {g:α->D} {R:Nat->Rho}:∀ {xs:List α} {k:Nat},(∀ i (hi:i < xs.length),f (g xs[i]) (R (k+i))=some (.next,R (k+i+1)))->j8 f (xs.map g) (R k)=some (.next,R (k+xs.length))
 | [],k,_=>rfl
 | x :: xs,k,h=>by
  have h0:f (g x) (R k)=some (.next,R (k+1)):=h 0 (by simp)
  rw [List.map_cons,u8 h0]
  rw [bm5 (xs:=xs) (k:=k+1) λ i hi=>?_]
  ·rw [List.length_cons];congr 3;lia
  ·have:=h (i+1) (by simpa using hi)
   simp only [List.getElem_cons_succ] at this
   rw [show k+1+i=k+(i+1) by lia];exact this
theorem ew7 {e:IR} {d:D} (hv:e.v=none) (h:eval U e (az4 r)=some d):exec U fr (.ret e) r=some (.ret false d,az4 r):=by
 unfold exec SI.ret
 rw [hv]
 exact ob h rfl
theorem cg9 {i:Nat} {m:aa3} {d:D} {b:Bool} (h:r.get i=some (m,d)) (hm:(m = .own/\b=true)\/(m = .fr/\b=false)):exec U fr (.ret (.var i)) r=some (.ret b d,r):=
 ob h (by rcases hm with ⟨rfl,rfl⟩ | ⟨rfl,rfl⟩ <;> rfl)
theorem bt6 {xs:List Nat} {e:IR} {ds:List D} (hl:2<=xs.length) (h:eval U e r=some (.tuple ds)) (hp:av0 r xs ds=some r2):exec U fr (.unpack xs e) r=some (.next,r2):=ob h (ob rfl (ob hp rfl))
end
noncomputable def dy9 (r:Rho):Bool:=r.all λ s=>match s with | some (.own,_)=>false | _=>true
theorem dm5 {r:Rho} (h:dy9 r=true):az4 r=r:=by
 have h1:∀ i,r.frz i=r:=λ i=>by
  rcases bb4 r i with ⟨d,e,_⟩ | ⟨_,e⟩
  ·unfold Rho.get at e
   by_cases hi:i < r.length
   ·rw [List.getElem?_eq_getElem hi] at e
    have:=List.all_eq_true.mp h _ (List.getElem_mem hi)
    rw [show r[i]=some (.own,d) from e] at this;cases this
   ·rw [List.getElem?_eq_none (Nat.not_lt.mp hi)] at e;cases e
  ·exact e
 have h2:∀ n,frzFrom r n=r:=λ n=>by
  induction n with
  | zero=>rfl
  | succ n ih=>exact (congrArg (frzFrom · n) (h1 n)).trans ih
 exact h2 _
noncomputable def ao3 (U:String->List D->Option D) (fr:String->Bool) (ir:List SI) (r:Rho) (d:D):Prop:=∃ b r',execs U fr ir r=some (.ret b d,r')
section
variable {U:String->List D->Option D} {fr:String->Bool} {r r':Rho} {d:D} {ss:List SI}
theorem ao3.next {s:SI} (h:exec U fr s r=some (.next,r')) (h2:ao3 U fr ss r' d):ao3 U fr (s :: ss) r d:=by
 obtain ⟨b,r2,e⟩:=h2
 exact ⟨b,r2,(r7 h).trans e⟩
theorem ao3.ret {e:IR} (hv:e.v=none) (h:eval U e (az4 r)=some d):ao3 U fr (.ret e :: ss) r d:=⟨_,_,bj9 (ew7 hv h)⟩
theorem ao3.retN {e:IR} (hv:e.v=none) (hn:dy9 r=true) (h:eval U e r=some d):ao3 U fr (.ret e :: ss) r d:=.ret hv (by rw [dm5 hn];exact h)
theorem ao3.retv {i:Nat} {m:aa3} (h:r.get i=some (m,d)) (hm:m = .own\/m = .fr):ao3 U fr (.ret (.var i) :: ss) r d:=by
 rcases hm with rfl | rfl
 ·exact ⟨true,_,bj9 (cg9 h (.inl ⟨rfl,rfl⟩))⟩
 ·exact ⟨false,_,bj9 (cg9 h (.inr ⟨rfl,rfl⟩))⟩
theorem ao3.try1 {b:List SI} (h:ao3 U fr b r d):ao3 U fr (.try_ b :: ss) r d:=by
 obtain ⟨t,r2,e⟩:=h
 exact ⟨t,r2,bj9 (dx7.trans e)⟩
theorem ao3.if_t {c:IR} {a b:List SI} (h:ab4 U c r=some true) (h2:ao3 U fr a r d):ao3 U fr (.if_ c a b :: ss) r d:=by
 obtain ⟨t,r2,e⟩:=h2
 exact ⟨t,r2,bj9 (ar5 h e)⟩
theorem ao3.if_f {c:IR} {a b:List SI} (h:ab4 U c r=some false) (h2:ao3 U fr b r d):ao3 U fr (.if_ c a b :: ss) r d:=by
 obtain ⟨t,r2,e⟩:=h2
 exact ⟨t,r2,bj9 (aj1 h e)⟩
theorem ao3.skip {c:IR} {a:List SI} (h:ab4 U c r=some false) (h2:ao3 U fr ss r d):ao3 U fr (.if_ c a [] :: ss) r d:=.next (aj1 h ar2) h2
end
theorem ai9 {U:String->List D->Option D} {fr:String->Bool} {n:Nat} {is:List Nat} {iv:Option Nat} {ir:List SI} {ds:List D} {d:D} (h1:(decide (is.length<=ds.length) && (iv.isSome || ds.length == is.length) && sz ds.length)=true) (h3:ao3 U fr ir (du2 n is iv ds) d) :
  al6 U fr n is iv ir ds=some d:=by
 obtain ⟨b,r',h3⟩:=h3
 exact r6 h1 (ob h3 rfl)
end
section
open PySem.StrLaws PySem.Builtin PySem.Builtin.Str
theorem ba6 (x:Str):c6 L2a "fspath" [.str x]=some (.str x):=⋯
theorem eq6 (x:Str):au5 [.str x]=some (.str "/"):=ai9 rfl (.if_f (t_b rfl rfl (cp9 (d9 rfl))) (.ret rfl am0))
theorem ea1 (x:Str):c6 L2a "_get_sep" [.str x]=some (.str "/"):=by
 have e:c6 L2a "_get_sep"=au5:=by simp [c6,L2a]
 rw [e]
 exact eq6 x
theorem bp6 {a b:Str} (h:a.length+b.length<=16777216):bf4 .Add (.str a) (.str b)=some (.str (a ++ b)):=by
 show (((none:Option D).or (gd (sz (a.length+b.length)) (some (.str (a ++ b))))).or none)=_
 rw [szl h];rfl
theorem cr1 {a b:Str} (h:a.length+b.length<=16777216):dl1 (.str a) (.str b)=some (.str (a ++ b)):=by
 show ((none:Option D).or (gd (sz (a.length+b.length)) (some (.str (a ++ b)))))=_
 rw [szl h];rfl
theorem cg6 (i:Nat):decide ((0:Int)<=(i:Int))=true:=decide_eq_true (Int.natCast_nonneg i)
theorem cv9 {i n:Nat} (hi:i<=16777216) (hz:n<=16777216):(decide (0<=(i:Int)) && (decide ((i:Int)<=16777216) && sz n))=true:=g7 (cg6 i) (g7 (decide_eq_true (show (i:Int)<=16777216 from Int.ofNat_le.mpr hi)) (szl hz))
theorem ec9 {x:Str} {i:Nat} (hi:i<=16777216) (hz:x.length<=16777216):bc0 (.str x) (.int (i:Int))=some (.str ⟨(x.cps.toList.take i).toArray⟩):=ob rfl (bu6 rfl (ob rfl (r6 (cv9 hi hz) rfl)))
theorem dq4 {l:List D} {i:Nat} (hi:i<=16777216) (hz:l.length<=16777216):bc0 (.list l) (.int (i:Int))=some (.list (l.take i)):=ob rfl (dh8 (ob rfl (r6 (cv9 hi hz) rfl)))
theorem dt6 {x:Str} {i:Nat} (hi:i<=16777216) (hz:x.length<=16777216):co1 (.str x) (.int (i:Int))=some (.str ⟨(x.cps.toList.drop i).toArray⟩):=ob rfl (ob rfl (r6 (cv9 hi hz) rfl))
theorem es8 {l:List Str} (h:NA l) (hl:l.length<=8):sz (PS l).length=true:=szl (Nat.le_trans (au3 ⟨h,hl⟩) (by decide))
theorem ee0 (l:List Str):((PS l).length == 0)=false:=by
 rw [ag2];simpa using ev2 l
theorem bd9:("/":Str).length=1:=by rw [bm3];rfl
theorem ch8 (a b:Str):(a ++ b).length=a.length+b.length:=by rw [ag2,al5,List.length_append,<- ag2,<- ag2]
theorem bh5 {l:List Str} {n:Str} (h:NA (l ++ [n])) (hl:l.length<=8):bd1 [.str (PS l),.str n]=some (.str (PS (l ++ [n]))):=by
 have hn:ba3 n:=h n (by simp)
 have hl':NA l:=λ x hx=>h x (by simp [hx])
 have l1:=au3 ⟨hl',hl⟩
 have l2:=hn.2.2.2.1
 have b2:bf4 .Add (.str "/") (.str n)=some (.str ("/" ++ n)):=bp6 (by rw [bd9];lia)
 have cs:∀ {o1 o2:Slot} {tl:Rho},execs (c6 L2a) fr2 [.assign 4 false (.call "fspath" [.var 4]),.if_ (.or [.meth .startswith (.var 4) [.var 2],.not (.var 3)]) [.assign 3 false (.var 4)] [.if_ (.meth .endswith (.var 3) [.var 2]) [.aug 3 .Add (.var 4)] [.aug 3 .Add (.bin .Add (.var 2) (.var 4))]]]
   (o1 :: o2 :: some (.fr,.str "/") :: some (.fr,.str (PS l)) :: some (.fr,.str n) :: tl)=some (.next,o1 :: o2 :: some (.fr,.str "/") :: some (.fr,.str (PS (l ++ [n]))) :: some (.fr,.str n) :: tl):=by
  intro o1 o2 tl
  refine (r7 (f7 (r2:=o1 :: o2 :: some (.fr,.str "/") :: some (.fr,.str (PS l)) :: some (.fr,.str n) :: tl) (d:=.str n) rfl (w7 (d7 (k0 (d:=.str n) rfl) j0) (ba6 n)) rfl)).trans (l8 (aj1 (t_b rfl rfl (ey2 (o_f (t_b rfl rfl ?_) (o_f (t_b rfl rfl (ek0 (t_e (t:=true) rfl (d9 rfl) ?_))) rfl)))) ?_))
  ·exact (cg2 (f:=Txt.startswith) (x:=n) (y:="/") rfl (d9 rfl) (k0 rfl)).trans (by rw [dj5 hn])
  ·show gd (sz (PS l).length) (some ((PS l).length != 0))=_
   rw [es8 hl' hl]
   show some (!((PS l).length == 0))=_
   rw [ee0];rfl
  ·have he:eval (c6 L2a) (.meth .endswith (.var 3) [.var 2]) (o1 :: o2 :: some (.fr,.str "/") :: some (.fr,.str (PS l)) :: some (.fr,.str n) :: tl)=some (.bool (Txt.endswith (PS l) "/")):=cg2 rfl (d9 rfl) (k0 rfl)
   by_cases e:l=[]
   ·subst e
    refine l8 (ar5 (t_b rfl rfl (he.trans ?_)) (l8 (el5 (d9 rfl) rfl (cr1 (by lia)) ?_)))
    ·rw [dd3 hl'];rfl
    ·rw [cr3];rfl
   ·refine l8 (aj1 (t_b rfl rfl (he.trans ?_)) (l8 (el5 (l_e rfl (al9 (d9 rfl) (d9 rfl) b2)) rfl (cr1 (by rw [ch8,bd9];lia)) ?_)))
    ·rw [dd3 hl',decide_eq_false e]
    ·rw [eh7 e];rfl
 exact ai9 rfl (.next (f7 (d:=.str (PS l)) rfl (w7 (d7 (k0 rfl) j0) (ba6 _)) rfl) (.next (f7 (d:=.str "/") rfl (w7 (d7 (k0 rfl) j0) (ea1 _)) rfl) (.next (f7 (d:=.str (PS l)) rfl (k0 rfl) rfl)
  (.next (dx7.trans (l8 (ba0 (its:=[.str n]) (i_e rfl (d9 rfl) rfl) ((u8 (ad4 rfl cs)).trans rfl) rfl))) (.retv rfl (.inr rfl))))))
end
section
open PySem.StrLaws PySem.Builtin PySem.Builtin.Str
theorem em9 {s:Str} {u v:List Nat} (h:cl s=u ++ v) (hz:s.length<=16777216) {i:Int} (hi:i=(u.length:Int)):bc0 (.str s) (.int i)=some (.str (mkS u)):=by
 have hl:u.length<=16777216:=by
  have:=congrArg List.length h
  rw [<- ag2,List.length_append] at this;lia
 subst hi
 refine (ec9 hl hz).trans ?_
 show some (PyData.str ⟨((cl s).take u.length).toArray⟩)=_
 rw [h,List.take_left];rfl
theorem ev1 {l:List Str} {n:Str} (h:NA (l ++ [n])) (hl:l.length<=7):bc0 (.str (PS (l ++ [n]))) (.int ((pl l).length+1))=some (.str (mkS (pl l ++ [47]))):=by
 refine em9 (v:=cl n) ?_ (Nat.le_trans (au3 ⟨h,by simp;assumption⟩) (by decide)) (by simp)
 rw [ak9 (by simp),bo3];simp
theorem ep8 {n:Nat} (h:n<=1048576):bf4 .Mult (.str "/") (.int (n:Int))=some (.str (mkS (List.replicate n 47))):=by
 have e:("/":Str).cps.getD 0 0=47:=by rw [bm3];rfl
 show (gd (decide (0<=(n:Int)) && (decide ((n:Int)<=1048576) && ("/":Str).length == 1)) (some (PyData.str ⟨Array.replicate n (("/":Str).cps.getD 0 0)⟩)))=_
 rw [cg6,decide_eq_true (show (n:Int)<=1048576 from Int.ofNat_le.mpr h),bd9,e]
 show some (PyData.str ⟨Array.replicate n 47⟩)=_
 rw [mkS,List.toArray_replicate]
theorem ec4 {x head rep:Str} {i:Nat} (h1:Txt.rfind x "/"=(i:Int)) (h2:bc0 (.str x) (.int ((i:Int)+1))=some (.str head)) (h3:sz head.length=true) (h4:(head.length != 0)=true)
  (h5:bf4 .Mult (.str "/") (.int (head.length:Int))=some (.str rep)):aj7 [.str x]=some (.str (if head == rep then head else Txt.rstripChars head "/")):=by
 have r1:∀ {r:Rho},r.get 0=some (.fr,.str x)->r.get 1=some (.fr,.str "/")->eval (c6 L2a) (.bin .Add (.meth .rfind (.var 0) [.var 1]) (.int 1)) r=some (.int ((i:Int)+1)):=λ q1 q2=>by
  rw [<- h1]
  exact al9 (l_e rfl (cj8 (ds:=[.str "/"]) rfl rfl (d9 q1) (d7 (k0 q2) j0) rfl)) z7 rfl
 have hl:eq4 (.str head)=some (.int (head.length:Int)):=by
  show ((none:Option D).or (gd (sz head.length) (some (.int (head.length:Int)))))=_
  rw [h3];rfl
 have ht:ay6 (.str head)=some true:=by
  show gd (sz head.length) (some (head.length != 0))=_
  rw [h3,h4];rfl
 refine ai9 rfl (.next (f7 (d:=.str x) rfl (w7 (d7 (k0 rfl) j0) (ba6 _)) rfl) (.next (f7 (d:=.str "/") rfl (w7 (d7 (k0 rfl) j0) (ea1 _)) rfl) (.next (f7 rfl (r1 rfl rfl) rfl)
  (.next (f7 rfl (ct7 (d9 rfl) (d9 rfl) h2) rfl) ?_))))
 have hc:∀ {r:Rho},r.get 1=some (.fr,.str "/")->r.get 3=some (.fr,.str head)->ab4 (c6 L2a) (.andT [.var 3,.cmp .NotEq (.var 3) (.bin .Mult (.var 1) (.bcall .len [.var 3]))]) r=some (!(head == rep)):=λ {r} q1 q3=>by
  show bj8 _ _ r=_
  refine a_t (t_e rfl (d9 q3) ht) ?_
  have hq:ab4 (c6 L2a) (.cmp .NotEq (.var 3) (.bin .Mult (.var 1) (.bcall .len [.var 3]))) r=some (!(head == rep)):=t_b rfl rfl (ae4 (d9 q3) (l_e rfl (al9 (d9 q1) (l_e rfl (aj9 (m7 (d9 q3) y9) hl)) h5)) rfl)
  cases e:head == rep with
  | true=>rw [e] at hq;exact a_f hq
  | false=>rw [e] at hq;exact a_t hq rfl
 cases e:head == rep with
 | true=>
  have hc:=λ {r}=>@hc r
  rw [e] at hc
  exact .skip (hc rfl rfl) (.retv rfl (.inr rfl))
 | false=>
  have hc:=λ {r}=>@hc r
  rw [e] at hc
  refine .next (ar5 (hc rfl rfl) (l8 (f7 (d:=.str (Txt.rstripChars head "/")) rfl (cj8 (ds:=[.str "/"]) rfl rfl (d9 rfl) (d7 (k0 rfl) j0) ?_) rfl))) (.retv rfl (.inr rfl))
  show gd (sz head.length) (some (PyData.str (Txt.rstripChars head "/")))=_
  rw [h3];rfl
theorem ci4 {l:List Str} {n:Str} (h:NA (l ++ [n])) (hl:l.length<=7):aj7 [.str (PS (l ++ [n]))]=some (.str (PS l)):=by
 have hn:ba3 n:=h n (by simp)
 have hl':NA l:=λ x hx=>h x (by simp [hx])
 have l1:=au3 ⟨hl',by lia⟩
 have hL:(mkS (pl l ++ [47])).length=(pl l).length+1:=by simp
 have hp:(pl l).length<=600:=by
  by_cases e:l=[]
  ·subst e;simp [pl]
  ·rw [ci2 e,dp8] at l1;exact l1
 have hm:=ep8 (n:=(pl l).length+1) (by lia)
 rw [ec4 (dq9 l hn) (ev1 h hl) (szl (by lia)) (by rw [hL];simp) (by rw [hL];exact hm)]
 by_cases e:l=[]
 ·subst e;rfl
 ·have hne2:(mkS (pl l ++ [47]) == mkS (List.replicate ((pl l).length+1) 47))=false:=by
   rw [beq_eq_false_iff_ne]
   intro q
   have q:=congrArg cl q
   simp only [ej8] at q
   obtain ⟨t,c,q2,hc⟩:=ci3 hl' e
   have:c∈List.replicate ((pl l).length+1) 47:=by rw [<- q,q2];simp
   exact hc (List.eq_of_mem_replicate this)
  rw [hne2]
  simp [cs2 hl' e]
end
section
open PySem.StrLaws PySem.Builtin PySem.Builtin.Str
noncomputable def spl (l:List Str):List Str:=if l=[] then [mkS [],mkS []] else mkS [] :: l
theorem er2 {l:List Str} (h:NA l):Txt.split (PS l) "/"=spl l:=by
 unfold spl
 by_cases e:l=[]
 ·subst e;rw [if_pos rfl,au8]
 ·rw [if_neg e,ay5 h e]
theorem en8:(".":Str)=mkS [46]:=by decide
theorem cw3 {l:List Str} (h:NA l):(spl l).filter (λ c=>(c.length != 0) && !(c == (Str.ofString ".")))=l:=by
 have h0:((mkS []).length != 0)=false:=rfl
 have hf:∀ m:List Str,NA m->m.filter (λ c=>(c.length != 0) && !(c == (Str.ofString ".")))=m:=λ m hm=>by
  rw [List.filter_eq_self]
  intro c hc
  obtain ⟨q1,_,q2,_⟩:=hm c hc
  have e1:(c.length != 0)=true:=by rw [ag2];simpa using q1
  have e2:(c == (Str.ofString "."))=false:=by
   rw [beq_eq_false_iff_ne];rintro rfl;exact q2 (by rw [en8];rfl)
  rw [e1,e2];rfl
 unfold spl
 by_cases e:l=[]
 ·subst e;rw [if_pos rfl,List.filter_cons_of_neg (by simp [h0]),List.filter_cons_of_neg (by simp [h0])];rfl
 ·rw [if_neg e,List.filter_cons_of_neg (by simp [h0]),hf l h]
noncomputable abbrev ltL (a b:List Str):Prop:=a.map cl < b.map cl
theorem dd5 (p a b:List Str):ae5 (p ++ a) (p ++ b)=p ++ ae5 a b:=by
 induction p with
 | nil=>rfl
 | cons x p ih=>exact (if_pos rfl).trans (congrArg (x :: ·) ih)
theorem df7 {l:List D} {i:Nat} {d:D} (h:l[i]?=some d) (hi:i < 1000000):gd (decide ((0:Int)<=(i:Int)) && decide ((i:Int) < 1152921504606846976)) l[(i:Int).toNat]?=some d:=by
 rw [cg6,decide_eq_true (show (i:Int) < 1152921504606846976 from Int.ofNat_lt.mpr (Nat.lt_trans hi (by decide)))]
 exact h
theorem af4 {l:List D} {i:Nat} {d:D} (h:l[i]?=some d) (hi:i < 1000000):bz4 (.list l) (.int (i:Int))=some d:=dh8 (ob rfl (ob rfl (df7 h hi)))
theorem dh2 {l:List D} {i:Nat} {d:D} (h:l[i]?=some d) (hi:i < 1000000):bz4 (.tuple l) (.int (i:Int))=some d:=dh8 (ob rfl (ob rfl (df7 h hi)))
theorem cd9 {l:List D} {i:Nat} (hi:i<=1000000) (hz:l.length<=1000000):bc0 (.list l) (.int (i:Int))=some (.list (l.take i)):=dq4 (Nat.le_trans hi (by decide)) (Nat.le_trans hz (by decide))
noncomputable def rCP (t ll:D) (s1 s2 cm:List Str) (o5 o9:Slot):Rho:=[some (.fr,t),some (.fr,.str "/"),some (.fr,.str "."),some (.fr,ll),some (.fr,.bool true),o5,some (.fr,LS s1),some (.fr,LS s2),some (.fr,LS cm),o9,none,none,none,none,none,none,none,none,none,none,none,none,none]
noncomputable abbrev da0:List SI:=[.if_ (.cmp .NotEq (.var 5) (.idx (.var 7) (.var 9))) [.assign 8 false (.upto (.var 6) (.var 9)),.brk] []]
theorem de3 {U:String->List D->Option D} {fr:String->Bool} {t ll:D} {s1 s2:List Str} (hl:s1.length<=100):∀ (rest pre rest2:List Str) (o5 o9:Slot),s1=pre ++ rest->s2=pre ++ rest2->¬ ltL rest2 rest->o5≠none\/True->
  (∀ m d,o5=some (m,d)->m = .fr)->(∀ m d,o9=some (m,d)->m = .fr)->
  ∃ v5 v9,(∀ m d,v5=some (m,d)->m = .fr)/\(∀ m d,v9=some (m,d)->m = .fr)/\j8 (ap3 U fr [9,5] da0) (ac2 pre.length (rest.map .str)) (rCP t ll s1 s2 s1 o5 o9)=some (.next,rCP t ll s1 s2 (ae5 s1 s2) v5 v9)
 | [],pre,rest2,o5,o9,e1,e2,_,_,h5,h9=>by
  refine ⟨o5,o9,h5,h9,?_⟩
  have:ae5 s1 s2=s1:=by
   rw [e1,e2,dd5];exact rfl
  rw [this];rfl
 | c :: rest,pre,[],o5,o9,e1,e2,h,_,_,_=>absurd (List.nil_lt_cons ..) h
 | c :: rest,pre,d :: rest2,o5,o9,e1,e2,h,_,h5,h9=>by
  have hk:pre.length < 1000000:=by rw [e1] at hl;simp at hl;lia
  have hd:bz4 (LS s2) (.int (pre.length:Int))=some (.str d):=af4 (by rw [e2];simp) hk
  have hb:ad9 (rCP t ll s1 s2 s1 o5 o9) [9,5] (.tuple [.int (pre.length:Int),.str c])=some (rCP t ll s1 s2 s1 (some (.fr,.str c)) (some (.fr,.int pre.length))):=by
   have q9:(rCP t ll s1 s2 s1 o5 o9).put 9 .fr (.int (pre.length:Int))=some (rCP t ll s1 s2 s1 o5 (some (.fr,.int pre.length))):=by
    unfold Rho.put
    match o9,h9 with
    | none,_=>rfl
    | some (m,d),h9=>cases h9 _ _ rfl;rfl
   have q5:(rCP t ll s1 s2 s1 o5 (some (.fr,.int pre.length))).put 5 .fr (.str c)=some (rCP t ll s1 s2 s1 (some (.fr,.str c)) (some (.fr,.int pre.length))):=by
    unfold Rho.put
    match o5,h5 with
    | none,_=>rfl
    | some (m,d),h5=>cases h5 _ _ rfl;rfl
   exact bj0 q9 q5
  by_cases e:c=d
  ·subst e
   have h':¬ ltL rest2 rest:=λ q=>h (List.cons_lt_cons_iff.mpr (.inr ⟨rfl,q⟩))
   obtain ⟨v5,v9,k5,k9,ih⟩:=de3 (U:=U) (fr:=fr) (t:=t) (ll:=ll) (s2:=s2) hl rest (pre ++ [c]) rest2 (some (.fr,.str c)) (some (.fr,.int pre.length)) (by rw [e1];simp) (by rw [e2];simp) h' (.inr trivial) (by rintro m d ⟨⟩;rfl) (by rintro m d ⟨⟩;rfl)
   refine ⟨v5,v9,k5,k9,?_⟩
   show j8 _ (.tuple [.int (pre.length:Int),.str c] :: ac2 (pre.length+1) (rest.map .str)) _=_
   have st:ap3 U fr [9,5] da0 (.tuple [.int (pre.length:Int),.str c]) (rCP t ll s1 s2 s1 o5 o9)=some (.next,rCP t ll s1 s2 s1 (some (.fr,.str c)) (some (.fr,.int pre.length))):=
    ad4 hb (l8 (aj1 (t_b rfl rfl (ae4 (d9 rfl) (l_e rfl (aa8 (d9 rfl) (d9 rfl) hd)) (ea7 c))) ar2))
   rw [u8 st,<- ih];simp
  ·refine ⟨some (.fr,.str c),some (.fr,.int pre.length),(by rintro m d ⟨⟩;rfl),(by rintro m d ⟨⟩;rfl),?_⟩
   have hlc:ae5 s1 s2=s1.take pre.length:=by
    rw [e1,e2,dd5,show ae5 (c :: rest) (d :: rest2)=[] from if_neg e];simp
   show j8 _ (.tuple [.int (pre.length:Int),.str c] :: ac2 (pre.length+1) (rest.map .str)) _=_
   have st:ap3 U fr [9,5] da0 (.tuple [.int (pre.length:Int),.str c]) (rCP t ll s1 s2 s1 o5 o9)=some (.brk,rCP t ll s1 s2 (s1.take pre.length) (some (.fr,.str c)) (some (.fr,.int pre.length))):=by
    refine ad4 hb (l8 (ar5 (t_b rfl rfl (ae4 (d9 rfl) (l_e rfl (aa8 (d9 rfl) (d9 rfl) hd)) (eo6 e))) ?_))
    refine (r7 (f7 (d:=LS (s1.take pre.length)) rfl (ct7 (d9 rfl) (d9 rfl) ?_) rfl)).trans ?_
    ·rw [LS,LS,List.map_take];exact cd9 (by lia) (by rw [List.length_map];lia)
    ·rfl
   rw [ct3 st,hlc]
end
section
section
variable {ar:Nat->Nat->Prop} {ks:List Nat} {P Q:Nat->List Nat}
theorem ax3.congr (K:ax3 ar ks P) (h:∀ x∈ks,Q x=P x):ax3 ar ks Q:=by
 obtain ⟨t,J,I⟩:=K
 refine ⟨⟨(h 0 t.z0).trans t.z,t.z0,λ x hx h0=>?_⟩,λ x hx p hp e=>?_,λ x hx d hd=>I x hx d (h x hx▸hd)⟩
 ·obtain ⟨p,hp,e⟩:=t.up x hx h0
  exact ⟨p,hp,by rw [h x hx,h p hp,e]⟩
 ·rw [h p hp]
  exact J x hx p hp (by rw [<- h x hx,<- h p hp,e])
theorem bt1 (h:∀ x∈ks,Q x=P x):bc4 ks Q=bc4 ks P:=congrArg List.sum (List.map_congr_left λ x hx=>congrArg List.length (h x hx))
noncomputable def bs7 (ks:List Nat) (pre:Nat->List Nat) (o:List Nat) (P:Nat->List Nat):Prop:=∀ v∈o,v∈ks->∀ p∈ks,P v=P p ++ [v]->∀ u∈pre v,p∈P u
theorem bs7.congr {pre:Nat->List Nat} {o:List Nat} (hpre:∀ v,∀ u∈pre v,u∈ks/\ar u v) (F:bs7 ks pre o P) (h:∀ x∈ks,Q x=P x):bs7 ks pre o Q:=λ v hv hk p hp e u hu=>by
 rw [h u (hpre v u hu).1]
 exact F v hv hk p hp (by rw [<- h v hk,<- h p hp,e]) u hu
noncomputable def as8 (ks:List Nat) (pre:Nat->List Nat) (S:(Nat->List Nat)×Bool) (v:Nat):(Nat->List Nat)×Bool:=(ak5 ks pre S.1 v,S.2 || (decide (v∈ks) && decide (aw5 S.1 (pre v) v≠(S.1 v).dropLast)))
inductive ep0 (ar:Nat->Nat->Prop) (ks:List Nat) (pre:Nat->List Nat) (o:List Nat) (P:Nat->List Nat) (c:Bool) (S:(Nat->List Nat)×Bool):Prop
 | same (h:∀ x∈ks,S.1 x=P x) (b:S.2=c) (f:bs7 ks pre o P)
 | less (k:ax3 ar ks S.1) (b:S.2=true) (h:bc4 ks S.1 < bc4 ks P)
theorem eq8 {pre:Nat->List Nat} (hpre:∀ v,∀ u∈pre v,u∈ks/\ar u v):∀ {o:List Nat} (P:Nat->List Nat) (c:Bool),ax3 ar ks P->(∀ v∈o,v≠0)->ep0 ar ks pre o P c (o.foldl (as8 ks pre) (P,c)):=by
 intro o
 induction o with
 | nil=>exact λ P c K _=>.same (λ x _=>rfl) rfl λ v hv=>nomatch hv
 | cons v o ih=>
  intro P c K h0
  rw [List.foldl_cons]
  have h0':∀ u∈o,u≠0:=λ u hu=>h0 u (List.mem_cons_of_mem _ hu)
  by_cases hv:v∈ks
  ·cases df2 (pre:=pre) K hpre hv (h0 v List.mem_cons_self) with
   | stay e h f=>
    have eb:as8 ks pre (P,c) v=(ak5 ks pre P v,c):=by
     show (ak5 ks pre P v,c || (decide (v∈ks) && decide (aw5 P (pre v) v≠(P v).dropLast)))=_
     rw [e,decide_eq_false (p:=(P v).dropLast≠(P v).dropLast) (λ q=>q rfl),Bool.and_false,Bool.or_false]
    rw [eb]
    cases ih (ak5 ks pre P v) c (K.congr h) h0' with
    | same h2 b2 f2=>
     refine .same (λ x hx=>(h2 x hx).trans (h x hx)) b2 λ u hu hk=>?_
     rcases List.mem_cons.mp hu with rfl | hu
     ·exact f
     ·exact bs7.congr hpre f2 (λ x hx=>(h x hx).symm) u hu hk
    | less k b h2=>exact .less k b (bt1 h▸h2)
   | go e k h=>
    have eb:as8 ks pre (P,c) v=(ak5 ks pre P v,true):=by
     unfold as8
     rw [decide_eq_true hv,decide_eq_true e,Bool.and_true,Bool.or_true]
    rw [eb]
    cases ih (ak5 ks pre P v) true k h0' with
    | same h2 b2 f2=>exact .less (k.congr h2) b2 (bt1 h2▸h)
    | less k2 b h2=>exact .less k2 b (Nat.lt_trans h2 h)
  ·have eb:as8 ks pre (P,c) v=(P,c):=by
    unfold as8 ak5
    rw [decide_eq_false hv,Bool.false_and,Bool.or_false]
    exact congrArg (·,c) (funext λ x=>if_neg λ q=>hv q.1)
   rw [eb]
   cases ih P c K h0' with
   | same h2 b2 f2=>
    refine .same h2 b2 λ u hu hk=>?_
    rcases List.mem_cons.mp hu with rfl | hu
    ·exact absurd hk hv
    ·exact f2 u hu hk
   | less k2 b h2=>exact .less k2 b h2
noncomputable def ck8 (ks:List Nat) (pre:Nat->List Nat) (o:List Nat) (S:(Nat->List Nat)×Bool):(Nat->List Nat)×Bool:=bif S.2 then o.foldl (as8 ks pre) (S.1,false) else S
noncomputable def aj0 (ks:List Nat) (pre:Nat->List Nat) (o:List Nat) (S:(Nat->List Nat)×Bool):Nat->(Nat->List Nat)×Bool
 | 0=>S
 | n+1=>ck8 ks pre o (aj0 ks pre o S n)
inductive cz7 (ar:Nat->Nat->Prop) (ks:List Nat) (pre:Nat->List Nat) (o:List Nat) (m i:Nat) (S:(Nat->List Nat)×Bool):Prop
 | on (k:ax3 ar ks S.1) (b:S.2=true) (h:bc4 ks S.1+i<=m)
 | off (k:ax3 ar ks S.1) (b:S.2=false) (f:bs7 ks pre o S.1)
theorem eb4 {pre:Nat->List Nat} (hpre:∀ v,∀ u∈pre v,u∈ks/\ar u v) {o:List Nat} (h0:∀ v∈o,v≠0) (K:ax3 ar ks P):∀ i,cz7 ar ks pre o (bc4 ks P) i (aj0 ks pre o (P,true) i)
 | 0=>.on K rfl (Nat.le_refl _)
 | i+1=>by
  show cz7 ar ks pre o _ _ (ck8 ks pre o (aj0 ks pre o (P,true) i))
  generalize hS:aj0 ks pre o (P,true) i=S
  cases (hS▸eb4 hpre h0 K i:cz7 ar ks pre o (bc4 ks P) i S) with
  | on k b h=>
   unfold ck8
   rw [b,cond_true]
   cases eq8 hpre (o:=o) S.1 false k h0 with
   | same h2 b2 f2=>exact .off (k.congr h2) b2 (f2.congr hpre h2)
   | less k2 b2 h2=>exact .on k2 b2 (Nat.le_trans (by rw [Nat.add_comm i 1,<- Nat.add_assoc];exact Nat.add_le_add_right h2 i) h)
  | off k b f=>
   unfold ck8
   rw [b,cond_false]
   exact .off k b f
theorem ed0 (t:Tr ks P):ks.length<=bc4 ks P:=by
 have:∀ {l:List Nat},(∀ x∈l,1<=(P x).length)->l.length<=(l.map λ x=>(P x).length).sum:=by
  intro l
  induction l with
  | nil=>exact λ _=>Nat.le_refl _
  | cons a l ih=>
   intro h
   rw [List.map_cons,List.sum_cons,List.length_cons,Nat.add_comm]
   exact Nat.add_le_add (h a List.mem_cons_self) (ih λ x hx=>h x (List.mem_cons_of_mem _ hx))
 exact this λ x hx=>List.length_pos_of_mem (t.self hx)
theorem dl4 {pre:Nat->List Nat} (hpre:∀ v,∀ u∈pre v,u∈ks/\ar u v) {o:List Nat} (h0:∀ v∈o,v≠0) (K:ax3 ar ks P) {n:Nat} (hs:bc4 ks P < ks.length+n):ax3 ar ks (aj0 ks pre o (P,true) n).1/\bs7 ks pre o (aj0 ks pre o (P,true) n).1:=by
 cases eb4 hpre h0 K n with
 | on k b h=>exact absurd (Nat.le_trans (Nat.add_le_add_right (ed0 k.t) n) h) (Nat.not_le.mpr hs)
 | off k b f=>exact ⟨k,f⟩
inductive bf0 (ar:Nat->Nat->Prop):List Nat->(Nat->List Nat)->Prop
 | base:bf0 ar [0] λ _=>[0]
 | step {ks:List Nat} {P:Nat->List Nat} {k m:Nat} (h:bf0 ar ks P) (hk:k∈ks) (ha:ar k m) (hm:m ∉ ks):bf0 ar (ks ++ [m]) λ x=>if x=m then P k ++ [m] else P x
structure eg4 (ar:Nat->Nat->Prop) (ks:List Nat) (P:Nat->List Nat):Prop where
 k:ax3 ar ks P
 n:ks.Nodup
 l:∀ x∈ks,(P x).length<=ks.length
 s:2 * bc4 ks P<=ks.length * (ks.length+1)
theorem az3 (h:bf0 ar ks P):eg4 ar ks P:=by
 induction h with
 | base=>
  refine ⟨⟨⟨rfl,List.mem_cons_self,λ x hx h0=>absurd (List.mem_singleton.mp hx) h0⟩,λ x hx p hp e=>?_,λ x hx d hd=>?_⟩,(List.nodup_cons.mpr ⟨List.not_mem_nil,.nil⟩),λ x _=>Nat.le_refl _,Nat.le_refl _⟩
  ·exact absurd (congrArg List.length e) (by simp)
  ·rw [List.mem_singleton.mp hx];exact .refl
 | @step ks P k m h hk ha hm ih=>
  obtain ⟨⟨t,J,I⟩,n,l,s⟩:=ih
  have e1:∀ x∈ks,(if x=m then P k ++ [m] else P x)=P x:=λ x hx=>if_neg λ q=>hm (by rw [<- q];exact hx)
  have e2:(if m=m then P k ++ [m] else P m)=P k ++ [m]:=if_pos rfl
  have hmk:∀ x∈ks,m ∉ P x:=λ x hx q=>hm (t.mem hx q).1
  have h0m:0≠m:=λ q=>hm (by rw [<- q];exact t.z0)
  have t':Tr (ks ++ [m]) λ x=>if x=m then P k ++ [m] else P x:=by
   refine ⟨(if_neg h0m).trans t.z,List.mem_append_left _ t.z0,λ x hx h0=>?_⟩
   rcases List.mem_append.mp hx with hx | hx
   ·obtain ⟨p,hp,e⟩:=t.up x hx h0
    exact ⟨p,List.mem_append_left _ hp,by show (if x=m then _ else _)=(if p=m then _ else _) ++ [x];rw [e1 x hx,e1 p hp,e]⟩
   ·have:=List.mem_singleton.mp hx
    subst this
    exact ⟨k,List.mem_append_left _ hk,by show (if x=x then _ else _)=(if k=x then _ else _) ++ [x];rw [e2,e1 k hk]⟩
  refine ⟨⟨t',λ x hx p hp e=>?_,λ x hx d hd=>?_⟩,?_,λ x hx=>?_,?_⟩
  ·rcases List.mem_append.mp hx with hx | hx
   ·by_cases h0:x=0
    ·subst h0
     have hz:=t'.z
     have hs:=t'.self hp
     rw [hz] at e
     cases hP:(if p=m then P k ++ [m] else P p) with
     | nil=>rw [hP] at hs;cases hs
     | cons a r=>rw [hP] at e;exact absurd (congrArg List.length e) (by simp)
    ·obtain ⟨p2,hp2,e3⟩:=t.up x hx h0
     have:p2=p:=t'.pin (List.mem_append_left _ hp2) hp (by show (if x=m then _ else _)=(if p2=m then _ else _) ++ [x];rw [e1 x hx,e1 p2 hp2,e3]) e
     subst this
     show Av ar (λ y=>y∈(if p2=m then _ else _)/\_) p2 x
     rw [e1 p2 hp2]
     exact J x hx p2 hp2 e3
   ·have:=List.mem_singleton.mp hx
    subst this
    have:k=p:=t'.pin (List.mem_append_left _ hk) hp (by show (if x=x then _ else _)=(if k=x then _ else _) ++ [x];rw [e2,e1 k hk]) e
    subst this
    show Av ar (λ y=>y∈(if k=x then _ else _)/\_) k x
    rw [e1 k hk]
    exact Av.refl.step ha λ q=>hmk k hk q.1
  ·rcases List.mem_append.mp hx with hx | hx
   ·exact I x hx d (e1 x hx▸hd)
   ·have:=List.mem_singleton.mp hx
    subst this
    have hd:d ∉ P k ++ [x]:=e2▸hd
    exact (I k hk d λ q=>hd (List.mem_append_left _ q)).step ha λ q=>hd (List.mem_append_right _ (by rw [q];exact List.mem_cons_self))
  ·exact List.nodup_append.mpr ⟨n,(List.nodup_cons.mpr ⟨List.not_mem_nil,.nil⟩),λ x hx y hy q=>hm (by rw [<- List.mem_singleton.mp hy,<- q];exact hx)⟩
  ·rw [af1]
   rcases List.mem_append.mp hx with hx | hx
   ·show (if x=m then P k ++ [m] else P x).length<=_
    rw [e1 x hx];exact Nat.le_succ_of_le (l x hx)
   ·have:=List.mem_singleton.mp hx
    subst this
    show (if x=x then P k ++ [x] else P x).length<=_
    rw [e2,af1];exact Nat.succ_le_succ (l k hk)
  ·have:bc4 (ks ++ [m]) (λ x=>if x=m then P k ++ [m] else P x)=bc4 ks P+((P k).length+1):=by
    unfold bc4
    rw [List.map_append,List.sum_append,List.map_congr_left (g:=λ x=>(P x).length) λ x hx=>congrArg List.length (e1 x hx)]
    show _+((if m=m then P k ++ [m] else P m).length+0)=_
    rw [e2,af1]
   rw [this,af1,Nat.mul_add]
   have hk':=l k hk
   refine Nat.le_trans (Nat.add_le_add s (Nat.mul_le_mul_left 2 (Nat.succ_le_succ hk'))) (Nat.le_of_eq ?_)
   show ks.length * (ks.length+1)+2 * (ks.length+1)=(ks.length+1) * (ks.length+1+1)
   rw [<- Nat.add_mul,Nat.mul_comm]
end
end
section
noncomputable def ai0 (out:Nat) (met:List Nat) (e:Nat×Nat):List Nat:=if e.1∈met/\e.2 ∉ met/\e.2≠out then met ++ [e.2] else met
noncomputable def an3 (ar:List (Nat×Nat)) (out:Nat) (met:List Nat):List Nat:=ar.foldl (ai0 out) met
noncomputable def k8 (ar:List (Nat×Nat)) (out:Nat):Nat->List Nat
 | 0=>[0]
 | i+1=>an3 ar out (k8 ar out i)
noncomputable def arP (ar:List (Nat×Nat)) (a b:Nat):Prop:=(a,b)∈ar
structure cr0 (ar:List (Nat×Nat)) (out n:Nat) (met:List Nat):Prop where
 nd:met.Nodup
 lt:∀ x∈met,x < n
 z:0∈met
 av:∀ x∈met,Av (arP ar) (·=out) 0 x
section
variable {ar as:List (Nat×Nat)} {out n:Nat} {met:List Nat}
theorem cb8 (e:Nat×Nat):met <+: ai0 out met e:=by
 unfold ai0
 split
 ·exact List.prefix_append _ _
 ·exact List.prefix_refl _
theorem bk3:∀ (as:List (Nat×Nat)) (met:List Nat),met <+: an3 as out met
 | [],met=>List.prefix_refl _
 | e :: as,met=>(cb8 e).trans (bk3 as (ai0 out met e))
theorem dw1 (M:cr0 ar out n met) {e:Nat×Nat} (he:e∈ar) (hn:e.2 < n):cr0 ar out n (ai0 out met e):=by
 unfold ai0
 split
 ·rename_i h
  refine ⟨?_,λ x hx=>?_,List.mem_append_left _ M.z,λ x hx=>?_⟩
  ·refine List.nodup_append.mpr ⟨M.nd,List.pairwise_singleton _ _,λ a ha b hb q=>?_⟩
   rw [List.mem_singleton.mp hb] at q
   exact h.2.1 (q▸ha)
  ·rcases List.mem_append.mp hx with q | q
   ·exact M.lt x q
   ·rw [List.mem_singleton.mp q];exact hn
  ·rcases List.mem_append.mp hx with q | q
   ·exact M.av x q
   ·rw [List.mem_singleton.mp q]
    exact .step (M.av _ h.1) he h.2.2
 ·exact M
theorem ct1:∀ {as:List (Nat×Nat)} {met:List Nat},cr0 ar out n met->(∀ e∈as,e∈ar/\e.2 < n)->cr0 ar out n (an3 as out met)
 | [],_,M,_=>M
 | e :: as,_,M,h=>ct1 (as:=as) (dw1 M (h e (.head _)).1 (h e (.head _)).2) λ d hd=>h d (.tail _ hd)
theorem dg4 {a b:List Nat} (h:a <+: b) (e:b.length<=a.length):b=a:=(h.eq_of_length (Nat.le_antisymm h.length_le e)).symm
noncomputable def dv0 (as:List (Nat×Nat)) (out:Nat) (met:List Nat):Prop:=∀ e∈as,e.1∈met->e.2≠out->e.2∈met
theorem br9:∀ {as:List (Nat×Nat)},an3 as out met=met->dv0 as out met
 | [],_=>λ e he=>nomatch he
 | e :: as,h=>by
  have h1:ai0 out met e=met:=dg4 (cb8 e) (by
   have:=(bk3 (out:=out) as (ai0 out met e)).length_le
   have h:an3 as out (ai0 out met e)=met:=h
   rw [h] at this;exact this)
  have h2:an3 as out met=met:=by
   have h:an3 as out (ai0 out met e)=met:=h
   rw [h1] at h;exact h
  intro d hd h3 h4
  rcases List.mem_cons.mp hd with rfl | hd
  ·refine Classical.byContradiction λ q=>?_
   unfold ai0 at h1
   rw [if_pos ⟨h3,q,h4⟩] at h1
   have:=congrArg List.length h1
   rw [List.length_append] at this
   exact absurd this (Nat.ne_of_gt (Nat.lt_succ_self _))
  ·exact br9 h2 d hd h3 h4
theorem cd0:∀ {as:List (Nat×Nat)},dv0 as out met->an3 as out met=met
 | [],_=>rfl
 | e :: as,h=>by
  have h1:ai0 out met e=met:=if_neg λ q=>q.2.1 (h e (.head _) q.1 q.2.2)
  show an3 as out (ai0 out met e)=met
  rw [h1]
  exact cd0 λ d hd=>h d (.tail _ hd)
theorem y8:∀ (n:Nat) {l:List Nat},l.Nodup->(∀ y∈l,y < n)->l.length<=n
 | 0,[],_,_=>Nat.le_refl _
 | 0,y :: l,_,h=>absurd (h y (.head _)) (Nat.not_lt_zero y)
 | n+1,l,hn,h=>by
  have ih:=y8 n (l:=l.erase n) (hn.erase n) λ y hy=>by
   obtain ⟨q1,q2⟩:=hn.mem_erase_iff.mp hy
   exact Nat.lt_of_le_of_ne (Nat.le_of_lt_succ (h y q2)) q1
  rw [List.length_erase] at ih
  split at ih
  ·exact Nat.sub_le_iff_le_add.mp ih
  ·exact Nat.le_succ_of_le ih
theorem au0 (h:∀ e∈ar,e.2 < n) (h0:0 < n):∀ i,cr0 ar out n (k8 ar out i)/\(dv0 ar out (k8 ar out i)\/i+1<=(k8 ar out i).length)
 | 0=>⟨⟨List.pairwise_singleton _ _,λ x hx=>by rw [List.mem_singleton.mp hx];exact h0,.head _,λ x hx=>by rw [List.mem_singleton.mp hx];exact .refl⟩,.inr (Nat.le_refl _)⟩
 | i+1=>by
  obtain ⟨M,hc⟩:=au0 h h0 i
  refine ⟨ct1 M λ e he=>⟨he,h e he⟩,?_⟩
  show dv0 ar out (an3 ar out (k8 ar out i))\/i+1+1<=(an3 ar out (k8 ar out i)).length
  rcases hc with hc | hc
  ·rw [cd0 hc];exact .inl hc
  ·by_cases q:an3 ar out (k8 ar out i)=k8 ar out i
   ·rw [q];exact .inl (br9 q)
   ·refine .inr (Nat.lt_of_le_of_lt hc (Nat.lt_of_not_le λ r=>q (dg4 (bk3 ar _) r)))
theorem cy3 (h:∀ e∈ar,e.2 < n+1):dv0 ar out (k8 ar out n):=by
 obtain ⟨M,hc⟩:=au0 (out:=out) h (Nat.succ_pos n) n
 rcases hc with hc | hc
 ·exact hc
 ·intro e he h1 h2
  refine Classical.byContradiction λ q=>?_
  have:=y8 (n+1) (l:=e.2 :: k8 ar out n) (List.nodup_cons.mpr ⟨q,M.nd⟩) λ y hy=>by
   rcases List.mem_cons.mp hy with rfl | hy
   ·exact h e he
   ·exact M.lt y hy
  exact absurd (Nat.le_trans (Nat.succ_le_succ hc) this) (Nat.not_succ_le_self _)
theorem bh6 (h:∀ e∈ar,e.2 < n+1) {x:Nat}:x∈k8 ar out n↔Av (arP ar) (·=out) 0 x:=by
 obtain ⟨M,_⟩:=au0 (out:=out) h (Nat.succ_pos n) n
 refine ⟨M.av x,λ a=>?_⟩
 induction a with
 | refl=>exact M.z
 | step _ h1 h2 ih=>exact cy3 h _ h1 ih h2
theorem az2 (h:∀ e∈ar,e.2 < n+1):(k8 ar out n).Nodup:=(au0 (out:=out) h (Nat.succ_pos n) n).1.nd
end
end
section
noncomputable def cc2 (ar:List (Nat×Nat)) (d:Nat):List Nat:=if d≠0 then k8 ar d 4 else []
noncomputable def bf5 (ar:List (Nat×Nat)) (x:Nat):List Nat:=x :: (List.range 5).filter λ d=>decide (x≠d) && !decide (x∈cc2 ar d)
structure ar7 (ar:List (Nat×Nat)) (ks:List Nat) (P:Nat->List Nat):Prop where
 lt:∀ e∈ar,e.2 < 4+1
 k:ax3 (arP ar) ks P
 c:∀ u∈ks,∀ v,arP ar u v->v∈ks
 f:∀ v∈ks,∀ p∈ks,P v=P p ++ [v]->∀ u∈ks,arP ar u v->p∈P u
 n:∀ x∈ks,x < 5
section
variable {ar:List (Nat×Nat)} {ks:List Nat} {P:Nat->List Nat} {x d:Nat}
theorem ar7.dom (F:ar7 ar ks P) (hx:x∈ks) (h0:d≠0):x∈k8 ar d 4↔d ∉ P x:=
 ⟨λ h=>(dg8 F.k.t F.c F.f h0 ((bh6 F.lt).mp h)).2,λ h=>(bh6 F.lt).mpr (F.k.I x hx d h)⟩
theorem ar7.all (F:ar7 ar ks P):x∈k8 ar 5 4↔x∈ks:=
 ⟨λ h=>(dg8 F.k.t F.c F.f (show 5≠0 by decide) ((bh6 F.lt).mp h)).1,λ h=>(F.dom h (by decide)).mpr λ q=>absurd (F.n 5 (F.k.t.mem h q).1) (Nat.lt_irrefl 5)⟩
theorem ar7.need (F:ar7 ar ks P) (hx:x∈ks):d∈bf5 ar x↔d∈P x:=by
 unfold bf5
 by_cases e:x=d
 ·subst e
  exact ⟨λ _=>F.k.t.self hx,λ _=>.head _⟩
 ·have key:x∈cc2 ar d↔d ∉ P x:=by
   unfold cc2
   by_cases h0:d=0
   ·subst h0
    rw [if_neg (by simp)]
    exact ⟨λ q=>(nomatch q),λ q=>absurd (F.k.t.zero hx) q⟩
   ·rw [if_pos h0];exact F.dom hx h0
  constructor
  ·intro h
   rcases List.mem_cons.mp h with q | h
   ·exact absurd q.symm e
   ·obtain ⟨_,h2⟩:=List.mem_filter.mp h
    rw [decide_eq_true e,Bool.true_and] at h2
    refine Classical.byContradiction λ q=>?_
    rw [decide_eq_true (key.mpr q)] at h2
    cases h2
  ·intro h
   refine List.mem_cons.mpr (.inr (List.mem_filter.mpr ⟨List.mem_range.mpr (F.n d (F.k.t.mem hx h).1),?_⟩))
   rw [decide_eq_true e,decide_eq_false λ q=>key.mp q h];rfl
theorem cx0:(bf5 ar x).Nodup:=by
 refine List.nodup_cons.mpr ⟨λ h=>?_,List.nodup_range.filter _⟩
 obtain ⟨_,h2⟩:=List.mem_filter.mp h
 rw [decide_eq_false (λ q=>q rfl)] at h2
 cases h2
theorem Tr.chain (t:Tr ks P):∀ (n:Nat) {x:Nat},(P x).length<=n->x∈ks->(P x).Nodup/\(P x).Pairwise λ a b=>(P a).length < (P b).length:=by
 intro n
 induction n with
 | zero=>
  intro x hl hx
  rw [List.eq_nil_of_length_eq_zero (Nat.le_zero.mp hl)]
  exact ⟨.nil,.nil⟩
 | succ n ih=>
  intro x hl hx
  by_cases e:x=0
  ·rw [e,t.z];exact ⟨List.pairwise_singleton _ _,List.pairwise_singleton _ _⟩
  ·obtain ⟨p,hp,e2⟩:=t.up x hx e
   rw [e2] at hl
   obtain ⟨i1,i2⟩:=ih (bg0 hl) hp
   have hab:=t.above hx hp e2
   constructor
   ·rw [e2]
    refine List.nodup_append.mpr ⟨i1,List.pairwise_singleton _ _,λ a ha b hb q=>?_⟩
    rw [List.mem_singleton.mp hb] at q
    exact hab (q▸ha)
   ·have hlx:(P x).length=(P p).length+1:=by rw [e2];exact af1 _ _
    rw [e2]
    refine List.pairwise_append.mpr ⟨i2,List.pairwise_singleton _ _,λ a ha b hb=>?_⟩
    rw [List.mem_singleton.mp hb,hlx]
    exact Nat.lt_succ_of_le (t.mem hp ha).2.length_le
theorem ar7.perm (F:ar7 ar ks P) (hx:x∈ks):(bf5 ar x).Perm (P x):=(List.perm_ext_iff_of_nodup cx0 (F.k.t.chain _ (Nat.le_refl _) hx).1).mpr λ d=>F.need hx
theorem ar7.len (F:ar7 ar ks P) (hx:x∈ks):(bf5 ar x).length=(P x).length:=(F.perm hx).length_eq
theorem ar7.sorted (F:ar7 ar ks P) (hx:x∈ks):(P x).Pairwise λ a b=>(bf5 ar a).length < (bf5 ar b).length:=
 (F.k.t.chain _ (Nat.le_refl _) hx).2.imp_of_mem λ {a b} ha hb q=>by rw [F.len (F.k.t.mem hx ha).1,F.len (F.k.t.mem hx hb).1];exact q
end
end
section
noncomputable def af0 (ar:List (Nat×Nat)) (ks:List Nat) (v:Nat):List Nat:=((ar.filter λ e=>decide (e.2=v)).map (·.1)).filter λ u=>decide (u∈ks)
section
variable {ar:List (Nat×Nat)} {ks o:List Nat} {P:Nat->List Nat} {u v:Nat}
theorem bg1:u∈af0 ar ks v↔u∈ks/\arP ar u v:=by
 unfold af0 arP
 rw [List.mem_filter,List.mem_map,decide_eq_true_eq]
 constructor
 ·rintro ⟨⟨e,h1,rfl⟩,h2⟩
  obtain ⟨h3,h4⟩:=List.mem_filter.mp h1
  have:=of_decide_eq_true h4
  subst this
  exact ⟨h2,h3⟩
 ·rintro ⟨h1,h2⟩
  exact ⟨⟨(u,v),List.mem_filter.mpr ⟨h2,decide_eq_true rfl⟩,rfl⟩,h1⟩
theorem bf0.lt (h:∀ e∈ar,e.2 < 5) (g:bf0 (arP ar) ks P):∀ x∈ks,x < 5:=by
 induction g with
 | base=>intro x hx;rw [List.mem_singleton.mp hx];decide
 | step g hk ha hm ih=>
  intro x hx
  rcases List.mem_append.mp hx with hx | hx
  ·exact ih x hx
  ·rw [List.mem_singleton.mp hx];exact h _ ha
theorem dm6 {n s:Nat} (h5:n<=5) (h:2 * s<=n * (n+1)):s < n+12:=by
 have h1:n * (n+1)<=n * 6:=Nat.mul_le_mul_left n (Nat.succ_le_succ h5)
 omega
theorem ey6 (h:∀ e∈ar,e.2 < 5) (g:bf0 (arP ar) ks P) (hc:∀ u∈ks,∀ v,arP ar u v->v∈ks) (ho:∀ v,v∈o↔v≠0/\v < 5):ar7 ar ks (aj0 ks (af0 ar ks) o (P,true) 12).1:=by
 have G:=az3 g
 have hn:=g.lt h
 have hl:=y8 5 G.n hn
 obtain ⟨K,F⟩:=dl4 (ar:=arP ar) (pre:=af0 ar ks) (o:=o) (λ v u hu=>bg1.mp hu) (λ v hv=>((ho v).mp hv).1) G.k (n:=12) (dm6 hl G.s)
 refine ⟨h,K,hc,λ v hv p hp e u hu hau=>F v ((ho v).mpr ⟨λ q=>?_,hn v hv⟩) hv p hp e u (bg1.mpr ⟨hu,hau⟩),hn⟩
 subst q
 rw [K.t.z] at e
 have hs:=K.t.self hp
 cases hP:(aj0 ks (af0 ar ks) o (P,true) 12).1 p with
 | nil=>rw [hP] at hs;cases hs
 | cons a r=>rw [hP] at e;exact absurd (congrArg List.length e) (by simp)
end
end
section
open PySem.StrLaws PySem.Builtin PySem.Builtin.Str
section
variable {U:String->List D->Option D} {fr:String->Bool} {r r2:Rho}
theorem em5 {a:IR} (h:ab4 U a r=some true):eval U (.not a) r=some (.bool false):=ek0 h
theorem ea8 {f:String} {e:IR} {α:Type} {xs:List α} {g h:α->D} (hl:look U e r=some (.list (xs.map g))) (hf:∀ x∈xs,U f [g x]=some (h x)) (hz:sz xs.length=true):eval U (.tupmap f e) r=some (.tuple (xs.map h)):=
 ob hl (ob rfl (r6 (by rw [List.length_map];exact hz) (ob (by rw [List.mapM_map];exact ac4 (f:=(λ d=>U f [d]) ∘ g) (g:=h) λ x hx=>hf x hx) rfl)))
theorem ev6 {es:List IR} {t:Bool} (h:bj8 U es r=some t):ab4 U (.andT es) r=some t:=h
theorem df8 {e:IR} {es:List IR} {t u:Bool} (h:ab4 U e r=some t) (h2:bj8 U es r=some u):bj8 U (e :: es) r=some (t && u):=ob h (by cases t;rfl;exact h2)
theorem dk6 {x:Nat} {cap:List (Option Nat)} {tgt:List Nat} {src:IR} {elt:IR} {b:Bool} {α:Type} {xs:List α} {g:α->D} {R:α->Rho} {y:α} {ys:List α} (hx:xs=y :: ys) (hi:e9 U src r=some (xs.map g)) (hb:∀ x∈xs,m8 (as7 r cap) tgt (g x)=some (R x))
  (he:∀ x∈xs,eval U elt (R x)=some (.bool b)) (hp:r.put x .fr (.bool b)=some r2):exec U fr (.unpackS x cap tgt src elt) r=some (.next,r2):=by
 refine ob hi (ob (a:=xs.map λ ξ=>.bool b) ?_ (ob (a:=.bool b) (by subst hx;rfl) (ob rfl (r6 ?_ (ob hp rfl)))))
 ·rw [List.mapM_map]
  exact ac4 λ x hx=>ob (hb x hx) (he x hx)
 ·rw [List.all_map,List.all_eq_true]
  exact λ x ξ=>beq_self_eq_true b
end
theorem dg7 (a b:List Str):ltD (LS a) (LS b)=decide (ltL a b):=by
 unfold LS
 rw [du5]
 exact bk8 a b
theorem dn9 (a:List Str):av8 (LS a)=true:=by simp [av8,LS,isStr]
noncomputable def bn8 (a:List Str) (r:List (List Str)):List Str:=r.foldl (λ m x=>if ltL x m then x else m) a
noncomputable def bw2 (a:List Str) (r:List (List Str)):List Str:=r.foldl (λ m x=>if ltL m x then x else m) a
theorem bo2 {p:List Str->List Str->Prop} [DecidableRel p] {q:D->D->Bool} (h:∀ a b,q (LS a) (LS b)=decide (p a b)):∀ (r:List (List Str)) (a:List Str),(r.map LS).foldl (λ m x=>if q m x then x else m) (LS a)=LS (r.foldl (λ m x=>if p m x then x else m) a)
 | [],a=>rfl
 | x :: r,a=>by
  rw [List.map_cons,List.foldl_cons,List.foldl_cons,h]
  by_cases e:p a x
  ·rw [if_pos e,if_pos (decide_eq_true e)];exact bo2 h r x
  ·rw [if_neg e,if_neg (by rw [decide_eq_false e];exact Bool.false_ne_true)];exact bo2 h r a
theorem dc6 {a:List Str} {r:List (List Str)}:(LS a :: r.map LS).all av8=true:=
 List.all_eq_true.mpr λ x hx=>by
  obtain ⟨y,_,rfl⟩:=List.mem_map.mp (show x∈(a :: r).map LS from hx)
  exact dn9 y
theorem eb9 {a:List Str} {r:List (List Str)}:eh1 ((a :: r).map LS)=some (LS (bn8 a r)):=
 (if_pos dc6).trans (congrArg some (bo2 (p:=λ m x=>ltL x m) (q:=λ m x=>ltD x m) (λ a b=>dg7 b a) r a))
theorem ds7 {a:List Str} {r:List (List Str)}:ei2 ((a :: r).map LS)=some (LS (bw2 a r)):=
 (if_pos dc6).trans (congrArg some (bo2 (p:=λ m x=>ltL m x) (q:=λ m x=>ltD m x) (λ a b=>dg7 a b) r a))
theorem cb5 {a b c:List Str} (h1:ltL a b) (h2:ltL b c):ltL a c:=List.lt_trans h1 h2
theorem bq1:∀ (r:List (List Str)) (a:List Str),bn8 a r∈a :: r/\∀ x∈a :: r,¬ ltL x (bn8 a r)
 | [],a=>⟨.head _,λ x hx=>by rw [List.mem_singleton.mp hx];exact List.lt_irrefl _⟩
 | y :: r,a=>by
  show bn8 (if ltL y a then y else a) r∈_/\∀ x∈_,¬ ltL x (bn8 (if ltL y a then y else a) r)
  by_cases e:ltL y a
  ·rw [if_pos e]
   obtain ⟨h1,h2⟩:=bq1 r y
   refine ⟨.tail _ h1,λ x hx=>?_⟩
   rcases List.mem_cons.mp hx with rfl | hx
   ·exact λ q=>h2 y (.head _) (cb5 e q)
   ·exact h2 x hx
  ·rw [if_neg e]
   obtain ⟨h1,h2⟩:=bq1 r a
   refine ⟨?_,λ x hx=>?_⟩
   ·rcases List.mem_cons.mp h1 with q | q
    ·rw [q];exact .head _
    ·exact .tail _ (.tail _ q)
   ·rcases List.mem_cons.mp hx with rfl | hx
    ·exact h2 _ (.head _)
    ·rcases List.mem_cons.mp hx with rfl | hx
     ·exact λ q=>h2 a (.head _) (List.lt_of_le_of_lt (List.not_lt.mp e) q)
     ·exact h2 x (.tail _ hx)
theorem bp5:∀ (r:List (List Str)) (a:List Str),bw2 a r∈a :: r/\∀ x∈a :: r,¬ ltL (bw2 a r) x
 | [],a=>⟨.head _,λ x hx=>by rw [List.mem_singleton.mp hx];exact List.lt_irrefl _⟩
 | y :: r,a=>by
  show bw2 (if ltL a y then y else a) r∈_/\∀ x∈_,¬ ltL (bw2 (if ltL a y then y else a) r) x
  by_cases e:ltL a y
  ·rw [if_pos e]
   obtain ⟨h1,h2⟩:=bp5 r y
   refine ⟨.tail _ h1,λ x hx=>?_⟩
   rcases List.mem_cons.mp hx with rfl | hx
   ·exact λ q=>h2 y (.head _) (cb5 q e)
   ·exact h2 x hx
  ·rw [if_neg e]
   obtain ⟨h1,h2⟩:=bp5 r a
   refine ⟨?_,λ x hx=>?_⟩
   ·rcases List.mem_cons.mp h1 with q | q
    ·rw [q];exact .head _
    ·exact .tail _ (.tail _ q)
   ·rcases List.mem_cons.mp hx with rfl | hx
    ·exact h2 _ (.head _)
    ·rcases List.mem_cons.mp hx with rfl | hx
     ·exact λ q=>e (List.lt_of_le_of_lt (List.not_lt.mp (h2 a (.head _))) q)
     ·exact h2 x (.tail _ hx)
theorem dd1:∀ {a x b:List Str},¬ ltL x a->¬ ltL b x->ae5 a b <+: x
 | [],_,_,_,_=>List.nil_prefix
 | c :: a,_,[],_,_=>List.nil_prefix
 | c :: a,[],d :: b,h1,_=>absurd (List.nil_lt_cons ..) h1
 | c :: a,e :: x,d :: b,h1,h2=>by
  show (if c=d then c :: ae5 a b else []) <+: _
  by_cases q:c=d
  ·rw [if_pos q]
   subst q
   have h3:¬ cl e < cl c:=λ q=>h1 (List.cons_lt_cons_iff.mpr (.inl q))
   have h4:¬ cl c < cl e:=λ q=>h2 (List.cons_lt_cons_iff.mpr (.inl q))
   have h5:cl e=cl c:=List.le_antisymm (List.not_lt.mp h4) (List.not_lt.mp h3)
   have h6:=cx3 h5
   subst h6
   exact (List.prefix_cons_inj _).mpr (dd1 (λ q=>h1 (List.cons_lt_cons_iff.mpr (.inr ⟨rfl,q⟩))) λ q=>h2 (List.cons_lt_cons_iff.mpr (.inr ⟨rfl,q⟩)))
  ·rw [if_neg q];exact List.nil_prefix
theorem cv4 (a:List Str) (r:List (List Str)):ae5 (bn8 a r) (bw2 a r)=at8 a r:=by
 obtain ⟨h1,h2⟩:=bq1 r a
 obtain ⟨h3,h4⟩:=bp5 r a
 have k:∀ x∈a :: r,ae5 (bn8 a r) (bw2 a r) <+: x:=λ x hx=>dd1 (h2 x hx) (h4 x hx)
 have k2:∀ x∈a :: r,at8 a r <+: x:=λ x hx=>by
  rcases List.mem_cons.mp hx with rfl | hx
  ·exact bc5 r x
  ·exact da5 r a x hx
 have p1:ae5 (bn8 a r) (bw2 a r) <+: at8 a r:=bf1 r a _ (k a (.head _)) λ b hb=>k b (.tail _ hb)
 have p2:at8 a r <+: ae5 (bn8 a r) (bw2 a r):=bg2 (k2 _ h1) (k2 _ h3)
 exact p1.eq_of_length (Nat.le_antisymm p1.length_le p2.length_le)
theorem eg5 (l:List Str):(spl l).length<=l.length+2:=by unfold spl;split <;> simp
theorem eo2 {l:List Str} (h:NA l):∀ c∈spl l,sz c.length=true:=by
 intro c hc
 unfold spl at hc
 split at hc
 ·simp at hc;subst hc;rfl
 ·rcases List.mem_cons.mp hc with rfl | q
  ·rfl
  ·exact szl (Nat.le_trans (h c q).2.2.2.1 (by decide))
theorem dk7 {x:Str} (h:sz (x.length+2)=true):mfD .split (.str x) [.str "/"]=some (.list ((Txt.split x "/").map .str)):=by
 show gd (sz (x.length+2) && ("/":Str).length == 1) (some (PyData.list ((Txt.split x "/").map PyData.str)))=_
 rw [h,bd9];rfl
theorem cy1 {l:List Str} (h:NA l) (hl:l.length<=8):JoinOk "/" l=true:=by
 unfold JoinOk
 rw [joinTotal,bd9]
 have:(l.map (·.length)).sum<=l.length * 64:=sumLen_le l λ y hy=>(h y hy).2.2.2.1
 have h2:sizeLine=16777216:=sizeLine_eq
 simp only [tooLong,Bool.not_eq_true',decide_eq_false_iff_not]
 lia
theorem aw3 {a:List Str} {r:List (List Str)} (hab:∀ x∈a :: r,NA x/\x.length<=8) (hn:r.length < 60):ab7 [.list ((a :: r).map λ l=>.str (PS l))]=some (.str (PS (at8 a r))):=by
 have hNA:∀ x∈a :: r,NA x:=λ x hx=>(hab x hx).1
 have hsz1:sz (a :: r).length=true:=szl (show r.length+1<=16777216 from Nat.le_trans hn (by decide))
 obtain ⟨m1,m2⟩:=bq1 r a
 obtain ⟨m3,m4⟩:=bp5 r a
 have hl12:=cv4 a r
 have hlc:NA (at8 a r):=(hNA a (.head _)).pre (bc5 r a)
 have hll:(at8 a r).length<=8:=Nat.le_trans (bc5 r a).length_le (hab a (.head _)).2
 have hmin:=eb9 (a:=a) (r:=r)
 have hmax:=ds7 (a:=a) (r:=r)
 have hno:¬ ltL (bw2 a r) (bn8 a r):=m2 _ m3
 have h1l:(bn8 a r).length<=8:=(hab _ m1).2
 generalize bn8 a r=s1 at *
 generalize bw2 a r=s2 at *
 generalize hxs:a :: r=xs at *
 obtain ⟨v5,v9,k5,k9,hloop⟩:=de3 (U:=c6 L2a) (fr:=fr2) (t:=.tuple (xs.map λ l=>.str (PS l))) (ll:=.list (xs.map LS)) (s1:=s1) (s2:=s2) (by exact Nat.le_trans ‹_› (Nat.le_of_ble_eq_true rfl)) s1 [] s2 none none rfl rfl hno (.inr trivial) (by rintro m d ⟨⟩) (by rintro m d ⟨⟩)
 rw [hl12] at hloop
 have st0:exec (c6 L2a) fr2 (.assign 0 false (.tupmap "fspath" (.var 0))) (du2 23 [0] none [.list (xs.map λ l=>.str (PS l))])=some (.next,(du2 23 [0] none [.tuple (xs.map λ l=>.str (PS l))])):=
  f7 rfl (ea8 (xs:=xs) (g:=λ l=>.str (PS l)) (h:=λ l=>.str (PS l)) (d9 rfl) (λ x ξ=>ba6 _) hsz1) rfl
 have hsz:∀ l:List Str,NA l->l.length<=8->mfD .split (.str (PS l)) [.str "/"]=some (LS (spl l)):=λ l h1 h2=>by
  rw [dk7 (szl (Nat.le_trans (Nat.add_le_add_right (au3 ⟨h1,h2⟩) 2) (by decide))),er2 h1];rfl
 have htr:ay6 (.tuple (xs.map λ l=>.str (PS l)))=some true:=r6 (by rw [List.length_map];exact hsz1) (by rw [<- hxs];rfl)
 have h0:(xs.map λ l=>PyData.str (PS l))[0]?=some (.str (PS a)):=by rw [<- hxs];rfl
 unfold ab7 ar4
 refine ai9 rfl (.next st0 ?_)
 refine .skip (t_b rfl rfl (em5 (t_e rfl (d9 rfl) htr))) ?_
 refine .next (aj1 (t_b rfl rfl (cp9 (l_e rfl (aa8 (d9 rfl) z7 (dh2 (i:=0) h0 (by decide)))))) ((r7 (f7 rfl am0 rfl)).trans ((r7 (f7 rfl am0 rfl)).trans ar2))) ?_
 refine .try1 ?_
 refine .next (f7 (d:=.list (xs.map λ l=>LS (spl l))) rfl (ax9 (xs:=xs) (g:=λ l=>.str (PS l)) (h:=λ l=>LS (spl l)) (R:=λ l=>[none,some (.fr,.str (PS l)),some (.fr,.str "/")]) (i_e rfl (d9 rfl) rfl) (λ x ξ=>rfl) (λ x hx=>cj8 rfl rfl (d9 rfl) (d7 (k0 rfl) j0) (hsz x (hab x hx).1 (hab x hx).2)) hsz1) rfl) ?_
 refine .next (dx7.trans (l8 (dk6 (b:=true) (xs:=xs) hxs.symm (g:=λ l=>.str (PS l)) (R:=λ l=>[none,some (.fr,.str (PS l)),some (.fr,.str "/")]) (i_e rfl (d9 rfl) rfl) (λ x ξ=>rfl) (λ x hx=>(cg2 (f:=Txt.startswith) (x:=PS x) (y:="/") rfl (d9 rfl) (k0 rfl)).trans (by rw [di5])) rfl))) ?_
 refine .next (f7 (d:=.list (xs.map LS)) rfl (ax9 (xs:=xs) (g:=λ l=>LS (spl l)) (h:=λ l=>LS l) (R:=λ l=>[none,some (.fr,LS (spl l)),some (.fr,.str ".")]) (ah2 rfl (d9 rfl)) (λ x ξ=>rfl) (λ x hx=>?_) hsz1) rfl) ?_
 ·have hle:=eg5 x
  have:=ag6 (U:=c6 L2a) (cap:=[none,none,some 2]) (tgt:=[1]) (src:=.var 1) (ifs:=[(.andT [(.var 1),(.cmp .NotEq (.var 1) (.var 2))])]) (elt:=.var 1) (r:=[none,some (.fr,LS (spl x)),some (.fr,.str ".")]) (xs:=spl x) (g:=.str) (h:=.str)
   (p:=λ c=>(c.length != 0) && !(c == (Str.ofString "."))) (R:=λ c=>[none,some (.fr,.str c),some (.fr,.str ".")]) (ah2 rfl (d9 rfl)) (λ c ξ=>rfl)
   (λ c hc=>ag7 (ev6 (df8 (t_e rfl (d9 rfl) (r6 (eo2 (hab x hx).1 c hc) rfl)) ((df8 (t_b rfl rfl (ae4 (d9 rfl) (d9 rfl) rfl)) eb8).trans (by simp))))) (λ c ξ ξ=>k0 rfl) (szl (by have:=(hab x hx).2;lia))
  rw [cw3 (hab x hx).1] at this
  exact this
 refine .next (f7 rfl (aj9 (m7 (d9 rfl) y9) (ob rfl (ob rfl hmin))) rfl) ?_
 refine .next (f7 rfl (aj9 (m7 (d9 rfl) y9) (ob rfl (ob rfl hmax))) rfl) ?_
 refine .next (f7 rfl (k0 rfl) rfl) ?_
 refine .next (ba0 (cy4 (d9 rfl)) hloop rfl) ?_
 refine .next (f7 rfl (dc8 (t_e rfl (d9 rfl) rfl) (k0 rfl)) rfl) ?_
 have fin:dy9 ((rCP (.tuple (xs.map λ l=>.str (PS l))) (.list (xs.map LS)) s1 s2 (at8 a r) v5 v9).set 10 (some (.fr,.str "/")))=true:=by
  match v5,v9,k5,k9 with
  | none,none,_,_=>rfl
  | some (m,d),none,k5,_=>cases k5 _ _ rfl;rfl
  | none,some (m,d),_,k9=>cases k9 _ _ rfl;rfl
  | some (m,d),some (m',d'),k5,k9=>cases k5 _ _ rfl;cases k9 _ _ rfl;rfl
 have hj:mfD .join (.str "/") [LS (at8 a r)]=some (.str (Txt.join "/" (at8 a r))):=by
  refine ob rfl (ob rfl (ob rfl (ob (a:=at8 a r) ?_ (r6 ?_ rfl))))
  ·rw [List.mapM_map,ac4 (f:=u6 ∘ PyData.str) (g:=λ x=>x) λ x ξ=>rfl,List.map_id']
  ·rw [cy1 hlc hll,List.length_map,szl (by exact Nat.le_trans ‹_› (Nat.le_of_ble_eq_true rfl))];rfl
 refine .retN rfl fin ?_
 refine al9 (d9 rfl) (l_e rfl (ch7 (d9 rfl) (m7 (d9 rfl) y9) hj)) ?_
 rw [<- df3 (at8 a r)]
 refine bp6 ?_
 rw [<- ch8,df3]
 exact Nat.le_trans (au3 ⟨hlc,hll⟩) (by decide)
end
section
open PySem.StrLaws PySem.Builtin PySem.Builtin.Str
noncomputable def cj1 (s:Str) (p:Str×Str):Option Str:=bif Txt.contains s p.1 then gd ((p.1 != p.2) && decide (s.length+(s.length+1) * p.2.length<=16777216)) (some (Txt.replace s p.1 p.2)) else some s
noncomputable def bt8:List (Str×Str)->Str->Option Str
 | [],s=>some s
 | p :: ps,s=>(cj1 s p).bind (bt8 ps)
noncomputable def ex6 (steps:List (Str×Str)):List SI:=steps.map (λ p=>.if_ (.cmp .In (.str p.1) (.var 0)) [.assign 0 false (.replace (.var 0) p.1 p.2)] []) ++ [.ret (.var 0)]
theorem bb5 {U:String->List D->Option D} {fr:String->Bool}:∀ {steps:List (Str×Str)} {t u:Str},bt8 steps t=some u->ao3 U fr (ex6 steps) [some (.fr,.str t),none,none,none] (.str u)
 | [],t,u,h=>by
  cases h
  exact .retv rfl (.inr rfl)
 | p :: ps,t,u,h=>by
  obtain ⟨v,h1,h2⟩:=a6 (show (cj1 t p >>= bt8 ps)=some u from h)
  have ih:=bb5 (U:=U) (fr:=fr) h2
  unfold cj1 at h1
  cases hc:Txt.contains t p.1 with
  | true=>
   rw [hc] at h1
   obtain ⟨hz,h1⟩:=i4 h1
   cases h1
   exact .next (ar5 (t_b rfl rfl (ae4 cq3 (d9 rfl) (congrArg some hc))) (l8 (f7 rfl (dl0 (d9 rfl) hz) rfl))) ih
  | false=>
   rw [hc] at h1
   cases h1
   exact .skip (t_b rfl rfl (ae4 cq3 (d9 rfl) (congrArg some hc))) ih
noncomputable def aw9:Nat->List (Str×Str)
 | 0=>[("&","&amp;"),("<","&lt;"),(">","&gt;")]
 | 1=>[("&","&amp;"),("<","&lt;"),(">","&gt;"),("\x0d","&#xD;")]
 | 2=>[("&","&amp;"),("<","&lt;"),(">","&gt;"),("\"","&quot;"),("\x0d","&#13;"),("\n","&#10;"),("\t","&#09;")]
 | 3=>[("&","&amp;"),("<","&lt;"),("\"","&quot;"),("\t","&#x9;"),("\n","&#xA;"),("\x0d","&#xD;")]
 | _=>[("&","&amp;"),(">","&gt;"),("\"","&quot;")]
noncomputable def aa9:Nat->List (Str×Str)
 | 0=>[("&","&amp;"),("<","&lt;"),(">","&gt;")]
 | 1=>[("&","&amp;"),("<","&lt;"),(">","&gt;"),("\x0d","&#xD;")]
 | 2=>[("&","&amp;"),("<","&lt;"),(">","&gt;"),("\"","&quot;"),("\x0d","&#13;"),("\n","&#10;"),("\t","&#09;")]
 | 3=>[("&","&amp;"),("<","&lt;"),("\"","&quot;"),("\x0d","&#xD;"),("\n","&#xA;"),("\t","&#x9;")]
 | _=>[("&","&amp;"),(">","&gt;"),("\"","&quot;")]
theorem ey9 {t u:Str} (h:bt8 (aw9 0) t=some u):af7 [.str t]=some (.str u):=ai9 rfl (.try1 (bb5 h))
theorem ey4 {t u:Str} (h:bt8 (aw9 1) t=some u):aa5 [.str t]=some (.str u):=ai9 rfl (.try1 (bb5 h))
theorem ex9 {t u:Str} (h:bt8 (aw9 2) t=some u):ae3 [.str t]=some (.str u):=ai9 rfl (.try1 (bb5 h))
theorem ex1 {t u:Str} (h:bt8 (aw9 3) t=some u):z9 [.str t]=some (.str u):=ai9 rfl (.try1 (bb5 h))
theorem ey3 {t u:Str} (h:bt8 (aw9 4) t=some u):aa1 [.str t]=some (.str u):=ai9 rfl (.try1 (bb5 h))
theorem ca0:c6 L2a "_escape_cdata"=af7:=⋯
theorem ca1:c6 L2a "_escape_cdata_c14n"=aa5:=⋯
theorem ca2:c6 L2a "_escape_attrib"=ae3:=⋯
theorem ca3:c6 L2a "_escape_attrib_c14n"=z9:=⋯
theorem ca4:c6 L2a "_escape_attrib_html"=aa1:=⋯
@[elab_as_elim] theorem lt5 {P:Nat->Prop} {k:Nat} (h:k < 5) (h0:P 0) (h1:P 1) (h2:P 2) (h3:P 3) (h4:P 4):P k:=by
 rcases k with _ | _ | _ | _ | _ | k
 ·exact h0
 ·exact h1
 ·exact h2
 ·exact h3
 ·exact h4
 ·exact absurd h (by lia)
theorem be9 {t u:Str} {k:Nat} (hk:k < 5) (h:bt8 (aw9 k) t=some u):z6 [.str t,.int (k:Int)]=some (.str u):=by
 unfold z6 al4
 refine ai9 rfl ?_
 have c:∀ (i:Int) (r:Rho),r.get 1=some (.fr,.int (k:Int))->ab4 (c6 L2a) (.cmp .Eq (.var 1) (.int i)) r=some ((k:Int) == i):=λ i r hr=>t_b rfl rfl (ae4 (d9 hr) z7 rfl)
 revert h c
 refine lt5 hk (λ h c=>?_) (λ h c=>?_) (λ h c=>?_) (λ h c=>?_) λ h c=>?_
 ·exact .if_t (c 0 _ rfl) (.retN rfl rfl (w7 (d7 (k0 rfl) j0) (by rw [ca0];exact ey9 h)))
 ·exact .skip (c 0 _ rfl) (.if_t (c 1 _ rfl) (.retN rfl rfl (w7 (d7 (k0 rfl) j0) (by rw [ca1];exact ey4 h))))
 ·exact .skip (c 0 _ rfl) (.skip (c 1 _ rfl) (.if_t (c 2 _ rfl) (.retN rfl rfl (w7 (d7 (k0 rfl) j0) (by rw [ca2];exact ex9 h)))))
 ·exact .skip (c 0 _ rfl) (.skip (c 1 _ rfl) (.skip (c 2 _ rfl) (.if_t (c 3 _ rfl) (.retN rfl rfl (w7 (d7 (k0 rfl) j0) (by rw [ca3];exact ex1 h))))))
 ·exact .skip (c 0 _ rfl) (.skip (c 1 _ rfl) (.skip (c 2 _ rfl) (.skip (c 3 _ rfl) (.retN rfl rfl (w7 (d7 (k0 rfl) j0) (by rw [ca4];exact ey3 h))))))
noncomputable def kvD (l:List (Str×Str)):List (D×D):=l.map λ e=>(.str e.1,.str e.2)
noncomputable def du4 (k:Nat) (c:Nat):D:=(bc6 (kvD (aa9 k)) (.str ⟨#[c]⟩)).getD (.str ⟨#[c]⟩)
theorem dl5 (k:Nat) (x:Str):(z8 (.str x) && (kvD (aa9 k)).all (λ e=>z8 e.1))=true:=by
 unfold kvD;simp [z8]
theorem bw8 {t u:Str} {k:Nat} (hk:k < 5) (ht:t.length<=1000) (h:mfD .join (.str "") [.list ((cl t).map (du4 k))]=some (.str u)):ad8 [.str t,.int (k:Int)]=some (.str u):=by
 unfold ad8 au9
 refine ai9 rfl ?_
 refine .next (f7 (d:=.list [.dict (kvD (aa9 0)),.dict (kvD (aa9 1)),.dict (kvD (aa9 2)),.dict (kvD (aa9 3)),.dict (kvD (aa9 4))]) rfl (ap5 (d7 (bh8 (kd:=(aa9 0).map λ e=>.str e.1) (vd:=(aa9 0).map λ e=>.str e.2) ?_ ?_ (by decide +kernel) ⋯) (d7 (bh8 (kd:=(aa9 1).map λ e=>.str e.1) (vd:=(aa9 1).map λ e=>.str e.2) ?_ ?_ (by decide +kernel) ⋯) (d7 (bh8 (kd:=(aa9 2).map λ e=>.str e.1) (vd:=(aa9 2).map λ e=>.str e.2) ?_ ?_ (by decide +kernel) ⋯) (d7 (bh8 (kd:=(aa9 3).map λ e=>.str e.1) (vd:=(aa9 3).map λ e=>.str e.2) ?_ ?_ (by decide +kernel) ⋯) (d7 (bh8 (kd:=(aa9 4).map λ e=>.str e.1) (vd:=(aa9 4).map λ e=>.str e.2) ?_ ?_ (by decide +kernel) ⋯) j0))))) rfl) rfl) ?_
 all_goals first | rfl | skip
 have hi:bz4 (.list [.dict (kvD (aa9 0)),.dict (kvD (aa9 1)),.dict (kvD (aa9 2)),.dict (kvD (aa9 3)),.dict (kvD (aa9 4))]) (.int (k:Int))=some (.dict (kvD (aa9 k))):=by
  refine af4 ?_ (by lia)
  exact lt5 hk rfl rfl rfl rfl rfl
 refine .retN rfl rfl (ch7 cq3 (m7 (l_e rfl (ax9 (xs:=cl t) (g:=λ c=>.str ⟨#[c]⟩) (h:=du4 k) (R:=λ c=>[none,some (.fr,.str ⟨#[c]⟩),some (.fr,.list [.dict (kvD (aa9 0)),.dict (kvD (aa9 1)),.dict (kvD (aa9 2)),.dict (kvD (aa9 3)),.dict (kvD (aa9 4))]),some (.fr,.int (k:Int))]) (i_e rfl (d9 (d:=.str t) rfl) rfl) (λ c ξ=>rfl) (λ c ξ=>?_) (szl (by rw [<- ag2];lia)))) y9) h)
 refine cj8 rfl rfl (l_e rfl (aa8 (d9 rfl) (d9 rfl) hi)) (d7 (k0 rfl) (d7 (k0 rfl) j0)) ?_
 exact ob rfl (ob rfl (r6 (dl5 k _) rfl))
noncomputable def cg8:List Str:=["\t","\n","\x0d","\"","&","&lt;","#","'","<","=",">","a"]
noncomputable def ak8 (i:Nat):Str:=cg8.getD (i % 12) "a"
noncomputable def wr (k i:Nat):Str:=(bt8 (aw9 k) (ak8 i)).getD "a"
noncomputable def nmB (n:Str):Bool:=!(cl n).isEmpty && !(cl n).contains 47 && (cl n != [46]) && decide (n.length<=64) && PyData.strOk n
theorem eo1 {n:Str} (h:nmB n=true):ba3 n:=by
 unfold nmB at h
 simp only [Bool.and_eq_true,Bool.not_eq_true',decide_eq_true_eq,bne_iff_ne,ne_eq] at h
 obtain ⟨⟨⟨⟨h1,h2⟩,h3⟩,h4⟩,h5⟩:=h
 exact ⟨(by intro q;rw [q] at h1;exact absurd h1 (by decide)),(by intro q;rw [List.contains_iff_mem.mpr q] at h2;exact absurd h2 (by decide)),h3,h4,h5⟩
noncomputable def et3 (k i:Nat):Bool:=(do
 let u <- bt8 (aw9 k) (cg8.getD i "a")
 let v <- u6 (<- mfD .join (.str "") [.list ((cl (cg8.getD i "a")).map (du4 k))])
 some (u == v && (nmB u && decide ((cg8.getD i "a").length<=1000)))).getD false
theorem eh5:((List.range 5).all λ k=>(List.range 12).all λ i=>et3 k i)=true:=by decide +kernel
theorem ef9:((List.range 5).all λ k=>(List.range 12).all λ i=>(List.range 12).all λ j=>i == j || !(wr k i == wr k j))=true:=by decide +kernel
theorem cl7 {k:Nat} (hk:k < 5) (i:Nat):z6 [.str (ak8 i),.int (k:Int)]=some (.str (wr k i))/\ad8 [.str (ak8 i),.int (k:Int)]=some (.str (wr k i))/\ba3 (wr k i):=by
 have h:=List.all_eq_true.mp (List.all_eq_true.mp eh5 k (by simpa using hk)) (i % 12) (by simp;lia)
 unfold et3 at h
 have e:ak8 i=cg8.getD (i % 12) "a":=rfl
 rw [<- e] at h
 obtain ⟨u,h1,h⟩:=a6 (ce4 h)
 obtain ⟨d,h2,h⟩:=a6 h
 obtain ⟨v,h3,h⟩:=a6 h
 have hh:=Option.some.inj h
 obtain rfl:=af8 (b9 hh).1
 obtain rfl:=l9 h3
 obtain ⟨hn,hl⟩:=b9 (b9 hh).2
 have e2:wr k i=u:=by unfold wr;rw [h1];rfl
 rw [e2]
 exact ⟨be9 hk h1,bw8 hk (of_decide_eq_true hl) h2,eo1 hn⟩
theorem er6 {k i j:Nat} (hk:k < 5) (h:wr k i=wr k j):i % 12=j % 12:=by
 have e:∀ i,wr k (i % 12)=wr k i:=λ i=>by unfold wr ak8;rw [Nat.mod_mod]
 have:=List.all_eq_true.mp (List.all_eq_true.mp (List.all_eq_true.mp ef9 k (by simpa using hk)) (i % 12) (by simp;lia)) (j % 12) (by simp;lia)
 rw [e,e,h] at this
 simpa using this
end
section
open PySem.StrLaws PySem.Builtin PySem.Builtin.Str
theorem bu8:c6 L2b "dirname"=aj7:=⋯
theorem cg3:c6 L2b "join"=bd1:=⋯
theorem am6 (n:Nat) (h:n<=1000):cf4 [.int (n:Int)]=some ((List.range n).map λ (k:Nat)=>.int ((k:Nat):Int)):=by
 have h1:inR (n:Int)=true:=by
  unfold inR
  rw [decide_eq_true (show (-1048576:Int)<=(n:Int) by lia),decide_eq_true (show (n:Int)<=1048576 by lia)];rfl
 exact ob rfl (ob rfl (r6 h1 rfl))
theorem bx9 {n i:Nat} (h:i < (List.range n).length):(List.range n)[i]=i:=by simp
theorem by4 {f:D->Rho->Option (Fl×Rho)} {g:Nat->D} {R:Nat->Rho} {n:Nat} (h:∀ i,i < n->f (g i) (R i)=some (.next,R (i+1))):j8 f ((List.range n).map g) (R 0)=some (.next,R n):=by
 have:=bm5 (f:=f) (g:=g) (R:=R) (xs:=List.range n) (k:=0) λ i hi=>by
  rw [bx9,Nat.zero_add];exact h i (by simpa using hi)
 simpa using this
end
section
open PySem.StrLaws PySem.Builtin PySem.Builtin.Str
noncomputable abbrev nI (n:Nat):D:=.int (n:Int)
theorem db3 (a b:Nat):bf4 .Add (nI a) (nI b)=some (nI (a+b)):=rfl
theorem ci5 {b:Nat} (hb:0 < b):decide ((0:Int) < (b:Int))=true:=decide_eq_true (Int.ofNat_lt.mpr hb)
theorem bx1 (a b:Nat):((a:Int).fmod (b:Int))=((a % b:Nat):Int):=by rw [Int.fmod_eq_emod_of_nonneg _ (Int.natCast_nonneg b),Int.natCast_emod]
theorem br1 (a b:Nat):((a:Int).fdiv (b:Int))=((a / b:Nat):Int):=by rw [Int.fdiv_eq_ediv_of_nonneg _ (Int.natCast_nonneg b),Int.natCast_ediv]
theorem cf7 (a b:Nat) (hb:0 < b):bf4 .Mod (nI a) (nI b)=some (nI (a % b)):=r6 (ci5 hb) (by rw [bx1])
theorem bb6 {a:Nat} (h:a < 2 ^ 60):small (a:Int)=true:=by
 unfold small;rw [Int.natAbs_natCast];exact decide_eq_true h
theorem ee9 (a b:Nat) (hb:0 < b) (ha:a < 2 ^ 60) (hb2:b < 2 ^ 60):bf4 .FloorDiv (nI a) (nI b)=some (nI (a / b)):=r6 (g7 (ci5 hb) (g7 (bb6 ha) (bb6 hb2))) (by rw [br1])
theorem bt2 (a b:Nat) (hb:0 < b) (ha:a < 2 ^ 60) (hb2:b < 2 ^ 60):bfD .divmod [nI a,nI b]=some (.tuple [nI (a / b),nI (a % b)]):=ob rfl (r6 (g7 (ci5 hb) (g7 (bb6 ha) (bb6 hb2))) (by rw [br1,bx1]))
theorem dz4 (x:Int):∃ m:Nat,m < 10000000/\bf4 .Mod (.int x) (.int 10000000)=some (nI m):=by
 have h1:0<=x.fmod 10000000:=Int.fmod_nonneg_of_pos x (by decide)
 have h2:x.fmod 10000000 < 10000000:=Int.fmod_lt_of_pos x (by decide)
 obtain ⟨m,hm⟩:=Int.eq_ofNat_of_zero_le h1
 rw [hm] at h2
 exact ⟨m,Int.ofNat_lt.mp h2,congrArg (λ i=>some (PyData.int i)) hm⟩
theorem aq8 {o:Slot} {r:Rho} {x:Nat} {d:D} (h:r.get x=o) (ho:∀ m d,o=some (m,d)->m = .fr) (hx:x < r.length):r.put x .fr d=some (r.set x (some (.fr,d))):=by
 unfold Rho.put
 rw [h]
 match o,ho with
 | none,_=>exact if_pos (decide_eq_true hx)
 | some (m,d),ho=>cases ho _ _ rfl;exact if_pos (decide_eq_true hx)
noncomputable def rD (xs:D) (c:List Nat) (o2 o3:Slot) (t:List Slot):Rho:=some (.fr,xs) :: some (.own,.list (c.map nI)) :: o2 :: o3 :: t
noncomputable abbrev frS (o:Slot):Prop:=∀ m d,o=some (m,d)->m = .fr
theorem af3 (d:D):frS (some (.fr,d)):=by rintro m d' ⟨⟩;rfl
theorem as6:frS none:=by rintro m d' ⟨⟩
theorem ef2 {j:Nat} (hj2:j < 1000000):(decide ((0:Int)<=(j:Int)) && decide ((j:Int) < 1152921504606846976))=true:=by
 rw [decide_eq_true (Int.natCast_nonneg j),decide_eq_true (show (j:Int) < 1152921504606846976 by lia)];rfl
theorem dj9 {U:String->List D->Option D} {fr:String->Bool} {x:Nat} {i e:IR} {op:Operator} {r r2:Rho} {l:List D} {j:Nat} {old d:D} {v:Int} (h1:look U i r=some (nI j)) (h2:look U e r=some d) (hx:r.get x=some (.own,.list l)) (hj:l[j]?=some old) (hj2:j < 1000000) (hv:an4 (λ a b=>some (a+b)) old d=some v)
  (hp:r.put x .own (.list (l.set j (.int v)))=some r2):exec U fr (.augItem x i op e) r=some (.next,r2):=ob h1 (ob h2 (ob (congrArg az9 hx) (ob rfl (ob rfl (r6 (ef2 hj2) (ob hj (ob hv (ob hp rfl))))))))
set_option tactic.hygienic true in
noncomputable def eq0:Slot->Slot
 | some (.own,d)=>some (.fr,d)
 | s=>s
theorem eq5 (r:Rho) (i j:Nat):(r.frz i)[j]?=if i=j then r[j]?.map eq0 else r[j]?:=by
 rcases bb4 r i with ⟨d,e,ee⟩ | ⟨hne,ee⟩ <;> rw [ee]
 ·unfold Rho.get at e
  rw [List.getElem?_set]
  by_cases h:i=j
  ·subst h
   rw [if_pos rfl,if_pos rfl]
   by_cases hl:i < r.length
   ·rw [if_pos hl,List.getElem?_eq_getElem hl]
    rw [List.getElem?_eq_getElem hl] at e
    simp only [Option.getD_some] at e
    rw [e];rfl
   ·rw [if_neg hl,List.getElem?_eq_none (by lia)];rfl
  ·rw [if_neg h,if_neg h]
 ·by_cases h:i=j
  ·subst h
   rw [if_pos rfl]
   by_cases hl:i < r.length
   ·rw [List.getElem?_eq_getElem hl]
    have:r.get i=r[i]:=by unfold Rho.get;rw [List.getElem?_eq_getElem hl];rfl
    rw [this] at hne
    match r[i],hne with
    | none,_=>rfl
    | some (.fr,d),_=>rfl
    | some (.own,d),hne=>exact absurd rfl (hne d)
    | some (.lock,d),_=>rfl
    | some (.cap,d),_=>rfl
   ·rw [List.getElem?_eq_none (by lia)];rfl
  ·rw [if_neg h]
theorem bx0:∀ (n:Nat) (r:Rho) (j:Nat),(frzFrom r n)[j]?=if j < n then r[j]?.map eq0 else r[j]?
 | 0,r,j=>by rw [if_neg (by lia)];rfl
 | n+1,r,j=>by
  show (frzFrom (r.frz n) n)[j]?=_
  rw [bx0 n,eq5]
  by_cases h1:j < n
  ·rw [if_pos h1,if_neg (by lia),if_pos (by lia)]
  ·rw [if_neg h1]
   by_cases h2:n=j
   ·rw [if_pos h2,if_pos (by lia)]
   ·rw [if_neg h2,if_neg (by lia)]
theorem cx9 (r:Rho):az4 r=r.map eq0:=by
 refine List.ext_getElem? λ j=>?_
 unfold az4
 rw [bx0,List.getElem?_map]
 split
 ·rfl
 ·rename_i h;rw [List.getElem?_eq_none (by lia)];rfl
noncomputable def rsN (c:Nat):Nat->Nat
 | 0=>c
 | i+1=>rsN c i / (i+1)
theorem dt0 (c:Nat):∀ i,rsN c i<=c
 | 0=>Nat.le_refl _
 | i+1=>Nat.le_trans (Nat.div_le_self _ _) (dt0 c i)
end
section
open PySem.StrLaws PySem.Builtin PySem.Builtin.Str
set_option tactic.hygienic true in
theorem bw4 {xs:D} {t:List Slot}:∀ (l:List Int) (n:Nat) (c:List Nat) (o2 o3:Slot),n+l.length<=60->c.length=4->(∀ x∈c,x<=2000000+10000000 * n)->frS o2->frS o3->
  ∃ c' v2 v3,c'.length=4/\(∀ x∈c',x < 2 ^ 60)/\frS v2/\frS v3/\j8 (ap3 (c6 []) fr2 [2,3] [.augItem 1 (.bin .Mod (.var 2) (.int 4)) .Add (.bin .Mod (.var 3) (.int 10000000))]) (ac2 n (l.map .int)) (rD xs c o2 o3 t)=some (.next,rD xs c' v2 v3 t)
 | [],n,c,o2,o3,hn,hc,hb,h2,h3=>⟨c,o2,o3,hc,λ x hx=>by have:=hb x hx;simp at hn;lia,h2,h3,rfl⟩
 | x :: l,n,c,o2,o3,hn,hc,hb,h2,h3=>by
  obtain ⟨m,hm,hmod⟩:=dz4 x
  simp only [List.length_cons] at hn
  have hj:n % 4 < c.length:=by rw [hc];lia
  have hcj:c[n % 4]<=2000000+10000000 * n:=hb _ (List.getElem_mem hj)
  obtain ⟨c',v2,v3,k1,k2,k3,k4,ih⟩:=bw4 (xs:=xs) (t:=t) l (n+1) (c.set (n % 4) (c[n % 4]+m)) (some (.fr,nI n)) (some (.fr,.int x)) (by lia) (by simpa using hc) (λ y hy=>by
   rcases List.mem_or_eq_of_mem_set hy with q | q
   ·have:=hb y q;lia
   ·lia) (af3 _) (af3 _)
  refine ⟨c',v2,v3,k1,k2,k3,k4,?_⟩
  have hbd:ad9 (rD xs c o2 o3 t) [2,3] (.tuple [nI n,.int x])=some (rD xs c (some (.fr,nI n)) (some (.fr,.int x)) t):=by
   exact bj0 (aq8 (o:=o2) rfl h2 (by simp [rD])) (aq8 (o:=o3) rfl h3 (by simp [rD]))
  have st:ap3 (c6 []) fr2 [2,3] [.augItem 1 (.bin .Mod (.var 2) (.int 4)) .Add (.bin .Mod (.var 3) (.int 10000000))] (.tuple [nI n,.int x]) (rD xs c o2 o3 t)=some (.next,rD xs (c.set (n % 4) (c[n % 4]+m)) (some (.fr,nI n)) (some (.fr,.int x)) t):=by
   refine ad4 hbd (l8 (dj9 (j:=n % 4) (l:=c.map nI) (old:=nI (c[n % 4])) (d:=nI m) (v:=((c[n % 4]+m:Nat):Int)) (l_e rfl (al9 (d9 rfl) z7 (cf7 n 4 (by decide)))) (l_e rfl (al9 (d9 rfl) z7 hmod)) rfl (by simp [hj]) (by lia) rfl ?_))
   rw [show (PyData.int ((c[n % 4]+m:Nat):Int))=nI (c[n % 4]+m) from rfl,<- List.map_set];rfl
  show j8 _ (.tuple [nI n,.int x] :: ac2 (n+1) (l.map .int)) _=_
  rw [u8 st]
  exact ih
theorem cg1 {r r1 r2:Rho} {x y:Nat} {a b:D} (h1:r.put x .fr a=some r1) (h2:r1.put y .fr b=some r2):av0 r [x,y] [a,b]=some r2:=ob h1 (ob h2 rfl)
theorem ef7 {U:String->List D->Option D} {α β:Type} {cap:List (Option Nat)} {tgt tgt2:List Nat} {src src2:IR} {ifs2:List IR} {elt:IR} {r:Rho} {xs:List α} {ys:α->List β} {g:α->D} {g2:β->D} {h:α->β->D} {p:α->β->Bool} {R:α->Rho} {R2:α->β->Rho}
  (hi:e9 U src r=some (xs.map g)) (hb:∀ x∈xs,m8 (as7 r cap) tgt (g x)=some (R x)) (hi2:∀ x∈xs,e9 U src2 (R x)=some ((ys x).map g2)) (hb2:∀ x∈xs,∀ y∈ys x,m8 (R x) tgt2 (g2 y)=some (R2 x y))
  (ht:∀ x∈xs,∀ y∈ys x,ah1 U ifs2 (R2 x y)=some (p x y)) (he:∀ x∈xs,∀ y∈ys x,p x y=true->eval U elt (R2 x y)=some (h x y)) (hz:sz ((xs.map λ x=>((ys x).filter (p x)).map (h x)).flatten).length=true) :
  eval U (.comp2 cap tgt src tgt2 src2 ifs2 elt) r=some (.list (xs.map λ x=>((ys x).filter (p x)).map (h x)).flatten):=by
 refine ob hi (ob (a:=xs.map λ x=>((ys x).filter (p x)).map (h x)) ?_ (r6 hz rfl))
 rw [List.mapM_map]
 refine ac4 λ x hx=>ob (hb x hx) (ob (hi2 x hx) (ob (a:=(ys x).map λ y=>if p x y then some (h x y) else none) ?_ (congrArg some am5)))
 rw [List.mapM_map]
 refine ac4 λ y hy=>ob (hb2 x hx y hy) (ob (ht x hx y hy) ?_)
 cases q:p x y with
 | true=>exact congrArg (Option.map some) (he x hx y hy q)
 | false=>rfl
theorem eg8 (a n:Nat) (h:n<=64):bf4 .RShift (nI a) (nI n)=some (nI (a / 2 ^ n)):=
 r6 (g7 (cg6 n) (decide_eq_true (show (n:Int)<=64 from Int.ofNat_le.mpr h))) (congrArg (λ i=>some (PyData.int i)) ((show (a:Int).fdiv (2 ^ n)=(a:Int).fdiv ((2 ^ n:Nat):Int) by rw [Int.natCast_pow];rfl).trans (br1 a (2 ^ n))))
theorem do8 (a:Nat):bf4 .BitAnd (nI a) (.int 1)=some (nI (a % 2)):=congrArg (λ i=>some (PyData.int i)) (bx1 a 2)
theorem bq2 (a b:Nat):bb7 .NotEq (nI a) (nI b)=some (a != b):=by
 show some (!PyData.eqv (nI a) (nI b))=_
 refine congrArg some (congrArg (!·) ?_)
 show decide ((a:Int)=(b:Int))=(a == b)
 by_cases h:a=b
 ·rw [decide_eq_true (show (a:Int)=(b:Int) from congrArg Int.ofNat h),beq_iff_eq.mpr h]
 ·rw [decide_eq_false (show ¬ (a:Int)=(b:Int) from λ q=>h (Int.ofNat.inj q)),beq_eq_false_iff_ne.mpr h]
theorem do2 (a:Nat):ay6 (nI a)=some (a != 0):=by
 show some ((a:Int) != 0)=_
 cases a <;> rfl
theorem dr2 {U:String->List D->Option D} {fr:String->Bool} {x:Nat} {i e:IR} {r r2:Rho} {l:List D} {j:Nat} {d:D} (h1:look U i r=some (nI j)) (h2:eval U e r=some d) (hx:r.get x=some (.own,.list l)) (hz:sz (l.length+1)=true) (hj:j<=l.length)
  (hp:r.put x .own (.list (l.insertIdx j d))=some r2):exec U fr (.insert x i e) r=some (.next,r2):=
 ob h1 (ob rfl (ob h2 (ob (congrArg az9 hx) (ob rfl (r6 (g7 hz (g7 (decide_eq_true (Int.natCast_nonneg j)) (decide_eq_true hj))) (ob hp rfl))))))
theorem cl5 {f:Nat×Nat->D}:∀ (l:List (Nat×Nat)) (n:Nat),ac2 n (l.map f)=(l.zipIdx n).map λ p=>.tuple [nI p.2,f p.1]
 | [],n=>rfl
 | p :: l,n=>by
  rw [List.map_cons,List.zipIdx_cons,List.map_cons,<- cl5 l (n+1)];rfl
theorem bq8 {f:Nat->D} {a:Nat}:∀ (l:List Nat) (i:Nat),(l.map f).insertIdx i (f a)=(l.insertIdx i a).map f
 | l,0=>rfl
 | [],i+1=>rfl
 | b :: l,i+1=>congrArg (f b :: ·) (bq8 l i)
theorem bl4 {a:Nat}:∀ {l:List Nat} {i:Nat},i<=l.length->(l.insertIdx i a).Perm (a :: l)
 | _,0,_=>.refl _
 | [],i+1,h=>absurd h (Nat.not_succ_le_zero i)
 | b :: l,i+1,h=>((bl4 (Nat.le_of_succ_le_succ h)).cons b).trans (.swap a b l)
noncomputable def ca8 (c:Nat):Nat->List Nat
 | 0=>[]
 | i+1=>(ca8 c i).insertIdx (rsN c i % (i+1)) i
theorem bl0 (c:Nat):∀ i,(ca8 c i).Perm (List.range i)
 | 0=>.refl _
 | i+1=>by
  have ih:=bl0 c i
  have hl:(ca8 c i).length=i:=by rw [ih.length_eq,List.length_range]
  refine (bl4 (by rw [hl];exact Nat.le_of_lt_succ (Nat.mod_lt _ (Nat.succ_pos i)))).trans ?_
  rw [List.range_succ]
  exact (ih.cons i).trans (List.perm_append_comm (l₁:=[i]) (l₂:=List.range i))
theorem cq0 (c i:Nat):(ca8 c i).length=i:=by rw [(bl0 c i).length_eq,List.length_range]
noncomputable abbrev aj5:List (Nat×Nat):=((List.range 5).map λ k=>((List.range 5).filter λ m=>m != k).map λ m=>(k,m)).flatten
noncomputable def pD (e:Nat×Nat):D:=.tuple [nI e.1,nI e.2]
noncomputable def ci7 (c:Nat):List (Nat×Nat):=((aj5.zipIdx).filter λ p=>c / 2 ^ p.2 % 2 != 0).map (·.1)
theorem dd4 (c:Nat):(ci7 c).Sublist aj5:=by
 have h:(ci7 c).Sublist (aj5.zipIdx.map (·.1)):=List.filter_sublist.map _
 rw [List.zipIdx_map_fst] at h
 exact h
theorem ce0:aj5.Nodup/\∀ e∈aj5,e.1 < 5/\e.2 < 5/\e.1≠e.2:=by decide
inductive L4 (l:List Nat):Prop
 | mk (a b c d:Nat) (e:l=[a,b,c,d])
theorem l4 {l:List Nat} (h:l.length=4):L4 l:=ap9 h λ a ξ e=>ap9 e λ b ξ e=>ap9 e λ c ξ e=>ap9 e λ d ξ e=>cb6 e ⟨a,b,c,d,rfl⟩
inductive ev7 (xs:List Int):Prop
 | mk (kind rot:Nat) (ar:List (Nat×Nat)) (rest:Nat) (ord:List Nat) (hk:kind < 5) (hn:ar.Nodup) (ha:∀ e∈ar,e.1 < 5/\e.2 < 5/\e.1≠e.2) (hr:rest < 2 ^ 60) (ho:ord.Perm (List.range 5))
  (e:ah7 [.list (xs.map .int)]=some (.tuple [nI kind,.list ((List.range 5).map λ k=>.str (ak8 (rot+k))),.list (ar.map pD),nI rest,.list (ord.map nI)]))
noncomputable def rO (x c:D) (o2 o3:Slot) (tx ar:D) (o7:Slot) (ord:D) (n:Nat):Rho:=[some (.fr,x),some (.own,c),o2,o3,some (.fr,LS cg8),some (.fr,tx),some (.fr,ar),o7,some (.own,ord),some (.fr,nI n),none,none,none]
theorem dv8 {x c:D} {o2 o3 o7:Slot} {tx ar:D} {n i:Nat} (hn:n < 2 ^ 60) (hi:i < 5) (h2:frS o2) (h7:frS o7):ap3 (c6 []) fr2 [2] [.unpack [9,7] (.bcall .divmod [(.var 9),(.bin .Add (.var 2) (.int 1))]),.insert 8 (.var 7) (.var 2)] (nI i) (rO x c o2 o3 tx ar o7 (.list ((ca8 n i).map nI)) (rsN n i))=some (.next,rO x c (some (.fr,nI i)) o3 tx ar (some (.fr,nI (rsN n i % (i+1)))) (.list ((ca8 n (i+1)).map nI)) (rsN n (i+1))):=by
 refine ad4 (ac6 (aq8 (o:=o2) rfl h2 (show 2 < 13 by decide))) ?_
 refine (r7 (bt6 (r2:=rO x c (some (.fr,nI i)) o3 tx ar (some (.fr,nI (rsN n i % (i+1)))) (.list ((ca8 n i).map nI)) (rsN n (i+1))) (by decide) (aj9 (m7 (d9 rfl) (m7 (l_e rfl (al9 (d9 rfl) z7 (db3 i 1))) y9)) (bt2 (rsN n i) (i+1) (Nat.succ_pos i) (Nat.lt_of_le_of_lt (dt0 n i) hn) (Nat.lt_trans (Nat.succ_lt_succ hi) (by decide)))) (cg1 (aq8 (o:=some (.fr,nI (rsN n i))) rfl (af3 _) (show 9 < 13 by decide)) (aq8 (o:=o7) rfl h7 (show 7 < 13 by decide))))).trans ?_
 refine l8 (dr2 (j:=rsN n i % (i+1)) (l:=(ca8 n i).map nI) (d:=nI i) (d9 rfl) (k0 rfl) rfl (szl (by rw [List.length_map,cq0];exact Nat.le_trans hi (by decide))) (by rw [List.length_map,cq0];exact Nat.le_of_lt_succ (Nat.mod_lt _ (Nat.succ_pos i))) (by rw [bq8];rfl))
noncomputable def sl2 (o:Slot):Nat->Slot
 | 0=>o
 | i+1=>some (.fr,nI i)
noncomputable def sl7 (c:Nat):Nat->Slot
 | 0=>none
 | i+1=>some (.fr,nI (rsN c i % (i+1)))
theorem en5 {o:Slot} (h:frS o):∀ i,frS (sl2 o i)
 | 0=>h
 | i+1=>af3 _
theorem eq3 (c:Nat):∀ i,frS (sl7 c i)
 | 0=>as6
 | i+1=>af3 _
theorem eq1:∀ p∈aj5.zipIdx,p.2<=64:=by decide
theorem bn6 (xs:List Int) (hxs:xs.length<=63):ev7 xs:=by
 obtain ⟨c,v2,v3,hc,hsm,f2,f3,hloop⟩:=bw4 (xs:=.list (xs.map .int)) (t:=[none,none,none,none,none,none,none,none,none]) (xs.take 60) 0 [17,157860,8,12] none none (by rw [List.length_take,Nat.zero_add];exact Nat.min_le_left ..) rfl (by decide) as6 as6
 obtain ⟨c0,c1,c2,c3,rfl⟩:=l4 hc
 have s0:=hsm c0 (.head _)
 have s2:=hsm c2 (.tail _ (.tail _ (.head _)))
 have s3:=hsm c3 (.tail _ (.tail _ (.tail _ (.head _))))
 refine ⟨c0 % 5,c0 / 5,ci7 c1,c2,ca8 c3 5,Nat.mod_lt _ (by decide),(dd4 c1).nodup ce0.1,λ e he=>ce0.2 e ((dd4 c1).subset he),s2,bl0 c3 5,?_⟩
 have hup:bc0 (.list (xs.map .int)) (.int 60)=some (.list ((xs.take 60).map .int)):=by
  rw [List.map_take];exact cd9 (i:=60) (by decide) (by rw [List.length_map];exact Nat.le_trans hxs (by decide))
 unfold ah7 ar6
 refine ai9 rfl ?_
 refine .next (f7 (d:=.list ([17,157860,8,12].map nI)) rfl (ap5 (d7 cc1 (d7 cc1 (d7 cc1 (d7 cc1 j0)))) rfl) rfl) ?_
 refine .next (ba0 (r':=rD (.list (xs.map .int)) [c0,c1,c2,c3] v2 v3 _) (cy4 (l_e rfl (ct7 (d9 rfl) z7 hup))) hloop rfl) ?_
 obtain ⟨dX,hX⟩:∃ dX,dX=PyData.list (xs.map .int):=⟨_,rfl⟩
 rw [<- hX]
 let dC:D:=.list ([c0,c1,c2,c3].map nI)
 refine .next (f7 (d:=LS cg8) rfl (ap5 (d7 am0 (d7 am0 (d7 am0 (d7 am0 (d7 am0 (d7 am0 (d7 am0 (d7 am0 (d7 am0 (d7 am0 (d7 am0 (d7 am0 j0)))))))))))) rfl) rfl) ?_
 refine .next (f7 (d:=.list ((List.range 5).map λ k=>.str (ak8 (c0 / 5+k)))) rfl (ax9 (xs:=List.range 5) (g:=λ k=>nI k) (h:=λ k=>.str (ak8 (c0 / 5+k))) (R:=λ k=>[none,some (.fr,nI k),some (.cap,dC),some (.fr,LS cg8)]) (ak2 (m7 z7 y9) (am6 5 (by decide))) (λ k ξ=>rfl) (λ k hk=>?_) rfl) rfl) ?_
 ·refine aa8 (d9 rfl) (l_e rfl (al9 (l_e rfl (al9 (l_e rfl (al9 (l_e rfl (aa8 (ah0 (d:=dC) rfl) z7 (af4 (i:=0) rfl (by decide)))) z7 (ee9 c0 5 (by decide) s0 (by decide)))) (d9 rfl) (db3 _ _))) z7 (cf7 _ 12 (by decide)))) ?_
  have hlt:(c0 / 5+k) % 12 < cg8.length:=Nat.mod_lt _ (by decide)
  refine af4 ?_ (Nat.lt_trans hlt (by decide))
  unfold ak8
  rw [List.getElem?_map,List.getElem?_eq_getElem hlt,List.getD_eq_getElem?_getD,List.getElem?_eq_getElem hlt];rfl
 refine .next (f7 (d:=.list (aj5.map pD)) rfl (ef7 (xs:=List.range 5) (ys:=λ ξ=>List.range 5) (g:=nI) (g2:=nI) (h:=λ k m=>pD (k,m)) (p:=λ k m=>m != k) (R:=λ k=>[none,some (.fr,nI k),none,none]) (R2:=λ k m=>[none,some (.fr,nI k),some (.fr,nI m),none]) (ak2 (m7 z7 y9) (am6 5 (by decide))) (λ k ξ=>rfl) (λ k ξ=>ak2 (m7 z7 y9) (am6 5 (by decide))) (λ k ξ m ξ=>rfl) (λ k ξ m ξ=>ag7 (t_b rfl rfl (ae4 (d9 rfl) (d9 rfl) (bq2 m k)))) (λ k ξ m ξ ξ=>ek9 (d7 (k0 rfl) (d7 (k0 rfl) j0)) rfl) ⋯) rfl) ?_
 have hA:(ci7 c1).map pD=(aj5.zipIdx.filter λ p=>c1 / 2 ^ p.2 % 2 != 0).map λ p=>pD p.1:=List.map_map
 rw [hA]
 obtain ⟨tx,htx⟩:∃ tx,tx=PyData.list ((List.range 5).map λ k=>.str (ak8 (c0 / 5+k))):=⟨_,rfl⟩
 rw [<- htx]
 refine .next (f7 (d:=.list ((aj5.zipIdx.filter λ p=>c1 / 2 ^ p.2 % 2 != 0).map λ p=>pD p.1)) rfl (ag6 (xs:=aj5.zipIdx) (g:=λ p=>.tuple [nI p.2,pD p.1]) (h:=λ p=>pD p.1) (p:=λ p=>c1 / 2 ^ p.2 % 2 != 0) (R:=λ p=>[none,some (.fr,nI p.2),some (.fr,pD p.1),some (.cap,dC)]) ((cy4 (d9 (d:=.list (aj5.map pD)) rfl)).trans (congrArg some (cl5 aj5 0))) (λ p ξ=>rfl) (λ p hp=>ag7 (t_e rfl (l_e rfl (al9 (l_e rfl (al9 (l_e rfl (aa8 (ah0 (d:=dC) rfl) z7 (af4 (i:=1) rfl (by decide)))) (d9 rfl) (eg8 c1 p.2 (eq1 p hp)))) z7 (do8 _))) (do2 _))) (λ p ξ ξ=>k0 rfl) rfl) rfl) ?_
 obtain ⟨ar,har⟩:∃ ar,ar=PyData.list ((aj5.zipIdx.filter λ p=>c1 / 2 ^ p.2 % 2 != 0).map λ p=>pD p.1):=⟨_,rfl⟩
 rw [<- har]
 refine .next (f7 (d:=.list []) rfl (ap5 j0 rfl) rfl) ?_
 refine .next (f7 (d:=nI c3) rfl (aa8 (ah0 (m:=.own) (d:=dC) rfl) z7 (af4 (i:=3) rfl (by decide))) rfl) ?_
 have hl:=by4 (f:=ap3 (c6 []) fr2 [2] [.unpack [9,7] (.bcall .divmod [(.var 9),(.bin .Add (.var 2) (.int 1))]),.insert 8 (.var 7) (.var 2)]) (g:=λ (k:Nat)=>.int ((k:Nat):Int)) (R:=λ i=>rO dX dC (sl2 v2 i) v3 tx ar (sl7 c3 i) (.list ((ca8 c3 i).map nI)) (rsN c3 i)) (n:=5) λ i hi=>dv8 s3 hi (en5 f2 i) (eq3 c3 i)
 refine .next (ba0 (ak2 (m7 z7 y9) (am6 5 (by decide))) (f:=.next) hl rfl) ?_
 refine .ret rfl ?_
 rw [cx9]
 exact ek9 (d7 (al9 (l_e rfl (aa8 (d9 (d:=dC) rfl) z7 (af4 (i:=0) rfl (by decide)))) z7 (cf7 c0 5 (by decide))) (d7 (k0 rfl) (d7 (k0 rfl) (d7 (aa8 (d9 (d:=dC) rfl) z7 (af4 (i:=2) rfl (by decide))) (d7 (k0 rfl) j0))))) rfl
end
section
open PySem.StrLaws PySem.Builtin PySem.Builtin.Str
theorem ce7 (a:Nat):SeqAt.shaped (nI a)=true:=by
 show (PyData.canLay0 (nI a) && decide (PyData.depth (nI a)<=64))=true
 simp [PyData.canLay0,PyData.depth]
theorem bm7 (l:List Nat):SeqAt.shaped (.list (l.map nI))=true:=by
 have h3:∀ l:List Nat,PyData.canLayAll0 (l.map nI)=true/\PyData.depthAll (l.map nI)=0:=by
  intro l
  induction l with
  | nil=>exact ⟨by simp [PyData.canLayAll0],by simp [PyData.depthAll]⟩
  | cons a l ih=>exact ⟨by simp [PyData.canLayAll0,PyData.canLay0,ih.1],by simp [PyData.depthAll,PyData.depth,ih.2]⟩
 obtain ⟨h1,h2⟩:=h3 l
 show (PyData.canLay0 (.list (l.map nI)) && decide (PyData.depth (.list (l.map nI))<=64))=true
 simp [PyData.canLay0,PyData.depth,h1,h2]
theorem es5 (a b:Nat):PyData.eqv (nI a) (nI b)=decide (a=b):=by
 show decide ((a:Int)=(b:Int))=_
 by_cases h:a=b
 ·rw [decide_eq_true (show (a:Int)=(b:Int) from congrArg Int.ofNat h),decide_eq_true h]
 ·rw [decide_eq_false (show ¬ (a:Int)=(b:Int) from λ q=>h (Int.ofNat.inj q)),decide_eq_false h]
theorem dt7 (l:List Nat) (a:Nat):((l.map nI).any λ y=>PyData.eqv y (nI a))=decide (a∈l):=by
 induction l with
 | nil=>rfl
 | cons b l ih=>
  rw [List.map_cons,List.any_cons,ih,es5]
  by_cases h:b=a
  ·rw [decide_eq_true h,decide_eq_true (show a∈b :: l from h▸.head _)];rfl
  ·rw [decide_eq_false h,Bool.false_or]
   exact decide_eq_decide.mpr ⟨λ q=>.tail _ q,λ q=>(List.mem_cons.mp q).resolve_left λ q=>h q.symm⟩
theorem eg0 (l:List Nat) (a:Nat):bb7 .In (nI a) (.list (l.map nI))=some (decide (a∈l)):=(ei1 (ce7 a) (bm7 l)).trans (congrArg some (dt7 l a))
theorem cw1 (l:List Nat) (a:Nat):bb7 .NotIn (nI a) (.list (l.map nI))=some (!decide (a∈l)):=(br6 (ce7 a) (bm7 l)).trans (congrArg (λ b=>some (!b)) (dt7 l a))
noncomputable def rR (a:D) (o:Nat) (met:List Nat) (o3 o4 o5:Slot):Rho:=[some (.fr,a),some (.fr,nI o),some (.own,.list (met.map nI)),o3,o4,o5,none]
noncomputable abbrev ci6:List SI:=[.if_ (.and [(.cmp .In (.var 4) (.var 2)),(.cmp .NotIn (.var 5) (.var 2)),(.cmp .NotEq (.var 5) (.var 1))]) [.append 2 (.var 5)] []]
section
variable {a:D} {o:Nat} {o3 o4 o5:Slot}
theorem cd4 (met:List Nat) (e:Nat×Nat):(ai0 o met e).length<=met.length+1:=by
 unfold ai0
 split
 ·rw [List.length_append];exact Nat.le_refl _
 ·exact Nat.le_succ _
theorem cw9 {met:List Nat} {e:Nat×Nat} (h4:frS o4) (h5:frS o5) (hl:met.length<=1000):ap3 (c6 []) fr2 [4,5] ci6 (pD e) (rR a o met o3 o4 o5)=some (.next,rR a o (ai0 o met e) o3 (some (.fr,nI e.1)) (some (.fr,nI e.2))):=by
 refine ad4 (bj0 (aq8 (o:=o4) rfl h4 (show 4 < 7 by decide)) (aq8 (o:=o5) rfl h5 (show 5 < 7 by decide))) ?_
 have t1:=t_b rfl rfl (ae4 (d9 (r:=rR a o met o3 (some (.fr,nI e.1)) (some (.fr,nI e.2))) (U:=c6 []) (i:=4) rfl) (ah0 (i:=2) (m:=.own) rfl) (eg0 met e.1))
 have t2:=t_b rfl rfl (ae4 (d9 (r:=rR a o met o3 (some (.fr,nI e.1)) (some (.fr,nI e.2))) (U:=c6 []) (i:=5) rfl) (ah0 (i:=2) (m:=.own) rfl) (cw1 met e.2))
 have t3:=t_b rfl rfl (ae4 (d9 (r:=rR a o met o3 (some (.fr,nI e.1)) (some (.fr,nI e.2))) (U:=c6 []) (i:=5) rfl) (d9 (i:=1) rfl) (bq2 e.2 o))
 unfold ai0
 by_cases c1:e.1∈met
 ·rw [decide_eq_true c1] at t1
  by_cases c2:e.2∈met
  ·rw [decide_eq_true c2] at t2
   rw [if_neg λ q=>q.2.1 c2]
   exact l8 (aj1 (t_b rfl rfl (bx6 (a_t t1 (a_f t2)))) ar2)
  ·rw [decide_eq_false c2] at t2
   by_cases c3:e.2=o
   ·rw [show (e.2 != o)=false by rw [c3];exact bne_self_eq_false o] at t3
    rw [if_neg λ q=>q.2.2 c3]
    exact l8 (aj1 (t_b rfl rfl (bx6 (a_t t1 (a_t t2 (a_f t3))))) ar2)
   ·rw [show (e.2 != o)=true from bne_iff_ne.mpr c3] at t3
    rw [if_pos ⟨c1,c2,c3⟩]
    refine l8 (ar5 (t_b rfl rfl (bx6 (a_t t1 (a_t t2 (a_t t3 eb8))))) (l8 (dw4 (l:=met.map nI) (d:=nI e.2) rfl (k0 rfl) rfl (szl (by rw [List.length_map];exact Nat.le_trans (Nat.succ_le_succ hl) (by decide))) ?_)))
    rw [show (PyData.list (met.map nI ++ [nI e.2])) = .list ((met ++ [e.2]).map nI) from congrArg PyData.list (List.map_append (f:=nI) (l₁:=met) (l₂:=[e.2])).symm];rfl
 ·rw [decide_eq_false c1] at t1
  rw [if_neg λ q=>c1 q.1]
  exact l8 (aj1 (t_b rfl rfl (bx6 (a_f t1))) ar2)
inductive ek4 (a:D) (o:Nat) (o3:Slot) (as:List (Nat×Nat)) (met:List Nat) (o4 o5:Slot):Prop
 | mk (v4 v5:Slot) (h4:frS v4) (h5:frS v5) (e:j8 (ap3 (c6 []) fr2 [4,5] ci6) (as.map pD) (rR a o met o3 o4 o5)=some (.next,rR a o (an3 as o met) o3 v4 v5)):ek4 a o o3 as met o4 o5
theorem br0:∀ (as:List (Nat×Nat)) {met:List Nat} {o4 o5:Slot},frS o4->frS o5->met.length+as.length<=1000->ek4 a o o3 as met o4 o5
 | [],_,o4,o5,h4,h5,_=>⟨o4,o5,h4,h5,rfl⟩
 | e :: as,met,o4,o5,h4,h5,hl=>by
  have hl2:met.length+(as.length+1)<=1000:=hl
  obtain ⟨v4,v5,k4,k5,ih⟩:=br0 as (met:=ai0 o met e) (o4:=some (.fr,nI e.1)) (o5:=some (.fr,nI e.2)) (af3 _) (af3 _) (Nat.le_trans (Nat.add_le_add_right (cd4 met e) _) (by rw [Nat.add_assoc,Nat.add_comm 1];exact hl2))
  exact ⟨v4,v5,k4,k5,(u8 (cw9 h4 h5 (Nat.le_trans (Nat.le_add_right _ _) hl2))).trans ih⟩
theorem cc5 {o:Nat}:∀ (as:List (Nat×Nat)) (met:List Nat),(an3 as o met).length<=met.length+as.length
 | [],met=>Nat.le_refl _
 | e :: as,met=>Nat.le_trans (cc5 as (ai0 o met e)) (Nat.le_trans (Nat.add_le_add_right (cd4 met e) _) (by rw [Nat.add_assoc,Nat.add_comm 1];exact Nat.le_refl _))
theorem br5 {o:Nat} {ar:List (Nat×Nat)}:∀ i,(k8 ar o i).length<=1+ar.length * i
 | 0=>Nat.le_refl _
 | i+1=>Nat.le_trans (cc5 ar _) (Nat.le_trans (Nat.add_le_add_right (br5 i) _) (by rw [Nat.mul_succ,Nat.add_assoc];exact Nat.le_refl _))
inductive ek5 (A:D) (o:Nat) (ar:List (Nat×Nat)) (met:List Nat) (k:Nat) (o3 o4 o5:Slot):Prop
 | mk (v4 v5:Slot) (h4:frS v4) (h5:frS v5) (e:ap3 (c6 []) fr2 [3] [.for_ [4,5] (.var 0) ci6] (nI k) (rR A o met o3 o4 o5)=some (.next,rR A o (an3 ar o met) (some (.fr,nI k)) v4 v5)):ek5 A o ar met k o3 o4 o5
theorem aq1 {ar:List (Nat×Nat)} {met:List Nat} (k:Nat) (h3:frS o3) (h4:frS o4) (h5:frS o5) (hl:met.length+ar.length<=1000):ek5 (.list (ar.map pD)) o ar met k o3 o4 o5:=by
 obtain ⟨v4,v5,k4,k5,e⟩:=br0 (a:=.list (ar.map pD)) (o3:=some (.fr,nI k)) ar h4 h5 hl
 exact ⟨v4,v5,k4,k5,ad4 (ac6 (aq8 (o:=o3) rfl h3 (show 3 < 7 by decide))) (l8 (ba0 (ah2 rfl (d9 rfl)) e rfl))⟩
theorem bn7 {ar:List (Nat×Nat)} (h:ar.length<=100):ah6 [.list (ar.map pD),nI o]=some (.list ((k8 ar o 4).map nI)):=by
 have hl:∀ i,i<=4->(k8 ar o i).length+ar.length<=1000:=λ i hi=>by
  have h1:=br5 (o:=o) (ar:=ar) i
  have h2:ar.length * i<=100 * 4:=Nat.mul_le_mul h hi
  exact Nat.le_trans (Nat.add_le_add (Nat.le_trans h1 (Nat.add_le_add_left h2 1)) h) (by decide)
 obtain ⟨a4,a5,p1,p2,e0⟩:=aq1 (o:=o) (ar:=ar) (met:=k8 ar o 0) 0 as6 as6 as6 (hl 0 (by decide))
 obtain ⟨b4,b5,q1,q2,e1⟩:=aq1 (o:=o) (ar:=ar) (met:=k8 ar o 1) 1 (af3 (nI 0)) p1 p2 (hl 1 (by decide))
 obtain ⟨c4,c5,s1,s2,e2⟩:=aq1 (o:=o) (ar:=ar) (met:=k8 ar o 2) 2 (af3 (nI 1)) q1 q2 (hl 2 (by decide))
 obtain ⟨d4,d5,t1,t2,e3⟩:=aq1 (o:=o) (ar:=ar) (met:=k8 ar o 3) 3 (af3 (nI 2)) s1 s2 (hl 3 (by decide))
 have hloop:j8 (ap3 (c6 []) fr2 [3] [.for_ [4,5] (.var 0) ci6]) ((List.range 4).map λ (k:Nat)=>.int ((k:Nat):Int)) (rR (.list (ar.map pD)) o [0] none none none)=some (.next,rR (.list (ar.map pD)) o (k8 ar o 4) (some (.fr,nI 3)) d4 d5):=
  (u8 e0).trans ((u8 e1).trans ((u8 e2).trans ((u8 e3).trans rfl)))
 unfold ah6 ar1
 refine ai9 rfl ?_
 refine .next (f7 (d:=.list [nI 0]) rfl (ap5 (d7 cc1 j0) rfl) rfl) ?_
 refine .next (ba0 (ak2 (m7 z7 y9) (am6 4 (by decide))) (f:=.next) hloop rfl) ?_
 exact .retv rfl (.inl rfl)
end
end
section
open PySem.Calls PySem.SeqAt
noncomputable def FM.no (B:FM) (P:Addr):FM:=λ a=>if a=P then none else B a
section
variable {w:World} {B B0:FM} {P:Addr} {h h0 qa:Heap} {mg mb:Str->Option Value}
theorem FM.no_ne {a:Addr} (q:a≠P):B.no P a=B a:=if_neg q
theorem FM.no_self:B.no P P=none:=if_pos rfl
theorem FM.no_of {a:Addr} {o:Obj} (e:B.no P a=some o):a≠P/\B a=some o:=by
 by_cases q:a=P
 ·subst q;rw [FM.no_self] at e;cases e
 ·exact ⟨q,(FM.no_ne q).symm.trans e⟩
noncomputable def bw5 (B:FM) (P:Addr):Prop:=∀ o,B P=some o->o.cls = .none
theorem ds3 {c:String} {a:Addr} {o:Obj} (N:bw5 B P) (e:B a=some o) (hc:o.cls = .type c):B.no P a=some o:=by
 rw [FM.no_ne]
 ·exact e
 ·rintro rfl
  rw [N o e] at hc;cases hc
mutual
theorem Rd.no (N:bw5 B P):∀ {d:D} {v:Value},Rd prog w B d v->Rd prog w (B.no P) d v
 | .none,_,h=>by exact h
 | .bool _,_,h=>by exact h
 | .int _,_,h=>by exact h
 | .str _,_,h=>by exact h
 | .list ds,v,h=>by
  obtain ⟨a,o,vs,e,ho,hs,hr⟩:=h
  exact ⟨a,o,vs,e,ds3 N ho hs.1,hs,RdL.no N hr⟩
 | .tuple ds,v,h=>by
  obtain ⟨a,o,vs,e,ho,hs,hr⟩:=h
  exact ⟨a,o,vs,e,ds3 N ho hs.1,hs,RdL.no N hr⟩
 | .dict kvs,v,h=>by
  obtain ⟨a,o,vs,e,ho,hs,hr⟩:=h
  exact ⟨a,o,vs,e,ds3 N ho (by obtain ⟨_,_,q,_⟩:=hs.1;exact q.1),hs,RdK.no N hr⟩
theorem RdL.no (N:bw5 B P):∀ {ds:List D} {vs:List Value},RdL prog w B ds vs->RdL prog w (B.no P) ds vs
 | [],vs,h=>by exact h
 | d :: ds,vs,h=>by
  obtain ⟨v,r,e,h1,h2⟩:=h
  exact ⟨v,r,e,Rd.no N h1,RdL.no N h2⟩
theorem RdK.no (N:bw5 B P):∀ {ds:List (D×D)} {vs:List (Key×Value)},RdK prog w B ds vs->RdK prog w (B.no P) ds vs
 | [],vs,h=>by exact h
 | d :: ds,vs,h=>by
  obtain ⟨k,v,r,e,h0,h1,h2⟩:=h
  exact ⟨k,v,r,e,h0,Rd.no N h1,RdK.no N h2⟩
end
theorem f8.no (N:bw5 B P) {d:D} {v:Value} (t:f8 prog w h B d v):f8 prog w h (B.no P) d v:=by
 cases d with
 | none=>exact t
 | bool b=>exact t
 | int i=>exact t
 | str x=>exact t
 | list l=>obtain ⟨a,o,vs,e,ho,x,y⟩:=t;exact ⟨a,o,vs,e,ho,x,RdL.no N y⟩
 | tuple l=>obtain ⟨a,o,vs,e,ho,x,y⟩:=t;exact ⟨a,o,vs,e,ho,x,RdL.no N y⟩
 | dict l=>obtain ⟨a,o,vs,e,ho,x,y⟩:=t;exact ⟨a,o,vs,e,ho,x,RdK.no N y⟩
theorem ed8 {d:D} {a:Addr} {o:Obj} (t:f8 prog w h B d (.ref a)) (ho:h.get? a=some o):o.cls≠.none:=by
 cases d with
 | none=>cases t
 | bool b=>cases t
 | int i=>obtain ⟨_,_,e⟩:=t;cases e
 | str x=>obtain ⟨_,_,e⟩:=t;cases e
 | list l=>obtain ⟨a',o',vs,e,ho',x,_⟩:=t;cases e;rw [ho] at ho';cases ho';rw [x.1];nofun
 | tuple l=>obtain ⟨a',o',vs,e,ho',x,_⟩:=t;cases e;rw [ho] at ho';cases ho';rw [x.1];nofun
 | dict l=>obtain ⟨a',o',vs,e,ho',x,_⟩:=t;cases e;rw [ho] at ho';cases ho';obtain ⟨_,_,q,_⟩:=x.1;rw [q.1];nofun
theorem du3 {a:Addr}:(h.hide P).get? a=if a=P then none else h.get? a:=by
 split
 ·rename_i q;subst q;exact Heap.hide_self h a
 ·exact Heap.hide_ne h ‹_›
theorem bo5 {a:Addr} (e:h.get? a=none):(h.hide P).get? a=none:=by
 rw [du3];split;rfl;exact e
theorem Gr.hide {h':Heap} (g:Gr B0 h0 B h) (hk:∀ b,b≠P->h'.get? b=h.get? b):Gr (B0.no P) (h0.hide P) (B.no P) h' where
 le:=λ a o e=>by
  obtain ⟨q,e⟩:=FM.no_of e
  exact (FM.no_ne q).trans (g.le a o e)
 old:=λ a o e=>by
  have q:a≠P:=λ q=>by rw [q,Heap.hide_self] at e;cases e
  rw [hk a q]
  exact g.old a o (Heap.of_hide e)
 keep:=λ a o e=>by
  obtain ⟨q,e⟩:=FM.no_of e
  exact (hk a q).trans (g.keep a o e)
 new:=λ a o e=>by
  obtain ⟨q,e⟩:=FM.no_of e
  rw [FM.no_ne q]
  exact (g.new a o e).imp id bo5
theorem bg7 {a:Addr} {o:Obj} (hP:h.get? P=some (tabObj #[])) (e:h.get? a=some o) (hn:o≠tabObj #[]):(h.hide P).get? a=some o:=by
 rw [Heap.hide_ne]
 ·exact e
 ·rintro rfl
  exact hn (Option.some.inj (e.symm.trans hP))
theorem cf3 {a:Addr} {m:Str->Option Value} (hP:h.get? P=some (tabObj #[])) (n:h.Ns a m):(h.hide P).Ns a m:=by
 obtain ⟨o,es,ep,e,hd,r⟩:=n
 exact ⟨o,es,ep,bg7 hP e (λ q=>by rw [q] at hd;cases hd),hd,r⟩
theorem Glb.hide (hP:qa.get? P=some (tabObj #[])) (G:Glb qa mg mb):Glb (qa.hide P) mg mb where
 g:=cf3 hP G.g
 b:=cf3 hP G.b
 nolimit:=let ⟨mc,a,r⟩:=G.nolimit;⟨mc,cf3 hP a,r⟩
 bi:=G.bi
theorem cj7 {cd:Value} {q:Str} (hP:qa.get? P=some (tabObj #[])) (c:qa.CodeRec cd q):(qa.hide P).CodeRec cd q:=by
 obtain ⟨c,oc,vs,t,e1,e2,e3,e4⟩:=c
 refine ⟨c,oc,vs,t,e1,bg7 hP e2 λ q=>?_,e3,e4⟩
 subst q
 cases e3
 cases e4
theorem az8.hide {d:DefRec} (hP:qa.get? P=some (tabObj #[])) (H:az8 mg qa d):az8 mg (qa.hide P) d:=by
 obtain ⟨fa,o,pm,code,doc,h1,h2,h3,h4⟩:=H
 exact ⟨fa,o,pm,code,doc,h1,bg7 hP h2 (λ q=>by rw [q] at h3;cases h3),h3,cj7 hP h4⟩
theorem Sim.hide {env:Env} {sc:Scope} {r:Rho} {Y:Addr->Prop} {ps:Array Value} (S:Sim prog w h0 B0 env sc r B Y h) (hP:h.get? P=some (tabObj ps)) (hf:env.frame=some env.locals):Sim prog w (h0.hide P) (B0.no P) env sc r (B.no P) (λ a=>Y a\/a=P) h:=
 have N:bw5 B P:=λ o e=>by have:=S.gr.keep P o e;rw [hP] at this;cases this;rfl
 have hl:env.locals≠P:=by
  rintro rfl
  obtain ⟨m,o,es,ep,e,hd,_⟩:=S.fm.ns
  rw [hP] at e;cases e;cases hd
 have hc:∀ x c,env.cells.lookup x=some c->c≠P:=by
  rintro x c q rfl
  obtain ⟨v,o,e,hd⟩:=S.fm.cellE x c q
  rw [hP] at e;cases e;cases hd
 have nn:∀ {a:Addr},B a=none->B.no P a=none:=λ e=>by unfold FM.no;split;rfl;exact e
 {gr:=S.gr.hide λ ξ ξ=>rfl
  fm:=S.fm
  own0:=λ a q=>⟨bo5 (S.own0 a q).1,nn (S.own0 a q).2⟩
  y0:=λ a q=>q.elim (λ q=>⟨bo5 (S.y0 a q).1,nn (S.y0 a q).2.1,(S.y0 a q).2.2⟩) λ q=>by subst q;exact ⟨Heap.hide_self _ _,FM.no_self,by rw [hP];nofun⟩
  yown:=λ a q q'=>q'.elim (S.yown a q) λ e=>by
   subst e
   rcases q with q | ⟨x,_,q⟩
   ·exact hl q.symm
   ·exact hc x _ q rfl
  ycell:=λ x c q q'=>q'.elim (S.ycell x c q) (hc x c q)
  yfr:=λ f q q'=>q'.elim (S.yfr f q) λ e=>by
   rw [hf] at q;cases q
   exact hl e
  vars:=λ x i m d hx hr=>by
   obtain ⟨v,a,t,f,n,o⟩:=S.vars x i m d hx hr
   refine ⟨v,a,t.no N,λ q=>(f q).no N,λ b q e=>?_,λ q=>?_⟩
   ·rcases q with q | q | q
    ·exact n b (.inl q) e
    ·exact n b (.inr q) e
    ·subst q;subst e
     exact ed8 t hP rfl
   ·obtain ⟨b,e,e1,e2,e3⟩:=o q
    exact ⟨b,e,bo5 e1,nn e2,e3⟩
  uniq:=S.uniq }
end
section
variable {w:World} {h0:Heap} {B0:FM} {env:Env} {sc:Scope} {r:Rho} {B:FM} {Y:Addr->Prop} {h:Heap}
noncomputable def scF (sc:Scope) (y:Str):Scope:={ sc with names:=sc.names.map λ p=>if p.1 == y then (p.1,.free) else p }
theorem ap6 {y x:Str}:∀ {l:List (Str×NameKind)},(l.map λ p=>if p.1 == y then (p.1,NameKind.free) else p).lookup x=if x=y then (l.lookup x).map λ ξ=>.free else l.lookup x
 | []=>by split <;> rfl
 | (z,kd) :: l=>by
  rw [List.map_cons,List.lookup_cons]
  have ih:=@ap6 y x l
  by_cases hz:z=y
  ·subst hz
   simp only [beq_self_eq_true,if_true]
   rw [List.lookup_cons,ih]
   by_cases hx:x=z
   ·subst hx;simp
   ·have:(x == z)=false:=beq_eq_false_iff_ne.mpr hx
    rw [this]
  ·have hz':(z == y)=false:=beq_eq_false_iff_ne.mpr hz
   simp only [hz',Bool.false_eq_true,if_false]
   rw [List.lookup_cons,ih]
   by_cases hx:x=z
   ·subst hx
    simp [hz]
   ·have:(x == z)=false:=beq_eq_false_iff_ne.mpr hx
    rw [this]
theorem bq7 {y x:Str} (q:x≠y):(scF sc y).names.lookup x=sc.names.lookup x:=ap6.trans (if_neg q)
theorem bx5 {y x:Str} {i:Nat} (hy:sc.names.lookup y=some .cell) (e:d8 (scF sc y) x=some i):d8 sc x=some i:=by
 have hidx:(scF sc y).names.findIdx? (·.1 == x)=sc.names.findIdx? (·.1 == x):=by
  show (sc.names.map _).findIdx? _=_
  rw [List.findIdx?_map]
  congr 1
  funext p
  simp only [Function.comp]
  split <;> rfl
 unfold d8 at e⊢
 rw [hidx] at e
 by_cases q:x=y
 ·subst q
  rw [hy]
  rw [show (scF sc x).names.lookup x=_ from ap6,if_pos rfl,hy] at e
  exact e
 ·rw [bq7 q] at e
  exact e
theorem j6.scF {y:Str} (hy:sc.names.lookup y=some .cell) (ek:j6 env sc):j6 env (scF sc y):=by
 have ne:∀ {x kd},(Mine.Internal.scF sc y).names.lookup x=some kd->kd≠.free->sc.names.lookup x=some kd:=λ {x kd} e hk=>by
  by_cases q:x=y
  ·subst q
   rw [show (Mine.Internal.scF sc x).names.lookup x=_ from ap6,if_pos rfl,hy] at e
   cases e;exact absurd rfl hk
  ·rwa [bq7 q] at e
 have cf:∀ {x},(Mine.Internal.scF sc y).names.lookup x=some .cell\/(Mine.Internal.scF sc y).names.lookup x=some .free->sc.names.lookup x=some .cell\/sc.names.lookup x=some .free:=λ {x} e=>by
  by_cases q:x=y
  ·subst q;exact .inl hy
  ·rwa [bq7 q] at e
 exact ⟨ek.kind,ek.globals,ek.builtins,λ x e=>ek.loc x (ne e nofun),λ x e=>ek.cell x (cf e),λ x e=>ek.glob x (ne e nofun),λ x e=>ek.cells x (cf e)⟩
theorem Sim.scF {y:Str} (hy:sc.names.lookup y=some .cell) (S:Sim prog w h0 B0 env sc r B Y h):Sim prog w h0 B0 env (scF sc y) r B Y h:=
 have ce:∀ {x},(Mine.Internal.scF sc y).names.lookup x=some .cell->sc.names.lookup x=some .cell:=λ {x} e=>by
  by_cases q:x=y
  ·subst q;exact hy
  ·rwa [bq7 q] at e
 have ow:∀ {a},isOwn env (Mine.Internal.scF sc y) a->isOwn env sc a:=λ q=>q.imp id λ ⟨x,h1,h2⟩=>⟨x,ce h1,h2⟩
 {gr:=S.gr
  fm:=⟨S.fm.ns,λ x e=>S.fm.cell x (ce e),λ x z c c' q e=>S.fm.sep x z c c' q (ce e),S.fm.cellE,S.fm.cls,S.fm.frE⟩
  own0:=λ a q=>S.own0 a (ow q)
  y0:=S.y0
  yown:=λ a q=>S.yown a (ow q)
  ycell:=S.ycell
  yfr:=S.yfr
  vars:=λ x i m d hx hr=>by
   obtain ⟨v,a,t,f,n,o⟩:=S.vars x i m d (bx5 hy hx) hr
   exact ⟨v,a,t,f,λ b q=>n b (q.imp ow id),o⟩
  uniq:=λ x z i j m1 m d d' a hx hz=>S.uniq x z i j m1 m d d' a (bx5 hy hx) (bx5 hy hz) }
theorem Sim.cellSet {h':Heap} {y:Str} {i:Nat} {c:Addr} {v:Option Value} (S:Sim prog w h0 B0 env sc r B Y h) (hy:sc.names.lookup y=some .cell) (hc:env.cells.lookup y=some c) (hs:d8 sc y=some i) (hn:r.get i=none) (hsb:Heap.SameBut c h h') (hv:h'.IsCell c v):Sim prog w h0 B0 env sc r B Y h':=
 have hco:isOwn env sc c:=.inr ⟨y,hy,hc⟩
 have hk:∀ b o,¬ b=c->h.get? b=some o->h'.get? b=some o:=λ b o q e=>(hsb.2 b q).trans e
 have hl:¬ env.locals=c:=by
  obtain ⟨m,q⟩:=S.fm.ns
  obtain ⟨u,q2⟩:=S.fm.cellE y c hc
  exact ap0 q q2
 have oth:∀ x c',x≠y->env.cells.lookup x=some c'->¬ c'=c:=λ x c' q e e'=>S.fm.sep y x c c' (Ne.symm q) hy hc e e'.symm
 have ne:∀ {x j m d},d8 sc x=some j->r.get j=some (m,d)->x≠y:=λ hx hr e=>by
  subst e
  rw [hs] at hx;cases hx
  rw [hn] at hr;cases hr
 have at':∀ {x u},x≠y->At env h x u->At env h' x u:=λ q a=>by
  cases a with
  | loc m e hn hv=>exact .loc m e (hn.at' λ o e=>hk _ o hl e) hv
  | cell c' e he hv=>obtain ⟨o,q1,q2⟩:=hv;exact .cell c' e he ⟨o,hk c' o (oth _ _ q he) q1,q2⟩
 {gr:=S.gr.off hk λ b q=>by subst q;exact S.own0 b hco
  fm:={
   ns:=let ⟨m,q⟩:=S.fm.ns;⟨m,q.at' λ o e=>hk _ o hl e⟩
   cell:=λ x hx=>by
    obtain ⟨e,c',u,q1,o,q2,q3⟩:=S.fm.cell x hx
    by_cases q:x=y
    ·subst q;rw [hc] at q1;cases q1;exact ⟨e,c,v,hc,hv⟩
    ·exact ⟨e,c',u,q1,o,hk c' o (oth x c' q q1) q2,q3⟩
   sep:=S.fm.sep
   cellE:=λ x c' hx=>by
    by_cases q:c'=c
    ·subst q;exact ⟨v,hv⟩
    ·obtain ⟨u,o,q2,q3⟩:=S.fm.cellE x c' hx;exact ⟨u,o,hk c' o q q2,q3⟩
   cls:=λ hf o e=>S.fm.cls hf o ((hsb.2 _ hl).symm.trans e)
   frE:=λ f hf=>by
    by_cases q:f=c
    ·subst q;obtain ⟨o,e,_⟩:=hv;rw [e];nofun
    ·rw [hsb.2 f q];exact S.fm.frE f hf }
  own0:=S.own0
  y0:=λ a q=>⟨(S.y0 a q).1,(S.y0 a q).2.1,by rw [hsb.2 a λ e=>S.yown c hco (e▸q)];exact (S.y0 a q).2.2⟩
  yown:=S.yown
  ycell:=S.ycell
  yfr:=S.yfr
  vars:=λ x j m d hx hr=>by
   obtain ⟨u,a,t,f,n,o⟩:=S.vars x j m d hx hr
   exact ⟨u,at' (ne hx hr) a,t.off hk (.refl _) (λ b q=>by subst q;exact n b (.inl hco)),f,n,λ q=>by
    obtain ⟨b,rfl,e1,e2,e3⟩:=o q
    exact ⟨b,rfl,e1,e2,e3.off hk (λ p=>n b (.inl (p▸hco)) rfl) (n9 t S.gr.keep)⟩⟩
  uniq:=λ x z j k m1 m d d' a hx hz hjk hj hw hk2 a1 a2=>by
   obtain ⟨u,b1,_⟩:=S.vars x j _ d hx hj
   obtain ⟨u2,b2,_⟩:=S.vars z k m d' hz hk2
   have e1:=a1.unique (at' (ne hx hj) b1)
   have e2:=a2.unique (at' (ne hz hk2) b2)
   subst e1 e2
   exact S.uniq x z j k m1 m d d' a hx hz hjk hj hw hk2 b1 b2 }
end
end
section
open PySem.Calls PySem.SeqAt
inductive cl0 (h:Heap) (a:Addr) (l:List Int):Prop
 | mk (vs:List Value) (n:Nat) (e:h.get? a=some { cls:=.type "list",data:=.seq vs.toArray n }) (hi:IntsAre vs l):cl0 h a l
noncomputable abbrev ik (prog:Program) (w:World):KeyKind prog w Int:=intKind prog w
noncomputable def aj8 (ps:List (Int×Addr)):List (Int×Value):=ps.map λ p=>(p.1,.ref p.2)
theorem dm2 (ps:List (Int×Addr)):(aj8 ps).map (·.1)=ps.map (·.1):=by
 unfold aj8;rw [List.map_map];rfl
theorem bs3 {w:World} {k:Int} {t:Tok}:(ik prog w).is k (.int k t)=true:=by simp [intKind,Value.isInt]
theorem cl0.at {h h':Heap} {a:Addr} {l:List Int} (x:cl0 h a l) (hk:∀ o,h.get? a=some o->h'.get? a=some o):cl0 h' a l:=let ⟨vs,n,e,hi⟩:=x;⟨vs,n,hk _ e,hi⟩
theorem cl0.ne {h:Heap} {a:Addr} {l:List Int} (x:cl0 h a l):h.get? a≠none:=let ⟨_,_,e,_⟩:=x;by rw [e];nofun
section
variable {w:World} {qa:Heap} {mg mb:Str->Option Value} {k:Nat} {U:String->List D->Option D} {sc:Scope}
theorem ay2 {o:Obj} {ps:List (Int×Value)} (x:o.IsDictOf (ik prog w) ps):ao6 o:=let ⟨_,_,e,_⟩:=x;.inr e.1
theorem cu2 {ps:List (Int×Value)} {x:Int} {v:Value} (h:x ∉ ps.map (·.1)):stored ps x v=ps ++ [(x,v)]:=by
 unfold stored
 rw [if_neg]
 intro q
 obtain ⟨p,hp,e⟩:=List.any_eq_true.mp q
 exact h (List.mem_map.mpr ⟨p,hp,of_decide_eq_true e⟩)
inductive NdP (w:World) (B:FM) (s:Shared) (ks:List Int) (v:Value) (s':Shared):Prop
 | mk (dd:Addr) (ps:List (Int×Addr)) (e:v = .ref dd) (g:Gr B s.heap B s'.heap) (m:k6 s s') (hn:s.heap.get? dd=none) (hd:s'.heap.DictOf (ik prog w) dd (aj8 ps)) (hk:ps.map (·.1)=ks) (hl:∀ p∈ps,s.heap.get? p.2=none/\p.2≠dd/\cl0 s'.heap p.2 [p.1]) (nd:(ps.map (·.2)).Nodup) (hb:dd≠sysModules):NdP w B s ks v s'
theorem dj0 {key elt target iter:PySem.Expr} {sc':Scope} {pos:Pos} {tgt:List Nat} {isrc:IR} {ik1 ir:IR} {A:Around} {E:Value->Shared->Prop} {env:Env} {r:Rho} {B:FM} {s:Shared} {ks:List Int} (G:Glb qa mg mb)
  (cs:an7 sc' sc) (hset:aa0 iter=true) (tg:z5 sc' target tgt) (hsrc:ad5 w qa k U sc iter isrc target) (hk:j3 w qa k U sc' key ik1) (he:bt0 w qa k U sc' elt ir)
  (ok:Ok prog w qa k A env sc r B s) (qh:e9 U isrc r=some (ks.map .int)) (nd:ks.Nodup) (h60:ks.length<=60)
  (qi:∀ x∈ks,∃ r1,m8 (as7 r (ad3 sc' sc)) tgt (.int x)=some r1/\eval U ik1 r1=some (.int x)/\eval U ir r1=some (.list [.int x])) :
  wpAny (model prog w) A (PySem.eval (.DictComp key elt [⟨target,iter,[],0⟩] sc' pos) env) (NdP w B s ks) E s:=by
 show wpAny _ _ (comprehension (.DictComp key elt [⟨target,iter,[],0⟩] sc' pos) sc' env _ newDict false (PySem.eval iter env)) _ _ s
 have qg:∀ {i:Nat} {d:D},(ks.map PyData.int)[i]?=some d->∃ x,ks[i]?=some x/\d = .int x:=λ {i d} q=>by
  rw [List.getElem?_map] at q
  obtain ⟨x,h1,h2⟩:=u9 q
  exact ⟨x,h1,h2.symm⟩
 refine as3 (k:=k) (qa:=qa) (U:=U) (sc:=sc) (qd:=[]) (use:=none) (emit:=λ Dd cenv=>(do
   let kv <- PySem.eval key cenv
   let vv <- holding [kv] (PySem.eval elt cenv)
   standAt { key.pos with endLine:=elt.pos.endLine,endCol:=elt.pos.endCol }
   holding [kv,vv] (dictSet Dd kv vv)))
  (AP:=λ i B o=>∃ ps:List (Int×Addr),o.IsDictOf (ik prog w) (aj8 ps)/\ps.map (·.1)=ks.take i/\(ps.map (·.2)).Nodup/\∀ p∈ps,s.heap.get? p.2=none/\∃ t n,B p.2=some { cls:=.type "list",data:=.seq #[.int p.1 t] n }) rfl
  (λ s2 Q E hQ=>wpAny_newObj_type (hQ _ rfl λ B=>⟨[],⟨#[],0,⟨rfl,rfl,rfl⟩,rfl,λ _ he=>by simp at he,Pairs.nil,List.nodup_nil⟩,rfl,List.nodup_nil,λ _ q=>by cases q⟩)) (λ I Dd cenv=>compTurn_dict ..) (λ I Dd cenv R Inv h n s hI=>codeAny_loop rfl Inv (λ n s' hI'=>wpAny_noted (h n s' hI')) n hI) (λ I Dd cenv R s h1 h2=>codeAny_compStart_dict h1 (h2 _ _ h1))
  cs hset tg hsrc .nil ok qh (λ i d hi=>?_) (λ ξ ξ o ⟨_,q,_⟩=>ay2 q) (λ ξ B B' ξ hB ⟨ps,q1,q2,q3,q4⟩=>⟨ps,q1,q2,q3,λ p hp=>let ⟨q5,t,n,q6⟩:=q4 p hp;⟨q5,t,n,hB _ _ q6⟩⟩) (λ i d r1 B o hi hr1 htt hA=>by cases htt) (λ {s2 B2 r1 i d o cenv Dd Y E} ξ ξ Sg ok' hi hr1 htt hD hA=>?_) λ Dd C s' Bn o g m hD hC hne hlow hBD hBC hDo hA hn=>?_
 ·obtain ⟨x,hx,rfl⟩:=qg hi
  obtain ⟨r1,h1,_⟩:=qi x (List.mem_of_getElem? hx)
  exact ⟨r1,true,h1,rfl⟩
 ·obtain ⟨x,hx,rfl⟩:=qg hi
  obtain ⟨r1',h1,h2,h3⟩:=qi x (List.mem_of_getElem? hx)
  rw [hr1] at h1;cases h1
  obtain ⟨ps,hs,hps,hnd,hl⟩:=hA
  refine wpAny_bind (al8 hk ok' h2 λ u s4 B4 g4 m4 r4 ok4=>?_)
  obtain ⟨tu,_,rfl⟩:=r4
  refine wpAny_bind (wpAny_holding (wpAny_mono (he ok4 h3) (λ v s5 q=>?_) λ ξ ξ e=>e))
  obtain ⟨B5,a,rfl,g5,hna,hBa,t5,m5,hpl⟩:=q
  refine wpAny_bind (wpAny_standAt (wpAny_holding ?_))
  have g45:=g4.trans g5
  have hD5:=g45.old.solid hD (ay2 hs)
  obtain ⟨a',oa,vs,e,hoa,hso,hrl⟩:=t5
  cases e
  obtain ⟨v1,vs',rfl,⟨t1,_,rfl⟩,hrl⟩:=hrl
  obtain rfl:=hrl
  obtain ⟨ec,n1,ed⟩:=hso
  obtain ⟨e3,e4⟩:=hpl _ hoa
  obtain ⟨cls,dct,dt,sl⟩:=oa
  simp only at ec ed e3 e4
  subst ec ed e3 e4
  have hlt:ps.length<=i:=by rw [<- List.length_map (f:=(·.1)),hps];exact List.length_take_le ..
  have hi60:i < ks.length:=(List.getElem?_eq_some_iff.mp hx).1
  have hxn:x ∉ (aj8 ps).map (·.1):=by
   rw [dm2,hps]
   intro q
   obtain ⟨j,hj,e⟩:=List.mem_iff_getElem.mp q
   rw [List.length_take] at hj
   rw [List.getElem_take] at e
   rw [List.getElem?_eq_getElem hi60] at hx
   cases hx
   have:=(List.getElem_inj nd).mp e
   lia
  have hs2n:s2.heap.get? a=none:=g4.old.back hna
  refine wpAny_dictSet_pairs bs3 (Heap.dictOf_iff.mpr ⟨o,hD5,hs⟩) (λ h6 hd6 hsb=>?_) (by rw [show (aj8 ps).length=ps.length from List.length_map ..];exact Nat.le_trans hlt (Nat.le_trans (Nat.le_of_lt hi60) (Nat.le_trans h60 (by decide))))
  obtain ⟨o6,ho6,hio⟩:=Heap.dictOf_iff.mp hd6
  have hle5:=FM.le_add (B:=B5) (a:=a) (o:={ cls:=.type "list",data:=.seq #[.int x t1] n1 }) λ o' e=>by rw [hBa] at e;cases e
  refine .mk (B5.add a { cls:=.type "list",data:=.seq #[.int x t1] n1 }) s5.heap _ (g45.freeze hs2n hoa) hsb ho6 ⟨ps ++ [(x,a)],?_,?_,?_,λ p hp=>?_⟩ ((m4.trans m5).trans ⟨rfl,rfl,Nat.le_succ _⟩)
  ·rw [cu2 hxn] at hio
   unfold aj8
   rw [List.map_append]
   exact hio
  ·rw [List.map_append,hps,List.take_add_one,hx];rfl
  ·rw [List.map_append,List.nodup_append]
   refine ⟨hnd,by simp,λ b hb c hc e=>?_⟩
   have hc':c=a:=by simpa using hc
   subst hc'
   subst e
   obtain ⟨p,hp,rfl⟩:=List.mem_map.mp hb
   obtain ⟨_,t,n,q⟩:=hl p hp
   rw [ok'.keep _ _ q] at hs2n
   cases hs2n
  ·rcases List.mem_append.mp hp with hp | hp
   ·obtain ⟨q5,t,n,q6⟩:=hl p hp
    exact ⟨q5,t,n,hle5 _ _ (g45.le _ _ q6)⟩
   ·rw [List.mem_singleton.mp hp]
    exact ⟨Sg.gr.old.back hs2n,t1,n1,FM.add_self ..⟩
 ·obtain ⟨ps,hs,hps,hnd,hl⟩:=hA
  obtain ⟨mm,hns⟩:=hn
  refine ⟨mm,hns,λ h' hsb=>?_⟩
  have hk:∀ b o,¬ b=C->s'.heap.get? b=some o->h'.get? b=some o:=λ b o q e=>(hsb.2 b q).trans e
  have g':=g.off hk λ b q=>by subst q;exact ⟨hC,hBC⟩
  rw [List.length_map,List.take_length] at hps
  refine ⟨Dd,ps,rfl,⟨.refl _,g'.old,λ a o e=>g'.keep a o (g'.le a o e),λ a o e=>.inl e⟩,⟨m.gens,m.os,m.toks⟩,hD,Heap.dictOf_iff.mpr ⟨o,hk _ _ hne hDo,hs⟩,hps,λ p hp=>?_,hnd,λ e=>?_⟩
  ·skip
   obtain ⟨q5,t,n,q6⟩:=hl p hp
   refine ⟨q5,λ e=>by rw [e,hBD] at q6;contradiction,⟨[.int p.1 t],n,g'.keep _ _ q6,.cons _ _ .nil⟩⟩
  ·obtain ⟨o,_,_,ho,_⟩:=G.g
   have h1:mainGlobals < Dd:=hlow mainGlobals (by rw [ok.old _ _ ho];nofun)
   have h3:mainGlobals=3:=rfl
   have h2:Dd=1:=e
   lia
end
end
section
open PySem.Calls PySem.SeqAt
inductive ai5 (w:World) (h:Heap) (c dd:Addr) (ps:List (Int×Addr)) (N:Int->List Int):Prop
 | mk (hc:h.IsCell c (some (.ref dd))) (hd:h.DictOf (ik prog w) dd (aj8 ps)) (hl:∀ p∈ps,cl0 h p.2 (N p.1)):ai5 w h c dd ps N
section
variable {w:World} {h h':Heap} {c dd:Addr} {ps:List (Int×Addr)} {N:Int->List Int}
theorem ai5.up (x:ai5 w h c dd ps N) (hk:∀ b o,(b=c\/b=dd\/∃ p∈ps,p.2=b)->h.get? b=some o->Up o (h'.get? b)):ai5 w h' c dd ps N:=by
 obtain ⟨⟨o,e,hd'⟩,hd,hl⟩:=x
 obtain ⟨od,ho,hio⟩:=Heap.dictOf_iff.mp hd
 refine ⟨⟨o,(hk c o (.inl rfl) e).solid (.inl λ es ep q=>by rw [hd'] at q;cases q),hd'⟩,Heap.dictOf_iff.mpr ⟨od,(hk dd od (.inr (.inl rfl)) ho).solid (ay2 hio),hio⟩,λ p hp=>?_⟩
 obtain ⟨vs,n,e,hi⟩:=hl p hp
 exact ⟨vs,n,(hk p.2 _ (.inr (.inr ⟨p,hp,rfl⟩)) e).solid (.seq rfl),hi⟩
theorem ai5.congr {N':Int->List Int} (x:ai5 w h c dd ps N) (e:∀ p∈ps,N p.1=N' p.1):ai5 w h c dd ps N':=⟨x.1,x.2,λ p hp=>e p hp▸x.3 p hp⟩
theorem ap8:∀ {ps:List (Int×Addr)} {x:Int} {a:Addr},(ps.map (·.1)).Nodup->(x,a)∈ps->valueAt (aj8 ps) x=some (.ref a)
 | [],_,_,_,h=>by cases h
 | p :: ps,x,a,nd,h=>by
  rw [List.map_cons,List.nodup_cons] at nd
  unfold valueAt aj8
  rw [List.map_cons,List.find?_cons]
  rcases List.mem_cons.mp h with e | h
  ·subst e
   simp
  ·have:¬ p.1=x:=λ e=>nd.1 (e▸List.mem_map_of_mem (f:=(·.1)) h)
   simp only [this,decide_false]
   exact ap8 nd.2 h
theorem cx5 {x:Int} (h:x ∉ ps.map (·.1)):valueAt (aj8 ps) x=none:=by
 unfold valueAt aj8
 rw [Option.map_eq_none_iff,List.find?_eq_none]
 intro q hq
 obtain ⟨p,hp,rfl⟩:=List.mem_map.mp hq
 intro e
 exact h (List.mem_map.mpr ⟨p,hp,of_decide_eq_true e⟩)
end
open Classical in
noncomputable def cy2 (p:Rho->Prop) (r:Rho):Out:=if p r then some (.next,r) else none
theorem bk9 {p:Rho->Prop} {r:Rho} (h:p r):cy2 p r=some (.next,r):=if_pos h
theorem be6 {p:Rho->Prop} {r:Rho} {res:Fl×Rho} (h:cy2 p r=some res):p r/\res=(.next,r):=by
 unfold cy2 at h
 split at h
 ·cases h;exact ⟨‹_›,rfl⟩
 ·cases h
inductive du8 (F:D->Rho->Option (Fl×Rho)) (I:Rho->Prop) (its:List D) (r:Rho):Prop
 | mk (r':Rho) (h1:j8 F its r=some (.next,r')) (h2:I r'):du8 F I its r
theorem bv6 {F:D->Rho->Option (Fl×Rho)} {I:Rho->Prop}:∀ {its:List D} {r:Rho},(∀ d∈its,∀ r,I r->∃ r',F d r=some (.next,r')/\I r')->I r->du8 F I its r
 | [],r,_,h=>⟨r,rfl,h⟩
 | d :: its,r,hF,h=>by
  obtain ⟨r1,e1,i1⟩:=hF d (.head _) r h
  obtain ⟨r2,e2,i2⟩:=bv6 (its:=its) (λ d hd=>hF d (.tail _ hd)) i1
  refine ⟨r2,?_,i2⟩
  exact Option.bind_eq_some_iff.mpr ⟨_,e1,e2⟩
theorem bv0 {r:Rho} {i:Nat} {d:D} (hl:i < r.length) (hf:∀ d',r.get i≠some (.lock,d')):ad9 r [i] d=some (r.set i (some (.fr,d))):=bf8 hl hf
theorem bk7 {r r1:Rho} {i:Nat} {d:D} (h:ad9 r [i] d=some r1):r1.get i=some (.fr,d)/\r1=r.set i (some (.fr,d)):=by
 obtain ⟨e,hlt,_⟩:=ad7 (show r.put i .fr d=some r1 from h)
 subst e
 exact ⟨by rw [g9,if_pos ⟨rfl,hlt⟩],rfl⟩
section
variable {w:World} {qa:Heap} {mg mb:Str->Option Value} {k:Nat} {U:String->List D->Option D} {qc:String->Bool} {sc:Scope}
variable {h0:Heap} {B0:FM} {env:Env} {A:Around} {E:Value->Shared->Prop} {r:Rho} {B:FM} {Y Wx:Addr->Prop} {s:Shared} {c dd:Addr} {ps:List (Int×Addr)}
theorem dd0 {nd:Str} {N:Int->List Int} (ek:j6 env sc) (hN:sc.names.lookup nd=some .free) (hc:env.cells.lookup nd=some c) (Nd:ai5 w s.heap c dd ps N):At env s.heap nd (.ref dd):=.cell c (ek.cell nd (.inr hN)) hc Nd.1
theorem dy6 {x:Str} {i:Nat} {m:aa3} {n:Int} (S:Sim prog w h0 B0 env sc r B Y s.heap) (hs:d8 sc x=some i) (hr:r.get i=some (m,.int n)):∃ t,At env s.heap x (.int n t):=by
 obtain ⟨v,a,⟨t,_,rfl⟩,_⟩:=S.vars x i m _ hs hr
 exact ⟨t,a⟩
theorem co2 {nd kx nm:Str} {oe:PySem.Expr} {ko:Nat} {io:IR} {x o:Int} {a:Addr} {N N':Int->List Int} {np kp sp ap cp ep:Pos} (hnm:nm="append") (hN:sc.names.lookup nd=some .free) (hok:aj3 nd=true) (hkx:d8 sc kx=some ko) (hne:j9 oe=true) (he:j3 w qa k U sc oe io) (hp:(ap.endLine == cp.line)=true)
  (rm:Rm k A) (ek:j6 env sc) (hb:∀ a o,qa.get? a=some o->B0 a=some o) (ht:0 < s.toks) (fa:FrA A env B0 h0) (hn:j7 sc r) (S:Sim prog w h0 B0 env sc r B Y s.heap) (hc:env.cells.lookup nd=some c)
  (Nd:ai5 w s.heap c dd ps N) (nk:(ps.map (·.1)).Nodup) (na:(ps.map (·.2)).Nodup) (hda:dd ∉ ps.map (·.2)) (hx:(x,a)∈ps) (hW:∀ b,Wx b->Y b) (hWa:Wx a) {m:aa3} (hrk:r.get ko=some (m,.int x)) (hro:eval U io r=some (.int o)) (hz:(N x).length < 1000)
  (e1:N' x=N x ++ [o]) (e2:∀ y,y≠x->N' y=N y) :
  wpAny (model prog w) A (PySem.exec (.Expr (.Call (.Attribute (.Subscript (.Name nd np) (.Name kx kp) sp) nm ap) [oe] [] cp) ep) env) (λ f s'=>f = .next/\cs5 w h0 B0 env sc Y Wx r B s r s'/\ai5 w s'.heap c dd ps N') E s:=by
 subst hnm
 obtain ⟨vs,n,hoa,hi⟩:=Nd.3 _ hx
 have hm:=Nd.2.mapOf
 obtain ⟨tk,hak⟩:=dy6 S hkx hrk
 refine wpAny_Expr (wpAny_Call_method rfl (bd6 (g7 hne rfl) (by show 1 < 20;decide)) hp F.plainAttrs_list slot_list_append type_list_append ?_) (aq2 ek) rfl
 refine Subscript_ ((dd0 ek hN hc Nd).load ek.kind hok (hak.load ek.kind (i9 hkx) ?_))
 refine ah8 (T:="dict") hm.typeIs slot_dict_getitem.lookup (wpAny_getItem_of (knd:=ik prog w) bs3 hm (ap8 nk hx) ?_)
 refine ⟨⟨_,hoa,rfl⟩,λ b q=>(by cases q;exact ⟨_,hoa,rfl⟩),?_⟩
 have S':Sim prog w h0 B0 env sc r B Y ({ s with toks:=s.toks+1 }:Shared).heap:=S
 refine callWith_method1 (au1 (.cons he .nil) (g7 hne rfl) (Sim.ok S' rm ek hb (Nat.lt_succ_of_lt ht) fa) (show (do let d <- eval U io r;some [d])=some [.int o] by rw [hro];rfl) λ us s2 B2 g2 m2 rr ok2=>?_) (d6 hne) rfl
 obtain ⟨u,us',rfl,⟨tu,_,rfl⟩,rr⟩:=rr
 obtain rfl:=rr
 have g2:Gr B s.heap B2 s2.heap:=g2
 have S2:=S.ev g2
 have Nd2:=Nd.up (λ b o ξ e=>g2.old b o e)
 have hoa2:=g2.old.solid hoa (.seq rfl)
 refine wpAny_list_append_plain ⟨n,hoa2⟩ (λ h6 hl6 hsb=>?_) (by rw [List.size_toArray,hi.length,sizeLine_eq];lia)
 obtain ⟨n6,ho6⟩:=hl6
 have hk:∀ b o,¬ b=a->s2.heap.get? b=some o->h6.get? b=some o:=λ b o q e=>(hsb.2 b q).trans e
 have hYa:=hW a hWa
 have hae:h6.get? a≠none:=by rw [ho6];nofun
 refine ⟨rfl,⟨B2,g2.le,S2.off (λ b o q e=>hk b o (λ q'=>q (q'▸hYa)) e) (λ b q=>?_),⟨m2.gens,m2.os,Nat.le_trans (Nat.le_succ _) m2.toks⟩,((S.nx_ev g2).wd S hW).off S2 (X:=λ b=>b=a) (λ b q=>q▸⟨hYa,.inr hWa⟩) (λ b q ξ=>q▸hae) hk,hn⟩,?_⟩
 ·by_cases q':b=a
  ·subst q';exact hae
  ·rw [hsb.2 b q'];exact (S2.y0 b q).2.2
 ·obtain ⟨⟨oc,hc1,hc2⟩,hd,hl⟩:=Nd2
  obtain ⟨od,ho,hio⟩:=Heap.dictOf_iff.mp hd
  have hca:¬ c=a:=by
   rintro rfl
   rw [hoa2] at hc1;cases hc1;cases hc2
  have hdda:¬ dd=a:=by
   rintro rfl
   exact hda (List.mem_map_of_mem (f:=(·.2)) hx)
  refine ⟨⟨oc,hk _ _ hca hc1,hc2⟩,Heap.dictOf_iff.mpr ⟨od,hk _ _ hdda ho,hio⟩,λ p hp=>?_⟩
  by_cases hpx:p.1=x
  ·have:p.2=a:=by
    have h1:=ap8 nk hp
    rw [hpx,ap8 nk hx] at h1
    cases h1;rfl
   rw [hpx,e1,this]
   exact ⟨vs ++ [.int o tu],n6,by rw [ho6];simp,ksk_snoc hi⟩
  ·rw [e2 _ hpx]
   refine (hl p hp).at λ o' e=>hk _ o' (λ q=>hpx ?_) e
   obtain ⟨i,hi1,hi2⟩:=List.mem_iff_getElem.mp hp
   obtain ⟨j,hj1,hj2⟩:=List.mem_iff_getElem.mp hx
   have:i=j:=by
    refine (List.getElem_inj (xs:=ps.map (·.2)) (h₀:=by simpa using hi1) (h₁:=by simpa using hj1) na).mp ?_
    rw [List.getElem_map,List.getElem_map,hi2,hj2]
    exact q
   subst this
   rw [hi2] at hj2
   rw [hj2]
end
end
section
open PySem.Calls PySem.SeqAt
noncomputable def at1 (o:Int) (lf ms:List Int) (N:Int->List Int):Int->List Int:=λ x=>if x∈ms/\x≠o/\x ∉ lf then N x ++ [o] else N x
theorem do3 (o:Int) (lf ms:List Int) (N:Int->List Int) (x:Int):(at1 o lf ms N x).length<=(N x).length+1:=by
 unfold at1;split
 ·simp
 ·exact Nat.le_succ _
noncomputable def ap4 (L:Int->List Int) (met:List Int) (qe:List Int) (N:Int->List Int):Int->List Int:=qe.foldl (λ N o=>at1 o (L o) met N) N
theorem bc9 (L:Int->List Int) (met:List Int) (x:Int):∀ (qe:List Int) (N:Int->List Int),(ap4 L met qe N x).length<=(N x).length+qe.length
 | [],N=>Nat.le_refl _
 | o :: qe,N=>by
  have h1:=bc9 L met x qe (at1 o (L o) met N)
  have h2:=do3 o (L o) met N x
  show (ap4 L met qe _ x).length<=_
  rw [List.length_cons]
  lia
theorem ct2 {L:Int->List Int} {met qe:List Int} {N:Int->List Int} {i:Nat} {o:Int} (h:qe[i]?=some o):ap4 L met (qe.take (i+1)) N=at1 o (L o) met (ap4 L met (qe.take i) N):=by
 unfold ap4
 rw [List.take_add_one,h,List.foldl_append];rfl
noncomputable def pI (o:Int) (lf:List Int) (r:Rho):Prop:=r.get 4=some (.fr,.int o)/\r.get 5=some (.fr,.list (lf.map .int))
noncomputable def Fin (o:Int) (lf:List Int) (d:D) (r:Rho):Option (Fl×Rho):=do cy2 (pI o lf) (<- ad9 r [3] d)
section
variable {w:World} {qa:Heap} {mg mb:Str->Option Value} {k:Nat} {U:String->List D->Option D} {qc:String->Bool} {sc:Scope}
variable {h0:Heap} {B0:FM} {env:Env} {A:Around} {E:Value->Shared->Prop} {r:Rho} {B:FM} {Y Wx:Addr->Prop} {s:Shared} {c dd:Addr} {ps:List (Int×Addr)}
structure as0 (Y:Addr->Prop) (env:Env) (sc:Scope) (nd:Str) (c dd:Addr) (ps:List (Int×Addr)) (Wx:Addr->Prop) (met:List Int):Prop where
 hN:sc.names.lookup nd=some .free
 hok:aj3 nd=true
 hc:env.cells.lookup nd=some c
 hco:¬ isOwn env sc c
 hps:ps.map (·.1)=met
 nd:met.Nodup
 na:(ps.map (·.2)).Nodup
 hda:dd ∉ ps.map (·.2)
 hW:∀ b,Wx b->Y b
 hWa:∀ p∈ps,Wx p.2
 hdd:Y dd
theorem as0.mono {Y':Addr->Prop} {nd:Str} {met:List Int} (x:as0 Y env sc nd c dd ps Wx met) (h:∀ b,Y b->Y' b):as0 Y' env sc nd c dd ps Wx met:=
 {x with hW:=λ b q=>h b (x.hW b q),hdd:=h _ x.hdd }
inductive aq4 (w:World) (c dd:Addr) (ps:List (Int×Addr)) (wr:List Addr) (h:Heap) (N:Int->List Int):Prop
 | mk (n:ai5 w h c dd ps N) (h1:∀ b,(b=c\/b=dd\/∃ p∈ps,p.2=b)->¬ b∈wr):aq4 w c dd ps wr h N
theorem eh4 {h:Heap} {N:Int->List Int} (x:ai5 w h c dd ps N) {b:Addr} (q:b=c\/b=dd\/∃ p∈ps,p.2=b):h.get? b≠none:=by
 rcases q with rfl | rfl | ⟨p,hp,rfl⟩
 ·obtain ⟨o,e,_⟩:=x.1;rw [e];nofun
 ·obtain ⟨o,e,_⟩:=Heap.dictOf_iff.mp x.2;rw [e];nofun
 ·exact (x.3 p hp).ne
theorem as0.own {nd:Str} {met:List Int} (x:as0 Y env sc nd c dd ps Wx met) (S:Sim prog w h0 B0 env sc r B Y s.heap) {b:Addr} (q:b=c\/b=dd\/∃ p∈ps,p.2=b):¬ isOwn env sc b:=by
 rcases q with rfl | rfl | ⟨p,hp,rfl⟩
 ·exact x.hco
 ·exact λ e=>S.yown _ e x.hdd
 ·exact λ e=>S.yown _ e (x.hW _ (x.hWa p hp))
theorem aq4.start {h:Heap} {N:Int->List Int} (x:ai5 w h c dd ps N) (wr:List Addr) (hw:∀ b∈wr,h.get? b=none):aq4 w c dd ps wr h N:=⟨x,λ b q p=>eh4 x q (hw b p)⟩
theorem aq4.up {nd:Str} {met:List Int} {wr:List Addr} {h h':Heap} {N:Int->List Int} (x:as0 Y env sc nd c dd ps Wx met) (S:Sim prog w h0 B0 env sc r B Y s.heap) (z:aq4 w c dd ps wr h N) (hk:∀ b o,¬ isOwn env sc b->¬ b∈wr->h.get? b=some o->Up o (h'.get? b)):aq4 w c dd ps wr h' N:=
 ⟨z.1.up λ b o q=>hk b o (x.own S q) (z.2 b q),z.2⟩
theorem cb1 {r rE:Rho} {i:Nat} {d:D} (h:r.get i=some (.fr,d)):ab8 r rE (.var i)=rE:=by
 show bg5 r rE i=rE
 unfold bg5;rw [h]
theorem dc7 {r:Rho} {i:Nat} {d:D} (h:r.get i=some (.fr,d)):ac1 r (.var i)=r:=by
 show bf2 r i=r
 unfold bf2;rw [h]
theorem cp4 {r:Rho} {i:Nat} {l:List D} (h:r.get i=some (.fr,.list l)):e9 U (.var i) (cl4 r (.var i))=some l:=by
 show (do let d <- (r.get i).map λ x:aa3×D=>x.2;ch5 d)=_
 rw [h];rfl
theorem cx1 {nd kx mx nm:Str} {oe tst:PySem.Expr} {ct:IR} {o:Int} {lf met:List Int} {N:Int->List Int} {rE:Rho} {np kp sp ap cp ep kp0 mp ip pos:Pos} (X:as0 Y env sc nd c dd ps Wx met)
  (hnm:nm="append") (hkx:j5 sc kx=some 3) (hmx:d8 sc mx=some 2) (hne:j9 oe=true) (he:j3 w qa k U sc oe (.var 4)) (hp:(ap.endLine == cp.line)=true) (hts:ai4 w qa k U sc tst ct)
  (htest:∀ r1 x,pI o lf r1->r1.get 3=some (.fr,.int x)->ab4 U ct r1=some (decide (x≠o/\x ∉ lf)))
  (rm:Rm k A) (ek:j6 env sc) (hb:∀ a o,qa.get? a=some o->B0 a=some o) (ht:0 < s.toks) (fa:FrA A env B0 h0) (hn:j7 sc r) (S:Sim prog w h0 B0 env sc r B Y s.heap)
  (Nd:ai5 w s.heap c dd ps N) (hz:∀ x,(N x).length < 1000) (hrm:r.get 2=some (.fr,.list (met.map .int))) (hloop:j8 (Fin o lf) (met.map .int) r=some (.next,rE)) :
  wpAny (model prog w) A (PySem.exec (.For (.Name kx kp0) (.Name mx mp) [.If tst [.Expr (.Call (.Attribute (.Subscript (.Name nd np) (.Name kx kp) sp) nm ap) [oe] [] cp) ep] [] ip] [] pos) env)
   (λ f s'=>f = .next/\cs5 w h0 B0 env sc Y Wx r B s rE s'/\ai5 w s'.heap c dd ps (at1 o lf met N)) E s:=by
 have hs3:=(f4 hkx).1
 refine wpAny_mono (dd6 (k:=k) (qa:=qa) (U:=U) (tgt:=[3]) (src:=.var 2) (f0:=cy2 (pI o lf)) (F:=Fin o lf) (Z:=λ wr i h=>aq4 w c dd ps wr h (at1 o lf (met.take i) N)) (Wx:=Wx) (z5.name hkx) rfl (i7 rfl (aa2 hmx)) rfl rm ek hb ht fa hn S (cp4 hrm) (by rw [dc7 hrm];exact hloop)
  (λ wr i h h' hk z=>z.up X S hk) (λ wr hw=>aq4.start (Nd.congr λ p ξ=>by simp [at1]) wr hw) X.hW λ E' r2 r1 B' s' Y' d i res wr hd hbp hYY ht' n3 S3 z3 hg=>?_) (λ f s' q=>?_) λ ξ ξ e=>e
 ·obtain ⟨hpi,rfl⟩:=be6 hg
  obtain ⟨hr3,_⟩:=bk7 hbp
  rw [List.getElem?_map] at hd
  obtain ⟨x,hx,rfl⟩:=u9 hd
  have X':=X.mono λ b q=>hYY b (.inl q)
  have hxm:=List.mem_of_getElem? hx
  have hxt:x ∉ met.take i:=λ q=>by
   obtain ⟨j,hj,e⟩:=List.mem_iff_getElem.mp q
   obtain ⟨hi,e2⟩:=List.getElem?_eq_some_iff.mp hx
   rw [List.length_take] at hj
   rw [List.getElem_take,<- e2] at e
   have:=(List.getElem_inj X.nd).mp e
   lia
  have step:∀ y,y≠x->at1 o lf (met.take (i+1)) N y=at1 o lf (met.take i) N y:=λ y hy=>by
   unfold at1
   rw [List.take_add_one,hx]
   simp [hy]
  have fin:∀ s'',cs5 w h0 B0 env sc Y' Wx r1 B' s' r1 s''/\ai5 w s''.heap c dd ps (at1 o lf (met.take (i+1)) N)->wpAny (model prog w) A (PySem.execs [] env) (λ f s''=>FlW w h0 B0 env sc Y' Wx r1 B' s' (.next,r1) f s''/\((f = .next->aq4 w c dd ps wr s''.heap (at1 o lf (met.take (i+1)) N))/\(f = .brk->aq4 w c dd ps wr s''.heap (at1 o lf (met.take (met.map PyData.int).length) N)))) E' s'':=
   λ s'' q=>wpAny_execs_nil ⟨q.1,λ ξ=>⟨q.2,z3.2⟩,nofun⟩
  refine wpAny_execs_cons (wpAny_If (wpAny_mono (hts (Sim.ok S3 rm ek hb ht' fa) (htest r1 x hpi hr3)) (λ v s1 q=>?_) λ ξ ξ e=>e))
  obtain ⟨rfl,B1,g,m⟩:=q
  have S4:=S3.ev g
  have N4:=(S3.nx_ev g).wd S3 X'.hW
  have ht1:=Nat.lt_of_lt_of_le ht' m.toks
  have z4:ai5 w s1.heap c dd ps (at1 o lf (met.take i) N):=z3.1.up λ b o ξ e=>g.old b o e
  have hA0:at1 o lf (met.take i) N x=N x:=if_neg λ q=>hxt q.1
  by_cases hc:x≠o/\x ∉ lf
  ·rw [if_pos (decide_eq_true hc)]
   obtain ⟨p,hpp,e⟩:=List.mem_map.mp (show x∈ps.map (·.1) by rw [X.hps];exact hxm)
   refine wpAny_execs_cons (wpAny_mono (co2 (N':=at1 o lf (met.take (i+1)) N) hnm X.hN X.hok hs3 hne he hp rm ek hb ht1 fa n3 S4 X.hc z4 (by rw [X.hps];exact X.nd) X.na X.hda (show (x,p.2)∈ps by rw [<- e];exact hpp) X'.hW (X.hWa p hpp) hr3 (show bw3 (r1.get 4)=_ by rw [hpi.1];rfl)
    (by rw [hA0];exact hz x) (by rw [hA0];exact if_pos ⟨by rw [List.take_add_one,hx];simp,hc⟩) step) (λ f s2 q=>?_) λ ξ ξ e=>e)
   obtain ⟨rfl,⟨B2,l2,S5,m2,N5,n5⟩,nd5⟩:=q
   exact wpAny_execs_nil (fin s2 ⟨⟨B2,g.le.trans l2,S5,m.trans m2,N4.trans N5,n5⟩,nd5⟩)
  ·rw [if_neg (by simpa using hc)]
   refine wpAny_execs_nil (fin s1 ⟨⟨B1,g.le,S4,m,N4,n3⟩,z4.congr λ p hp=>?_⟩)
   by_cases e:p.1=x
   ·unfold at1
    rw [e,if_neg (λ q=>hxt q.1),if_neg (λ q=>hc q.2)]
   ·exact (step _ e).symm
 ·obtain ⟨q,z⟩:=q
  rw [cb1 hrm] at q
  unfold FlW at q
  cases f <;> first | exact q.elim | skip
  obtain ⟨wr,z⟩:=z rfl
  rw [List.length_map,List.take_length] at z
  exact ⟨rfl,q,z.1⟩
noncomputable def ds5 (siL:SI) (U:Calls) (qc:String->Bool) (I:Rho->Prop) (L:Int->List Int) (met:List Int) (r:Rho):Out:=do
 let p0 <- cy2 I r
 let x <- p0.2.get 4
 let o <- ao2 x.2
 let p <- exec U qc siL r
 j8 (Fin o (L o)) (met.map .int) p.2
theorem df4 {siL:SI} {I:Rho->Prop} {L:Int->List Int} {met:List Int} {r1 r2:Rho} {o:Int} (hI:I r1) (h4:r1.get 4=some (.fr,.int o)) (he:exec U qc siL r1=some (.next,r2)):ds5 siL U qc I L met r1=j8 (Fin o (L o)) (met.map .int) r2:=by
 unfold ds5
 rw [bk9 hI]
 show (do let x <- r1.get 4;let o <- ao2 x.2;let p <- exec U qc siL r1;j8 (Fin o (L o)) (met.map .int) p.2)=_
 rw [h4]
 show (do let p <- exec U qc siL r1;j8 (Fin o (L o)) (met.map .int) p.2)=_
 rw [he]
 rfl
theorem cy6 {nd kx mx ox nm:Str} {oe tst it:PySem.Expr} {src ct:IR} {stL:Stmt} {siL:SI} {met qe:List Int} {L:Int->List Int} {N:Int->List Int} {I:Rho->Prop} {rE:Rho} {np kp sp ap cp ep kp0 mp ip pos pos2 op0:Pos} (X:as0 Y env sc nd c dd ps Wx met)
  (hnm:nm="append") (hkx:j5 sc kx=some 3) (hmx:d8 sc mx=some 2) (hox:j5 sc ox=some 4) (hne:j9 oe=true) (he:j3 w qa k U sc oe (.var 4)) (hp:(ap.endLine == cp.line)=true) (hts:ai4 w qa k U sc tst ct)
  (htest:∀ o∈qe,∀ r1 x,pI o (L o) r1->r1.get 3=some (.fr,.int x)->ab4 U ct r1=some (decide (x≠o/\x ∉ L o)))
  (hset:aa0 it=true) (hsrc:ad5 w qa k U sc it src (.Name ox op0)) (hsv:src.v=none) (qh:e9 U src (cl4 r src)=some (qe.map .int))
  (hL:ae9 prog w qa k U qc sc stL siL) (hLe:∀ o∈qe,∀ r1,I r1->r1.get 4=some (.fr,.int o)->exec U qc siL r1=some (.next,r1.set 5 (some (.fr,.list ((L o).map .int)))))
  (hI:∀ r1,I r1->5 < r1.length/\r1.get 2=some (.fr,.list (met.map .int)))
  (rm:Rm k A) (ek:j6 env sc) (hb:∀ a o,qa.get? a=some o->B0 a=some o) (ht:0 < s.toks) (fa:FrA A env B0 h0) (hn:j7 sc r) (S:Sim prog w h0 B0 env sc r B Y s.heap)
  (Nd:ai5 w s.heap c dd ps N) (hz:∀ x,(N x).length < 900) (ho:qe.length < 90) (hloop:j8 (λ d r=>do ds5 siL U qc I L met (<- ad9 r [4] d)) (qe.map .int) r=some (.next,rE)) :
  wpAny (model prog w) A (PySem.exec (.For (.Name ox op0) it [stL,.For (.Name kx kp0) (.Name mx mp) [.If tst [.Expr (.Call (.Attribute (.Subscript (.Name nd np) (.Name kx kp) sp) nm ap) [oe] [] cp) ep] [] ip] [] pos] [] pos2) env)
   (λ f s'=>f = .next/\cs5 w h0 B0 env sc Y Wx r B s rE s'/\ai5 w s'.heap c dd ps (ap4 L met qe N)) E s:=by
 have hlk:ac1 r src=r:=by unfold ac1;rw [hsv]
 refine wpAny_mono (dd6 (k:=k) (qa:=qa) (U:=U) (tgt:=[4]) (src:=src) (f0:=ds5 siL U qc I L met) (Z:=λ wr i h=>aq4 w c dd ps wr h (ap4 L met (qe.take i) N)) (Wx:=Wx) (z5.name hox) hset hsrc rfl rm ek hb ht fa hn S qh (by rw [hlk];exact hloop)
  (λ wr i h h' hk z=>z.up X S hk) (λ wr hw=>aq4.start Nd wr hw) X.hW λ E' r2 r1 B' s' Y' d i res wr hd hbp hYY ht' n3 S3 z3 hg=>?_) (λ f s' q=>?_) λ ξ ξ e=>e
 ·obtain ⟨hr4,_⟩:=bk7 hbp
  rw [List.getElem?_map] at hd
  obtain ⟨o,hio,rfl⟩:=u9 hd
  have hom:=List.mem_of_getElem? hio
  obtain ⟨p0,hp0,_⟩:=a6 hg
  have hI1:=(be6 hp0).1
  rw [df4 hI1 hr4 (hLe o hom r1 hI1 hr4)] at hg
  have X':=X.mono λ b q=>hYY b (.inl q)
  obtain ⟨hl5,hr2⟩:=hI r1 hI1
  refine wpAny_execs_cons (wpAny_mono (hL rm ek hb ht' fa n3 S3 (hLe o hom r1 hI1 hr4)) (λ f s1 q=>?_) λ ξ ξ e=>e)
  unfold FlP at q
  cases f <;> first | exact q.elim | skip
  obtain ⟨B1,l1,S4,m4,N4,n4⟩:=q
  have N4':=N4.wd S3 X'.hW
  have kp:∀ b ob,(b=c\/b=dd\/∃ p∈ps,p.2=b)->s'.heap.get? b=some ob->Up ob (s1.heap.get? b):=λ b ob q e=>N4.fr b ob e (X'.own S3 q) λ x j d q1 q2 q3=>by
   rcases q with rfl | q
   ·obtain ⟨_,h2⟩:=am4 S3 q1 q2 q3
    exact h2 nd _ X.hc rfl
   ·obtain ⟨v,a,_,_,n,_⟩:=S3.vars x j _ d q1 q2
    have hYb:Y' b:=by
     rcases q with rfl | ⟨p,hp,rfl⟩
     ·exact X'.hdd
     ·exact X'.hW _ (X'.hWa p hp)
    exact n b (.inr hYb) (a.unique q3)
  have z4:=z3.1.up kp
  obtain ⟨fl,rE1⟩:=res
  have hfl:fl = .next:=by
   have:∀ (l:List D) (r:Rho) (p:Fl×Rho),j8 (Fin o (L o)) l r=some p->p.1 = .next:=λ l=>by
    induction l with
    | nil=>intro r p h;cases h;rfl
    | cons d l ih=>
     intro r p h
     obtain ⟨p1,h1,h⟩:=a6 h
     obtain ⟨r3,_,h1⟩:=a6 h1
     obtain ⟨_,rfl⟩:=be6 h1
     exact ih _ _ h
   exact this _ _ _ hg
  subst hfl
  refine wpAny_execs_cons (wpAny_mono (cx1 (N:=ap4 L met (qe.take i) N) X' hnm hkx hmx hne he hp hts (htest o hom) rm ek hb (Nat.lt_of_lt_of_le ht' m4.toks) fa n4 S4 z4 (λ x=>?_) (by rw [g9,if_neg (λ q=>absurd q.1 (by decide))];exact hr2) hg) (λ f s2 q=>?_) λ ξ ξ e=>e)
  ·have h1:=bc9 L met x (qe.take i) N
   have h2:=hz x
   have h3:(qe.take i).length<=qe.length:=List.length_take_le' ..
   lia
  obtain ⟨rfl,⟨B2,l2,S5,m5,N5,n5⟩,nd5⟩:=q
  rw [<- ct2 hio] at nd5
  exact wpAny_execs_nil ⟨⟨B2,l1.trans l2,S5,m4.trans m5,N4'.trans N5,n5⟩,λ ξ=>⟨nd5,z3.2⟩,nofun⟩
 ·obtain ⟨q,z⟩:=q
  rw [show ab8 r rE src=rE by unfold ab8;rw [hsv]] at q
  unfold FlW at q
  cases f <;> first | exact q.elim | skip
  obtain ⟨wr,z⟩:=z rfl
  rw [List.length_map,List.take_length] at z
  exact ⟨rfl,q,z.1⟩
end
end
section
open PySem.Calls PySem.SeqAt
noncomputable def bz5:Scope:={ kind:=.function,names:=[("m",.local),("needed",.free),("len",.globalImplicit)],isGenerator:=false,isCoroutine:=false,more:=[] }
noncomputable def ec1 (ap:Pos):Arguments:={ posonlyargs:=[],args:=[{ arg:="m",annotation:=none,pos:=ap }],vararg:=none,kwonlyargs:=[],kw_defaults:=[],kwarg:=none,defaults:=[] }
noncomputable def ef8 (p1 p2 p3 p4 p5 p6 cp cp2 sp ifp:Pos) (kc:Nat):PySem.Expr:=.IfExp (.Compare (.Name "m" p1) [.In] [.Name "needed" p2] cp) (.Call (.Name "len" p3) [.Subscript (.Name "needed" p4) (.Name "m" p5) sp] [] cp2) (.Constant (.int 0) kc p6) ifp
inductive bf3 (av:Addr->Prop) (P:Addr) (pos:Pos) (qual:Str) (h:Heap):Prop
 | mk (ps:Array Value) (e:h.get? P=some (tabObj ps)) (ht:TriplesOk ps.toList) (hP:¬ av P) (hc:codeAmong pos ps.toList=none\/∃ c',codeAmong pos ps.toList=some (.ref c')/\¬ av c'/\h.CodeRec (.ref c') qual):bf3 av P pos qual h
theorem bf3.up {av:Addr->Prop} {P:Addr} {pos:Pos} {qual:Str} {h h':Heap} (x:bf3 av P pos qual h) (hk:∀ b o vs,¬ av b->h.get? b=some o->o.data = .fields vs->h'.get? b=some o):bf3 av P pos qual h':=by
 obtain ⟨ps,e,ht,hP,hc⟩:=x
 refine ⟨ps,hk P _ _ hP e rfl,ht,hP,hc.imp id λ ⟨c',q1,q0,c2,oc,vs,t,q2,q3,q4,q5⟩=>⟨c',q1,q0,c2,oc,vs,t,q2,hk c2 oc vs (by cases q2;exact q0) q3 q4,q4,q5⟩⟩
structure cw4 (qa:Heap) (mg:Str->Option Value) (c0 P:Addr):Prop where
 cd:CodeHd qa c0 P
 bm:qa.BuiltinsAt mg P
noncomputable def ab0 (met:List Int) (N:Int->List Int) (n:Int):Int:=if n∈met then ((N n).length:Int) else 0
section
variable {w:World} {qa:Heap} {mg mb:Str->Option Value} {A:Around} {E:Value->Shared->Prop} {s:Shared} {env:Env} {c dd c0 P:Addr} {ps:List (Int×Addr)}
inductive eu0 (av:Addr->Prop) (P:Addr) (pos:Pos) (c:Addr) (qual:Str) (params:Arguments) (body:PySem.Expr) (s:Shared) (v:Value) (s':Shared):Prop
 | mk (f c':Addr) (ctv pm:Value) (h':Heap) (tk:Nat) (e:v = .ref f) (es:s'={ s with heap:=h',toks:=tk }) (htk:s.toks<=tk) (hk:∀ b o,b≠P->s.heap.get? b=some o->h'.get? b=some o) (hn:s.heap.get? f=none) (hf:h'.get? f=some (kla_obj "<lambda>" qual params body bz5 [(("needed":Str),c)] pm c' ctv)) (hc:h'.CodeRec (.ref c') qual) (ht:bf3 av P pos qual h') (hfP:f≠P):eu0 av P pos c qual params body s v s'
theorem be5 {h:Heap} {cd:Value} {q:Str} (o:Obj) (x:h.CodeRec cd q):(h.push o).CodeRec cd q:=x.keeps λ b o' e=>Heap.get?_push_of_some o e
theorem dy5 {av:Addr->Prop} {pos:Pos} {params:Arguments} {body:PySem.Expr} (hd:defaultsOf params env=([],[])) (G:Glb qa mg mb) (L:cw4 qa mg c0 P) (old:∀ b o,qa.get? b=some o->s.heap.get? b=some o) (hg:env.globals=mainGlobals) (hcd:env.code = .ref c0) (hc:env.cells.lookup ("needed":Str)=some c)
  (ht:bf3 av P pos (env.qual ++ "<lambda>") s.heap) (hav:∀ b,av b->s.heap.get? b≠none) :
  wpAny (model prog w) A (PySem.eval (.Lambda params body bz5 pos) env) (eu0 av P pos c (env.qual ++ "<lambda>") params body s) E s:=by
 obtain ⟨psT,e,h3,hPa,hcs⟩:=ht
 have hcl:closureFor bz5 env=pure [(("needed":Str),c)]:=by
  rw [bx3 (λ x hx=>by
   have:x="needed":=by simpa [bz5] using hx
   subst this
   exact ⟨c,hc⟩)]
  show pure [(("needed":Str),(env.cells.lookup ("needed":Str)).getD 0)]=_
  rw [hc];rfl
 have hgs:=G.g.keeps old
 have C:=L.cd.keeps old
 have hgP:mainGlobals≠P:=λ q=>by
  obtain ⟨o,es,ep,e1,hd1,_⟩:=hgs
  rw [q,e] at e1;cases e1;cases hd1
 have hb:s.heap.BuiltinsAt mg P:=by
  obtain ⟨bm,ob,b1,b2,b3,b4,b5,b6⟩:=L.bm
  exact ⟨bm,ob,b1,b2,b3,b4,old _ _ b5,b6⟩
 refine wpAny_with_toks (n:=s.toks) (Nat.le_refl _) (kla_eval hd ?_)
 rcases hcs with hnf | ⟨c',hf,hca,hcr⟩
 ·refine kla_makeFunction (mg:=mg) hcl hg hgs hcd C e h3 hnf hgP hb λ c' ctv h' tk hx hge hlt hrec htb=>?_
  have hPn:h'.objs.size≠P:=λ q=>by
   have:=Heap.lt_size htb
   rw [<- q] at this;exact Nat.lt_irrefl _ this
  exact λ htk=>⟨_,c',ctv,_,_,tk,rfl,rfl,htk,λ b o q e1=>Heap.get?_push_of_some _ (hx b o q e1),g8 (Nat.le_trans hge (Nat.le_of_lt hlt)),Heap.get?_push_size _ rfl,be5 _ hrec,
   ⟨_,Heap.get?_push_of_some _ htb,by simpa using TriplesOk_snoc pos.line pos.col (.ref c') _ h3,hPa,.inr ⟨c',by simpa using codeAmong_snoc _ h3 hnf,λ q=>hav c' q (g8 hge),be5 _ hrec⟩⟩,hPn⟩
 ·refine kla_makeFunctionHit (mg:=mg) hcl hg hgs hcd C e h3 hf hb λ ctv h' tk hk hsz=>?_
  have hPn:h'.objs.size≠P:=λ q=>by
   have:=Heap.lt_size (hk _ _ e)
   rw [<- q] at this;exact Nat.lt_irrefl _ this
  exact λ htk=>⟨_,c',ctv,_,_,tk,rfl,rfl,htk,λ b o q e1=>Heap.get?_push_of_some _ (hk b o e1),g8 hsz,Heap.get?_push_size _ rfl,be5 _ (hcr.keeps hk),
   ⟨psT,Heap.get?_push_of_some _ (hk _ _ e),h3,hPa,.inr ⟨c',hf,hca,be5 _ (hcr.keeps hk)⟩⟩,hPn⟩
theorem bw9 {n:Int} (h:n∈ps.map (·.1)) (nk:(ps.map (·.1)).Nodup):∃ a,(n,a)∈ps/\valueAt (aj8 ps) n=some (.ref a):=by
 obtain ⟨p,hp,rfl⟩:=List.mem_map.mp h
 exact ⟨p.2,hp,ap8 nk hp⟩
inductive eh8 (s:Shared) (k:Int) (v:Value) (s':Shared):Prop
 | mk (h':Heap) (tk t:Nat) (e:s'={ s with heap:=h',toks:=tk }) (ev:v = .int k t) (hk:∀ b o,s.heap.get? b=some o->h'.get? b=some o):eh8 s k v s'
theorem dv3 {p1 p2 p3 p4 p5 p6 cp cp2 sp ifp ap:Pos} {kc:Nat} {qual:Str} {f c':Addr} {ctv pm:Value} {N:Int->List Int} {n:Int} {t:Tok} {met:List Int} (G:Glb qa mg mb) (old:∀ b o,qa.get? b=some o->s.heap.get? b=some o) (hd:A.depth < 900)
  (hf:s.heap.get? f=some (kla_obj "<lambda>" qual (ec1 ap) (ef8 p1 p2 p3 p4 p5 p6 cp cp2 sp ifp kc) bz5 [(("needed":Str),c)] pm c' ctv)) (hc:s.heap.CodeRec (.ref c') qual) (Nd:ai5 w s.heap c dd ps N) (hps:ps.map (·.1)=met) (nd:met.Nodup) (hdd:dd≠sysModules) (qf:∀ x,(N x).length < 1000) :
  wpAny (model prog w) A (call (.ref f) [.int n t]) (eh8 s (ab0 met N n)) E s:=by
 have hm:=Nd.2.mapOf
 refine wpAny_call (kla_callFunE (Nat.lt_of_lt_of_le hd (by decide)) hf rfl rfl rfl rfl hc ?_)
 have hbind:bindArgs (kla_fn "<lambda>" qual (ec1 ap) (ef8 p1 p2 p3 p4 p5 p6 cp cp2 sp ifp kc) bz5 [(("needed":Str),c)] pm (.ref c') ctv) ⟨[.int n t],[]⟩=pure [(("m":Str),.int n t)]:=⋯
 rw [hbind]
 refine wpAny_pure (wpAny_newFunctionEnv (show ∀ x∈bz5.names,x.2≠NameKind.cell by decide) (λ x hx=>by rw [List.mem_singleton.mp hx];rfl) (λ h₁ hns hsb=>?_) rfl)
 have hk₁:∀ b o,s.heap.get? b=some o->h₁.get? b=some o:=λ b o e=>hsb.extBut b o (Nat.ne_of_lt (Heap.lt_size e)) (Heap.get?_push_of_some _ e)
 refine ⟨(G.nolimit.keeps λ a o e=>hk₁ a o (old a o e)),?_⟩
 have Nd1:ai5 w h₁ c dd ps N:=Nd.up λ b o ξ e=>.inl (hk₁ b o e)
 generalize henv:newEnv bz5 s.heap.objs.size mainGlobals [(("needed":Str),c)] (qual ++ ".<locals>.") (some f) (.ref c') none builtinsNs=env
 have ekind:env.scope.kind = .function:=by rw [<- henv];rfl
 have am:At env h₁ "m" (.int n t):=.loc _ (by rw [<- henv];rfl) (by rw [<- henv];exact hns) rfl
 have an:At env h₁ "needed" (.ref dd):=.cell c (.inr (by rw [<- henv];rfl)) (by rw [<- henv];rfl) Nd1.1
 have hm1:=Nd1.2.mapOf
 refine kla_codeExpr (wpAny_IfExp (wpAny_isTrue_Compare1 (am.load ekind rfl (an.load ekind rfl (wpAny_in_of (knd:=ik prog w) bs3 (beq_eq_false_iff_ne.mpr hdd) hm1 (wpAny_truthy_bool ?_)))) rfl))
 by_cases hx:n∈met
 ·obtain ⟨a,hp,hv⟩:=bw9 (by rw [hps];exact hx) (by rw [hps];exact nd)
  rw [hv]
  show wpAny _ _ (PySem.eval (.Call (.Name "len" p3) [.Subscript (.Name "needed" p4) (.Name "m" p5) sp] [] cp2) env) _ _ _
  obtain ⟨vs,nn,hoa,hi⟩:=Nd1.3 _ hp
  obtain ⟨g1,g2⟩:=G.b' (v:=(.builtin "len")) ⋯
  refine Call_ (Name_function_global ekind (by rw [<- henv];rfl) (loadGlobal_builtin (by rw [<- henv];exact G.g.keeps λ b o e=>hk₁ b o (old b o e)) g1 (by rw [<- henv];exact G.b.keeps λ b o e=>hk₁ b o (old b o e)) g2 ?_) rfl)
  refine callWith_builtin1 (spliced_cons (Subscript_ (an.load ekind rfl (am.load ekind rfl (ah8 (T:="dict") hm1.typeIs slot_dict_getitem.lookup (wpAny_getItem_of (knd:=ik prog w) bs3 hm1 hv (spliced_nil ?_))))))) rfl rfl
  have hl:h₁.IsList a vs.toArray:=⟨_,hoa,rfl,nn,rfl⟩
  refine call_len_list hl (by rw [List.size_toArray,hi.length];have:=qf n;lia) ?_
  have e:ab0 met N n=(vs.toArray.size:Int):=by
   unfold ab0
   rw [if_pos hx,List.size_toArray,hi.length]
  rw [e]
  exact ⟨h₁,_,_,rfl,rfl,hk₁⟩
 ·rw [cx5 (by rw [hps];exact hx)]
  show wpAny _ _ (PySem.eval (.Constant (.int 0) kc p6) env) _ _ _
  unfold ab0
  rw [if_neg hx]
  exact λ _ _ _=>⟨h₁,_,_,rfl,rfl,hk₁⟩
end
end
section
open PySem.Calls PySem.SeqAt
noncomputable def ae0 (g h:Heap):Prop:=∀ b o,g.get? b=some o->h.get? b=some o
theorem ae0.upd {g h:Heap} {a:Addr} {f:Obj->Obj} (k:ae0 g h) (ha:g.get? a=none):ae0 g (h.update a f):=λ b o e=>
 ((Heap.SameBut.update h a f).2 b (λ q=>by rw [q,ha] at e;cases e)).trans (k b o e)
theorem ae0.push {g h:Heap} (k:ae0 g h) (o:Obj):ae0 g (h.push o):=λ b x e=>Heap.get?_push_of_some _ (k b x e)
section
variable {w:World} {A:Around} {E:Value->Shared->Prop} {s:Shared} {g:Heap} {a kS:Addr} {vs:List Value} {kz:List Int} {e1:Nat} {P:PySem.Fin->Shared->Prop}
theorem cq6 {st:SortSt} {keys:Array Value} {e:Nat} (K:ae0 g s.heap) (nk:s.heap.get? kS=some (seqObj "list" keys e)) (na:s.heap.get? a=some (seqObj "list" #[] e1)) (hka:kS≠a) (gk:g.get? kS=none) (ga:g.get? a=none)
  (hk:IntsAre keys.toList kz) (qf:kz.length=vs.length) (h64:vs.length < 64) (hp:(arrOf st).Perm (keys.zip vs.toArray)) (hs:SortedTo (arrOf st) (arrOf st).size) (hfl:failedOf st=none)
  (h:∀ h' tk out c,ae0 g h'->h'.get? a=some (seqObj "list" out c)->KskOut false kz vs out.toList->P (.done (.ret .none)) { s with heap:=h',toks:=tk }) :
  wpAny (model prog w) A (ksk_tail a false e1 (.ref kS) st) P E s:=by
 have hsz:keys.size=vs.length:=by rw [<- qf,<- hk.length,Array.length_toList]
 have hsz2:((arrOf st).map (·.2)).size=vs.length:=by rw [Array.size_map,hp.size_eq,Array.size_zip,hsz,List.size_toArray,Nat.min_self]
 have na1:(s.heap.update kS (Obj.mapSeq λ ξ=>(#[]:Array Value))).get? a=some (seqObj "list" #[] e1):=((Heap.SameBut.update s.heap kS _).2 a hka.symm).trans na
 have l64:vs.length<=sizeLine:=by rw [sizeLine_eq];lia
 unfold ksk_tail
 refine wpAny_bind (listUpdate_at nk rfl ?_ (by rw [hsz];exact l64) (Nat.zero_le _))
 refine wpAny_bind (wpAny_letGo (wpAny_bind (seqEpoch_at na1 rfl ?_)))
 refine wpAny_bind (listUpdate_at na1 rfl ?_ (Nat.zero_le _) (by simp only [Bool.false_eq_true,if_false];rw [hsz2];exact Nat.le_succ_of_le l64))
 rw [hfl]
 simp only [bne_self_eq_false,Bool.false_eq_true,if_false]
 exact wpAny_pure (h _ _ _ _ ((K.upd gk).upd ga) (get?_update_seq na1 λ ξ=>(arrOf st).map (·.2)) (ksk_out (b:=false) hk hp hs))
theorem ef3 {keys:Array Value} {e:Nat} (K:ae0 g s.heap) (nk:s.heap.get? kS=some (seqObj "list" keys e)) (na:s.heap.get? a=some (seqObj "list" #[] e1)) (hka:kS≠a) (gk:g.get? kS=none) (ga:g.get? a=none)
  (hk:IntsAre keys.toList kz) (qf:kz.length=vs.length) (h64:vs.length < 64)
  (h:∀ h' tk out c,ae0 g h'->h'.get? a=some (seqObj "list" out c)->KskOut false kz vs out.toList->P (.done (.ret .none)) { s with heap:=h',toks:=tk }) :
  wpAny (model prog w) A (ksk_end a false vs.toArray e1 (.ref kS) keys) P E s:=by
 have hsz:keys.size=vs.length:=by rw [<- qf,<- hk.length,Array.length_toList]
 have hzs:(keys.zip vs.toArray).size=vs.length:=by rw [Array.size_zip,hsz,List.size_toArray,Nat.min_self]
 unfold ksk_end
 simp only [Bool.false_eq_true,if_false,List.size_toArray]
 by_cases h2:vs.length < 2
 ·rw [if_pos h2,if_pos h2]
  refine wpAny_bind (wpAny_pure ?_)
  rw [StateT.run_pure]
  refine wpAny_bind (wpAny_pure ?_)
  refine cq6 (st:=SortSt.mk' general' (keys.zip vs.toArray) #[] 7 none) K nk na hka gk ga hk qf h64 (Array.Perm.refl _) ?_ rfl h
  intro i j hij hj
  have hj2:j < (keys.zip vs.toArray).size:=hj
  rw [hzs] at hj2
  obtain rfl:i=j:=by lia
  exact Int.le_refl _
 ·rw [if_neg h2,if_neg h2,ksk_kind hk (by rw [hsz];lia)]
  refine wpAny_bind (wpAny_pure ?_)
  refine wpAny_bind (wpAny_mono (wpS_sortRuns (a₀:=keys.zip vs.toArray) (st:=SortSt.mk' oneType' (keys.zip vs.toArray) #[] 7 none)
   (Q:=λ _ st'=>(arrOf st').Perm (keys.zip vs.toArray)/\failedOf st'=none/\SortedTo (arrOf st') (keys.zip vs.toArray).size)
   (ksk_intKeys hk) ⟨Array.Perm.refl _,rfl,rfl,rfl⟩ (by rw [hzs];lia) (by rw [hzs];exact h64) λ st' a1 a2 a3=>⟨a1,a2,a3⟩) ?_ λ ξ ξ e=>e)
  rintro ⟨⟨⟩,st'⟩ s' ⟨rfl,hp,hf,hs⟩
  exact cq6 K nk na hka gk ga hk qf h64 hp (by rw [hp.size_eq];exact hs) hf h
inductive et4 (g:Heap) (a kS:Addr) (e1:Nat) (kz:List Int) (s:Shared) (i:Nat) (s':Shared):Prop
 | mk (h':Heap) (tk:Nat) (kA:Array Value) (e:Nat) (q:s'={ s with heap:=h',toks:=tk }) (K:ae0 g h') (nk:h'.get? kS=some (seqObj "list" kA e)) (na:h'.get? a=some (seqObj "list" #[] e1)) (hi:IntsAre kA.toList (kz.take i)):et4 g a kS e1 kz s i s'
theorem dr1 {f:Value} (K:ae0 g s.heap) (nk:s.heap.get? kS=some (seqObj "list" #[] 0)) (na:s.heap.get? a=some (seqObj "list" #[] e1)) (hka:kS≠a) (gk:g.get? kS=none) (ga:g.get? a=none) (qf:kz.length=vs.length) (h64:vs.length < 64)
  (turn:∀ (i:Nat) (v:Value) (k:Int),vs[i]?=some v->kz[i]?=some k->∀ (h:Heap) (tk:Nat),ae0 g h->wpAny (model prog w) A (call f [v]) (eh8 { s with heap:=h,toks:=tk } k) (λ ξ ξ=>False) { s with heap:=h,toks:=tk })
  (h:∀ h' tk out c,ae0 g h'->h'.get? a=some (seqObj "list" out c)->KskOut false kz vs out.toList->P (.done (.ret .none)) { s with heap:=h',toks:=tk }) :
  wpAny (model prog w) A (ksk_rest a f false vs.toArray e1 (.ref kS)) P E s:=by
 unfold ksk_rest
 refine wpAny_bind (wpAny_rule ?_)
 first
  | rw [List.forIn_toArray]
  | (rw [<- Array.forIn_toList];simp only [List.toList_toArray])
  | rw [<- Array.forIn_toList]
 refine wpAny_bind (ksk_fold (et4 g a kS e1 kz s) vs 0 s ⟨s.heap,s.toks,#[],0,rfl,K,nk,na,by simpa using IntsAre.nil⟩ ?step ?done)
 case step=>
  rintro j x s' hx ⟨h',tk,kA,e,rfl,K',nk',na',hk⟩
  simp only [Nat.zero_add] at hk⊢
  have hj:j < vs.length:=(List.getElem?_eq_some_iff.mp hx).1
  obtain ⟨k,hkj⟩:∃ k,kz[j]?=some k:=⟨_,List.getElem?_eq_getElem (by lia)⟩
  have hz:kA.size<=vs.length:=by
   have h1:=hk.length
   rw [Array.length_toList,List.length_take] at h1
   lia
  refine wpAny_bind (wpAny_attempt (wpAny_mono (turn j x k hx hkj h' tk K') (λ v s'' he=>?_) λ ξ ξ hF=>hF.elim))
  obtain ⟨h2,tk2,t2,rfl,rfl,hk2⟩:=he
  try dsimp only
  refine wpAny_bind (listUpdate_at (hk2 _ _ nk') rfl ?_ (by rw [sizeLine_eq];lia) (Nat.le_trans (Nat.le_of_eq (Array.size_push ..)) (by rw [sizeLine_eq];lia)))
  refine wpAny_pure ⟨rfl,⟨_,_,kA.push (.int k t2),_,rfl,ae0.upd (λ b o e=>hk2 b o (K' b o e)) gk,get?_update_seq (hk2 _ _ nk') (·.push (.int k t2)),((Heap.SameBut.update h2 kS _).2 a hka.symm).trans (hk2 _ _ na'),?_⟩⟩
  rw [List.take_add_one,hkj,Array.toList_push]
  exact ksk_snoc hk
 case done=>
  rintro s' ⟨h',tk,kA,e,rfl,K',nk',na',hk⟩
  have e3:kz.take (0+vs.length)=kz:=List.take_of_length_le (by lia)
  rw [e3] at hk
  refine wpAny_bind (listItems_at nk' rfl ?_)
  exact ef3 K' nk' na' hka gk ga hk qf h64 h
end
section
variable {w:World} {A:Around} {E:Value->Shared->Prop} {s:Shared} {l f:Addr} {vs:List Value} {kz:List Int} {Q:Value->Shared->Prop}
theorem cv0 (hl:s.heap.IsList l vs.toArray) (qf:kz.length=vs.length) (h64:vs.length < 64)
  (turn:∀ (i:Nat) (v:Value) (k:Int),vs[i]?=some v->kz[i]?=some k->∀ (h:Heap) (tk:Nat),ae0 s.heap h->wpAny (model prog w) A.in1.in1 (call (.ref f) [v]) (eh8 { s with heap:=h,toks:=tk } k) (λ ξ ξ=>False) { s with heap:=h,toks:=tk })
  (h:∀ D h' tk out c,ae0 s.heap h'->s.heap.get? D=none->h'.get? D=some (seqObj "list" out c)->KskOut false kz vs out.toList->Q (.ref D) { s with heap:=h',toks:=tk }) :
  wpAny (model prog w) A (call (.builtin "sorted") [.ref l] [(Str.ofString "key",.ref f)]) Q E s:=by
 have l64:vs.length<=sizeLine:=by rw [sizeLine_eq];lia
 refine call_function_entry_kw kind_sorted plain_sorted entry_sorted (ksk_s1 _ _) ?_
 unfold Builtin.«sorted»
 refine wpAny_bind (m:=checkCount "sorted" 1 1 _) (wpAny_pure ?_)
 refine wpAny_bind (collect_list hl ?_ l64)
 refine wpAny_bind (wpAny_newList ?_ l64)
 have n0:s.heap.get? s.heap.objs.size=none:=g8 (Nat.le_refl _)
 generalize hH:(s.heap.push (seqObj "list" #[] 0)).update s.heap.objs.size (Obj.mapSeq (· ++ vs.toArray))=H
 have hsz:H.objs.size=s.heap.objs.size+1:=by rw [<- hH,Heap.size_update,size_push']
 have K0:ae0 s.heap H:=by rw [<- hH];exact ae0.upd (ae0.push (λ ξ ξ e=>e) _) n0
 have gD:s.heap.get? H.objs.size=none:=g8 (by rw [hsz];exact Nat.le_succ _)
 show wpAny _ _ _ _ _ { s with heap:=H.push (seqObj "list" vs.toArray 0) }
 have hoL:(H.push (seqObj "list" vs.toArray 0)).get? H.objs.size=some (seqObj "list" vs.toArray 0):=Heap.get?_push_size _ rfl
 have K1:ae0 s.heap (H.push (seqObj "list" vs.toArray 0)):=K0.push _
 refine wpAny_bind (wpAny_holding (wpAny_call_entry_kw slot_list_sort ⟨_,hoL,rfl⟩ entry_list_sort ?body (ksk_l1 _ _)))
 case body=>
  show wpAny (model prog w) A.in1.in1 (Builtin.«list.sort» ⟨[.ref H.objs.size],[(Str.ofString "key",.ref f)]⟩) _ _ _
  rw [ksk_t1]
  generalize hG:H.push (seqObj "list" vs.toArray 0)=G1 at hoL K1⊢
  obtain ⟨e1,ho1⟩:∃ e1,(G1.update H.objs.size (Obj.mapSeq λ ξ=>(#[]:Array Value))).get? H.objs.size=some (seqObj "list" #[] e1):=⟨_,get?_update_seq hoL λ ξ=>#[]⟩
  have hlt:H.objs.size < G1.objs.size:=by rw [<- hG,size_push'];exact Nat.lt_succ_self _
  have K2:ae0 s.heap (G1.update H.objs.size (Obj.mapSeq λ ξ=>(#[]:Array Value))):=K1.upd gD
  unfold ksk_tree
  refine wpAny_bind (listItems_at hoL rfl ?_)
  refine wpAny_bind (listUpdate_at hoL rfl ?_ (by rw [List.size_toArray];exact l64) (Nat.zero_le _))
  refine wpAny_bind (seqEpoch_at ho1 rfl ?_)
  refine wpAny_bind (wpAny_newTuple ?_ (by show vs.length<=_;exact l64))
  refine wpAny_bind (wpAny_newList ?_ (Nat.zero_le _))
  generalize hT:(G1.update H.objs.size (Obj.mapSeq λ ξ=>(#[]:Array Value))).push { cls:=.type "tuple",data:=.seq (vs.toArray.toList).toArray }=T
  have hTz:T.objs.size=G1.objs.size+1:=by rw [<- hT,size_push',Heap.size_update]
  have K3:ae0 s.heap T:=by rw [<- hT];exact K2.push _
  have ho3:T.get? H.objs.size=some (seqObj "list" #[] e1):=by rw [<- hT];exact Heap.get?_push_of_some _ ho1
  have hT0:s.heap.get? T.objs.size=none:=g8 (by rw [hTz];lia)
  refine wpAny_holding (dr1 (s:={ s with heap:=T.push { cls:=.type "list",data:=.seq ([]:List Value).toArray } }) (g:=s.heap) (K3.push _) (Heap.get?_push_size _ rfl) (Heap.get?_push_of_some _ ho3) (by rw [hTz];lia) hT0 gD qf h64 turn λ h' tk out c K' ho' k'=>⟨_,rfl,?_⟩)
  exact wpAny_pure ⟨_,rfl,h _ h' tk out c K' gD ho' k'⟩
end
end
section
open PySem.Calls PySem.SeqAt
noncomputable def w6 (met:List Int) (N:Int->List Int) (x:Int):List Int:=(N x).mergeSort λ a b=>decide (ab0 met N a<=ab0 met N b)
theorem eg6 {α:Type} {R S:α->α->Prop} {l:List α} (h:l.Pairwise R) (k:∀ a b,R a b->S a b):l.Pairwise S:=h.imp λ {a b}=>k a b
theorem bs2 {met:List Int} {N:Int->List Int} {x:Int} {l:List Int} (hinj:∀ a∈N x,∀ b∈N x,ab0 met N a=ab0 met N b->a=b) (hp:l.Perm (N x)) (hs:l.Pairwise λ a b=>ab0 met N a<=ab0 met N b):l=w6 met N x:=by
 have hc:(w6 met N x).Perm (N x):=List.mergeSort_perm _ _
 have hcs:(w6 met N x).Pairwise λ a b=>ab0 met N a<=ab0 met N b:=by
  refine eg6 (List.pairwise_mergeSort (le:=λ a b=>decide (ab0 met N a<=ab0 met N b)) (λ a b c h1 h2=>?_) (λ a b=>?_) (N x)) λ a b q=>of_decide_eq_true q
  ·exact decide_eq_true (Int.le_trans (of_decide_eq_true h1) (of_decide_eq_true h2))
  ·rcases Int.le_total (ab0 met N a) (ab0 met N b) with q | q
   ·rw [decide_eq_true q];rfl
   ·rw [decide_eq_true q,Bool.or_true]
 refine List.Perm.eq_of_pairwise (le:=λ a b=>ab0 met N a<=ab0 met N b) (λ a b ha hb h1 h2=>hinj a (hp.mem_iff.mp ha) b (hc.mem_iff.mp hb) (Int.le_antisymm h1 h2)) hs hcs (hp.trans hc.symm)
theorem di8 {met:List Int} {N:Int->List Int} {x:Int} {vs out:List Value} (hinj:∀ a∈N x,∀ b∈N x,ab0 met N a=ab0 met N b->a=b) (hi:IntsAre vs (N x)) (ko:KskOut false ((N x).map (ab0 met N)) vs out):IntsAre out (w6 met N x):=by
 obtain ⟨ps,hp,ho,hs⟩:=ko
 have hrel:∀ p,p∈((N x).map (ab0 met N)).zip vs->p.1=ab0 met N (numOf p.2)/\p.2∈vs:=by
  rw [<- hi.nums,List.map_map,List.zip_map_left]
  intro p hp
  obtain ⟨⟨u,v⟩,hq,rfl⟩:=List.mem_map.mp hp
  have h1:u=v/\u∈vs:=mem_zip_self hq
  refine ⟨?_,?_⟩
  ·show ab0 met _ (numOf u)=ab0 met _ (numOf v)
   rw [h1.1]
  ·show v∈vs
   rw [<- h1.1];exact h1.2
 have hI:IntsAre (ps.map Prod.snd) ((ps.map Prod.snd).map numOf):=intsAre_map _ λ v hv=>by
  obtain ⟨p,hp',rfl⟩:=List.mem_map.mp hv
  exact hi.all _ (hrel p (hp.mem_iff.mp hp')).2
 have hP:((ps.map Prod.snd).map numOf).Perm (N x):=by
  have h1:=(hp.map Prod.snd).map numOf
  rw [List.map_snd_zip (by rw [List.length_map,hi.length];exact Nat.le_refl _),hi.nums] at h1
  exact h1
 have hO:((ps.map Prod.snd).map numOf).Pairwise λ a b=>ab0 met N a<=ab0 met N b:=by
  rw [List.pairwise_map,List.pairwise_map]
  refine hs.imp_of_mem λ {p q} hp' hq' hr=>?_
  have hr':p.1<=q.1:=hr
  rw [(hrel p (hp.mem_iff.mp hp')).1,(hrel q (hp.mem_iff.mp hq')).1] at hr'
  exact hr'
 rw [<- ho] at hI hP hO
 rw [<- bs2 hinj hP hO]
 exact hI
theorem cm5 {w:World} {B:FM}:∀ {vs:List Value} {ns:List Int},IntsAre vs ns->RdL prog w B (ns.map .int) vs
 | _,_,.nil=>RdL.nil
 | _,_,.cons n t h=>RdL.cons ⟨t,trivial,rfl⟩ (cm5 h)
section
variable {w:World} {qa:Heap} {mg mb:Str->Option Value} {k:Nat} {U:String->List D->Option D} {qc:String->Bool} {sc:Scope}
variable {h0:Heap} {B0:FM} {env:Env} {A:Around} {E:Value->Shared->Prop} {r:Rho} {B:FM} {Y Wx:Addr->Prop} {s:Shared} {c dd c0 P:Addr} {ps:List (Int×Addr)}
theorem ao1 (S:Sim prog w h0 B0 env sc r B Y s.heap) {b:Addr} {o:Obj} {vs:Array Value} (e:s.heap.get? b=some o) (hd:o.data = .fields vs):¬ isOwn env sc b:=by
 rintro (rfl | ⟨x,q1,q2⟩)
 ·obtain ⟨m,o',es,ep,e',hd',_⟩:=S.fm.ns
  rw [e] at e';cases e';rw [hd] at hd';cases hd'
 ·obtain ⟨v,o',e',hd'⟩:=S.fm.cellE x b q2
  rw [e] at e';cases e';rw [hd] at hd';cases hd'
noncomputable def dw3 (p0 np kp sp kwp ap p1 p2 p3 p4 p5 p6 cp cp2 sp2 ifp lpos pos:Pos) (kc:Nat) (kx:Str):PySem.Expr:=
 .Call (.Name "sorted" p0) [.Subscript (.Name "needed" np) (.Name kx kp) sp] [{ arg:=some "key",value:=.Lambda (ec1 ap) (ef8 p1 p2 p3 p4 p5 p6 cp cp2 sp2 ifp kc) bz5 lpos,pos:=kwp }] pos
theorem ch2 {p0 np kp sp kwp ap p1 p2 p3 p4 p5 p6 cp cp2 sp2 ifp lpos pos cpp spos:Pos} {kc:Nat} {kx cx:Str} {x:Int} {met:List Int} {N:Int->List Int} {m:aa3} {av:Addr->Prop} (X:as0 Y env sc "needed" c dd ps Wx met) (hkx:d8 sc kx=some 3) (hcx:j5 sc cx=some 7) (hgs:i5 sc "sorted"=true) (G:Glb qa mg mb) (L:cw4 qa mg c0 P) (hcd:env.code = .ref c0)
  (hP0:qa.get? P=none) (hWP:Wx P) (hdd:dd≠sysModules)
  (rm:Rm (k+1) A) (ek:j6 env sc) (hb:∀ a o,qa.get? a=some o->B0 a=some o) (ht:0 < s.toks) (fa:FrA A env B0 h0) (hn:j7 sc r) (S:Sim prog w h0 B0 env sc r B Y s.heap)
  (Nd:ai5 w s.heap c dd ps N) (hT:bf3 av P lpos (env.qual ++ "<lambda>") s.heap) (hav:∀ b,av b->s.heap.get? b≠none) (hx:x∈met) (hr3:r.get 3=some (m,.int x)) (h7:7 < r.length) (hf7:∀ d',r.get 7≠some (.lock,d')) (qf:∀ x,(N x).length < 60) (hinj:∀ a∈N x,∀ b∈N x,ab0 met N a=ab0 met N b->a=b) :
  wpAny (model prog w) A (PySem.exec (.Assign [.Name cx cpp] (dw3 p0 np kp sp kwp ap p1 p2 p3 p4 p5 p6 cp cp2 sp2 ifp lpos pos kc kx) spos) env)
   (λ f s'=>f = .next/\cs5 w h0 B0 env sc Y Wx r B s (r.set 7 (some (.fr,.list ((w6 met N x).map .int)))) s'/\ai5 w s'.heap c dd ps N/\bf3 av P lpos (env.qual ++ "<lambda>") s'.heap) E s:=by
 have ok:=Sim.ok S rm ek hb ht fa
 have hps:=X.hps
 obtain ⟨a,hpa,hva⟩:=bw9 (ps:=ps) (by rw [hps];exact hx) (by rw [hps];exact X.nd)
 obtain ⟨vs,n,hoa,hi⟩:=Nd.3 _ hpa
 have hi:IntsAre vs (N x):=hi
 have hm:=Nd.2.mapOf
 obtain ⟨tk,hak⟩:=dy6 S hkx hr3
 obtain ⟨psT,hPo,hT3,_,hTc⟩:=id hT
 have haP:a≠P:=by
  rintro rfl
  rw [show s.heap.get? a=_ from hoa] at hPo;cases hPo
 have old:∀ b o,qa.get? b=some o->s.heap.get? b=some o:=ok.old
 refine ak6 rfl ?_
 show wpAny _ _ (do callWith pos (<- PySem.eval (.Name "sorted" p0) env) [] (backTo pos (starEach [.Subscript (.Name "needed" np) (.Name kx kp) sp] env)) (backToKw pos (keywordEach [{ arg:=some "key",value:=.Lambda (ec1 ap) (ef8 p1 p2 p3 p4 p5 p6 cp cp2 sp2 ifp kc) bz5 lpos,pos:=kwp }] env))) _ _ s
 refine wpAny_bind (w9 G ok hgs (G.b' (v:=(.builtin "sorted")) ⋯) (callWith_kw ?_ rfl rfl rfl rfl))
 refine spliced_cons (Subscript_ ((dd0 ek X.hN X.hc Nd).load ek.kind X.hok (hak.load ek.kind (i9 hkx) ?_)))
 refine ah8 (T:="dict") hm.typeIs slot_dict_getitem.lookup (wpAny_getItem_of (knd:=ik prog w) bs3 hm hva (spliced_nil ?_))
 refine kws_cons (wpAny_mono (dy5 (s:={ s with toks:=s.toks+1 }) rfl G L old ek.globals hcd X.hc hT hav) (λ v s2 q=>kws_nil ?_) λ ξ ξ e=>e)
 obtain ⟨f,c',ctv,pm,h1,tk1,rfl,rfl,htk1,hk1,hn1,hf1,hc1,hT1,hfP⟩:=q
 show wpAny _ _ (call (.builtin "sorted") [.ref a] [(Str.ofString "key",.ref f)]) _ _ _
 have hk1:∀ b o,b≠P->s.heap.get? b=some o->h1.get? b=some o:=hk1
 have neP:∀ b o,s.heap.get? b=some o->(∀ vs,o.data≠.fields vs)->b≠P:=λ b o e hd q=>by
  subst q
  rw [hPo] at e;cases e
  exact hd _ rfl
 have Nd1:ai5 w h1 c dd ps N:=Nd.up λ b o q e=>.inl (hk1 b o (neP b o e λ vs' hd=>by
  rcases q with rfl | rfl | ⟨p,hp,rfl⟩
  ·obtain ⟨o',e',hd'⟩:=Nd.1;rw [e] at e';cases e';rw [hd] at hd';cases hd'
  ·obtain ⟨o',e',_,_,hx',hd',_⟩:=Heap.dictOf_iff.mp Nd.2;rw [e] at e';cases e';rw [hd] at hd';cases hd'
  ·obtain ⟨_,_,e',_⟩:=Nd.3 p hp;rw [e] at e';cases e';cases hd) e)
 refine wpAny_with_toks (n:=tk1) (Nat.le_refl _) (cv0 (s:={ s with heap:=h1,toks:=tk1 }) (kz:=(N x).map (ab0 met N)) (vs:=vs) ⟨_,hk1 a _ haP hoa,rfl,n,rfl⟩ (by rw [List.length_map,hi.length]) (by rw [hi.length];exact Nat.lt_of_lt_of_le (qf x) (by decide)) (λ i v kk hv hkk h tk' K=>?_) λ Dn h2 tk2 out cc K hDn hD ko=>?_)
 ·rw [List.getElem?_map] at hkk
  obtain ⟨nn,hnn,rfl⟩:=u9 hkk
  obtain ⟨t,htv⟩:=hi.get i nn hnn
  rw [htv] at hv
  cases hv
  exact dv3 (s:={ s with heap:=h,toks:=tk' }) G (λ b o e=>K b o (hk1 b o (λ q=>by rw [q,hP0] at e;cases e) (old b o e))) (by have:=rm.depth;show A.depth < 900;lia) (K _ _ hf1) (hc1.keeps K) (Nd1.up λ b o ξ e=>.inl (K b o e)) hps X.nd hdd λ y=>Nat.lt_of_lt_of_le (qf y) (by decide)
 ·intro htk2
  obtain ⟨psT1,hP1,hT13,_,hT1c⟩:=id hT1
  have hP2:=K _ _ hP1
  have hkk:∀ b o,b≠P->s.heap.get? b=some o->h2.get? b=some o:=λ b o q e=>K b o (hk1 b o q e)

  obtain ⟨hm,hmP,hmo⟩:∃ hm:Heap,hm.get? P=some (tabObj psT1)/\∀ b,b≠P->hm.get? b=s.heap.get? b:=
   ⟨s.heap.update P λ ξ=>tabObj psT1,Heap.get?_update_self _ hPo rfl,λ b q=>Heap.get?_update_ne _ _ _ _ q⟩
  have hYP:=X.hW P hWP
  have Sm:Sim prog w h0 B0 env sc r B Y hm:=S.off (λ b o q e=>(hmo b (λ q'=>q (q'▸hYP))).trans e) λ b q=>by
   by_cases q':b=P
   ·subst q';rw [hmP];nofun
   ·rw [hmo b q'];exact (S.y0 b q).2.2
  have N0:NxW Wx env sc r s.heap r hm:=(S.nx.wd S X.hW).off S (X:=λ b=>b=P) (λ b q=>q▸⟨hYP,.inr hWP⟩) (λ b q ξ=>by rw [q,hmP];nofun) λ b o q e=>(hmo b q).trans e
  have kp2:∀ b o,hm.get? b=some o->h2.get? b=some o:=λ b o e=>by
   by_cases q:b=P
   ·subst q;rw [hmP] at e;cases e;exact hP2
   ·exact hkk b o q ((hmo b q).symm.trans e)
  have hDm:hm.get? Dn=none:=by
   cases e:hm.get? Dn with
   | none=>rfl
   | some o=>
    by_cases q:Dn=P
    ·subst q;rw [hP1] at hDn;cases hDn
    ·rw [hk1 Dn o q ((hmo Dn q).symm.trans e)] at hDn;cases hDn
  have g2:Gr B hm (B.add Dn (seqObj "list" out cc)) h2:=(Gr.heap Sm.gr.keep kp2).freeze hDm hD
  have S2:=Sm.ev g2
  have hI:=di8 hinj hi ko
  have hRd:Rd prog w (B.add Dn (seqObj "list" out cc)) (.list ((w6 met N x).map .int)) (.ref Dn):=bo4.mpr ⟨Dn,_,out.toList,rfl,FM.add_self ..,⟨rfl,cc,by simp⟩,cm5 hI⟩
  refine wpAny_mono (bj6 (s0:={ s with heap:=hm }) (s:={ s with heap:=h2,toks:=tk2 }) (r0:=r) (Bs:=B) hcx rm.handled ek S2 hn g2.le ⟨rfl,rfl,Nat.le_trans (Nat.le_succ _) (Nat.le_trans htk1 htk2)⟩ (Sm.nx_ev g2) hRd (bv0 h7 hf7)) (λ ξ s3 q=>?_) λ ξ ξ e=>e
  obtain ⟨⟨B3,l3,S3,m3,N3,n3⟩,hk3⟩:=q
  refine ⟨rfl,⟨B3,l3,S3,⟨m3.gens,m3.os,m3.toks⟩,N0.trans (N3.wd Sm X.hW),n3⟩,(Nd1.up λ b o q e=>.inl (K b o e)).up λ b o q e=>.inl (hk3 b o (X.own S q) e),?_⟩
  exact (hT1.up λ b o vs' ξ e ξ=>K b o e).up λ b o vs' ξ e hd=>hk3 b o (ao1 (s:={ s with heap:=h2 }) S2 e hd) e
end
end
section
open PySem.Calls PySem.SeqAt
section
variable {w:World} {qa:Heap} {mg mb:Str->Option Value} {k:Nat} {U:String->List D->Option D} {qc:String->Bool} {sc:Scope}
variable {h0:Heap} {B0:FM} {env:Env} {A:Around} {E:Value->Shared->Prop} {r:Rho} {B:FM} {Y Wx:Addr->Prop} {s:Shared} {c dd c0 P:Addr} {ps:List (Int×Addr)}
theorem du9 {pos:Pos} (G:Glb qa mg mb):bt0 w qa k U sc (.Dict [] [] pos) (.dict [] []):=λ A E s env r B d ok hd=>by
 cases hd
 have hbig:=ok.big G
 show wpAny _ _ (do standAt pos;newDict) _ _ s
 refine wpAny_bind (wpAny_standAt (wpAny_newObj_type (EvP.new ok.keep (Nat.le_refl _) ?_ ⟨rfl,rfl⟩)))
 exact ⟨_,_,[],rfl,Heap.get?_push_size _ rfl,⟨⟨#[],0,⟨rfl,rfl,rfl⟩,rfl,λ _ he=>by simp at he,Pairs.nil,List.nodup_nil⟩,hbig⟩,rfl⟩
noncomputable def I3 (r:Rho):Prop:=7 < r.length/\∀ d,r.get 7≠some (.lock,d)
noncomputable def F03 (siSet:SI) (U:Calls) (qc:String->Bool) (met:List Int) (N:Int->List Int) (r:Rho):Out:=do
 let p0 <- cy2 I3 r
 let x <- p0.2.get 3
 let i <- ao2 x.2
 exec U qc siSet (r.set 7 (some (.fr,.list ((w6 met N i).map .int))))
theorem du0 {siSet:SI} {met:List Int} {N:Int->List Int} {r1:Rho} {x:Int} (hI:I3 r1) (h3:r1.get 3=some (.fr,.int x)):F03 siSet U qc met N r1=exec U qc siSet (r1.set 7 (some (.fr,.list ((w6 met N x).map .int)))):=by
 unfold F03
 rw [bk9 hI]
 show (do let x <- r1.get 3;let i <- ao2 x.2;exec U qc siSet (r1.set 7 (some (.fr,.list ((w6 met N i).map .int)))))=_
 rw [h3]
 rfl
theorem bf3.av {av av':Addr->Prop} {pos:Pos} {qual:Str} {h:Heap} (x:bf3 av P pos qual h) (q:∀ b,av' b->av b\/h.get? b=none):bf3 av' P pos qual h:=by
 obtain ⟨psT,e,ht,hP,hc⟩:=x
 refine ⟨psT,e,ht,λ p=>(q P p).elim hP λ n=>(by rw [e] at n;cases n),hc.imp id λ ⟨c',q1,q0,q2⟩=>⟨c',q1,λ p=>(q c' p).elim q0 λ n=>?_,q2⟩⟩
 obtain ⟨c2,oc,vs,t,q3,q4,_⟩:=q2
 cases q3
 rw [q4] at n;cases n
theorem de7 {d:D} {a:Addr} {o:Obj} {h:Heap} {vs:Array Value} (t:f8 prog w h B d (.ref a)) (ho:h.get? a=some o):o.data≠.fields vs:=by
 intro q
 cases d with
 | none=>cases t
 | bool b=>cases t
 | int i=>obtain ⟨_,_,e⟩:=t;cases e
 | str x=>obtain ⟨_,_,e⟩:=t;cases e
 | list l=>obtain ⟨a',o',vs,e,ho',⟨_,n,hd⟩,_⟩:=t;cases e;rw [ho] at ho';cases ho';rw [hd] at q;cases q
 | tuple l=>obtain ⟨a',o',vs,e,ho',⟨_,n,hd⟩,_⟩:=t;cases e;rw [ho] at ho';cases ho';rw [hd] at q;cases q
 | dict l=>obtain ⟨a',o',vs,e,ho',⟨⟨_,_,_,hd,_⟩,_⟩,_⟩:=t;cases e;rw [ho] at ho';cases ho';rw [hd] at q;cases q
theorem bi3 {r':Rho} {h':Heap} (S:Sim prog w h0 B0 env sc r B Y s.heap) (N:Nx env sc r s.heap r' h') {b:Addr} {o:Obj} {vs:Array Value} (e:s.heap.get? b=some o) (hd:o.data = .fields vs):h'.get? b=some o:=
 (N.fr b o e (ao1 S e hd) λ x i d q1 q2 q3=>by
  obtain ⟨v,a,t,_⟩:=S.vars x i _ d q1 q2
  have:=a.unique q3
  subst this
  exact de7 t e hd).solid (.fields hd)
theorem dg2 {r':Rho} {h':Heap} {nd:Str} {met:List Int} {N:Int->List Int} (X:as0 Y env sc nd c dd ps Wx met) (S:Sim prog w h0 B0 env sc r B Y s.heap) (Nn:Nx env sc r s.heap r' h') (z:ai5 w s.heap c dd ps N):ai5 w h' c dd ps N:=
 z.up λ b ob q e=>Nn.fr b ob e (X.own S q) λ x j d q1 q2 q3=>by
  rcases q with rfl | q
  ·obtain ⟨_,h2⟩:=am4 S q1 q2 q3
   exact h2 nd _ X.hc rfl
  ·obtain ⟨v,a,_,_,n,_⟩:=S.vars x j _ d q1 q2
   have hYb:Y b:=by
    rcases q with rfl | ⟨p,hp,rfl⟩
    ·exact X.hdd
    ·exact X.hW _ (X.hWa p hp)
   exact n b (.inr hYb) (a.unique q3)
inductive Z3 (w:World) (env:Env) (sc:Scope) (c dd P:Addr) (ps:List (Int×Addr)) (pos:Pos) (N:Int->List Int) (wr:List Addr) (h:Heap):Prop
 | mk (n:aq4 w c dd ps wr h N) (t:bf3 (λ b=>b∈wr\/isOwn env sc b) P pos (env.qual ++ "<lambda>") h):Z3 w env sc c dd P ps pos N wr h
theorem ea4 {p0 np kp sp kwp ap p1 p2 p3 p4 p5 p6 cp cp2 sp2 ifp lpos pos cpp spos kp0 mp fpos:Pos} {kc:Nat} {kx cx mx:Str} {met:List Int} {N:Int->List Int} {stSet:Stmt} {siSet:SI} {rE:Rho} (X:as0 Y env sc "needed" c dd ps Wx met) (hkx:j5 sc kx=some 3) (hcx:j5 sc cx=some 7) (hmx:d8 sc mx=some 2) (hgs:i5 sc "sorted"=true) (G:Glb qa mg mb) (L:cw4 qa mg c0 P) (hcd:env.code = .ref c0)
  (hP0:qa.get? P=none) (hWP:Wx P) (hdd:dd≠sysModules) (hset:ae9 prog w qa (k+1) U qc sc stSet siSet) (hnx:∀ r res,exec U qc siSet r=some res->res.1 = .next)
  (rm:Rm (k+1) A) (ek:j6 env sc) (hb:∀ a o,qa.get? a=some o->B0 a=some o) (ht:0 < s.toks) (fa:FrA A env B0 h0) (hn:j7 sc r) (S:Sim prog w h0 B0 env sc r B Y s.heap)
  (Nd:ai5 w s.heap c dd ps N) (hT:bf3 (isOwn env sc) P lpos (env.qual ++ "<lambda>") s.heap) (qf:∀ x,(N x).length < 60) (hinj:∀ x∈met,∀ a∈N x,∀ b∈N x,ab0 met N a=ab0 met N b->a=b)
  (hrm:r.get 2=some (.fr,.list (met.map .int))) (hloop:j8 (λ d r=>do F03 siSet U qc met N (<- ad9 r [3] d)) (met.map .int) r=some (.next,rE)) :
  wpAny (model prog w) A (PySem.exec (.For (.Name kx kp0) (.Name mx mp) [.Assign [.Name cx cpp] (dw3 p0 np kp sp kwp ap p1 p2 p3 p4 p5 p6 cp cp2 sp2 ifp lpos pos kc kx) spos,stSet] [] fpos) env)
   (λ f s'=>f = .next/\cs5 w h0 B0 env sc Y Wx r B s rE s'/\bf3 (isOwn env sc) P lpos (env.qual ++ "<lambda>") s'.heap) E s:=by
 have hs3:=(f4 hkx).1
 refine wpAny_mono (dd6 (k:=k+1) (qa:=qa) (U:=U) (tgt:=[3]) (src:=.var 2) (f0:=F03 siSet U qc met N) (Z:=λ wr i h=>Z3 w env sc c dd P ps lpos N wr h) (Wx:=Wx) (z5.name hkx) rfl (i7 rfl (aa2 hmx)) rfl rm ek hb ht fa hn S (cp4 hrm) (by rw [dc7 hrm];exact hloop)
  (λ wr i h h' hk z=>⟨z.1.up X S hk,z.2.up λ b o vs q e hd=>(hk b o (λ p=>q (.inr p)) (λ p=>q (.inl p)) e).solid (.fields hd)⟩)
  (λ wr hw=>⟨aq4.start Nd wr hw,hT.av λ b q=>q.elim (λ q=>.inr (hw b q)) .inl⟩) X.hW λ E' r2 r1 B' s' Y' d i res wr hd hbp hYY ht' n3 S3 z3 hg=>?_) (λ f s' q=>?_) λ ξ ξ e=>e
 ·obtain ⟨hr3,_⟩:=bk7 hbp
  rw [List.getElem?_map] at hd
  obtain ⟨x,hx,rfl⟩:=u9 hd
  have hxm:=List.mem_of_getElem? hx
  obtain ⟨p,hp,_⟩:=a6 hg
  obtain ⟨hI,_⟩:=be6 hp
  rw [du0 hI hr3] at hg
  have X':=X.mono λ b q=>hYY b (.inl q)
  refine wpAny_execs_cons (wpAny_mono (ch2 (k:=k) X' hs3 hcx hgs G L hcd hP0 hWP hdd rm ek hb ht' fa n3 S3 z3.1.1 z3.2 (λ b q=>q.elim (λ q=>(S3.y0 b (hYY b (.inr q))).2.2) S3.ownE) hxm hr3 hI.1 hI.2 qf (hinj x hxm)) (λ f s1 q=>?_) λ ξ ξ e=>e)
  obtain ⟨rfl,⟨B1,l1,S4,m4,N4,n4⟩,nd4,t4⟩:=q
  refine wpAny_execs_cons (wpAny_mono (hset rm ek hb (Nat.lt_of_lt_of_le ht' m4.toks) fa n4 S4 hg) (λ f s2 q=>?_) λ ξ ξ e=>e)
  obtain ⟨fl,rr⟩:=res
  have hfl:=hnx _ _ hg
  simp only at hfl
  subst hfl
  unfold FlP at q
  cases f <;> first | exact q.elim | skip
  obtain ⟨B2,l2,S5,m5,N5,n5⟩:=q
  refine wpAny_execs_nil ⟨⟨B2,l1.trans l2,S5,m4.trans m5,N4.trans (N5.wd S4 X'.hW),n5⟩,λ ξ=>⟨⟨dg2 X' S4 N5 nd4,z3.1.2⟩,t4.up λ b o vs q e hd=>bi3 S4 N5 e hd⟩,nofun⟩
 ·obtain ⟨q,z⟩:=q
  rw [cb1 hrm] at q
  unfold FlW at q
  cases f <;> first | exact q.elim | skip
  obtain ⟨wr,z⟩:=z rfl
  exact ⟨rfl,q,z.2.av λ b q=>.inl (.inr q)⟩
end
end
section
open PySem.Calls PySem.SeqAt
section
variable {w:World} {qa:Heap} {mg mb:Str->Option Value} {k:Nat} {U:String->List D->Option D} {qc:String->Bool} {sc:Scope}
variable {h0:Heap} {B0:FM} {env:Env} {A:Around} {E:Value->Shared->Prop} {r:Rho} {B:FM} {Y Wy:Addr->Prop} {s:Shared}
inductive NsP (w:World) (h0:Heap) (B0:FM) (env:Env) (sc:Scope) (r:Rho) (B:FM) (Y Wy:Addr->Prop) (ks:List Int) (s s':Shared):Prop
 | mk (c dd:Addr) (ps:List (Int×Addr)) (Y':Addr->Prop) (S:Sim prog w h0 B0 env (scF sc "needed") r B Y' s'.heap) (X:as0 Y' env (scF sc "needed") "needed" c dd ps (λ a=>(∃ p∈ps,p.2=a)\/Wy a) ks) (hdd:dd≠sysModules) (Nd:ai5 w s'.heap c dd ps λ x=>[x]) (m:k6 s s') (hk:∀ b o,¬ isOwn env sc b->s.heap.get? b=some o->Up o (s'.heap.get? b)) (hY:∀ a,Y a->Y' a):NsP w h0 B0 env sc r B Y Wy ks s s'
theorem dk9 {i8:Nat} {key elt target iter:PySem.Expr} {sc':Scope} {np cpos pos:Pos} {tgt:List Nat} {isrc ik1 ir:IR} {ks:List Int} (G:Glb qa mg mb) (hy:sc.names.lookup ("needed":Str)=some .cell) (h8:d8 sc "needed"=some i8) (hr8:r.get i8=none)
  (cs:an7 sc' sc) (hset:aa0 iter=true) (tg:z5 sc' target tgt) (hsrc:ad5 w qa k U sc iter isrc target) (hk:j3 w qa k U sc' key ik1) (he:bt0 w qa k U sc' elt ir)
  (rm:Rm k A) (ek:j6 env sc) (hb:∀ a o,qa.get? a=some o->B0 a=some o) (ht:0 < s.toks) (fa:FrA A env B0 h0) (S:Sim prog w h0 B0 env sc r B Y s.heap) (hWy:∀ b,Wy b->Y b)
  (qh:e9 U isrc r=some (ks.map .int)) (nd:ks.Nodup) (h60:ks.length<=60)
  (qi:∀ x∈ks,∃ r1,m8 (as7 r (ad3 sc' sc)) tgt (.int x)=some r1/\eval U ik1 r1=some (.int x)/\eval U ir r1=some (.list [.int x])) :
  wpAny (model prog w) A (PySem.exec (.Assign [.Name "needed" np] (.DictComp key elt [⟨target,iter,[],0⟩] sc' cpos) pos) env) (λ f s'=>f = .next/\NsP w h0 B0 env sc r B Y Wy ks s s') E s:=by
 obtain ⟨hkc,c,v0,hc,hcell⟩:=S.fm.cell "needed" hy
 refine wpAny_Assign_stores (wpAny_mono (dj0 G cs hset tg hsrc hk he (Sim.ok S rm ek hb ht fa) qh nd h60 qi) (λ v s1 q=>?_) λ ξ ξ e=>e) ?_ rfl
 ·obtain ⟨dd,ps,rfl,g,m,hn,hd,hks,hl,hna,hdd⟩:=q
  have hB:∀ a,s.heap.get? a=none->B a=none:=λ a e=>by
   cases e1:B a with
   | none=>rfl
   | some o=>rw [S.gr.keep a o e1] at e;cases e
  have hde:s1.heap.get? dd≠none:=by obtain ⟨o,e,_⟩:=Heap.dictOf_iff.mp hd;rw [e];nofun
  have S1:=S.addY (Y':=λ a=>a=dd\/∃ p∈ps,p.2=a) g λ a q=>by
   rcases q with rfl | ⟨p,hp,rfl⟩
   ·exact ⟨hn,hB _ hn,hde⟩
   ·obtain ⟨q1,q2,q3⟩:=hl p hp
    exact ⟨q1,hB _ q1,q3.ne⟩
  show wpAny _ _ (assign (.Name "needed" np) env (.ref dd)) _ _ s1
  refine wpAny_assign_Name (wpAny_storeName_cell ek.kind hkc hc (g.old.cell hcell) λ h' hc' hsb=>?_)
  have S2:=S1.cellSet hy hc h8 hr8 hsb hc'
  have hne:∀ b,(b=dd\/∃ p∈ps,p.2=b)->b≠c:=λ b q e=>S1.ycell _ c hc (.inr (e▸q))
  have hkk:∀ b o,b≠c->s1.heap.get? b=some o->h'.get? b=some o:=λ b o q e=>(hsb.2 b q).trans e
  have hN:(scF sc "needed").names.lookup ("needed":Str)=some .free:=by
   rw [show (scF sc "needed").names.lookup ("needed":Str)=_ from ap6,if_pos rfl,hy];rfl
  refine ⟨rfl,c,dd,ps,_,S2.scF hy,⟨hN,i9 h8,hc,?_,hks,nd,hna,?_,λ b q=>?_,λ p hp=>.inl ⟨p,hp,rfl⟩,.inr (.inl rfl)⟩,hdd,⟨hc',Heap.dictOf_iff.mpr ?_,λ p hp=>?_⟩,⟨m.gens,m.os,m.toks⟩,λ b o q e=>(g.old b o e).trans λ o' e'=>.inl (hkk b o' (λ p=>q (.inr ⟨_,hy,p▸hc⟩)) e'),λ a q=>.inl q⟩
  ·rintro (q | ⟨x,q1,q2⟩)
   ·obtain ⟨mm,hns⟩:=S2.fm.ns
    exact ap0 hns hc' q.symm
   ·by_cases e:x="needed"
    ·subst e;rw [hN] at q1;cases q1
    ·rw [bq7 e] at q1
     exact S2.fm.sep x "needed" c c e q1 q2 hc rfl
  ·intro q
   obtain ⟨p,hp,e⟩:=List.mem_map.mp q
   exact (hl p hp).2.1 e
  ·rcases q with q | q
   ·exact .inr (.inr q)
   ·exact .inl (hWy b q)
  ·obtain ⟨o,e,hio⟩:=Heap.dictOf_iff.mp hd
   exact ⟨o,hkk dd o (hne dd (.inl rfl)) e,hio⟩
  ·exact (hl p hp).2.2.at λ o e=>hkk _ o (hne _ (.inr ⟨p,hp,rfl⟩)) e
 ·show (pure (env.blockKind == .function && env.kindOf "needed" == some .local && _ && _):Sem Bool)=pure false
  rw [hkc]
  cases (env.blockKind == .function) <;> rfl
end
end
section
open PySem.Calls PySem.SeqAt
structure RI (told arD:D) (met:List Int) (r:Rho):Prop where
 len:r.length=12
 g0:r.get 0=some (.fr,told)
 g1:r.get 1=some (.fr,arD)
 g2:r.get 2=some (.fr,.list (met.map .int))
 nl:∀ i d,r.get i≠some (.lock,d)
section
variable {told arD:D} {met:List Int} {r:Rho} {U:String->List D->Option D} {qc:String->Bool}
theorem RI.set {i:Nat} {m:aa3} {d:D} (x:RI told arD met r) (h:2 < i) (hm:m≠.lock):RI told arD met (r.set i (some (m,d))):=by
 have ne:∀ j,j<=2->Rho.get (r.set i (some (m,d))) j=r.get j:=λ j hj=>by
  rw [g9,if_neg]
  rintro ⟨rfl,_⟩
  exact absurd hj (Nat.not_le.mpr h)
 refine ⟨by rw [List.length_set];exact x.len,(ne 0 (by decide)).trans x.g0,(ne 1 (by decide)).trans x.g1,(ne 2 (by decide)).trans x.g2,λ j d' q=>?_⟩
 rw [g9] at q
 split at q
 ·cases q;exact hm rfl
 ·exact x.nl j d' q
theorem RI.bind {i:Nat} {d:D} (x:RI told arD met r) (h:i < 12):ad9 r [i] d=some (r.set i (some (.fr,d))):=bv0 (by rw [x.len];exact h) (x.nl i)
theorem an8 {i:Nat} {v:aa3×D} (h:i < r.length):Rho.get (r.set i (some v)) i=some v:=by rw [g9,if_pos ⟨rfl,h⟩]
theorem ae2 {i j:Nat} {v:Slot} (h:i≠j):Rho.get (r.set i v) j=r.get j:=by rw [g9,if_neg λ q=>h q.1]
noncomputable def ed1:SI:=.assign 2 false (.call "_law_reach" [.var 1,.int 5])
noncomputable def cz9:SI:=.assign 5 false (.ite (.cmp .NotEq (.var 4) (.int 0)) (.call "_law_reach" [.var 1,.var 4]) (.list []))
noncomputable def ek6:IR:=.and [.cmp .NotEq (.var 3) (.var 4),.cmp .NotIn (.var 3) (.var 5)]
noncomputable def siSet:SI:=.setItem 6 (.idx (.var 0) (.var 3)) (.meth .join (.str "") [.comp [none,none,some 0] [1] (.var 7) [] (.bin .Add (.str "/") (.idx (.var 2) (.var 1)))])
noncomputable def bm1:List Int:=[0,1,2,3,4]
noncomputable def ae7 (R:Int->List Int) (o:Int):List Int:=if o=0 then [] else R o
noncomputable def n7 (R:Int->List Int):Int->List Int:=ap4 (ae7 R) (R 5) bm1 λ x=>[x]
theorem bm6 (l:List Int):SeqAt.shaped (.list (l.map .int))=true:=by
 have h3:∀ l:List Int,PyData.canLayAll0 (l.map .int)=true/\PyData.depthAll (l.map .int)=0:=by
  intro l
  induction l with
  | nil=>exact ⟨by simp [PyData.canLayAll0],by simp [PyData.depthAll]⟩
  | cons a l ih=>exact ⟨by simp [PyData.canLayAll0,PyData.canLay0,ih.1],by simp [PyData.depthAll,PyData.depth,ih.2]⟩
 obtain ⟨h1,h2⟩:=h3 l
 show (PyData.canLay0 (.list (l.map .int)) && decide (PyData.depth (.list (l.map .int))<=64))=true
 simp [PyData.canLay0,PyData.depth,h1,h2]
theorem ec3 (l:List Int) (a:Int):((l.map PyData.int).any λ y=>PyData.eqv y (.int a))=decide (a∈l):=by
 induction l with
 | nil=>rfl
 | cons b l ih=>
  rw [List.map_cons,List.any_cons,ih]
  show (decide (b=a) || decide (a∈l))=_
  by_cases h:b=a
  ·rw [decide_eq_true h,decide_eq_true (show a∈b :: l from h▸.head _)];rfl
  ·rw [decide_eq_false h,Bool.false_or]
   exact decide_eq_decide.mpr ⟨λ q=>.tail _ q,λ q=>(List.mem_cons.mp q).resolve_left λ q=>h q.symm⟩
theorem dc0 (a b:Int):bb7 .NotEq (.int a) (.int b)=some (decide (a≠b)):=by
 show some (!(decide (a=b)))=_
 by_cases h:a=b
 ·rw [decide_eq_true h,decide_eq_false (λ q=>q h)];rfl
 ·rw [decide_eq_false h,decide_eq_true h];rfl
theorem dr4 {o x:Int} {lf:List Int} {r1:Rho} (hp:pI o lf r1) (h3:r1.get 3=some (.fr,.int x)):ab4 U ek6 r1=some (decide (x≠o/\x ∉ lf)):=by
 have n1:ab4 U (.cmp .NotEq (.var 3) (.var 4)) r1=some (decide (x≠o)):=t_b rfl rfl (ae4 (d9 h3) (d9 hp.1) (dc0 x o))
 have n2:ab4 U (.cmp .NotIn (.var 3) (.var 5)) r1=some (!decide (x∈lf)):=t_b rfl rfl (ae4 (d9 h3) (d9 hp.2) (by rw [br6 (by simpa using bm6 [x] |> λ _=>(show SeqAt.shaped (.int x)=true by simp [SeqAt.shaped,PyData.canLay0,PyData.depth])) (bm6 lf),ec3]))
 by_cases h:x≠o
 ·rw [decide_eq_true h] at n1
  by_cases h2:x∈lf
  ·rw [decide_eq_true h2] at n2
   rw [decide_eq_false λ q=>q.2 h2]
   exact t_b rfl rfl (bx6 (a_t n1 (a_f n2)))
  ·rw [decide_eq_false h2] at n2
   rw [decide_eq_true ⟨h,h2⟩]
   exact t_b rfl rfl (bx6 (a_t n1 (a_t n2 eb8)))
 ·rw [decide_eq_false h] at n1
  rw [decide_eq_false λ q=>h q.1]
  exact t_b rfl rfl (bx6 (a_f n1))
theorem RI.put {i:Nat} {m:aa3} {d:D} (x:RI told arD met r) (h:i < 12):r.put i m d=some (r.set i (some (m,d))):=bf8 (by rw [x.len];exact h) (x.nl i)
theorem cn9 {R:Int->List Int} (hR:∀ o∈[1,2,3,4,5],U "_law_reach" [arD,.int o]=some (.list ((R o).map .int))) {o:Int} (ho:o∈bm1) (x:RI told arD met r) (h4:r.get 4=some (.fr,.int o)):exec U qc cz9 r=some (.next,r.set 5 (some (.fr,.list ((ae7 R o).map .int)))):=by
 refine f7 rfl ?_ (x.put (by decide))
 have n1:ab4 U (.cmp .NotEq (.var 4) (.int 0)) r=some (decide (o≠0)):=t_b rfl rfl (ae4 (d9 h4) z7 (dc0 o 0))
 by_cases h:o≠0
 ·rw [decide_eq_true h] at n1
  unfold ae7
  rw [if_neg h]
  refine dc8 n1 (w7 (d7 (k0 x.g1) (d7 (k0 h4) j0)) (hR o ?_))
  rcases List.mem_cons.mp ho with q | q
  ·exact absurd q h
  ·exact (List.mem_append_left [5] q:o∈[1,2,3,4] ++ [5])
 ·rw [decide_eq_false h] at n1
  unfold ae7
  rw [if_pos (Classical.not_not.mp h)]
  exact ob n1 (ap5 j0 rfl)
theorem dz5 {R:Int->List Int} (hR:∀ o∈[1,2,3,4,5],U "_law_reach" [arD,.int o]=some (.list ((R o).map .int))) (x:RI told arD met r):du8 (λ d r=>do ds5 cz9 U qc (RI told arD met) (ae7 R) met (<- ad9 r [4] d)) (RI told arD met) (bm1.map .int) r:=by
 refine bv6 (λ d hd r x=>?_) x
 obtain ⟨o,ho,rfl⟩:=List.mem_map.mp hd
 have x1:=x.set (i:=4) (m:=.fr) (d:=.int o) (by decide) nofun
 have h4:Rho.get (r.set 4 (some (.fr,.int o))) 4=some (.fr,.int o):=an8 (by rw [x.len];decide)
 have x2:=x1.set (i:=5) (m:=.fr) (d:=.list ((ae7 R o).map .int)) (by decide) nofun
 obtain ⟨r',e1,e2⟩:=bv6 (F:=Fin o (ae7 R o)) (I:=λ r=>RI told arD met r/\pI o (ae7 R o) r) (its:=met.map .int) (r:=(r.set 4 (some (.fr,.int o))).set 5 (some (.fr,.list ((ae7 R o).map .int)))) (λ d ξ r y=>by
  have y1:=y.1.set (i:=3) (m:=.fr) (d:=d) (by decide) nofun
  have y2:pI o (ae7 R o) (r.set 3 (some (.fr,d))):=⟨(ae2 (by decide)).trans y.2.1,(ae2 (by decide)).trans y.2.2⟩
  exact ⟨_,ob (y.1.bind (by decide)) (bk9 y2),y1,y2⟩) ⟨x2,(ae2 (by decide)).trans h4,an8 (by rw [x1.len];decide)⟩
 exact ⟨r',ob (x.bind (by decide)) ((df4 x1 h4 (cn9 hR ho x1 h4)).trans e1),e2.1⟩
noncomputable def ar3 (n:Nat) (l:List (D×D)):Prop:=l.all (λ e=>z8 e.1)=true/\l.length<=n
theorem ar3.put {n:Nat} {l:List (D×D)} {a b:Str} (h:ar3 n l):ar3 (n+1) (ag8 l (.str a) (.str b)):=by
 unfold ag8
 split
 ·refine ⟨?_,by rw [List.length_map];exact Nat.le_succ_of_le h.2⟩
  rw [List.all_map]
  refine List.all_eq_true.mpr λ e he=>?_
  have:=List.all_eq_true.mp h.1 e he
  show z8 (if eqK e.1 (.str a)=true then (e.1,.str b) else e).1=true
  split <;> exact this
 ·refine ⟨by rw [List.all_append,h.1];rfl,by rw [List.length_append];exact Nat.succ_le_succ h.2⟩
noncomputable def bx2 (tx jn:Int->Str) (ks:List Int) (l:List (D×D)):List (D×D):=ks.foldl (λ l x=>ag8 l (.str (tx x)) (.str (jn x))) l
theorem cr2 {N:Int->List Int} {tx jn:Int->Str} (hset:∀ r1 l x,RI told arD met r1->x∈met->r1.get 3=some (.fr,.int x)->r1.get 6=some (.own,.dict l)->ar3 60 l->r1.get 7=some (.fr,.list ((w6 met N x).map .int))->exec U qc siSet r1=some (.next,r1.set 6 (some (.own,.dict (ag8 l (.str (tx x)) (.str (jn x))))))) :
  ∀ {xs:List Int} {n:Nat} {l:List (D×D)} {r:Rho},(∀ x∈xs,x∈met)->n+xs.length<=60->ar3 n l->RI told arD met r->r.get 6=some (.own,.dict l)->
   ∃ rE,j8 (λ d r=>do F03 siSet U qc met N (<- ad9 r [3] d)) (xs.map .int) r=some (.next,rE)/\rE.get 6=some (.own,.dict (bx2 tx jn xs l))
 | [],n,l,r,_,_,_,_,h6=>⟨r,rfl,h6⟩
 | x :: xs,n,l,r,hm,hn,hl,y,h6=>by
  rw [List.length_cons] at hn
  have y1:=y.set (i:=3) (m:=.fr) (d:=.int x) (by decide) nofun
  have h3:Rho.get (r.set 3 (some (.fr,.int x))) 3=some (.fr,.int x):=an8 (by rw [y.len];decide)
  have y2:=y1.set (i:=7) (m:=.fr) (d:=.list ((w6 met N x).map .int)) (by decide) nofun
  have h7:Rho.get ((r.set 3 (some (.fr,.int x))).set 7 (some (.fr,.list ((w6 met N x).map .int)))) 7=some (.fr,.list ((w6 met N x).map .int)):=an8 (by rw [y1.len];decide)
  have h62:Rho.get ((r.set 3 (some (.fr,.int x))).set 7 (some (.fr,.list ((w6 met N x).map .int)))) 6=some (.own,.dict l):=(ae2 (by decide)).trans ((ae2 (by decide)).trans h6)
  have e:=hset _ l x y2 (hm x (.head _)) ((ae2 (by decide)).trans h3) h62 ⟨hl.1,Nat.le_trans hl.2 (by lia)⟩ h7
  have y3:=y2.set (i:=6) (m:=.own) (d:=.dict (ag8 l (.str (tx x)) (.str (jn x)))) (by decide) nofun
  obtain ⟨rE,e1,e2⟩:=cr2 hset (xs:=xs) (n:=n+1) (λ z hz=>hm z (.tail _ hz)) (by lia) hl.put y3 (an8 (by rw [y2.len];decide))
  refine ⟨rE,?_,e2⟩
  rw [List.map_cons]
  exact ob (show (do F03 siSet U qc met N (<- ad9 r [3] (.int x)))=some (Fl.next,_) from ob (y.bind (by decide)) ((du0 ⟨by rw [y1.len];decide,y1.nl 7⟩ h3).trans e)) e1
theorem ea9 {r1:Rho} {res:Fl×Rho} (h:exec U qc siSet r1=some res):res.1 = .next:=by
 obtain ⟨v,_,h⟩:=a6 h
 obtain ⟨y,_,h⟩:=a6 h
 obtain ⟨l,_,h⟩:=a6 h
 obtain ⟨l2,_,h⟩:=a6 h
 obtain ⟨_,h⟩:=i4 h
 obtain ⟨r2,_,h⟩:=a6 h
 cases h
 rfl
end
end
section
open PySem.Calls PySem.SeqAt
noncomputable abbrev dS:Scope:=(i6 P2 31).scope
noncomputable abbrev dT:Scope:=scF dS "needed"
section
variable {w:World} {qa:Heap} {mg mb:Str->Option Value} {k:Nat} {U:String->List D->Option D} {qc:String->Bool} {sc:Scope}
variable {h0:Heap} {B0:FM} {env:Env} {A:Around} {E:Value->Shared->Prop} {r:Rho} {B:FM} {Y Wx:Addr->Prop} {s:Shared} {c0 P:Addr}
theorem cy8 {r':Rho} {h':Heap} (S:Sim prog w h0 B0 env sc r B Y s.heap) (N:NxW Wx env sc r s.heap r' h') {b:Addr} {o:Obj} {vs:Array Value} (e:s.heap.get? b=some o) (hd:o.data = .fields vs) (hw:¬ Wx b):h'.get? b=some o:=
 (N.fr b o hw e (ao1 S e hd) λ x i d q1 q2 q3=>by
  obtain ⟨v,a,t,_⟩:=S.vars x i _ d q1 q2
  have:=a.unique q3
  subst this
  exact de7 t e hd).solid (.fields hd)
theorem eb1 {told arD:D} {R:Int->List Int} {tx jn:Int->Str} (G:Glb qa mg mb) (C:t8 w qa mg (k+1) U) (L:cw4 qa mg c0 P) (hcd:env.code = .ref c0) (hP0:qa.get? P=none)
  (hR:∀ o∈[1,2,3,4,5],U "_law_reach" [arD,.int o]=some (.list ((R o).map .int))) (hnd:(R 5).Nodup) (h20:(R 5).length<=20)
  (hset:∀ r1 l x,RI told arD (R 5) r1->x∈R 5->r1.get 3=some (.fr,.int x)->r1.get 6=some (.own,.dict l)->ar3 60 l->r1.get 7=some (.fr,.list ((w6 (R 5) (n7 R) x).map .int))->exec U qc siSet r1=some (.next,r1.set 6 (some (.own,.dict (ag8 l (.str (tx x)) (.str (jn x)))))))
  (hinj:∀ x∈R 5,∀ a∈n7 R x,∀ b∈n7 R x,ab0 (R 5) (n7 R) a=ab0 (R 5) (n7 R) b->a=b)
  (rm:Rm (k+1) A) (ek:j6 env dS) (hb:∀ a o,qa.get? a=some o->B0 a=some o) (ht:0 < s.toks) (fa:FrA A env B0 h0) (S:Sim prog w h0 B0 env dS r B Y s.heap) (hYP:Y P) (hPs:s.heap.get? P=some (tabObj #[]))
  (qf:r.length=12) (hr0:r.get 0=some (.fr,told)) (hr1:r.get 1=some (.fr,arD)) (hrn:∀ i,2<=i->r.get i=none) :
  wpAny (model prog w) A (PySem.execs (i6 P2 31).body env) (λ fl s3=>∃ v,fl = .ret v/\dj3 w h0 B0 true (.dict (bx2 tx jn (R 5) [])) v s s3/\∃ ps,s3.heap.get? P=some (tabObj ps)) E s:=by
 have hfr:∀ i m d,r.get i=some (m,d)->m = .fr:=λ i m d q=>by
  rcases i with _ | _ | i
  ·rw [hr0] at q;cases q;rfl
  ·rw [hr1] at q;cases q;rfl
  ·rw [hrn _ (Nat.le_add_left 2 i)] at q;cases q
 have hn:j7 dS r:=λ i d q=>by cases hfr i _ d q
 have y1:RI told arD (R 5) (r.set 2 (some (.fr,.list ((R 5).map .int)))):=by
  refine ⟨by rw [List.length_set];exact qf,(ae2 (by decide)).trans hr0,(ae2 (by decide)).trans hr1,an8 (by rw [qf];decide),λ i d q=>?_⟩
  rw [g9] at q
  split at q
  ·cases q
  ·cases hfr i _ d q
 have hno:∀ i d,Rho.get (r.set 2 (some (.fr,.list ((R 5).map .int)))) i≠some (.own,d):=λ i d q=>by
  rw [g9] at q
  split at q
  ·cases q
  ·cases hfr i _ d q
 have hy:dS.names.lookup ("needed":Str)=some .cell:=⋯
 have hlenN:∀ x,(n7 R x).length < 60:=λ x=>by
  have:=bc9 (ae7 R) (R 5) x bm1 λ x=>[x]
  have h5:bm1.length=5:=rfl
  unfold n7
  rw [h5] at this
  exact Nat.lt_of_le_of_lt this (show 1+5 < 60 by decide)

 refine wpAny_execs_cons (wpAny_mono ((show ae9 prog w qa (k+1) U qc dS _ ed1 from c8 ⋯ rfl (k7 G C ⋯ rfl rfl rfl (by decide) (.cons (g6 ⋯) (.cons c9 .nil))) rfl) rm ek hb ht fa hn S
  (f7 rfl (w7 (d7 (k0 hr1) (d7 cc1 j0)) (hR 5 (by decide))) (bf8 (by rw [qf];decide) λ d q=>by cases hfr 2 _ d q))) (λ f s1 q=>?_) λ ξ ξ e=>e)
 unfold FlP at q
 cases f <;> first | exact q.elim | skip
 obtain ⟨B1,l1,S1,m1,N1,n1⟩:=q
 have hP1:=bi3 S N1 hPs rfl
 have ht1:=Nat.lt_of_lt_of_le ht m1.toks

 refine wpAny_execs_cons (wpAny_mono (dk9 (k:=k+1) (U:=U) (Wy:=λ a=>a=P) (ks:=R 5) (isrc:=.var 2) (ik1:=.var 1) (ir:=.list [.var 1]) (tgt:=[1]) G hy (i8:=8) ⋯ ((ae2 (by decide)).trans (hrn 8 (by decide))) (au6 (it:=.Name "met" default) ⋯) rfl (.name ⋯) (i7 rfl (aa2 ⋯)) (g6 ⋯) (ay9 rfl (.cons (g6 ⋯) .nil)) rm ek hb ht1 fa S1 (λ b q=>q▸hYP) (ah2 rfl (d9 y1.g2)) hnd (Nat.le_trans h20 (by decide)) λ x hx=>⟨[none,some (.fr,.int x)],rfl,rfl,rfl⟩) (λ f s2 q=>?_) λ ξ ξ e=>e)
 obtain ⟨rfl,c,dd,ps,Y2,S2,X,hdd,Nd,m2,hk2,hY2⟩:=q
 have hP2:s2.heap.get? P=some (tabObj #[]):=(hk2 P _ (ao1 S1 hP1 rfl) hP1).solid (.fields rfl)
 have ht2:=Nat.lt_of_lt_of_le ht1 m2.toks
 have ek':j6 env dT:=ek.scF hy
 have n2:j7 dT (r.set 2 (some (.fr,.list ((R 5).map .int)))):=λ i d q=>absurd q (hno i d)

 obtain ⟨rE,hE,yE⟩:=dz5 (qc:=qc) hR y1
 have X1:as0 Y2 env dT "needed" c dd ps (λ a=>∃ p∈ps,p.2=a) (R 5):={ X with hW:=λ b q=>X.hW b (.inl q),hWa:=λ p hp=>⟨p,hp,rfl⟩ }
 refine wpAny_execs_cons (wpAny_mono (cy6 (k:=k+1) (U:=U) (qc:=qc) (siL:=cz9) (ct:=ek6) (src:=.range [.int 5]) (qe:=bm1) (L:=ae7 R) (I:=RI told arD (R 5)) X1 rfl ⋯ ⋯ ⋯ rfl (g6 ⋯) rfl (dh4 (.cons (j1 (b7 ⋯) (b7 ⋯) rfl) (.cons (j1 (b7 ⋯) (b7 ⋯) rfl) .nil)))
  (λ o ho r1 x hp h3=>dr4 hp h3) rfl (y7 G ⋯ rfl (.cons (LkW rfl c9) .nil) rfl) rfl (ak2 (m7 z7 y9) rfl)
  (c8 ⋯ rfl (dv4 (j1 (b7 ⋯) (LkW rfl c9) rfl) (k7 G C ⋯ rfl rfl rfl (by decide) (.cons (g6 ⋯) (.cons (g6 ⋯) .nil))) (av3 .nil rfl)) rfl) (λ o ho r1 y h4=>cn9 hR ho y h4) (λ r1 y=>⟨by rw [y.len];decide,y.g2⟩)
  rm ek' hb ht2 fa n2 S2 Nd (λ x=>(by decide:1 < 900)) (by decide) hE) (λ f s3 q=>?_) λ ξ ξ e=>e)
 obtain ⟨rfl,⟨B3,l3,S3,m3,N3,n3⟩,Nd3⟩:=q
 have hP3:=cy8 S2 N3 hP2 rfl (by
  rintro ⟨p,hp,e⟩
  obtain ⟨_,_,q,_⟩:=Nd.3 p hp
  rw [e,hP2] at q;cases q)
 have ht3:=Nat.lt_of_lt_of_le ht2 m3.toks

 have y4:=yE.set (i:=6) (m:=.own) (d:=.dict []) (by decide) nofun
 refine wpAny_execs_cons (wpAny_mono ((show ae9 prog w qa (k+1) U qc dT _ (.assign 6 true (.dict [] [])) from y6 ⋯ rfl (du9 G) rfl) rm ek' hb ht3 fa n3 S3 (f7 rfl (d:=.dict []) rfl (yE.put (m:=.own) (by decide)))) (λ f s4 q=>?_) λ ξ ξ e=>e)
 unfold FlP at q
 cases f <;> first | exact q.elim | skip
 obtain ⟨B4,l4,S4,m4,N4,n4⟩:=q
 have hP4:=bi3 S3 N4 hP3 rfl
 have Nd4:=dg2 X S3 N4 Nd3
 have ht4:=Nat.lt_of_lt_of_le ht3 m4.toks

 obtain ⟨rF,hF,h6⟩:=cr2 (qc:=qc) (N:=n7 R) hset (xs:=R 5) (n:=0) (l:=[]) (λ x q=>q) (by lia) ⟨rfl,Nat.le_refl _⟩ y4 (an8 (by rw [yE.len];decide))
 refine wpAny_execs_cons (wpAny_mono (ea4 (k:=k) (U:=U) (qc:=qc) (siSet:=siSet) X ⋯ ⋯ ⋯ ⋯ G L hcd hP0 (.inr rfl) hdd
  (bd0 ⋯ (LkW rfl (u7 (b7 ⋯) (b7 ⋯))) (bw7 rfl rfl (by decide) rfl rfl (LkW rfl a8) (.cons (LkW rfl (al1 ⋯ ⋯ (.name ⋯) (i7 rfl (aa2 ⋯)) .nil (ae6 (LkW rfl a8) (LkW rfl (u7 (b7 ⋯) (b7 ⋯)))))) .nil)))
  (λ r1 res q=>ea9 q) rm ek' hb ht4 fa n4 S4 Nd4 ⟨#[],hP4,trivial,ao1 S4 hP4 rfl,.inl rfl⟩ hlenN hinj y4.g2 hF) (λ f s5 q=>?_) λ ξ ξ e=>e)
 obtain ⟨rfl,⟨B5,l5,S5,m5,N5,n5⟩,tb⟩:=q
 obtain ⟨psT,hP5,_⟩:=tb
 obtain ⟨v,a,t,_,_,o⟩:=S5.vars ("due":Str) 6 .own _ ⋯ h6
 obtain ⟨b,rfl,e1,e2,e3⟩:=o rfl
 refine wpAny_execs_cons (wpAny_Return_some (a.load ek.kind ⋯ ?_))
 exact ⟨_,rfl,⟨B5,S5.gr,m1.trans (m2.trans (m3.trans (m4.trans m5))),b,rfl,e1,e2,t,e3⟩,psT,hP5⟩
end
end
section
open PySem.Calls PySem.SeqAt
section
variable {w:World} {qa:Heap} {mg mb:Str->Option Value} {k:Nat} {A:Around} {E:Value->Shared->Prop} {B:FM} {s:Shared} {P c0:Addr}
inductive cs0 (mg:Str->Option Value) (qa:Heap) (P:Addr):Prop
 | mk (fa:Addr) (o:Obj) (pm doc:Value) (c0:Addr) (h1:mg (i6 P2 31).name=some (.ref fa)) (h2:qa.get? fa=some o) (h3:o.data = .func (docDef (i6 P2 31).name (i6 P2 31).params (i6 P2 31).body (i6 P2 31).scope pm (.ref c0) doc)) (h4:qa.CodeRec (.ref c0) (i6 P2 31).name) (cd:CodeHd qa c0 P) (hP:qa.get? P=some (tabObj #[])) (bm:qa.BuiltinsAt mg P):cs0 mg qa P
theorem cw4.hide {qa:Heap} (cd:CodeHd qa c0 P) (hP:qa.get? P=some (tabObj #[])) (bm:qa.BuiltinsAt mg P):cw4 (qa.hide P) mg c0 P:=by
 refine ⟨?_,?_⟩
 ·obtain ⟨o,vs,file,tf,flags,tg,inF,text,tt,e,q,r⟩:=cd
  exact ⟨o,vs,file,tf,flags,tg,inF,text,tt,bg7 hP e (λ p=>by rw [p] at q;cases q),q,r⟩
 ·obtain ⟨b,ob,b1,b2,b3,b4,b5,b6,r⟩:=bm
  exact ⟨b,ob,b1,b2,b3,b4,bg7 hP b5 (λ p=>by rw [p] at b6;cases b6),b6,r⟩
theorem FrA.hide {env:Env} {h0:Heap} {B0:FM} {ps:Array Value} (fa:FrA A env B0 h0) (hP:h0.get? P=some (tabObj ps)):FrA A env (B0.no P) (h0.hide P):=by
 obtain ⟨q1,e0,l,q2,q3,q4,q5⟩:=fa
 refine ⟨q1,e0,l,q2,q3,q4,λ e he=>?_⟩
 obtain ⟨k1,f,o,es,ep,p1,p2,p3,p4,p5⟩:=q5 e he
 have hf:f≠P:=by
  rintro rfl
  rw [hP] at p2;cases p2;cases p3
 exact ⟨k1,f,o,es,ep,p1,(Heap.hide_ne h0 hf).trans p2,p3,p4,(FM.no_ne hf).trans p5⟩
theorem dm9 {B0:FM} (hb:∀ a o,qa.get? a=some o->B0 a=some o):∀ a o,(qa.hide P).get? a=some o->B0.no P a=some o:=λ a o e=>by
 have q:a≠P:=λ q=>by rw [q,Heap.hide_self] at e;cases e
 exact (FM.no_ne q).trans (hb a o (Heap.of_hide e))
inductive ev8 (w:World) (B:FM) (s:Shared) (P:Addr) (d:D) (v:Value) (s':Shared):Prop
 | mk (h:EvP prog w (B.no P) { s with heap:=s.heap.hide P } d v s') (ps:Array Value) (hp:s'.heap.get? P=some (tabObj ps)):ev8 w B s P d v s'
theorem dq3 {told arD:D} {R:Int->List Int} {tx jn:Int->Str} {vs:List Value} (G:Glb qa mg mb) (H:an5 mg qa) (DF:cs0 mg qa P)
  (hR:∀ o∈[1,2,3,4,5],c6 L2a "_law_reach" [arD,.int o]=some (.list ((R o).map .int))) (hnd:(R 5).Nodup) (h20:(R 5).length<=20)
  (hset:∀ r1 l x,RI told arD (R 5) r1->x∈R 5->r1.get 3=some (.fr,.int x)->r1.get 6=some (.own,.dict l)->ar3 60 l->r1.get 7=some (.fr,.list ((w6 (R 5) (n7 R) x).map .int))->exec (c6 L2a) fr2 siSet r1=some (.next,r1.set 6 (some (.own,.dict (ag8 l (.str (tx x)) (.str (jn x)))))))
  (hinj:∀ x∈R 5,∀ a∈n7 R x,∀ b∈n7 R x,ab0 (R 5) (n7 R) a=ab0 (R 5) (n7 R) b->a=b)
  (rm:Rm (k+2) A) (stk:Stk A B s.heap) (kp:j4 B s.heap) (hb:∀ a o,qa.get? a=some o->B a=some o) (ht:0 < s.toks) (r:RdL prog w B [told,arD] vs) :
  ∃ fa o fd,mg (Str.ofString "_law_due")=some (.ref fa)/\qa.get? fa=some o/\o.data = .func fd/\codeAny (model prog w) A (.call (.ref fa) ⟨vs,[]⟩) (λ r s'=>∃ v,r = .ok (.ret v)/\ev8 w B s P (.dict (bx2 tx jn (R 5) [])) v s') s:=by
 obtain ⟨fa,o,pm,doc,c0,h1,h2,h3,h4,cd,hP,bm⟩:=DF
 have T:=bb1 (show bl7 (i6 P2 31) "_law_due" [0,1] 12=true by kernel_rfl)
 have hbn:bm4 (i6 P2 31) 2:=cs3 λ ξ ξ ξ ξ ξ=>⋯
 refine ⟨fa,o,_,by rw [T.name];exact h1,h2,h3,by0 (k:=k+1) (r1:=ab3 (ac9 (i6 P2 31).scope) [0,1] [told,arD]) G h2 h3 h4 T.fs T.co T.gen rm hb (Gr.refl kp) stk (λ Q E hQ=>?_) λ A' E env B1 s1 rm' ek hcode ht' fa' S1 m1=>?_⟩
 ·rw [hbn pm (.ref c0) doc vs r.length]
  refine wpAny_pure (hQ _ s B (Gr.refl kp) (.refl s) λ env A E s2 Q ek S old ξ hle hQ2=>?_)
  rw [<- List.append_nil ((bt7 (i6 P2 31)).zip vs)]
  refine ba8 (rest:=[]) T.pars ek S r rfl λ h2 tk htk S1=>?_
  rw [List.forIn_nil]
  exact wpAny_pure (hQ2 h2 tk htk (Nat.lt_of_lt_of_le ht (Nat.le_trans hle htk)) S1)
 ·have hPs:=kp P _ (hb P _ hP)
  have hP1:s1.heap.get? P=some (tabObj #[]):=S1.gr.keep P _ (S1.gr.le P _ (hb P _ hP))
  have hf:env.frame=some env.locals:=by obtain ⟨q,_⟩:=fa';exact q
  have SH:=S1.hide hP1 hf
  have G':=G.hide hP
  have H':an5 mg (qa.hide P):=λ i hi=>(H i hi).hide hP
  have C:t8 w (qa.hide P) mg (k+1) (c6 L2a):=ay1 λ p hp ξ=>l2a (k:=k) G' H' p hp
  have e0:ac9 (i6 P2 31).scope=List.replicate 12 none:=aj2 T
  refine wpAny_mono (eb1 (U:=c6 L2a) (qc:=fr2) G' C (cw4.hide cd hP bm) hcode (Heap.hide_self _ _) hR hnd h20 hset hinj rm' ek (dm9 hb) ht' (fa'.hide hPs) SH (.inr rfl) hP1 (by rw [e0];rfl) (by rw [e0];rfl) (by rw [e0];rfl) λ i hi=>?_) (λ fl s3 q=>?_) λ ξ ξ e=>e
  ·rw [e0]
   show Rho.get [some (.fr,told),some (.fr,arD),none,none,none,none,none,none,none,none,none,none] i=none
   rcases i with _ | _ | i
   ·exact absurd hi (by decide)
   ·exact absurd hi (by decide)
   ·show Rho.get (List.replicate 10 none) i=none
    unfold Rho.get
    rw [List.getElem?_replicate]
    split <;> rfl
  ·obtain ⟨v,rfl,q,psT,hq⟩:=q
   refine ⟨v,rfl,v,rfl,?_,psT,hq⟩
   obtain ⟨B',g,m,q⟩:=q
   exact ch1 (s:={ s with heap:=s.heap.hide P }) ⟨B',g,⟨m.gens.trans m1.gens,m.os.trans m1.os,Nat.le_trans m1.toks m.toks⟩,q⟩
end
end
section
open PySem.Calls PySem.SeqAt
section
variable {w:World} {h0:Heap} {B0 B:FM} {sc:Scope} {env:Env} {r:Rho} {Y:Addr->Prop} {A:Around} {E:Value->Shared->Prop} {s:Shared}
theorem Sim.storeLt {x:Str} {i:Nat} {d:D} {v:Value} {Q:Unit->Shared->Prop} (S:Sim prog w h0 B0 env sc r B Y s.heap) (ek:j6 env sc) (hs:d8 sc x=some i) (hx:sc.names.lookup x=some .local) (hv:Rd prog w B d v)
  (h:∀ h' tk a,s.toks < tk->isOwn env sc a->Heap.SameBut a s.heap h'->Sim prog w h0 B0 env sc (r.set i (some (.fr,d))) B Y h'->(∀ y,y≠x->∀ u,At env s.heap y u->At env h' y u)->Q () { s with heap:=h',toks:=tk }) :
  wpAny (model prog w) A (storeName env x v) Q E s:=S.storeG ek hs (.inl hx) hv λ h' tk a ξ q=>h h' tk a (q hx)
end
noncomputable def cw5:IR:=.comp [none,none,none,some 1] [1] (.var 2) [] (.call "_law_told" [.var 1,.var 3])
section
variable {w:World} {qa:Heap} {mg mb:Str->Option Value} {A:Around} {B:FM} {s:Shared} {P:Addr}
inductive ep9 (w:World) (B:FM) (s:Shared) (P:Addr) (s':Shared):Prop
 | mk (B':FM) (g:Gr (B.no P) (s.heap.hide P) B' s'.heap) (m:k6 s s') (ps:Array Value) (hp:s'.heap.get? P=some (tabObj ps)):ep9 w B s P s'
theorem cv1:∃ x1:Str,bt7 (i6 P2 34)=[x1]/\(i6 P2 34).scope.names.lookup x1=some .local:=⟨_,rfl,⋯⟩
theorem dq7 {told arD dv:D} {pd:List (D×D)} {R:Int->List Int} {tx jn:Int->Str} {v:Value} {fa:Addr} {r5:Rho} (G:Glb qa mg mb) (H:an5 mg qa) (DF:cs0 mg qa P)
  (hR:∀ o∈[1,2,3,4,5],c6 L2a "_law_reach" [arD,.int o]=some (.list ((R o).map .int))) (hnd:(R 5).Nodup) (h20:(R 5).length<=20)
  (hset:∀ r1 l x,RI told arD (R 5) r1->x∈R 5->r1.get 3=some (.fr,.int x)->r1.get 6=some (.own,.dict l)->ar3 60 l->r1.get 7=some (.fr,.list ((w6 (R 5) (n7 R) x).map .int))->exec (c6 L2a) fr2 siSet r1=some (.next,r1.set 6 (some (.own,.dict (ag8 l (.str (tx x)) (.str (jn x)))))))
  (hinj:∀ x∈R 5,∀ a∈n7 R x,∀ b∈n7 R x,ab0 (R 5) (n7 R) a=ab0 (R 5) (n7 R) b->a=b)
  (hex:execs (c6 L2d) fr2 cj0 ((List.replicate 15 none).set 0 (some (.fr,dv)))=some (.next,r5)) (h9:r5.get 9=some (.fr,.dict pd)) (h3:r5.get 3=some (.fr,arD)) (ht:eval (c6 L2d) cw5 r5=some told) (hcmp:bb7 .Eq (.dict pd) (.dict (bx2 tx jn (R 5) []))=some true)
  (rm:Rm 6 A) (stk:Stk A B s.heap) (kp:j4 B s.heap) (hb:∀ a o,qa.get? a=some o->B a=some o) (hr:Rd prog w B dv v) (hfa:mg (i6 P2 34).name=some (.ref fa)) :
  codeAny (model prog w) A (.call (.ref fa) ⟨[v],[]⟩) (λ r s'=>r = .ok (.ret (.bool true))/\ep9 w B s P s') s:=by
 obtain ⟨x1,hp1,hx1⟩:=cv1
 have T:=bb1 (show bl7 (i6 P2 34) "law" [0] 15=true by kernel_rfl)
 have hbn:bm4 (i6 P2 34) 1:=ax5 λ ξ ξ ξ ξ=>⋯
 obtain ⟨fa',o,pm,code,doc,h1,h2,h3',h4⟩:=H 34 (by decide)
 rw [hfa] at h1
 cases h1
 have pa:=T.pars
 rw [hp1] at pa
 cases pa with
 | cons p1 pa=>
 obtain ⟨hsl,_⟩:=f4 p1
 refine by0 (k:=5) (r1:=(ac9 (i6 P2 34).scope).set 0 (some (.fr,dv))) G h2 h3' h4 T.fs T.co T.gen rm hb (Gr.refl kp) stk (λ Q E hQ=>?_) λ A' E env B1 s1 rm' ek ξ ht1 fa1 S1 m1=>?_
 ·rw [hbn pm code doc [v] rfl,hp1]
  refine wpAny_pure (hQ _ s B (Gr.refl kp) (.refl s) λ env A E s2 Q ek S old ξ ξ hQ2=>?_)
  show wpAny (model prog w) A (forIn [(x1,v)] PUnit.unit _) Q E s2
  rw [List.forIn_cons]
  refine wpAny_bind (wpAny_bind (S.storeLt ek hsl hx1 hr λ h' tk a htk ha hsb S' hoth=>wpAny_pure ?_))
  dsimp only
  rw [List.forIn_nil]
  exact wpAny_pure (hQ2 h' tk (Nat.le_of_lt htk) (Nat.lt_of_le_of_lt (Nat.zero_le _) htk) S')
 ·have C:=l2d (w:=w) (k:=0) G H
  have nm:j7 (i6 P2 34).scope ((ac9 (i6 P2 34).scope).set 0 (some (.fr,dv))):=bj1 (is:=[0]) (ds:=[dv]) rfl
  refine ec6 (qc:=fr2) G C (cb0 (k:=0) G H) (be8 (k:=0) G H) rm' ek hb ht1 fa1 nm S1 (by rw [aj2 T];exact hex) λ s2 B2 l2 S2 m2 n2=>?_
  have ht2:=Nat.lt_of_lt_of_le ht1 m2.toks
  have ok:=Sim.ok S2 rm' ek hb ht2 fa1
  obtain ⟨va,a9,t9,f9,_⟩:=S2.vars ("paths":Str) 9 .fr _ ⋯ h9
  obtain ⟨fd,od,pmd,docd,c0,d1,d2,d3,d4,cd,hP,bm⟩:=id DF
  have hname:(i6 P2 31).name=Str.ofString "_law_due":=⋯
  refine wpAny_execs_cons (wpAny_Return_some (wpAny_Compare1 (a9.load ek.kind ⋯ (Call_ (ak7 G ok ⋯ (show mg (Str.ofString "_law_due")=some (.ref fd) by rw [<- hname];exact d1) (callWith_def (o:=od) d3 (au1 (qd:=[cw5,.var 3]) (ds:=[told,arD])
   (.cons (al1 ⋯ ⋯ (.name ⋯) (i7 rfl (aa2 ⋯)) .nil (k7 G C ⋯ rfl rfl rfl (by decide) (.cons (g6 ⋯) (.cons (g6 ⋯) .nil)))) (.cons (g6 ⋯) .nil)) rfl ok (d7 ht (d7 (k0 h3) j0)) λ vs s3 B3 g3 m3 rd3 ok3=>⟨ok3.old _ _ d2,?_⟩) rfl)))) rfl))
  obtain ⟨fd',od',fdd',e1,e2,e3,hc⟩:=dq3 (k:=3) (w:=w) G H DF hR hnd h20 hset hinj ok3.rm ok3.stk ok3.keep ok3.base ok3.toks rd3
  rw [<- hname,d1] at e1
  cases e1
  refine wpAny_call (codeAny_mono hc λ r' s4 q=>?_)
  obtain ⟨u,rfl,⟨B4,g4,rd4,m4⟩,psT,hP4⟩:=q
  have hP3:=ok3.old P _ hP
  have N3:bw5 B3 P:=λ o e=>by have:=ok3.keep P o e;rw [hP3] at this;cases this;rfl
  have r9:Rd prog w B4 (.dict pd) va:=(((f9 rfl).mono g3.le).no N3).mono g4.le
  refine wpAny_mono (dx4 g4.keep ok3.rm (r9.top g4.keep) (rd4.top g4.keep) hcmp) (λ u2 s5 q=>?_) λ ξ ξ e=>e
  obtain ⟨B5,g5,rd5,m5⟩:=q
  obtain rfl:=rd5
  refine ⟨_,rfl,rfl,B5,(((S2.gr.trans g3).hide λ b q=>Heap.hide_ne s3.heap q).trans g4).trans g5,⟨?_,?_,?_⟩,psT,g5.old.solid hP4 (.fields rfl)⟩
  ·exact m5.gens.trans (m4.gens.trans (m3.gens.trans (m2.gens.trans m1.gens)))
  ·exact m5.os.trans (m4.os.trans (m3.os.trans (m2.os.trans m1.os)))
  ·exact Nat.le_trans m1.toks (Nat.le_trans m2.toks (Nat.le_trans m3.toks (Nat.le_trans m4.toks m5.toks)))
end
end
section
open PySem.StrLaws PySem.Builtin PySem.Builtin.Str
structure Nms (nm:Nat->Str):Prop where
 ok:∀ k,ba3 (nm k)
 inj:∀ i < 5,∀ j < 5,nm i=nm j->i=j
noncomputable def kv (nm:Nat->Str) (f:Nat->D) (ks:List Nat):List (D×D):=ks.map λ k=>(.str (nm k),f k)
section
variable {nm:Nat->Str} {f g:Nat->D} {ks:List Nat}
theorem bo6:(kv nm f ks).all (λ e=>z8 e.1)=true:=by
 unfold kv;rw [List.all_map];exact List.all_eq_true.mpr λ ξ ξ=>rfl
theorem ax6 (h:∀ k∈ks,f k=g k):kv nm f ks=kv nm g ks:=List.map_congr_left λ k hk=>by rw [h k hk]
theorem bp3 (N:Nms nm) {j:Nat} (hj:j < 5):∀ {ks:List Nat},(∀ k∈ks,k < 5)->bc6 (kv nm f ks) (.str (nm j))=if j∈ks then some (f j) else none
 | [],_=>rfl
 | k :: ks,h=>by
  have ih:=bp3 N hj (ks:=ks) λ x hx=>h x (.tail _ hx)
  show ((List.find? (λ e=>eqK e.1 (.str (nm j))) ((.str (nm k),f k) :: kv nm f ks)).map (·.2))=_
  rw [List.find?_cons]
  by_cases e:k=j
  ·subst e
   have:eqK (.str (nm k)) (.str (nm k))=true:=beq_self_eq_true _
   rw [this,if_pos (.head _)];rfl
  ·have:eqK (.str (nm k)) (.str (nm j))=false:=beq_eq_false_iff_ne.mpr λ q=>e (N.inj k (h k (.head _)) j hj q)
   rw [this]
   refine ih.trans ?_
   by_cases q:j∈ks
   ·rw [if_pos q,if_pos (.tail _ q)]
   ·rw [if_neg q,if_neg λ p=>(List.mem_cons.mp p).elim (λ p=>e p.symm) q]
theorem dp0 (N:Nms nm) {j:Nat} (hj:j < 5) (h:∀ k∈ks,k < 5):((kv nm f ks).any λ e=>eqK e.1 (.str (nm j)))=decide (j∈ks):=by
 have h1:((kv nm f ks).any λ e=>eqK e.1 (.str (nm j)))=true↔j∈ks:=by
  rw [List.any_eq_true]
  constructor
  ·rintro ⟨e,he,q⟩
   obtain ⟨k,hk,rfl⟩:=List.mem_map.mp he
   exact N.inj k (h k hk) j hj (eq_of_beq q)▸hk
  ·intro q
   exact ⟨_,List.mem_map_of_mem q,beq_self_eq_true _⟩
 by_cases q:j∈ks
 ·rw [decide_eq_true q];exact h1.mpr q
 ·rw [decide_eq_false q];exact Bool.eq_false_iff.mpr λ p=>q (h1.mp p)
theorem by2 (N:Nms nm) {j:Nat} (hj:j < 5) (h:∀ k∈ks,k < 5) (hn:j ∉ ks):ag8 (kv nm f ks) (.str (nm j)) (f j)=kv nm f (ks ++ [j]):=by
 unfold ag8
 rw [dp0 N hj h,decide_eq_false hn,if_neg (by decide)]
 unfold kv;rw [List.map_append];rfl
theorem dp1 (N:Nms nm) {j:Nat} {d:D} (hj:j < 5) (h:∀ k∈ks,k < 5) (hn:j∈ks):ag8 (kv nm f ks) (.str (nm j)) d=kv nm (λ k=>if k=j then d else f k) ks:=by
 unfold ag8
 rw [dp0 N hj h,decide_eq_true hn,if_pos rfl]
 unfold kv;rw [List.map_map]
 refine List.map_congr_left λ k hk=>?_
 show (if eqK (.str (nm k)) (.str (nm j))=true then (PyData.str (nm k),d) else (.str (nm k),f k))=(.str (nm k),if k=j then d else f k)
 by_cases e:k=j
 ·subst e
  rw [if_pos (show eqK (.str (nm k)) (.str (nm k))=true from beq_self_eq_true _),if_pos rfl]
 ·rw [if_neg (show ¬ eqK (.str (nm k)) (.str (nm j))=true from λ q=>e (N.inj k (h k hk) j hj (eq_of_beq q))),if_neg e]
noncomputable def pth (nm:Nat->Str) (P:Nat->List Nat) (k:Nat):D:=.str (PS ((P k).map nm))
theorem ab6 (N:Nms nm) (l:List Nat):NA (l.map nm):=λ n hn=>by
 obtain ⟨k,_,rfl⟩:=List.mem_map.mp hn
 exact N.ok k
theorem bu3 (N:Nms nm):∀ {a b:List Nat},(∀ x∈a,x < 5)->(∀ x∈b,x < 5)->a.map nm=b.map nm->a=b
 | [],[],_,_,_=>rfl
 | [],_ :: _,_,_,h=>nomatch h
 | _ :: _,[],_,_,h=>nomatch h
 | x :: a,y :: b,ha,hb,h=>by
  rw [List.map_cons,List.map_cons] at h
  injection h with h1 h2
  rw [N.inj x (ha x (.head _)) y (hb y (.head _)) h1,bu3 N (λ z hz=>ha z (.tail _ hz)) (λ z hz=>hb z (.tail _ hz)) h2]
noncomputable def at0 (l:List Nat):List Int:=l.map λ n:Nat=>(n:Int)
noncomputable def Rn (ar:List (Nat×Nat)) (o:Int):List Int:=at0 (k8 ar o.toNat 4)
noncomputable def txN (nm:Nat->Str) (x:Int):Str:=nm x.toNat
noncomputable def jnN (nm:Nat->Str) (ar:List (Nat×Nat)) (x:Int):Str:=PS ((w6 (Rn ar 5) (n7 (Rn ar)) x).map (txN nm))
theorem az7 {l:List Nat} {k:Nat}:(k:Int)∈at0 l↔k∈l:=by
 unfold at0
 rw [List.mem_map]
 exact ⟨λ ⟨a,h,e⟩=>Int.ofNat.inj e▸h,λ h=>⟨k,h,rfl⟩⟩
theorem cc9 (l:List Nat):(at0 l).map PyData.int=l.map nI:=List.map_map
theorem cc8 {L:Int->List Int} {met:List Int} {x:Int} (hx:x∈met):∀ (qe:List Int) (N:Int->List Int),ap4 L met qe N x=N x ++ qe.filter λ o=>decide (x≠o/\x ∉ L o)
 | [],N=>(List.append_nil _).symm
 | o :: qe,N=>by
  show ap4 L met qe (at1 o (L o) met N) x=_
  rw [cc8 hx qe,List.filter_cons]
  unfold at1
  by_cases h:x≠o/\x ∉ L o
  ·rw [if_pos ⟨hx,h⟩,decide_eq_true h,if_pos rfl,List.append_assoc];rfl
  ·rw [if_neg λ q=>h q.2,decide_eq_false h,if_neg (by decide)]
variable {ar:List (Nat×Nat)} {P:Nat->List Nat}
theorem dl6 (d:Nat):ae7 (Rn ar) (d:Int)=at0 (cc2 ar d):=by
 unfold ae7 cc2
 by_cases h:d=0
 ·subst h;rfl
 ·rw [if_neg (show ¬ (d:Int)=0 from λ q=>h (Int.ofNat.inj q)),if_pos h];rfl
theorem bt5 {k:Nat} (hk:k∈k8 ar 5 4):n7 (Rn ar) (k:Int)=at0 (bf5 ar k):=by
 unfold n7
 rw [cc8 (show (k:Int)∈Rn ar 5 from az7.mpr hk)]
 unfold bf5 at0
 rw [List.map_cons]
 refine congrArg (List.cons (k:Int)) ?_
 show (bm1.filter λ o=>decide ((k:Int)≠o/\(k:Int) ∉ ae7 (Rn ar) o))=_
 rw [show bm1=(List.range 5).map λ n:Nat=>(n:Int) from rfl,List.filter_map]
 refine congrArg _ (List.filter_congr λ d _=>?_)
 show decide ((k:Int)≠(d:Int)/\(k:Int) ∉ ae7 (Rn ar) (d:Int))=_
 rw [dl6]
 by_cases h1:k=d
 ·rw [decide_eq_false (λ q=>q.1 (congrArg _ h1)),decide_eq_false (λ q=>q h1)];rfl
 ·rw [decide_eq_true h1,Bool.true_and]
  by_cases h2:k∈cc2 ar d
  ·rw [decide_eq_true h2,decide_eq_false (λ q=>q.2 (az7.mpr h2))];rfl
  ·rw [decide_eq_false h2,decide_eq_true ⟨λ q=>h1 (Int.ofNat.inj q),λ q=>h2 (az7.mp q)⟩];rfl
theorem ck1 (F:ar7 ar ks P) {a:Nat} (ha:a∈ks):ab0 (Rn ar 5) (n7 (Rn ar)) (a:Int)=((P a).length:Int):=by
 have hm:=F.all.mpr ha
 unfold ab0
 rw [if_pos (show (a:Int)∈Rn ar 5 from az7.mpr hm),bt5 hm]
 unfold at0
 rw [List.length_map,F.len ha]
theorem cd6 (F:ar7 ar ks P) {k:Nat} (hk:k∈ks) {x:Int} (h:x∈n7 (Rn ar) (k:Int)):∃ a,a∈P k/\x=(a:Int):=by
 rw [bt5 (F.all.mpr hk)] at h
 obtain ⟨a,h1,rfl⟩:=List.mem_map.mp h
 exact ⟨a,(F.need hk).mp h1,rfl⟩
theorem dh6 (F:ar7 ar ks P):∀ x∈Rn ar 5,∀ a∈n7 (Rn ar) x,∀ b∈n7 (Rn ar) x,ab0 (Rn ar 5) (n7 (Rn ar)) a=ab0 (Rn ar 5) (n7 (Rn ar)) b->a=b:=by
 intro x hx a ha b hb e
 obtain ⟨k,hk,rfl⟩:=List.mem_map.mp hx
 have hks:=F.all.mp hk
 obtain ⟨a,h1,rfl⟩:=cd6 F hks ha
 obtain ⟨b,h2,rfl⟩:=cd6 F hks hb
 obtain ⟨ka,pa⟩:=F.k.t.mem hks h1
 obtain ⟨kb,pb⟩:=F.k.t.mem hks h2
 rw [ck1 F ka,ck1 F kb] at e
 have el:=Int.ofNat.inj e
 have:P a=P b:=by rw [List.prefix_iff_eq_take.mp pa,List.prefix_iff_eq_take.mp pb,el]
 rw [F.k.t.inj ka kb this]
theorem cn8 (F:ar7 ar ks P) {k:Nat} (hk:k∈ks):w6 (Rn ar 5) (n7 (Rn ar)) (k:Int)=at0 (P k):=by
 have hm:=F.all.mpr hk
 refine (bs2 (dh6 F _ (az7.mpr hm)) ?_ ?_).symm
 ·rw [bt5 hm]
  exact (F.perm hk).symm.map _
 ·unfold at0
  rw [List.pairwise_map]
  refine (F.k.t.chain _ (Nat.le_refl _) hk).2.imp_of_mem λ {a b} ha hb q=>?_
  rw [ck1 F (F.k.t.mem hk ha).1,ck1 F (F.k.t.mem hk hb).1]
  exact Int.ofNat_le.mpr (Nat.le_of_lt q)
theorem dv5 (F:ar7 ar ks P) {k:Nat} (hk:k∈ks):jnN nm ar (k:Int)=PS ((P k).map nm):=by
 unfold jnN
 rw [cn8 F hk]
 unfold at0
 rw [List.map_map];rfl
theorem db1 (N:Nms nm) {tx jn:Int->Str} (ht:∀ k:Nat,tx k=nm k):∀ {ms done:List Nat},(∀ k∈done ++ ms,k < 5)->(done ++ ms).Nodup->bx2 tx jn (at0 ms) (kv nm (λ k=>.str (jn k)) done)=kv nm (λ k=>.str (jn k)) (done ++ ms)
 | [],done,_,_=>by rw [List.append_nil];rfl
 | m :: ms,done,h,hn=>by
  have hm:m ∉ done:=λ q=>(List.nodup_append.mp hn).2.2 m q m (.head _) rfl
  have e:done ++ m :: ms=(done ++ [m]) ++ ms:=by rw [List.append_assoc];rfl
  show bx2 tx jn (at0 ms) (ag8 (kv nm (λ k=>.str (jn k)) done) (.str (tx m)) (.str (jn m)))=_
  rw [ht,by2 (f:=λ k=>.str (jn k)) N (h m (List.mem_append_right _ (.head _))) (λ k hk=>h k (List.mem_append_left _ hk)) hm,db1 N ht (by rw [<- e];exact h) (by rw [<- e];exact hn),e]
theorem da7 {x:Str} (h:PyData.strOk x=true):SeqAt.shaped (.str x)=true:=by
 show (PyData.canLay0 (.str x) && decide (PyData.depth (.str x)<=64))=true
 simp [PyData.canLay0,PyData.depth,h]
theorem dc9 {u:Nat->Str} (h:∀ k∈ks,PyData.strOk (u k)=true):aw1 (kv nm (λ k=>.str (u k)) ks)=true:=by
 unfold aw1 kv
 rw [List.all_map]
 exact List.all_eq_true.mpr λ k hk=>da7 (h k hk)
theorem dk4 (a b:List (D×D)):eqD (.dict a) (.dict b)=none:=by
 unfold eqD
 refine bu6 rfl ?_
 have:SeqAt.shaped (.dict a)=false:=by
  show (PyData.canLay0 (.dict a) && _)=false
  simp [PyData.canLay0]
 rw [this];rfl
theorem ei0 (F:ar7 ar ks P) (N:Nms nm) (hn:ks.Nodup):bb7 .Eq (.dict (kv nm (pth nm P) ks)) (.dict (bx2 (txN nm) (jnN nm ar) (Rn ar 5) []))=some true:=by
 have hnd:(k8 ar 5 4).Nodup:=az2 F.lt
 have hp:(k8 ar 5 4).Perm ks:=(List.perm_ext_iff_of_nodup hnd hn).mpr λ d=>F.all
 have h5:∀ k∈k8 ar 5 4,k < 5:=λ k hk=>F.n k (F.all.mp hk)
 have e:bx2 (txN nm) (jnN nm ar) (Rn ar 5) []=kv nm (λ k=>.str (jnN nm ar k)) (k8 ar 5 4):=db1 N (λ k=>rfl) (done:=[]) h5 hnd
 show (eqD (.dict (kv nm (pth nm P) ks)) (.dict (bx2 (txN nm) (jnN nm ar) (Rn ar 5) []))).or (eqM (.dict (kv nm (pth nm P) ks)) (.dict (bx2 (txN nm) (jnN nm ar) (Rn ar 5) [])))=some true
 refine bu6 (dk4 _ _) ?_
 have sP:∀ k,PyData.strOk (PS ((P k).map nm))=true:=λ k=>bs6 (ab6 N _)
 have sJ:∀ k∈k8 ar 5 4,PyData.strOk (jnN nm ar k)=true:=λ k hk=>by rw [dv5 F (F.all.mp hk)];exact sP k
 show (do let x <- some (kv nm (pth nm P) ks);let y <- some (bx2 (txN nm) (jnN nm ar) (Rn ar 5) []);gd (aw1 x && aw1 y) (some (am3 x y)):Option Bool)=_
 rw [e]
 refine r6 (g7 (dc9 (u:=λ k=>PS ((P k).map nm)) λ k _=>sP k) (dc9 sJ)) (congrArg some ?_)
 unfold am3
 have hl:(kv nm (pth nm P) ks).length=(kv nm (λ k=>PyData.str (jnN nm ar k)) (k8 ar 5 4)).length:=by
  unfold kv;rw [List.length_map,List.length_map,hp.length_eq]
 rw [hl,beq_self_eq_true,Bool.true_and]
 refine List.all_eq_true.mpr λ x hx=>?_
 obtain ⟨k,hk,rfl⟩:=List.mem_map.mp hx
 have hm:=F.all.mpr hk
 unfold cm0
 show ((bc6 (kv nm (λ k=>PyData.str (jnN nm ar k)) (k8 ar 5 4)) (.str (nm k))).map (PyData.eqv (pth nm P k))).getD false=true
 rw [bp3 N (F.n k hk) h5,if_pos hm]
 show PyData.eqv (.str (PS ((P k).map nm))) (.str (jnN nm ar k))=true
 rw [dv5 F hk]
 exact decide_eq_true rfl
end
end
section
open PySem.StrLaws PySem.Builtin PySem.Builtin.Str
theorem dx0:∀ (l:List Str),cl (Str.join "" (l.map λ n=>"/" ++ n))=pl l
 | []=>by show cl ("":Str)=_;rw [em4];rfl
 | [a]=>by
  show cl ("/" ++ a)=_
  rw [al5,av9]
  simp [pl]
 | a :: b :: r=>by
  show cl (("/" ++ a) ++ "" ++ Str.join "" ((b :: r).map λ n=>"/" ++ n))=_
  rw [al5,al5,al5,dx0 (b :: r),av9,em4]
  simp [pl]
theorem dx5 {l:List Str} (h:l≠[]):Txt.join "" (l.map λ n=>"/" ++ n)=PS l:=am2 (by rw [cq4,dx0,ak9 h])
theorem bj4 {U:String->List D->Option D} {fr:String->Bool} {x:Nat} {i e:IR} {r r2:Rho} {l:List (D×D)} {y:Str} {v:D} (h1:eval U e r=some v) (h2:look U i r=some (.str y)) (hx:r.get x=some (.own,.dict l)) (hl:ar3 60 l) (hp:r.put x .own (.dict (ag8 l (.str y) v))=some r2) :
  exec U fr (.setItem x i e) r=some (.next,r2):=
 ob h1 (ob h2 (ob (congrArg az9 hx) (ob rfl (r6 (g7 rfl (g7 hl.1 (decide_eq_true hl.2))) (ob hp rfl)))))
theorem dn0 {ss:List Str} (hj:JoinOk "" ss=true) (hz:ss.length<=1000):mfD .join (.str "") [.list (ss.map .str)]=some (.str (Txt.join "" ss)):=by
 have e:(ss.map PyData.str).mapM u6=some ss:=by
  rw [ac4 (f:=u6) (g:=λ d=>(u6 d).getD "") λ d hd=>by obtain ⟨s,_,rfl⟩:=List.mem_map.mp hd;rfl,List.map_map]
  exact congrArg some (List.map_id ss)
 exact ob rfl (ob rfl (ob rfl (ob e (r6 (g7 hj (szl (by rw [List.length_map];exact Nat.le_trans hz (by decide)))) rfl))))
theorem dy8 {l:List Str} (h:NA l) (hl:l.length<=8):JoinOk "" (l.map λ n=>"/" ++ n)=true:=by
 unfold JoinOk
 rw [joinTotal]
 have h1:((l.map λ n=>("/":Str) ++ n).map (·.length)).sum<=(l.map λ n=>("/":Str) ++ n).length * 65:=sumLen_le _ λ y hy=>by
  obtain ⟨n,hn,rfl⟩:=List.mem_map.mp hy
  rw [ch8,bd9,Nat.add_comm]
  exact Nat.succ_le_succ (h n hn).2.2.2.1
 have h2:sizeLine=16777216:=sizeLine_eq
 have h3:("":Str).length=0:=by rw [ag2,em4];rfl
 rw [List.length_map] at h1
 simp only [tooLong,Bool.not_eq_true',decide_eq_false_iff_not,h3,List.length_map]
 lia
section
variable {nm:Nat->Str} {ks:List Nat} {ar:List (Nat×Nat)} {P:Nat->List Nat}
noncomputable def y5 (nm:Nat->Str):D:=.list ((List.range 5).map λ k=>.str (nm k))
theorem ai3 {k:Nat} (h:k < 5):bz4 (y5 nm) (nI k)=some (.str (nm k)):=by
 refine af4 ?_ (Nat.lt_trans h (by decide))
 rw [List.getElem?_map,List.getElem?_range h];rfl
theorem Tr.len5 (t:Tr ks P) (h5:∀ x∈ks,x < 5) {x:Nat} (hx:x∈ks):(P x).length<=5:=y8 5 (t.chain _ (Nat.le_refl _) hx).1 λ y hy=>h5 y (t.mem hx hy).1
theorem ee3 {arD:D} (N:Nms nm) (F:ar7 ar ks P) (r1:Rho) (l:List (D×D)) (x:Int) (y:RI (y5 nm) arD (Rn ar 5) r1) (hx:x∈Rn ar 5) (h3:r1.get 3=some (.fr,.int x)) (h6:r1.get 6=some (.own,.dict l)) (hl:ar3 60 l) (h7:r1.get 7=some (.fr,.list ((w6 (Rn ar 5) (n7 (Rn ar)) x).map .int))) :
  exec (c6 L2a) fr2 siSet r1=some (.next,r1.set 6 (some (.own,.dict (ag8 l (.str (txN nm x)) (.str (jnN nm ar x)))))):=by
 obtain ⟨k,hk,rfl⟩:=List.mem_map.mp hx
 have hks:=F.all.mp hk
 rw [cn8 F hks,cc9] at h7
 rw [dv5 F hks]
 have hP:P k≠[]:=λ q=>by have:=F.k.t.self hks;rw [q] at this;cases this
 have qf:=F.k.t.len5 F.n hks
 refine bj4 (y:=nm k) ?_ (l_e rfl (aa8 (d9 y.g0) (d9 h3) (ai3 (F.n k hks)))) h6 hl (y.put (m:=.own) (by decide))
 have hc:eval (c6 L2a) (.comp [none,none,some 0] [1] (.var 7) [] (.bin .Add (.str "/") (.idx (.var 2) (.var 1)))) r1=some (.list ((P k).map λ m=>.str ("/" ++ nm m))):=by
  refine ax9 (xs:=P k) (g:=nI) (h:=λ m=>.str ("/" ++ nm m)) (R:=λ m=>[none,some (.fr,nI m),some (.fr,y5 nm)]) (ah2 rfl (d9 h7)) (λ m hm=>?_) (λ m hm=>?_) (szl (Nat.le_trans qf (by decide)))
  ·show m8 [none,none,bj2 (r1.get 0)] [1] (nI m)=_
   rw [y.g0];rfl
  ·refine al9 cq3 (l_e rfl (aa8 (d9 rfl) (d9 rfl) (ai3 (F.n m (F.k.t.mem hks hm).1)))) (bp6 ?_)
   rw [bd9]
   have:=(N.ok m).2.2.2.1
   lia
 have e2:((P k).map λ m=>PyData.str ("/" ++ nm m))=(((P k).map nm).map λ n=>("/":Str) ++ n).map .str:=by rw [List.map_map,List.map_map];rfl
 rw [e2] at hc
 refine ch7 cq3 (m7 (l_e rfl hc) y9) ?_
 rw [dn0 (dy8 (ab6 N _) (by rw [List.length_map];exact Nat.le_trans qf (by decide))) (by rw [List.length_map,List.length_map];exact Nat.le_trans qf (by decide)),dx5 (by simpa using hP)]
end
end
section
open PySem.StrLaws PySem.Builtin PySem.Builtin.Str
noncomputable def tg (nm:Nat->Str) (ar:List (Nat×Nat)) (k:Nat):List Str:=(ar.filter λ e=>e.1 == k).map λ e=>nm e.2
noncomputable def be2 (nm:Nat->Str) (ar:List (Nat×Nat)) (ks:List Nat) (k:Nat):List Str:=(al0 (tg nm ar k)).filter λ x=>decide (x ∉ al0 (ks.map nm))
noncomputable def ad1 (nm:Nat->Str) (ar:List (Nat×Nat)) (ks:List Nat) (js:List Nat):List (Nat×Str):=js.flatMap λ k=>(be2 nm ar ks k).map λ n=>(k,n)
noncomputable def ao7 (nm:Nat->Str) (P:Nat->List Nat) (p:Nat×Str):D:=.list [pth nm P p.1,.str p.2]
section
variable {nm:Nat->Str} {ks:List Nat} {ar:List (Nat×Nat)} {P:Nat->List Nat}
theorem cl2 (N:Nms nm) (hn:ar.Nodup) (ha:∀ e∈ar,e.1 < 5/\e.2 < 5/\e.1≠e.2) (k:Nat):(tg nm ar k).Nodup:=by
 unfold tg
 rw [List.Nodup,List.pairwise_map]
 refine (hn.filter _).imp_of_mem λ {a b} h1 h2 q e=>?_
 obtain ⟨a1,a2⟩:=List.mem_filter.mp h1
 obtain ⟨b1,b2⟩:=List.mem_filter.mp h2
 exact q (Prod.ext ((eq_of_beq a2).trans (eq_of_beq b2).symm) (N.inj _ (ha a a1).2.1 _ (ha b b1).2.1 e))
theorem ay8 (N:Nms nm) (ha:∀ e∈ar,e.1 < 5/\e.2 < 5/\e.1≠e.2) (h5:∀ k∈ks,k < 5) {k:Nat} {x:Str}:x∈be2 nm ar ks k↔∃ m,x=nm m/\(k,m)∈ar/\m ∉ ks:=by
 unfold be2
 rw [List.mem_filter,(ag1 _).mem_iff,decide_eq_true_eq,(ag1 _).mem_iff]
 constructor
 ·rintro ⟨h1,h2⟩
  obtain ⟨e,he,rfl⟩:=List.mem_map.mp h1
  obtain ⟨e1,e2⟩:=List.mem_filter.mp he
  have:=eq_of_beq e2
  subst this
  exact ⟨e.2,rfl,e1,λ q=>h2 (List.mem_map_of_mem q)⟩
 ·rintro ⟨m,rfl,h1,h2⟩
  refine ⟨List.mem_map.mpr ⟨(k,m),List.mem_filter.mpr ⟨h1,beq_self_eq_true k⟩,rfl⟩,λ q=>?_⟩
  obtain ⟨j,hj,e⟩:=List.mem_map.mp q
  exact h2 (N.inj j (h5 j hj) m (ha _ h1).2.1 e▸hj)
theorem bw1 (N:Nms nm) (hn:ar.Nodup) (ha:∀ e∈ar,e.1 < 5/\e.2 < 5/\e.1≠e.2) (k:Nat):(be2 nm ar ks k).Nodup:=(bq9 (bv3 (cl2 N hn ha k))).filter _
theorem at4 (N:Nms nm) (hn:ar.Nodup) (ha:∀ e∈ar,e.1 < 5/\e.2 < 5/\e.1≠e.2) (hk:ks.Nodup) (h5:∀ k∈ks,k < 5) (k:Nat):(be2 nm ar ks k).length+ks.length<=5:=by
 have h1:=(bw1 (ks:=ks) N hn ha k).length_le_of_subset (l₂:=((List.range 5).filter λ m=>decide (m ∉ ks)).map nm) λ x hx=>by
  obtain ⟨m,rfl,q1,q2⟩:=(ay8 N ha h5).mp hx
  exact List.mem_map_of_mem (List.mem_filter.mpr ⟨List.mem_range.mpr (ha _ q1).2.1,decide_eq_true q2⟩)
 rw [List.length_map] at h1
 have h2:(((List.range 5).filter λ m=>decide (m ∉ ks)) ++ ks).Nodup:=List.nodup_append.mpr ⟨List.nodup_range.filter _,hk,λ a h b hb e=>by
  subst e
  exact of_decide_eq_true (List.mem_filter.mp h).2 hb⟩
 have h3:=y8 5 h2 λ y hy=>(List.mem_append.mp hy).elim (λ q=>List.mem_range.mp (List.mem_filter.mp q).1) (h5 y)
 rw [List.length_append] at h3
 exact Nat.le_trans (Nat.add_le_add_right h1 _) h3
theorem bp1 {m:Nat} (h:∀ k,(be2 nm ar ks k).length<=m):∀ js:List Nat,(ad1 nm ar ks js).length<=js.length * m
 | []=>Nat.zero_le _
 | k :: js=>by
  unfold ad1
  rw [List.flatMap_cons,List.length_append,List.length_map,List.length_cons,Nat.succ_mul,Nat.add_comm]
  exact Nat.add_le_add (bp1 h js) (h k)
theorem av4 {js:List Nat} {p:Nat×Str}:p∈ad1 nm ar ks js↔p.1∈js/\p.2∈be2 nm ar ks p.1:=by
 unfold ad1
 rw [List.mem_flatMap]
 constructor
 ·rintro ⟨k,hk,h⟩
  obtain ⟨n,hn,rfl⟩:=List.mem_map.mp h
  exact ⟨hk,hn⟩
 ·rintro ⟨h1,h2⟩
  exact ⟨p.1,h1,List.mem_map.mpr ⟨p.2,h2,rfl⟩⟩
theorem cf1 (h:∀ k,(be2 nm ar ks k).Nodup):∀ {js:List Nat},js.Nodup->(ad1 nm ar ks js).Nodup
 | [],_=>.nil
 | k :: js,hn=>by
  obtain ⟨h1,h2⟩:=List.nodup_cons.mp hn
  unfold ad1
  rw [List.flatMap_cons]
  refine List.nodup_append.mpr ⟨?_,cf1 h h2,λ a ha b hb e=>?_⟩
  ·rw [List.Nodup,List.pairwise_map]
   exact (h k).imp λ {a b} q e=>q (Prod.mk.inj e).2
  ·obtain ⟨n,_,rfl⟩:=List.mem_map.mp ha
   have:=(av4.mp hb).1
   rw [<- e] at this
   exact h1 this
theorem cd5 {α:Type} {f:α->D}:∀ {l:List α},l.Nodup->(∀ a∈l,∀ b∈l,PyData.eqv (f a) (f b)=true->a=b)->bi0 (l.map f)=true
 | [],_,_=>rfl
 | a :: l,hn,h=>by
  obtain ⟨h1,h2⟩:=List.nodup_cons.mp hn
  refine g7 ?_ (cd5 h2 λ x hx y hy=>h x (.tail _ hx) y (.tail _ hy))
  rw [List.all_map]
  refine List.all_eq_true.mpr λ b hb=>?_
  show (!PyData.eqv (f a) (f b))=true
  cases e:PyData.eqv (f a) (f b) with
  | false=>rfl
  | true=>exact absurd (h a (.head _) b (.tail _ hb) e▸hb) h1
theorem ei4 {a b c d:Str}:PyData.eqv (.list [.str a,.str b]) (.list [.str c,.str d])=true↔a=c/\b=d:=by
 simp [PyData.eqv,PyData.eqvAll]
theorem ax0:∀ (l:List (Nat×Str)),(∀ p∈l,PyData.strOk (PS ((P p.1).map nm))=true/\PyData.strOk p.2=true)->SeqAt.shaped (.list (l.map (ao7 nm P)))=true:=by
 have h3:∀ l:List (Nat×Str),(∀ p∈l,PyData.strOk (PS ((P p.1).map nm))=true/\PyData.strOk p.2=true)->PyData.canLayAll0 (l.map (ao7 nm P))=true/\PyData.depthAll (l.map (ao7 nm P))<=1:=by
  intro l
  induction l with
  | nil=>intro _;exact ⟨by simp [PyData.canLayAll0],by simp [PyData.depthAll]⟩
  | cons a l ih=>
   intro h
   obtain ⟨i1,i2⟩:=ih λ x hx=>h x (.tail _ hx)
   obtain ⟨a1,a2⟩:=h a (.head _)
   exact ⟨by simp [PyData.canLayAll0,PyData.canLay0,ao7,pth,i1,a1,a2],by simp [PyData.depthAll,PyData.depth,ao7,pth];exact Nat.max_le.mpr ⟨Nat.le_refl 1,i2⟩⟩
 intro l h
 obtain ⟨i1,i2⟩:=h3 l h
 show (PyData.canLay0 (.list (l.map (ao7 nm P))) && decide (PyData.depth (.list (l.map (ao7 nm P)))<=64))=true
 simp only [PyData.canLay0,PyData.depth,i1,Bool.true_and,decide_eq_true_eq]
 lia
theorem cp6 (N:Nms nm) (hn:ar.Nodup) (ha:∀ e∈ar,e.1 < 5/\e.2 < 5/\e.1≠e.2) (t:Tr ks P) (hk:ks.Nodup) (h5:∀ k∈ks,k < 5):∃ l,bg6 ((ad1 nm ar ks ks).map (ao7 nm P))=some l/\l.Perm ((ad1 nm ar ks ks).map (ao7 nm P)):=by
 refine ⟨_,if_pos ?_,List.mergeSort_perm _ _⟩
 have hl:=bp1 (nm:=nm) (ar:=ar) (ks:=ks) (m:=5 - ks.length) (λ k=>Nat.le_sub_of_add_le (at4 N hn ha hk h5 k)) ks
 have h6:ks.length * (5 - ks.length)<=6:=by
  have:=y8 5 hk h5
  generalize ks.length=z at *
  match z,this with
  | 0,_=>decide
  | 1,_=>decide
  | 2,_=>decide
  | 3,_=>decide
  | 4,_=>decide
  | 5,_=>decide
 have hl6:=Nat.le_trans hl h6
 refine g7 (g7 (decide_eq_true ?_) ?_) (ax0 _ λ p hp=>⟨bs6 (ab6 N _),?_⟩)
 ·rw [List.length_map];exact Nat.lt_of_le_of_lt hl6 (by decide)
 ·refine Bool.or_eq_true_iff.mpr (.inr (g7 ?_ (g7 (decide_eq_true (by rw [List.length_map];exact hl6)) (cd5 (cf1 (bw1 N hn ha) hk) λ a h1 b h2 e=>?_))))
  ·rw [List.all_map];exact List.all_eq_true.mpr λ ξ ξ=>rfl
  ·obtain ⟨e1,e2⟩:=ei4.mp e
   obtain ⟨ka,_⟩:=av4.mp h1
   obtain ⟨kb,_⟩:=av4.mp h2
   have e3:=bu3 N (λ x hx=>h5 x (t.mem ka hx).1) (λ x hx=>h5 x (t.mem kb hx).1) (ec0 (ab6 N _) (ab6 N _) e1)
   exact Prod.ext (t.inj ka kb e3) e2
 ·obtain ⟨_,h2⟩:=av4.mp hp
  obtain ⟨m,e,_⟩:=(ay8 N ha h5).mp h2
  rw [e];exact (N.ok m).2.2.2.2
end
end
section
open PySem.StrLaws PySem.Builtin PySem.Builtin.Str
noncomputable abbrev nlS (o:Slot):Prop:=∀ d,o≠some (.lock,d)
theorem bn9 (d:D):nlS (some (.own,d)):=nofun
theorem ab2 (d:D):nlS (some (.fr,d)):=nofun
theorem ac0:nlS none:=nofun
theorem pfS {r:Rho} {x:Nat} {m:aa3} {d:D} {o:Slot} (h:r.get x=o) (ho:nlS o) (hx:x < r.length):r.put x m d=some (r.set x (some (m,d))):=bf8 hx (by rw [h];exact ho)
noncomputable def rG (gd:D) (n:Nat) (s3 o4 o5 o6 o7 o8 o9:Slot) (nm:Nat->Str):Rho:=[some (.fr,y5 nm),some (.fr,gd),some (.fr,nI n),s3,o4,o5,o6,o7,o8,o9,none,none,none,none,none,none]
noncomputable def ab9 (nm:Nat->Str) (ar:List (Nat×Nat)):D:=.dict (kv nm (λ k=>LS (al0 (tg nm ar k))) (List.range 5))
noncomputable abbrev cj6:IR:=.comp [none,none,some 6,some 3] [1] (.idx (.call "sorted_list_difference" [(.idx (.var 1) (.var 6)),(.bcall .sorted [(.var 3)])]) (.int 0)) [] (.list [(.idx (.var 3) (.var 2)),(.var 1)])
noncomputable abbrev eb6:List SI:=[.assign 5 true (.list []),.for_ [6] (.var 3) [.augList 5 cj6],.if_ (.cmp .NotEq (.var 5) (.list [])) [.unpack [2,8] (.bcall .divmod [(.var 2),(.bcall .len [(.var 5)])]),.unpack [9,7] (.idx (.bcall .sorted [(.var 5)]) (.var 8)),.setItem 3 (.var 7) (.call "join" [(.var 9),(.var 7)])] []]
theorem bs9:∀ k∈List.range 5,k < 5:=λ k h=>List.mem_range.mp h
theorem cb4 (ss:List Str):(ss.map PyData.str).mapM u6=some ss:=by
 rw [ac4 (f:=u6) (g:=λ d=>(u6 d).getD "") λ d hd=>by obtain ⟨s,_,rfl⟩:=List.mem_map.mp hd;rfl,List.map_map]
 exact congrArg some (List.map_id ss)
theorem ec5 {X Y:List Str} (h1:SS X) (h2:SS Y) (hx:X.length+Y.length < 1048576):cw2 [LS X,LS Y]=some (.tuple [LS (X.filter λ x=>decide (x ∉ Y)),LS (Y.filter λ y=>decide (y ∉ X))]):=by
 obtain ⟨e1,e2⟩:=av6 h1 h2
 rw [<- e1,<- e2]
 exact ob rfl (ob rfl (ob rfl (ob (cb4 X) (ob (cb4 Y) (r6 (g7 (decide_eq_true (bq9 h1)) (g7 (decide_eq_true (bq9 h2)) (decide_eq_true hx))) rfl)))))
theorem es2:c6 L2b "sorted_list_difference"=cw2:=⋯
theorem bc3 {nm:Nat->Str} {f:Nat->D} {ks:List Nat} (N:Nms nm) (h5:∀ k∈ks,k < 5) {j:Nat} (hj:j∈ks):bz4 (.dict (kv nm f ks)) (.str (nm j))=some (f j):=
 bu6 rfl (ob rfl (r6 (g7 rfl bo6) (by rw [bp3 N (h5 j hj) h5,if_pos hj])))
theorem di2 {nm:Nat->Str} {f:Nat->D} {ks:List Nat} (N:Nms nm) (hl:ks.length < 64):bfD .sorted [.dict (kv nm f ks)]=some (LS (al0 (ks.map nm))):=by
 refine ob rfl ?_
 show (bq0 (.dict (kv nm f ks))).map PyData.list=_
 have e:((kv nm f ks).map λ e:D×D=>e.1)=(ks.map nm).map .str:=by unfold kv;rw [List.map_map,List.map_map];rfl
 have ho:∀ x∈ks.map nm,PyData.strOk x=true:=λ x hx=>by
  obtain ⟨k,_,rfl⟩:=List.mem_map.mp hx
  exact (N.ok k).2.2.2.2
 have h:bq0 (.dict (kv nm f ks))=some ((al0 (ks.map nm)).map .str):=bu6 rfl (ob rfl (r6 (by rw [e,List.all_map];exact List.all_eq_true.mpr λ ξ ξ=>rfl) (by rw [e];exact bs4 (by rw [List.length_map];exact hl) ho)))
 rw [h];rfl
section
variable {nm:Nat->Str} {ks:List Nat} {ar:List (Nat×Nat)} {P:Nat->List Nat}
noncomputable abbrev pD3 (nm:Nat->Str) (P:Nat->List Nat) (ks:List Nat):D:=.dict (kv nm (pth nm P) ks)
structure GrC (nm:Nat->Str) (ar:List (Nat×Nat)):Prop where
 N:Nms nm
 hn:ar.Nodup
 ha:∀ e∈ar,e.1 < 5/\e.2 < 5/\e.1≠e.2
theorem ca7 (N:Nms nm) (h5:∀ k∈ks,k < 5) (hk:ks.Nodup):(ks.map nm).Nodup:=by
 rw [List.Nodup,List.pairwise_map]
 exact hk.imp_of_mem λ {a b} h1 h2 q e=>q (N.inj a (h5 a h1) b (h5 b h2) e)
theorem dw2 (C:GrC nm ar) (h5:∀ k∈ks,k < 5) (hk:ks.Nodup) {k:Nat} (hm:k∈ks) {r:Rho} (h1:r.get 1=some (.fr,ab9 nm ar)) (h3:r.get 3=some (.lock,pD3 nm P ks)) (h6:r.get 6=some (.fr,.str (nm k))) :
  eval (c6 L2b) cj6 r=some (.list (((be2 nm ar ks k).map λ n=>(k,n)).map (ao7 nm P))):=by
 have hl5:=y8 5 hk h5
 have hS:SS (al0 (tg nm ar k)):=bv3 (cl2 C.N C.hn C.ha k)
 have hK:SS (al0 (ks.map nm)):=bv3 (ca7 C.N h5 hk)
 have ht:(tg nm ar k).length<=5:=by
  have:=at4 (ks:=[]) C.N C.hn C.ha .nil (λ _ h=>nomatch h) k
  have e:be2 nm ar [] k=al0 (tg nm ar k):=by
   unfold be2
   rw [List.filter_eq_self]
   intro x _
   refine decide_eq_true λ q=>?_
   exact nomatch ((ag1 _).mem_iff.mp q)
  rw [e,(ag1 _).length_eq] at this
  exact this
 have qf:(al0 (tg nm ar k)).length+(al0 (ks.map nm)).length < 1048576:=by
  rw [(ag1 _).length_eq,(ag1 _).length_eq,List.length_map]
  lia
 have hsrc:e9 (c6 L2b) (.idx (.call "sorted_list_difference" [(.idx (.var 1) (.var 6)),(.bcall .sorted [(.var 3)])]) (.int 0)) r=some ((be2 nm ar ks k).map .str):=by
  refine ah2 rfl (l_e rfl (aa8 (x:=.tuple [LS (be2 nm ar ks k),LS _]) (l_e rfl (w7 (d7 (aa8 (d9 h1) (d9 h6) (bc3 C.N bs9 (List.mem_range.mpr (h5 k hm)))) (d7 (aj9 (m7 (ah0 h3) y9) (di2 C.N (Nat.lt_of_le_of_lt hl5 (by decide)))) j0)) (by rw [es2];exact ec5 hS hK qf))) z7 (dh2 (i:=0) rfl (by decide))))
 have:=ax9 (U:=c6 L2b) (r:=r) (cap:=[none,none,some 6,some 3]) (tgt:=[1]) (elt:=.list [(.idx (.var 3) (.var 2)),(.var 1)]) (xs:=be2 nm ar ks k) (g:=PyData.str) (h:=λ n=>ao7 nm P (k,n)) (R:=λ n=>[none,some (.fr,.str n),some (.fr,.str (nm k)),some (.cap,pD3 nm P ks)]) hsrc (λ n _=>by
  show m8 [none,none,bj2 (r.get 6),bj2 (r.get 3)] [1] (.str n)=_
  rw [h6,h3];rfl) (λ n _=>ap5 (d7 (aa8 (ah0 (m:=.cap) rfl) (d9 rfl) (bc3 C.N h5 hm)) (d7 (k0 rfl) j0)) rfl) (szl (by
   have:=at4 C.N C.hn C.ha hk h5 k
   lia))
 rw [this,List.map_map];rfl
inductive em0 (gd:D) (n:Nat) (o4 o7 o8 o9:Slot) (nm:Nat->Str) (ar:List (Nat×Nat)) (ks:List Nat) (P:Nat->List Nat) (js done:List Nat) (o6:Slot):Prop
 | mk (v6:Slot) (h6:nlS v6) (e:j8 (ap3 (c6 L2b) fr2 [6] [.augList 5 cj6]) (js.map λ k=>.str (nm k)) (rG gd n (some (.lock,pD3 nm P ks)) o4 (some (.own,.list ((ad1 nm ar ks done).map (ao7 nm P)))) o6 o7 o8 o9 nm)=some (.next,rG gd n (some (.lock,pD3 nm P ks)) o4 (some (.own,.list ((ad1 nm ar ks (done ++ js)).map (ao7 nm P)))) v6 o7 o8 o9 nm)):em0 gd n o4 o7 o8 o9 nm ar ks P js done o6
theorem cn3 (C:GrC nm ar) (h5:∀ k∈ks,k < 5) (hk:ks.Nodup) {n:Nat} {o4 o7 o8 o9:Slot}:∀ {js done:List Nat} {o6:Slot},(∀ k∈js,k∈ks)->nlS o6->done.length+js.length<=5->em0 (ab9 nm ar) n o4 o7 o8 o9 nm ar ks P js done o6
 | [],done,o6,_,h6,_=>⟨o6,h6,by rw [List.append_nil];rfl⟩
 | k :: js,done,o6,hm,h6,hl=>by
  rw [List.length_cons] at hl
  obtain ⟨v6,q6,ih⟩:=cn3 C h5 hk (n:=n) (o4:=o4) (o7:=o7) (o8:=o8) (o9:=o9) (js:=js) (done:=done ++ [k]) (o6:=some (.fr,.str (nm k))) (λ j hj=>hm j (.tail _ hj)) (ab2 _) (by rw [List.length_append];show done.length+1+js.length<=5;lia)
  refine ⟨v6,q6,?_⟩
  have e1:ad1 nm ar ks (done ++ [k])=ad1 nm ar ks done ++ (be2 nm ar ks k).map λ n=>(k,n):=by
   unfold ad1
   rw [List.flatMap_append]
   simp
  rw [List.append_assoc] at ih
  rw [List.map_cons]
  refine (u8 (ad4 (ac6 (pfS (o:=o6) rfl h6 (show 6 < 16 by decide))) (l8 (ob (dw2 C h5 hk (hm k (.head _)) rfl rfl rfl) (ob rfl (ob rfl (ob rfl (r6 (szl ?_) rfl)))))))).trans ?_
  ·have h1:=bp1 (nm:=nm) (ar:=ar) (ks:=ks) (m:=5) (λ k=>Nat.le_trans (Nat.le_add_right _ _) (at4 C.N C.hn C.ha hk h5 k)) done
   have h2:=at4 C.N C.hn C.ha hk h5 k
   rw [List.length_map,List.length_map,List.length_map]
   lia
  ·rw [e1,List.map_append] at ih
   exact ih
end
end
section
open PySem.StrLaws PySem.Builtin PySem.Builtin.Str
section
variable {nm:Nat->Str} {ks:List Nat} {ar:List (Nat×Nat)} {P:Nat->List Nat}
noncomputable def ew3 (ar:List (Nat×Nat)) (ks:List Nat):Prop:=∀ u∈ks,∀ v,arP ar u v->v∈ks
inductive GrS (nm:Nat->Str) (ar:List (Nat×Nat)) (i:Nat) (r:Rho):Prop
 | mk (ks:List Nat) (P:Nat->List Nat) (n:Nat) (o4 o5 o6 o7 o8 o9:Slot) (g:bf0 (arP ar) ks P) (hn:n < 2 ^ 60) (h4:nlS o4) (h5:nlS o5) (h6:nlS o6) (h7:nlS o7) (h8:nlS o8) (h9:nlS o9) (hc:ew3 ar ks\/i+1<=ks.length) (e:r=rG (ab9 nm ar) n (some (.own,pD3 nm P ks)) o4 o5 o6 o7 o8 o9 nm):GrS nm ar i r
theorem cn7 {f:Nat->D}:ch5 (.dict (kv nm f ks))=some (ks.map λ k=>.str (nm k)):=r6 bo6 (by unfold kv;rw [List.map_map];rfl)
theorem cy5 {k m:Nat} (C:GrC nm ar) (h5:∀ k∈ks,k < 5) (hm5:m < 5) (hm:m ∉ ks):ag8 (kv nm (pth nm P) ks) (.str (nm m)) (.str (PS ((P k).map nm ++ [nm m])))=kv nm (pth nm λ x=>if x=m then P k ++ [m] else P x) (ks ++ [m]):=by
 have e1:kv nm (pth nm P) ks=kv nm (pth nm λ x=>if x=m then P k ++ [m] else P x) ks:=ax6 λ x hx=>by
  show _=PyData.str (PS ((if x=m then P k ++ [m] else P x).map nm))
  rw [if_neg λ q=>hm (by rw [<- q];exact hx)];rfl
 have e2:PyData.str (PS ((P k).map nm ++ [nm m]))=pth nm (λ x=>if x=m then P k ++ [m] else P x) m:=by
  show _=PyData.str (PS ((if m=m then P k ++ [m] else P m).map nm))
  rw [if_pos rfl,List.map_append];rfl
 rw [e1,e2]
 exact by2 C.N hm5 h5 hm
theorem dn7 (C:GrC nm ar) {i:Nat} {r:Rho} (x:GrS nm ar i r):∃ r',ap3 (c6 L2b) fr2 [4] eb6 (nI i) r=some (.next,r')/\GrS nm ar (i+1) r':=by
 obtain ⟨ks,P,n,o4,o5,o6,o7,o8,o9,g,hn,h4,h5,h6,h7,h8,h9,hc,rfl⟩:=x
 have ok:=az3 g
 have l5:∀ k∈ks,k < 5:=g.lt λ e he=>(C.ha e he).2.1
 have hk:=ok.n
 have hlk:=y8 5 hk l5
 obtain ⟨v6,q6,hrows⟩:=cn3 C l5 hk (P:=P) (n:=n) (o4:=some (.fr,nI i)) (o7:=o7) (o8:=o8) (o9:=o9) (js:=ks) (done:=[]) (o6:=o6) (λ k h=>h) h6 (by rw [List.length_nil,Nat.zero_add];exact hlk)
 rw [List.nil_append] at hrows
 have hfor:exec (c6 L2b) fr2 (.for_ [6] (.var 3) [.augList 5 cj6]) (rG (ab9 nm ar) n (some (.own,pD3 nm P ks)) (some (.fr,nI i)) (some (.own,.list [])) o6 o7 o8 o9 nm)=some (.next,rG (ab9 nm ar) n (some (.own,pD3 nm P ks)) (some (.fr,nI i)) (some (.own,.list ((ad1 nm ar ks ks).map (ao7 nm P)))) v6 o7 o8 o9 nm):=
  ba0 (i_e rfl (ah0 (m:=.own) rfl) cn7) hrows rfl
 have hsh:SeqAt.shaped (.list ((ad1 nm ar ks ks).map (ao7 nm P)))=true:=ax0 _ λ p hp=>⟨bs6 (ab6 C.N _),by
  obtain ⟨m,e,_⟩:=(ay8 C.N C.ha l5).mp (av4.mp hp).2
  rw [e];exact (C.N.ok m).2.2.2.2⟩
 have htest:∀ b,PyData.eqvAll ((ad1 nm ar ks ks).map (ao7 nm P)) []=b->ab4 (c6 L2b) (.cmp .NotEq (.var 5) (.list [])) (rG (ab9 nm ar) n (some (.own,pD3 nm P ks)) (some (.fr,nI i)) (some (.own,.list ((ad1 nm ar ks ks).map (ao7 nm P)))) v6 o7 o8 o9 nm)=some (!b):=λ b hb=>
  t_b rfl rfl (ae4 (ah0 (m:=.own) rfl) (l_e rfl (ap5 j0 rfl)) (congrArg (Option.map (!·)) ((dq6 hsh (ax0 (nm:=nm) (P:=P) [] λ p h=>nomatch h)).trans (congrArg some hb))))
 have hfirst:∀ o,ap3 (c6 L2b) fr2 [4] eb6 (nI i) (rG (ab9 nm ar) n (some (.own,pD3 nm P ks)) o4 o5 o6 o7 o8 o9 nm)=o↔exec (c6 L2b) fr2 (.if_ (.cmp .NotEq (.var 5) (.list [])) [.unpack [2,8] (.bcall .divmod [(.var 2),(.bcall .len [(.var 5)])]),.unpack [9,7] (.idx (.bcall .sorted [(.var 5)]) (.var 8)),.setItem 3 (.var 7) (.call "join" [(.var 9),(.var 7)])] []) (rG (ab9 nm ar) n (some (.own,pD3 nm P ks)) (some (.fr,nI i)) (some (.own,.list ((ad1 nm ar ks ks).map (ao7 nm P)))) v6 o7 o8 o9 nm)=o:=λ o=>by
  rw [ad4 (ac6 (pfS (o:=o4) rfl h4 (show 4 < 16 by decide))) ((r7 (f7 (d:=.list []) rfl (ap5 j0 rfl) (pfS (m:=.own) (o:=o5) rfl h5 (show 5 < 16 by decide)))).trans ((r7 hfor).trans (l8 rfl)))]
 by_cases hp:ad1 nm ar ks ks=[]
 ·refine ⟨_,(hfirst _).mpr (aj1 (htest true (by rw [hp];rfl)) ar2),ks,P,n,_,_,_,_,_,_,g,hn,ab2 _,bn9 _,q6,h7,h8,h9,.inl λ u hu v ha=>?_,rfl⟩
  refine Classical.byContradiction λ hv=>?_
  have:(u,nm v)∈ad1 nm ar ks ks:=av4.mpr ⟨hu,(ay8 C.N C.ha l5).mpr ⟨v,rfl,ha,hv⟩⟩
  rw [hp] at this;cases this
 ·obtain ⟨srt,hs,hperm⟩:=cp6 (P:=P) C.N C.hn C.ha ok.k.t hk l5
  have hL:0 < (ad1 nm ar ks ks).length:=List.length_pos_iff.mpr hp
  have hL6:(ad1 nm ar ks ks).length<=25:=by
   have h1:=bp1 (nm:=nm) (ar:=ar) (ks:=ks) (m:=5) (λ k=>Nat.le_trans (Nat.le_add_right _ _) (at4 C.N C.hn C.ha hk l5 k)) ks
   lia
  have hsl:srt.length=(ad1 nm ar ks ks).length:=by rw [hperm.length_eq,List.length_map]
  have hpl:n % (ad1 nm ar ks ks).length < srt.length:=by rw [hsl];exact Nat.mod_lt _ hL
  obtain ⟨⟨k,x⟩,hkx,erow⟩:=List.mem_map.mp (hperm.mem_iff.mp (List.getElem_mem hpl))
  obtain ⟨hkk,hxn⟩:=av4.mp hkx
  obtain ⟨m,rfl,ham,hmk⟩:=(ay8 C.N C.ha l5).mp hxn
  have hm5:=(C.ha _ ham).2.1
  have hlenD:bfD .len [.list ((ad1 nm ar ks ks).map (ao7 nm P))]=some (nI (ad1 nm ar ks ks).length):=ob rfl (dh8 (ob rfl (r6 (szl (by rw [List.length_map];exact Nat.le_trans hL6 (by decide))) (by rw [List.length_map]))))
  have hsrt:bfD .sorted [.list ((ad1 nm ar ks ks).map (ao7 nm P))]=some (.list srt):=ob rfl (congrArg (Option.map PyData.list) (dh8 (ob rfl hs)))
  have hjoin:bd1 [pth nm P k,.str (nm m)]=some (.str (PS ((P k).map nm ++ [nm m]))):=bh5 (λ z hz=>by
   rcases List.mem_append.mp hz with hz | hz
   ·exact ab6 C.N _ z hz
   ·rw [List.mem_singleton.mp hz];exact C.N.ok m) (by rw [List.length_map];exact Nat.le_trans (ok.k.t.len5 l5 hkk) (by decide))
  refine ⟨rG (ab9 nm ar) (n / (ad1 nm ar ks ks).length) (some (.own,pD3 nm (λ x=>if x=m then P k ++ [m] else P x) (ks ++ [m]))) (some (.fr,nI i)) (some (.own,.list ((ad1 nm ar ks ks).map (ao7 nm P)))) v6 (some (.fr,.str (nm m))) (some (.fr,nI (n % (ad1 nm ar ks ks).length))) (some (.fr,pth nm P k)) nm,(hfirst _).mpr (ar5 (htest false (by
   cases h:ad1 nm ar ks ks with
   | nil=>exact absurd h hp
   | cons a l=>rfl)) ?_),ks ++ [m],_,_,_,_,_,_,_,_,g.step hkk ham hmk,Nat.lt_of_le_of_lt (Nat.div_le_self _ _) hn,ab2 _,bn9 _,q6,ab2 _,ab2 _,ab2 _,hc.elim (λ h=>absurd (h k hkk m ham) hmk) (λ h=>.inr (by rw [List.length_append];exact Nat.succ_le_succ h)),rfl⟩
  refine (r7 (bt6 (r2:=rG (ab9 nm ar) (n / (ad1 nm ar ks ks).length) (some (.own,pD3 nm P ks)) (some (.fr,nI i)) (some (.own,.list ((ad1 nm ar ks ks).map (ao7 nm P)))) v6 o7 (some (.fr,nI (n % (ad1 nm ar ks ks).length))) o9 nm) (by decide) (aj9 (m7 (d9 rfl) (m7 (l_e rfl (aj9 (m7 (ah0 (m:=.own) rfl) y9) hlenD)) y9)) (bt2 n _ hL hn (Nat.lt_of_le_of_lt hL6 (by decide)))) (cg1 (pfS (o:=some (.fr,nI n)) rfl (ab2 _) (show 2 < 16 by decide)) (pfS (o:=o8) rfl h8 (show 8 < 16 by decide))))).trans ?_
  refine (r7 (r':=rG (ab9 nm ar) (n / (ad1 nm ar ks ks).length) (some (.own,pD3 nm P ks)) (some (.fr,nI i)) (some (.own,.list ((ad1 nm ar ks ks).map (ao7 nm P)))) v6 (some (.fr,.str (nm m))) (some (.fr,nI (n % (ad1 nm ar ks ks).length))) (some (.fr,pth nm P k)) nm) (ob (a:=.list [pth nm P k,.str (nm m)]) (aa8 (l_e rfl (aj9 (m7 (ah0 (m:=.own) rfl) y9) hsrt)) (d9 rfl) (af4 (by rw [List.getElem?_eq_getElem hpl,<- erow];rfl) (by rw [hsl] at hpl;lia))) (ob rfl (ob (cg1 (pfS (o:=o9) rfl h9 (show 9 < 16 by decide)) (pfS (o:=o7) rfl h7 (show 7 < 16 by decide))) rfl)))).trans ?_
  refine l8 (bj4 (w7 (d7 (k0 rfl) (d7 (k0 rfl) j0)) (by rw [cg3];exact hjoin)) (d9 rfl) rfl ⟨bo6,by unfold kv;rw [List.length_map];exact Nat.le_trans hlk (by decide)⟩ ?_)
  rw [cy5 C l5 hm5 hmk]
  exact pfS (m:=.own) (o:=some (.own,pD3 nm P ks)) rfl (bn9 _) (show 3 < 16 by decide)
theorem bj5 {f:D->Rho->Option (Fl×Rho)} {S:Nat->Rho->Prop}:∀ (n i:Nat) {r:Rho},(∀ j r,S j r->∃ r',f (nI j) r=some (.next,r')/\S (j+1) r')->S i r->∃ r',j8 f ((List.range' i n).map nI) r=some (.next,r')/\S (i+n) r'
 | 0,i,r,_,h=>⟨r,rfl,h⟩
 | n+1,i,r,hf,h=>by
  obtain ⟨r1,e1,s1⟩:=hf i r h
  obtain ⟨r2,e2,s2⟩:=bj5 n (i+1) hf s1
  refine ⟨r2,(u8 e1).trans e2,?_⟩
  rw [show i+(n+1)=i+1+n by lia]
  exact s2
inductive do7 (nm:Nat->Str) (ar:List (Nat×Nat)) (rest:Nat):Prop
 | mk (ks:List Nat) (P:Nat->List Nat) (g:bf0 (arP ar) ks P) (hc:ew3 ar ks) (e:ai1 [y5 nm,ab9 nm ar,nI rest]=some (pD3 nm P ks)):do7 nm ar rest
theorem bm8 (C:GrC nm ar) {rest:Nat} (hr:rest < 2 ^ 60):do7 nm ar rest:=by
 have h0:GrS nm ar 0 (rG (ab9 nm ar) rest (some (.own,pD3 nm (λ ξ=>[0]) [0])) none none none none none none nm):=⟨[0],_,rest,_,_,_,_,_,_,.base,hr,ac0,ac0,ac0,ac0,ac0,ac0,.inr (Nat.le_refl 1),rfl⟩
 obtain ⟨r',e,ks,P,n,o4,o5,o6,o7,o8,o9,g,hn,_,_,_,_,_,_,hc,rfl⟩:=bj5 (f:=ap3 (c6 L2b) fr2 [4] eb6) (S:=GrS nm ar) 4 0 (λ j r h=>dn7 C h) h0
 have l5:∀ k∈ks,k < 5:=g.lt λ e he=>(C.ha e he).2.1
 refine ⟨ks,P,g,?_,?_⟩
 ·rcases hc with hc | hc
  ·exact hc
  ·intro u hu v ha
   refine Classical.byContradiction λ hv=>?_
   have:=y8 5 (l:=v :: ks) (List.nodup_cons.mpr ⟨hv,(az3 g).n⟩) λ y hy=>by
    rcases List.mem_cons.mp hy with rfl | hy
    ·exact (C.ha _ ha).2.1
    ·exact l5 y hy
   rw [List.length_cons] at this
   lia
 ·unfold ai1
  refine ob rfl (ob (a:=(.ret true (pD3 nm P ks),rG (ab9 nm ar) n (some (.own,pD3 nm P ks)) o4 o5 o6 o7 o8 o9 nm)) ?_ rfl)
  have hj:bd1 [.str "/",.str (nm 0)]=some (.str (PS [nm 0])):=by
   rw [<- av5]
   exact bh5 (l:=[]) (λ z hz=>by rw [List.mem_singleton.mp hz];exact C.N.ok 0) (Nat.zero_le _)
  unfold ar8
  refine (r7 (f7 (d:=pD3 nm (λ ξ=>[0]) [0]) rfl (bh8 (d7 (aa8 (d9 rfl) z7 (ai3 (nm:=nm) (k:=0) (by decide))) j0) (d7 (w7 (d7 am0 (d7 (aa8 (d9 rfl) z7 (ai3 (nm:=nm) (k:=0) (by decide))) j0)) (by rw [cg3];exact hj)) j0) rfl rfl) rfl)).trans ?_
  refine (r7 (ba0 (ak2 (m7 z7 y9) (am6 4 (by decide))) (f:=.next) e rfl)).trans ?_
  exact l8 (cg9 (m:=.own) rfl (.inl ⟨rfl,rfl⟩))
end
end
section
open PySem.StrLaws PySem.Builtin PySem.Builtin.Str
section
variable {nm:Nat->Str} {ks:List Nat} {ar:List (Nat×Nat)} {P:Nat->List Nat}
noncomputable abbrev L5 (l:List Nat):Prop:=∀ x∈l,x < 5
theorem bv8 (N:Nms nm):∀ {a b:List Nat},L5 a->L5 b->ae5 (a.map nm) (b.map nm)=(ae5 a b).map nm
 | [],_,_,_=>rfl
 | _ :: _,[],_,_=>rfl
 | x :: a,y :: b,ha,hb=>by
  rw [List.map_cons,List.map_cons]
  unfold ae5
  by_cases e:x=y
  ·subst e
   rw [if_pos rfl,if_pos rfl,bv8 N (λ z hz=>ha z (.tail _ hz)) λ z hz=>hb z (.tail _ hz)];rfl
  ·rw [if_neg e,if_neg λ q=>e (N.inj x (ha x (.head _)) y (hb y (.head _)) q)];rfl
theorem cn5 (N:Nms nm):∀ {ls:List (List Nat)} {a:List Nat},L5 a->(∀ b∈ls,L5 b)->at8 (a.map nm) (ls.map (List.map nm))=(at8 a ls).map nm
 | [],a,_,_=>rfl
 | b :: ls,a,ha,hb=>by
  show at8 (ae5 (a.map nm) (b.map nm)) (ls.map (List.map nm))=(at8 (ae5 a b) ls).map nm
  rw [bv8 N ha (hb b (.head _))]
  exact cn5 N (λ x hx=>ha x ((bi4 a b).subset hx)) λ c hc=>hb c (.tail _ hc)
theorem bl8 (t:Tr ks P) (h5:L5 ks) {x:Nat} (hx:x∈ks):L5 (P x):=λ y hy=>h5 y (t.mem hx hy).1
theorem ej6 (N:Nms nm) {a b:List Nat} (ha:L5 a) (hb:L5 b):(PS (a.map nm) == PS (b.map nm))=decide (a=b):=by
 by_cases h:a=b
 ·subst h;rw [beq_self_eq_true,decide_eq_true rfl]
 ·rw [decide_eq_false h]
  exact beq_eq_false_iff_ne.mpr λ q=>h (bu3 N ha hb (ec0 (ab6 N _) (ab6 N _) q))
theorem neS (a b:Str):bb7 .NotEq (.str a) (.str b)=some (!(a == b)):=rfl
theorem ej3 (N:Nms nm) {pv q tl:List Nat} {v:Nat} (hpv:pv≠[]):mkS ((cl (PS ((pv ++ tl).map nm))).drop (PS (pv.map nm)).length)=mkS (pl (tl.map nm))/\PS ((q ++ [v]).map nm) ++ mkS (pl (tl.map nm))=PS ((q ++ v :: tl).map nm):=by
 have h1:(pv ++ tl).map nm≠[]:=by simp [hpv]
 have h2:pv.map nm≠[]:=by simpa using hpv
 constructor
 ·rw [ak9 h1,List.map_append,cw7,ag2,ak9 h2,List.drop_left]
 ·refine am2 ?_
  rw [al5,ak9 (by simp),ak9 (by simp)]
  show pl _ ++ pl _=_
  rw [<- cw7,<- List.map_append,List.append_assoc];rfl
noncomputable def rL (pd:D) (ord cm:D) (c:Bool) (o4 o5 o6 o7 o8 o9:Slot):Rho:=[some (.own,pd),some (.fr,ord),some (.fr,cm),some (.fr,.bool c),o4,o5,o6,o7,o8,o9,none,none,none,none,none]
noncomputable def ab5 (nm:Nat->Str) (ar:List (Nat×Nat)):D:=.dict (kv nm (λ k=>.list (((ar.filter λ e=>decide (e.2=k)).map (·.1)).map λ a=>.str (nm a))) (List.range 5))
noncomputable abbrev cz2:IR:=.comp [none,none,none,some 6,some 0] [1] (.var 0) [(.cmp .Eq (.call "commonpath" [(.list [(.var 3),(.idx (.var 4) (.var 1))])]) (.var 3))] (.var 1)
noncomputable abbrev el6:IR:=.call "commonpath" [(.bin .Add (.list [(.call "dirname" [(.var 6)])]) (.comp [none,none,some 0] [1] (.idx (.var 2) (.var 5)) [(.cmp .In (.var 1) (.var 2))] (.idx (.var 2) (.var 1))))]
noncomputable abbrev eb0:List SI:=[.setItem 0 (.var 7) (.bin .Add (.call "join" [(.var 8),(.var 5)]) (.from (.idx (.var 0) (.var 7)) (.bcall .len [(.var 6)])))]
noncomputable abbrev db7:List SI:=[.if_ (.cmp .In (.var 5) (.var 0)) [.assign 6 false (.idx (.var 0) (.var 5)),.assign 8 false el6,.if_ (.cmp .NotEq (.var 8) (.call "dirname" [(.var 6)])) [.assign 3 false (.bool true),.assign 9 false cz2,.for_ [7] (.var 9) eb0] []] []]
theorem ej5:c6 L2b "commonpath"=ab7:=⋯
theorem ej9 {f:Nat->D} (N:Nms nm) (h5:L5 ks) {j:Nat} (hj:j < 5):bb7 .In (.str (nm j)) (.dict (kv nm f ks))=some (decide (j∈ks)):=by
 refine bu6 (by rfl) (bu6 rfl (ob rfl (r6 rfl (congrArg some ?_))))
 rw [bp3 N hj h5]
 by_cases h:j∈ks
 ·rw [if_pos h,decide_eq_true h];rfl
 ·rw [if_neg h,decide_eq_false h];rfl
theorem eo8 (N:Nms nm) {a b:List Nat} (ha:L5 a) (hb:L5 b) (la:a.length<=8) (lb:b.length<=8):ab7 [.list [.str (PS (a.map nm)),.str (PS (b.map nm))]]=some (.str (PS ((ae5 a b).map nm))):=by
 have h:=aw3 (a:=a.map nm) (r:=[b.map nm]) (λ x hx=>by
  rcases List.mem_cons.mp hx with rfl | hx
  ·exact ⟨ab6 N _,by rw [List.length_map];exact la⟩
  ·rw [List.mem_singleton.mp hx];exact ⟨ab6 N _,by rw [List.length_map];exact lb⟩) (show 1 < 60 by decide)
 rw [<- bv8 N ha hb]
 exact h
noncomputable def fM (nm:Nat->Str) (P:Nat->List Nat) (q:List Nat) (v:Nat) (js:List Nat) (k:Nat):D:=if k∈js then .str (PS ((q ++ v :: (P k).drop (P v).length).map nm)) else pth nm P k
inductive ek8 (ord cm:D) (c:Bool) (o4 o5 o6 o8 o9:Slot) (nm:Nat->Str) (ks:List Nat) (P:Nat->List Nat) (q:List Nat) (v:Nat) (js done:List Nat) (o7:Slot):Prop
 | mk (v7:Slot) (h7:nlS v7) (e:j8 (ap3 (c6 L2b) fr2 [7] eb0) (js.map λ k=>.str (nm k)) (rL (.dict (kv nm (fM nm P q v done) ks)) ord cm c o4 o5 o6 o7 o8 o9)=some (.next,rL (.dict (kv nm (fM nm P q v (done ++ js)) ks)) ord cm c o4 o5 o6 v7 o8 o9)):ek8 ord cm c o4 o5 o6 o8 o9 nm ks P q v js done o7
theorem cq9 (N:Nms nm) (t:Tr ks P) (h5:L5 ks) (hk:ks.Nodup) {v:Nat} (hv:v∈ks) {q:List Nat} (hq5:L5 q) (hql:q.length<=5) {ord cm:D} {c:Bool} {o4 o9:Slot}:∀ {js done:List Nat} {o7:Slot},(∀ k∈js,k∈ks/\v∈P k)->(done ++ js).Nodup->nlS o7->
  ek8 ord cm c o4 (some (.fr,.str (nm v))) (some (.fr,pth nm P v)) (some (.fr,.str (PS (q.map nm)))) o9 nm ks P q v js done o7
 | [],done,o7,_,_,h7=>⟨o7,h7,by rw [List.append_nil];rfl⟩
 | x :: js,done,o7,hm,hn,h7=>by
  have e0:done ++ x :: js=(done ++ [x]) ++ js:=by rw [List.append_assoc];rfl
  obtain ⟨hx,hvx⟩:=hm x (.head _)
  have hxd:x ∉ done:=λ q=>(List.nodup_append.mp hn).2.2 x q x (.head _) rfl
  obtain ⟨v7,q7,ih⟩:=cq9 N t h5 hk hv hq5 hql (ord:=ord) (cm:=cm) (c:=c) (o4:=o4) (o9:=o9) (js:=js) (done:=done ++ [x]) (o7:=some (.fr,.str (nm x))) (λ k hk=>hm k (.tail _ hk)) (by rw [<- e0];exact hn) (ab2 _)
  refine ⟨v7,q7,?_⟩
  rw [e0,List.map_cons]
  have lv:=t.len5 h5 hv
  have lx:=t.len5 h5 hx
  have hpx:P v <+: P x:=(t.mem hx hvx).2
  obtain ⟨tl,etl⟩:=hpx
  have hpv:P v≠[]:=λ e=>by have:=t.self hv;rw [e] at this;cases this
  have hdr:(P x).drop (P v).length=tl:=by rw [<- etl];exact List.drop_left
  have hltl:tl.length<=5:=by rw [<- etl,List.length_append] at lx;lia
  obtain ⟨p1,p2⟩:=ej3 N (q:=q) (tl:=tl) (v:=v) hpv
  rw [etl] at p1
  have hjoin:bd1 [.str (PS (q.map nm)),.str (nm v)]=some (.str (PS ((q ++ [v]).map nm))):=by
   rw [List.map_append]
   exact bh5 (λ z hz=>ab6 N (q ++ [v]) z (by rw [List.map_append];exact hz)) (by rw [List.length_map];exact Nat.le_trans hql (by decide))
  have sz1:(PS ((P x).map nm)).length<=600:=au3 ⟨ab6 N _,by rw [List.length_map];exact Nat.le_trans lx (by decide)⟩
  have sz2:(PS ((P v).map nm)).length<=600:=au3 ⟨ab6 N _,by rw [List.length_map];exact Nat.le_trans lv (by decide)⟩
  have sz3:(PS ((q ++ [v]).map nm)).length<=600:=au3 ⟨ab6 N _,by rw [List.length_map,List.length_append];show q.length+1<=8;lia⟩
  have hfrom:co1 (pth nm P x) (.int ((PS ((P v).map nm)).length:Int))=some (.str (mkS (pl (tl.map nm)))):=by
   rw [<- p1]
   exact dt6 (Nat.le_trans sz2 (by decide)) (Nat.le_trans sz1 (by decide))
  have qf:bfD .len [pth nm P v]=some (.int ((PS ((P v).map nm)).length:Int)):=ob rfl (bu6 rfl (ob rfl (r6 (szl (Nat.le_trans sz2 (by decide))) rfl)))
  have sz4:(mkS (pl (tl.map nm))).length<=65 * (tl.map nm).length:=by rw [ag2];exact cz5 (ab6 N tl)
  have hadd:bf4 .Add (.str (PS ((q ++ [v]).map nm))) (.str (mkS (pl (tl.map nm))))=some (.str (PS ((q ++ v :: tl).map nm))):=by
   rw [<- p2]
   refine bp6 ?_
   rw [List.length_map] at sz4
   lia
  refine (u8 (ad4 (ac6 (pfS (o:=o7) rfl h7 (show 7 < 15 by decide))) (l8 (bj4 (v:=.str (PS ((q ++ v :: tl).map nm))) (al9 (l_e rfl (w7 (d7 (k0 rfl) (d7 (k0 rfl) j0)) (by rw [cg3];exact hjoin))) (l_e rfl (en4 (l_e rfl (aa8 (ah0 (m:=.own) rfl) (d9 rfl) ((bc3 N h5 hx).trans (congrArg some (if_neg hxd))))) (l_e rfl (aj9 (m7 (d9 rfl) y9) qf)) hfrom)) hadd) (d9 rfl) rfl ⟨bo6,by unfold kv;rw [List.length_map];exact Nat.le_trans (y8 5 hk h5) (by decide)⟩ (pfS (m:=.own) (o:=some (.own,.dict (kv nm (fM nm P q v done) ks))) rfl (bn9 _) (show 0 < 15 by decide)))))).trans ?_
  have e1:ag8 (kv nm (fM nm P q v done) ks) (.str (nm x)) (.str (PS ((q ++ v :: tl).map nm)))=kv nm (fM nm P q v (done ++ [x])) ks:=by
   rw [dp1 N (h5 x hx) h5 hx]
   refine ax6 λ k _=>?_
   unfold fM
   by_cases e:k=x
   ·subst e
    rw [if_pos rfl,if_pos (List.mem_append_right _ (.head _)),hdr]
   ·rw [if_neg e]
    by_cases h:k∈done
    ·rw [if_pos h,if_pos (List.mem_append_left _ h)]
    ·rw [if_neg h,if_neg λ q=>(List.mem_append.mp q).elim h λ q=>e (List.mem_singleton.mp q)]
  rw [e1]
  exact ih
end
end
section
open PySem.StrLaws PySem.Builtin PySem.Builtin.Str
section
variable {nm:Nat->Str} {ks:List Nat} {ar:List (Nat×Nat)} {P:Nat->List Nat}
inductive LfS (nm:Nat->Str) (ar:List (Nat×Nat)) (ks:List Nat) (ord:D) (S:(Nat->List Nat)×Bool) (r:Rho):Prop
 | mk (K:ax3 (arP ar) ks S.1) (o4 o5 o6 o7 o8 o9:Slot) (h4:nlS o4) (h5:nlS o5) (h6:nlS o6) (h7:nlS o7) (h8:nlS o8) (h9:nlS o9) (e:r=rL (pD3 nm S.1 ks) ord (ab5 nm ar) S.2 o4 o5 o6 o7 o8 o9):LfS nm ar ks ord S r
theorem do9 {a b:List Nat}:ae5 a b=a↔a <+: b:=⟨λ h=>h▸cz0 a b,λ h=>(bi4 a b).eq_of_length (Nat.le_antisymm (bi4 a b).length_le (bg2 List.prefix_rfl h).length_le)⟩
theorem eg7 (C:GrC nm ar) (t:Tr ks P) (h5:L5 ks) (hk:ks.Nodup) {v p:Nat} (hv:v∈ks) (hp:p∈ks) (ep:P v=P p ++ [v]) {r:Rho} (h2:r.get 2=some (.fr,ab5 nm ar)) (h0:r.get 0=some (.own,pD3 nm P ks)) (h5':r.get 5=some (.fr,.str (nm v))) (h6:r.get 6=some (.fr,pth nm P v)) :
  aj7 [pth nm P v]=some (.str (PS ((P p).map nm)))/\eval (c6 L2b) el6 r=some (.str (PS ((aw5 P (af0 ar ks v) v).map nm))):=by
 have lp:=t.len5 h5 hp
 have lpv:=t.len5 h5 hv
 have hdir:aj7 [pth nm P v]=some (.str (PS ((P p).map nm))):=by
  unfold pth
  rw [ep,List.map_append]
  exact ci4 (λ z hz=>ab6 C.N (P p ++ [v]) z (by rw [List.map_append];exact hz)) (by rw [List.length_map];exact Nat.le_trans lp (by decide))
 refine ⟨hdir,?_⟩
 have hsz:((ar.filter λ e=>decide (e.2=v)).map (·.1)).length<=1000:=by
  have h1:ar.length<=25:=by
   have h2:=C.hn.length_le_of_subset (l₂:=((List.range 5).map λ a=>(List.range 5).map λ b=>(a,b)).flatten) λ e he=>by
    obtain ⟨a1,a2,_⟩:=C.ha e he
    exact List.mem_flatten.mpr ⟨_,List.mem_map_of_mem (List.mem_range.mpr a1),List.mem_map.mpr ⟨e.2,List.mem_range.mpr a2,rfl⟩⟩
   exact h2
  rw [List.length_map]
  exact Nat.le_trans (List.length_filter_le ..) (Nat.le_trans h1 (by decide))
 have hcm:bz4 (ab5 nm ar) (.str (nm v))=some (.list (((ar.filter λ e=>decide (e.2=v)).map (·.1)).map λ a=>.str (nm a))):=bc3 (f:=λ k=>.list (((ar.filter λ e:Nat×Nat=>decide (e.2=k)).map λ e:Nat×Nat=>e.1).map λ a=>.str (nm a))) C.N bs9 (List.mem_range.mpr (h5 v hv))
 have hcomp:eval (c6 L2b) (.comp [none,none,some 0] [1] (.idx (.var 2) (.var 5)) [(.cmp .In (.var 1) (.var 2))] (.idx (.var 2) (.var 1))) r=some (.list ((af0 ar ks v).map (pth nm P))):=
  ag6 (xs:=(ar.filter λ e=>decide (e.2=v)).map (·.1)) (g:=λ a=>.str (nm a)) (h:=pth nm P) (p:=λ u=>decide (u∈ks)) (R:=λ a=>[none,some (.fr,.str (nm a)),some (.cap,pD3 nm P ks)])
   (ah2 rfl (l_e rfl (aa8 (d9 h2) (d9 h5') hcm)))
   (λ a _=>by
    show m8 [none,none,bj2 (r.get 0)] [1] (.str (nm a))=_
    rw [h0];rfl)
   (λ a ha=>by
    obtain ⟨e,he,rfl⟩:=List.mem_map.mp ha
    exact ag7 (t_b rfl rfl (ae4 (d9 rfl) (ah0 (m:=.cap) rfl) (ej9 C.N h5 (C.ha e (List.mem_filter.mp he).1).1))))
   (λ a _ q=>aa8 (ah0 (m:=.cap) rfl) (d9 rfl) (bc3 C.N h5 (of_decide_eq_true q))) (szl (Nat.le_trans hsz (by decide)))
 have hpre:∀ u∈af0 ar ks v,u∈ks:=λ u hu=>(bg1.mp hu).1
 have hpl:(af0 ar ks v).length<=1000:=Nat.le_trans (List.length_filter_le ..) hsz
 have hpl2:(af0 ar ks v).length < 60:=by
  have:(af0 ar ks v).length<=((ar.filter λ e=>decide (e.2=v)).map (·.1)).length:=List.length_filter_le ..
  have h3:((ar.filter λ e=>decide (e.2=v)).map (·.1)).length<=5:=by
   refine y8 5 ?_ λ y hy=>?_
   ·rw [List.Nodup,List.pairwise_map]
    refine (C.hn.filter _).imp_of_mem λ {a b} q1 q2 q e=>q ?_
    have e1:=of_decide_eq_true (List.mem_filter.mp q1).2
    have e2:=of_decide_eq_true (List.mem_filter.mp q2).2
    exact Prod.ext e (e1.trans e2.symm)
   ·obtain ⟨e,he,rfl⟩:=List.mem_map.mp hy
    exact (C.ha e (List.mem_filter.mp he).1).1
  lia
 have hcp:ab7 [.list (.str (PS ((P p).map nm)) :: (af0 ar ks v).map (pth nm P))]=some (.str (PS ((aw5 P (af0 ar ks v) v).map nm))):=by
  have h:=aw3 (a:=(P p).map nm) (r:=((af0 ar ks v).map P).map (List.map nm)) (λ x hx=>by
   rcases List.mem_cons.mp hx with rfl | hx
   ·exact ⟨ab6 C.N _,by rw [List.length_map];exact Nat.le_trans lp (by decide)⟩
   ·obtain ⟨l,hl,rfl⟩:=List.mem_map.mp hx
    obtain ⟨u,hu,rfl⟩:=List.mem_map.mp hl
    exact ⟨ab6 C.N _,by rw [List.length_map];exact Nat.le_trans (t.len5 h5 (hpre u hu)) (by decide)⟩) (by rw [List.length_map,List.length_map];exact hpl2)
  rw [cn5 C.N (bl8 t h5 hp) λ b hb=>by
   obtain ⟨u,hu,rfl⟩:=List.mem_map.mp hb
   exact bl8 t h5 (hpre u hu)] at h
  unfold aw5
  rw [ep,List.dropLast_concat]
  rw [List.map_cons,List.map_map,List.map_map] at h
  exact h
 refine w7 (d7 (al9 (l_e rfl (ap5 (d7 (w7 (d7 (k0 h6) j0) (by rw [bu8];exact hdir)) j0) rfl)) (l_e rfl hcomp) (bu6 rfl (ob rfl (ob rfl (r6 (szl ?_) rfl))))) j0) (by rw [ej5];exact hcp)
 rw [List.length_map]
 show 1+(af0 ar ks v).length<=_
 lia
theorem do6 (C:GrC nm ar) (t:Tr ks P) (h5:L5 ks) (hk:ks.Nodup) {v:Nat} (hv:v∈ks) {r:Rho} (h0:r.get 0=some (.own,pD3 nm P ks)) (h6:r.get 6=some (.fr,pth nm P v)) :
  eval (c6 L2b) cz2 r=some (.list ((ks.filter λ x=>decide (v∈P x)).map λ x=>.str (nm x))):=
 ag6 (xs:=ks) (g:=λ a=>.str (nm a)) (h:=λ a=>.str (nm a)) (p:=λ x=>decide (v∈P x)) (R:=λ a=>[none,some (.fr,.str (nm a)),none,some (.fr,pth nm P v),some (.cap,pD3 nm P ks)])
  (i_e rfl (ah0 (m:=.own) h0) cn7)
  (λ a _=>by
   show m8 [none,none,none,bj2 (r.get 6),bj2 (r.get 0)] [1] (.str (nm a))=_
   rw [h6,h0];rfl)
  (λ x hx=>ag7 (t_b rfl rfl (ae4 (l_e rfl (w7 (d7 (ap5 (d7 (k0 rfl) (d7 (aa8 (ah0 (m:=.cap) rfl) (d9 rfl) (bc3 C.N h5 hx)) j0)) rfl) j0) (by rw [ej5];exact eo8 C.N (bl8 t h5 hv) (bl8 t h5 hx) (Nat.le_trans (t.len5 h5 hv) (by decide)) (Nat.le_trans (t.len5 h5 hx) (by decide))))) (d9 rfl) (by
   show some (PS ((ae5 (P v) (P x)).map nm) == PS ((P v).map nm))=_
   rw [ej6 C.N (λ z hz=>bl8 t h5 hv z ((bi4 _ _).subset hz)) (bl8 t h5 hv)]
   exact congrArg some (decide_eq_decide.mpr (do9.trans (t.iff hx hv).symm))))))
  (λ x _ _=>k0 rfl) (szl (Nat.le_trans (y8 5 hk h5) (by decide)))
theorem dn6 (C:GrC nm ar) (h5:L5 ks) (hk:ks.Nodup) {ord:D} {v:Nat} (hv5:v < 5) (hv0:v≠0) {S:(Nat->List Nat)×Bool} {r:Rho} (x:LfS nm ar ks ord S r):∃ r',ap3 (c6 L2b) fr2 [5] db7 (.str (nm v)) r=some (.next,r')/\LfS nm ar ks ord (as8 ks (af0 ar ks) S v) r':=by
 obtain ⟨K,o4,o5,o6,o7,o8,o9,q4,q5,q6,q7,q8,q9,rfl⟩:=x
 obtain ⟨P,c⟩:=S
 have K:ax3 (arP ar) ks P:=K
 have hb:=ac6 (pfS (m:=.fr) (d:=.str (nm v)) (r:=rL (pD3 nm P ks) ord (ab5 nm ar) c o4 o5 o6 o7 o8 o9) (o:=o5) rfl q5 (show 5 < 15 by decide))
 have hin:ab4 (c6 L2b) (.cmp .In (.var 5) (.var 0)) (rL (pD3 nm P ks) ord (ab5 nm ar) c o4 (some (.fr,.str (nm v))) o6 o7 o8 o9)=some (decide (v∈ks)):=t_b rfl rfl (ae4 (d9 rfl) (ah0 (m:=.own) rfl) (ej9 C.N h5 hv5))
 by_cases hv:v∈ks
 ·rw [decide_eq_true hv] at hin
  have t:=K.t
  obtain ⟨p,hp,ep⟩:=t.up v hv hv0
  have lp:=t.len5 h5 hp
  obtain ⟨hdir,hnew⟩:=eg7 C t h5 hk hv hp ep (r:=rL (pD3 nm P ks) ord (ab5 nm ar) c o4 (some (.fr,.str (nm v))) (some (.fr,pth nm P v)) o7 o8 o9) rfl rfl rfl rfl
  generalize hq:aw5 P (af0 ar ks v) v=q at hnew
  have hqp:q <+: P p:=by
   rw [<- hq]
   unfold aw5
   rw [ep,List.dropLast_concat]
   exact bc5 _ _
  have hq5:L5 q:=λ z hz=>bl8 t h5 hp z (hqp.subset hz)
  have hql:q.length<=5:=Nat.le_trans hqp.length_le lp
  have hne:ab4 (c6 L2b) (.cmp .NotEq (.var 8) (.call "dirname" [(.var 6)])) (rL (pD3 nm P ks) ord (ab5 nm ar) c o4 (some (.fr,.str (nm v))) (some (.fr,pth nm P v)) o7 (some (.fr,.str (PS (q.map nm)))) o9)=some (!decide (q=P p)):=
   t_b rfl rfl (ae4 (d9 rfl) (l_e rfl (w7 (d7 (k0 rfl) j0) (by rw [bu8];exact hdir))) ((neS _ _).trans (by rw [ej6 C.N hq5 (bl8 t h5 hp)])))
  have h2:∀ o,exec (c6 L2b) fr2 (.if_ (.cmp .NotEq (.var 8) (.call "dirname" [(.var 6)])) [.assign 3 false (.bool true),.assign 9 false cz2,.for_ [7] (.var 9) eb0] []) (rL (pD3 nm P ks) ord (ab5 nm ar) c o4 (some (.fr,.str (nm v))) (some (.fr,pth nm P v)) o7 (some (.fr,.str (PS (q.map nm)))) o9)=o->ap3 (c6 L2b) fr2 [5] db7 (.str (nm v)) (rL (pD3 nm P ks) ord (ab5 nm ar) c o4 o5 o6 o7 o8 o9)=o:=λ o ho=>
   ad4 hb (l8 (ar5 hin ((r7 (f7 rfl (aa8 (ah0 (m:=.own) rfl) (d9 rfl) (bc3 C.N h5 hv)) (pfS (m:=.fr) (o:=o6) rfl q6 (show 6 < 15 by decide)))).trans ((r7 (f7 rfl hnew (pfS (m:=.fr) (o:=o8) rfl q8 (show 8 < 15 by decide)))).trans (l8 ho)))))
  cases df2 (pre:=af0 ar ks) K (λ v u hu=>bg1.mp hu) hv hv0 with
  | stay e h f=>
   rw [hq,ep,List.dropLast_concat] at e
   rw [decide_eq_true e] at hne
   refine ⟨_,h2 _ (aj1 hne ar2),K.congr h,o4,some (.fr,.str (nm v)),some (.fr,pth nm P v),o7,some (.fr,.str (PS (q.map nm))),o9,q4,ab2 _,ab2 _,q7,ab2 _,q9,?_⟩
   have e1:kv nm (pth nm P) ks=kv nm (pth nm (ak5 ks (af0 ar ks) P v)) ks:=ax6 λ x hx=>by unfold pth;rw [h x hx]
   have e2:(as8 ks (af0 ar ks) (P,c) v).2=c:=by
    show (c || (decide (v∈ks) && decide (aw5 P (af0 ar ks v) v≠(P v).dropLast)))=c
    rw [hq,ep,List.dropLast_concat,decide_eq_false (p:=q≠P p) (λ z=>z e),Bool.and_false,Bool.or_false]
   rw [e2]
   show rL (.dict (kv nm (pth nm P) ks)) _ _ _ _ _ _ _ _ _=_
   rw [e1];rfl
  | go e k h=>
   have e':q≠P p:=λ z=>e (by rw [hq,ep,List.dropLast_concat];exact z)
   rw [decide_eq_false e'] at hne
   obtain ⟨v7,q7',hm⟩:=cq9 C.N t h5 hk hv hq5 hql (ord:=ord) (cm:=ab5 nm ar) (c:=true) (o4:=o4) (o9:=some (.fr,.list ((ks.filter λ x=>decide (v∈P x)).map λ x=>.str (nm x)))) (js:=ks.filter λ x=>decide (v∈P x)) (done:=[]) (o7:=o7) (λ x hx=>⟨(List.mem_filter.mp hx).1,of_decide_eq_true (List.mem_filter.mp hx).2⟩) (hk.filter _) q7
   have e0:kv nm (fM nm P q v []) ks=kv nm (pth nm P) ks:=ax6 λ x _=>if_neg (λ z=>nomatch z)
   have e1:kv nm (fM nm P q v ([] ++ ks.filter λ x=>decide (v∈P x))) ks=kv nm (pth nm (ak5 ks (af0 ar ks) P v)) ks:=ax6 λ x hx=>by
    unfold fM pth ak5
    rw [List.nil_append,hq]
    by_cases hvx:v∈P x
    ·rw [if_pos (List.mem_filter.mpr ⟨hx,decide_eq_true hvx⟩),if_pos ⟨hv,hvx⟩]
    ·rw [if_neg (show ¬ x∈ks.filter (λ x=>decide (v∈P x)) from λ z=>hvx (of_decide_eq_true (List.mem_filter.mp z).2)),if_neg λ z=>hvx z.2]
   rw [e0,e1] at hm
   have e2:(as8 ks (af0 ar ks) (P,c) v).2=true:=by
    show (c || (decide (v∈ks) && decide (aw5 P (af0 ar ks v) v≠(P v).dropLast)))=true
    rw [decide_eq_true hv,decide_eq_true e,Bool.and_true,Bool.or_true]
   refine ⟨_,h2 _ (ar5 hne ((r7 (f7 (d:=.bool true) rfl da9 (pfS (m:=.fr) (o:=some (.fr,.bool c)) rfl (ab2 _) (show 3 < 15 by decide)))).trans ((r7 (f7 rfl (do6 C t h5 hk hv rfl rfl) (pfS (m:=.fr) (o:=o9) rfl q9 (show 9 < 15 by decide)))).trans (l8 (ba0 (ah2 rfl (d9 rfl)) hm rfl))))),k,o4,some (.fr,.str (nm v)),some (.fr,pth nm P v),v7,some (.fr,.str (PS (q.map nm))),some (.fr,.list ((ks.filter λ x=>decide (v∈P x)).map λ x=>.str (nm x))),q4,ab2 _,ab2 _,q7',ab2 _,ab2 _,?_⟩
   rw [e2]
   rfl
 ·rw [decide_eq_false hv] at hin
  refine ⟨_,ad4 hb (l8 (aj1 hin ar2)),?_⟩
  have eb:as8 ks (af0 ar ks) (P,c) v=(P,c):=by
   unfold as8 ak5
   rw [decide_eq_false hv,Bool.false_and,Bool.or_false]
   exact congrArg (·,c) (funext λ x=>if_neg λ q=>hv q.1)
  rw [eb]
  exact ⟨K,_,_,_,_,_,_,q4,ab2 _,q6,q7,q8,q9,rfl⟩
theorem cc4 (C:GrC nm ar) (h5:L5 ks) (hk:ks.Nodup) {ord:D}:∀ {vs:List Nat} {S:(Nat->List Nat)×Bool} {r:Rho},(∀ v∈vs,v < 5/\v≠0)->LfS nm ar ks ord S r->∃ r',j8 (ap3 (c6 L2b) fr2 [5] db7) (vs.map λ v=>.str (nm v)) r=some (.next,r')/\LfS nm ar ks ord (vs.foldl (as8 ks (af0 ar ks)) S) r'
 | [],S,r,_,x=>⟨r,rfl,x⟩
 | v :: vs,S,r,hv,x=>by
  obtain ⟨a1,a2⟩:=hv v (.head _)
  obtain ⟨r1,e1,x1⟩:=dn6 C h5 hk a1 a2 x
  obtain ⟨r2,e2,x2⟩:=cc4 C h5 hk (λ u hu=>hv u (.tail _ hu)) x1
  exact ⟨r2,(u8 e1).trans e2,x2⟩
noncomputable abbrev el9:List SI:=[.if_ (.var 3) [.assign 3 false (.bool false),.for_ [5] (.var 1) db7] []]
noncomputable def au2 (nm:Nat->Str) (o:List Nat):D:=.list (o.map λ v=>.str (nm v))
theorem dk8 (C:GrC nm ar) (h5:L5 ks) (hk:ks.Nodup) {o:List Nat} (ho:∀ v∈o,v < 5/\v≠0) {i:Nat} {S:(Nat->List Nat)×Bool} {r:Rho} (x:LfS nm ar ks (au2 nm o) S r):∃ r',ap3 (c6 L2b) fr2 [4] el9 (nI i) r=some (.next,r')/\LfS nm ar ks (au2 nm o) (ck8 ks (af0 ar ks) o S) r':=by
 obtain ⟨K,o4,o5,o6,o7,o8,o9,q4,q5,q6,q7,q8,q9,rfl⟩:=x
 obtain ⟨P,c⟩:=S
 have hb:=ac6 (pfS (m:=.fr) (d:=nI i) (r:=rL (pD3 nm P ks) (au2 nm o) (ab5 nm ar) c o4 o5 o6 o7 o8 o9) (o:=o4) rfl q4 (show 4 < 15 by decide))
 cases c with
 | true=>
  obtain ⟨r',e,x'⟩:=cc4 C h5 hk ho (S:=(P,false)) (r:=rL (pD3 nm P ks) (au2 nm o) (ab5 nm ar) false (some (.fr,nI i)) o5 o6 o7 o8 o9) ⟨K,_,_,_,_,_,_,ab2 _,q5,q6,q7,q8,q9,rfl⟩
  obtain ⟨K',p4,p5,p6,p7,p8,p9,s4,s5,s6,s7,s8,s9,rfl⟩:=x'
  refine ⟨_,ad4 hb (l8 (ar5 (t_e rfl (d9 rfl) rfl) ((r7 (f7 (d:=.bool false) rfl da9 (pfS (m:=.fr) (o:=some (.fr,.bool true)) rfl (ab2 _) (show 3 < 15 by decide)))).trans (l8 (ba0 (ah2 rfl (d9 rfl)) e rfl))))),K',p4,p5,p6,p7,p8,p9,s4,s5,s6,s7,s8,s9,rfl⟩
 | false=>exact ⟨_,ad4 hb (l8 (aj1 (t_e rfl (d9 rfl) rfl) ar2)),K,_,_,_,_,_,_,ab2 _,q5,q6,q7,q8,q9,rfl⟩
theorem bh9 (C:GrC nm ar) (K:ax3 (arP ar) ks P) (h5:L5 ks) (hk:ks.Nodup) {o:List Nat} (ho:∀ v∈o,v < 5/\v≠0):af2 [pD3 nm P ks,au2 nm o,ab5 nm ar]=some (pD3 nm (aj0 ks (af0 ar ks) o (P,true) 12).1 ks):=by
 obtain ⟨r',e,K',o4,o5,o6,o7,o8,o9,_,_,_,_,_,_,rfl⟩:=bj5 (f:=ap3 (c6 L2b) fr2 [4] el9) (S:=λ i r=>LfS nm ar ks (au2 nm o) (aj0 ks (af0 ar ks) o (P,true) i) r) 12 0 (λ j r h=>dk8 C h5 hk ho h) (r:=rL (pD3 nm P ks) (au2 nm o) (ab5 nm ar) true none none none none none none) ⟨K,_,_,_,_,_,_,ac0,ac0,ac0,ac0,ac0,ac0,rfl⟩
 unfold af2
 refine ob rfl (ob (a:=(.ret true (pD3 nm (aj0 ks (af0 ar ks) o (P,true) (0+12)).1 ks),rL (pD3 nm (aj0 ks (af0 ar ks) o (P,true) (0+12)).1 ks) (au2 nm o) (ab5 nm ar) (aj0 ks (af0 ar ks) o (P,true) (0+12)).2 o4 o5 o6 o7 o8 o9)) ?_ rfl)
 unfold ao9
 refine (r7 (f7 (d:=.bool true) rfl da9 rfl)).trans ?_
 refine (r7 (ba0 (ak2 (m7 z7 y9) (am6 12 (by decide))) (f:=.next) e rfl)).trans ?_
 exact l8 (cg9 (m:=.own) rfl (.inl ⟨rfl,rfl⟩))
end
end
section
open PySem.StrLaws PySem.Builtin PySem.Builtin.Str
theorem db2 (a b:Nat):bb7 .Eq (nI a) (nI b)=some (a == b):=by
 have h:=bq2 a b
 have e:bb7 .NotEq (nI a) (nI b)=(eqD (nI a) (nI b)).map (!·):=rfl
 rw [e] at h
 obtain ⟨c,hc,h2⟩:=u9 h
 show (eqD (nI a) (nI b)).or (eqM (nI a) (nI b))=_
 rw [hc]
 show some c=_
 have:c=!(a != b):=by rw [<- h2,Bool.not_not]
 rw [this]
 show some (!(!(a == b)))=_
 rw [Bool.not_not]
theorem dd8 {α:Type} {U:String->List D->Option D} {r:Rho} {cap:List (Option Nat)} {tgt:List Nat} {src key elt:IR} {xs:List α} {g kf vf:α->D} {R:α->Rho} (hi:e9 U src r=some (xs.map g)) (hb:∀ x∈xs,m8 (as7 r cap) tgt (g x)=some (R x))
  (hk:∀ x∈xs,eval U key (R x)=some (kf x)) (hv:∀ x∈xs,eval U elt (R x)=some (vf x)) (ho:∀ x∈xs,z8 (kf x)=true) (hz:xs.length<=60):eval U (.dcomp cap tgt src [] key elt) r=some (.dict ((xs.map λ x=>(kf x,vf x)).foldl (λ m e=>ag8 m e.1 e.2) [])):=by
 refine ob hi (ob (a:=xs.map λ x=>(kf x,vf x)) ?_ (r6 (g7 ?_ (g7 rfl (decide_eq_true (by rw [List.length_map];exact hz)))) rfl))
 ·rw [List.mapM_map]
  exact ac4 λ x hx=>ob (hb x hx) (ob (hk x hx) (ob (hv x hx) rfl))
 ·rw [List.all_map]
  exact List.all_eq_true.mpr λ x hx=>ho x hx
section
variable {nm:Nat->Str} {ar:List (Nat×Nat)}
theorem de8 (N:Nms nm) {f:Nat->D}:∀ {ms done:List Nat},(∀ k∈done ++ ms,k < 5)->(done ++ ms).Nodup->(ms.map λ k=>(PyData.str (nm k),f k)).foldl (λ m e=>ag8 m e.1 e.2) (kv nm f done)=kv nm f (done ++ ms)
 | [],done,_,_=>by rw [List.append_nil];rfl
 | m :: ms,done,h,hn=>by
  have hm:m ∉ done:=λ q=>(List.nodup_append.mp hn).2.2 m q m (.head _) rfl
  have e:done ++ m :: ms=(done ++ [m]) ++ ms:=by rw [List.append_assoc];rfl
  rw [List.map_cons,List.foldl_cons,by2 N (h m (List.mem_append_right _ (.head _))) (λ k hk=>h k (List.mem_append_left _ hk)) hm,de8 N (by rw [<- e];exact h) (by rw [<- e];exact hn),e]
theorem cq7 (N:Nms nm) {f:Nat->D}:((List.range 5).map λ k=>(PyData.str (nm k),f k)).foldl (λ m e=>ag8 m e.1 e.2) []=kv nm f (List.range 5):=de8 N (done:=[]) bs9 List.nodup_range
theorem dh0 {r:Rho} {e:Nat×Nat}:m8 r [1,2] (pD e)=some ((r.set 1 (some (.fr,nI e.1))).set 2 (some (.fr,nI e.2))):=rfl
theorem ck5 {L:List Str} (hl:L.length < 64) (ho:∀ x∈L,PyData.strOk x=true):bfD .sorted [LS L]=some (LS (al0 L)):=ob rfl (congrArg (Option.map PyData.list) (dh8 (ob rfl (bs4 hl ho))))
theorem cj5 (C:GrC nm ar):ar.length<=25:=
 C.hn.length_le_of_subset (l₂:=((List.range 5).map λ a=>(List.range 5).map λ b=>(a,b)).flatten) λ e he=>by
  obtain ⟨a1,a2,_⟩:=C.ha e he
  exact List.mem_flatten.mpr ⟨_,List.mem_map_of_mem (List.mem_range.mpr a1),List.mem_map.mpr ⟨e.2,List.mem_range.mpr a2,rfl⟩⟩
theorem dy7:c6 L2d "_law_drawn"=ah7:=⋯
theorem ct5:c6 L2d "_law_written"=z6:=⋯
theorem ee6:c6 L2d "_law_told"=ad8:=⋯
theorem dy1:c6 L2d "_law_grown"=ai1:=⋯
theorem dl9:c6 L2d "_law_lifted"=af2:=⋯
theorem dq0:c6 L2a "_law_reach"=ah6:=⋯
noncomputable def rW (xs:D) (kind:Nat) (tx arD:D) (rest:Nat) (ord s6 s7 s8 s9:Slot):Rho:=[some (.fr,xs),some (.fr,nI kind),some (.fr,tx),some (.fr,arD),some (.fr,nI rest),ord,s6,s7,s8,s9,none,none,none,none,none]
theorem dn2 (C:GrC nm ar) {r:Rho} (h3:r.get 3=some (.fr,.list (ar.map pD))) (h6:r.get 6=some (.fr,y5 nm)) :
  eval (c6 L2d) (.dcomp [none,none,none,some 3,some 6] [1] (.range [(.int 5)]) [] (.idx (.var 4) (.var 1)) (.bcall .sorted [(.comp [none,none,none,some 1,some 4] [1,2] (.var 3) [(.cmp .Eq (.var 1) (.var 3))] (.idx (.var 4) (.var 2)))])) r=some (ab9 nm ar):=by
 refine (dd8 (xs:=List.range 5) (g:=nI) (kf:=λ k=>.str (nm k)) (vf:=λ k=>LS (al0 (tg nm ar k))) (R:=λ k=>[none,some (.fr,nI k),none,some (.fr,.list (ar.map pD)),some (.fr,y5 nm)]) (ak2 (m7 z7 y9) (am6 5 (by decide))) (λ k _=>?_) (λ k hk=>aa8 (d9 rfl) (d9 rfl) (ai3 (List.mem_range.mp hk))) (λ k hk=>?_) (λ k _=>rfl) (by decide)).trans ?_
 ·show m8 [none,none,none,bj2 (r.get 3),bj2 (r.get 6)] [1] (nI k)=_
  rw [h3,h6];rfl
 ·have hc:eval (c6 L2d) (.comp [none,none,none,some 1,some 4] [1,2] (.var 3) [(.cmp .Eq (.var 1) (.var 3))] (.idx (.var 4) (.var 2))) [none,some (.fr,nI k),none,some (.fr,.list (ar.map pD)),some (.fr,y5 nm)]=some (LS (tg nm ar k)):=by
   have h:=ag6 (U:=c6 L2d) (r:=[none,some (.fr,nI k),none,some (.fr,.list (ar.map pD)),some (.fr,y5 nm)]) (cap:=[none,none,none,some 1,some 4]) (tgt:=[1,2]) (src:=.var 3) (ifs:=[(.cmp .Eq (.var 1) (.var 3))]) (elt:=.idx (.var 4) (.var 2)) (xs:=ar) (g:=pD) (h:=λ e=>.str (nm e.2)) (p:=λ e=>e.1 == k) (R:=λ e=>[none,some (.fr,nI e.1),some (.fr,nI e.2),some (.fr,nI k),some (.fr,y5 nm)])
    (ah2 rfl (d9 rfl)) (λ e _=>dh0) (λ e _=>ag7 (t_b rfl rfl (ae4 (d9 rfl) (d9 rfl) (db2 _ _)))) (λ e he _=>aa8 (d9 rfl) (d9 rfl) (ai3 (C.ha e he).2.1)) (szl (Nat.le_trans (cj5 C) (by decide)))
   rw [h]
   unfold tg LS
   rw [List.map_map];rfl
  refine aj9 (m7 (l_e rfl hc) y9) (ck5 ?_ λ x hx=>?_)
  ·unfold tg
   rw [List.length_map]
   have:=List.length_filter_le (λ e:Nat×Nat=>e.1 == k) ar
   have:=cj5 C
   lia
  ·obtain ⟨e,_,rfl⟩:=List.mem_map.mp hx
   exact (C.N.ok _).2.2.2.2
 ·rw [cq7 C.N];rfl
theorem dm0 (C:GrC nm ar) {r:Rho} (h3:r.get 3=some (.fr,.list (ar.map pD))) (h6:r.get 6=some (.fr,y5 nm)) :
  eval (c6 L2d) (.dcomp [none,none,some 3,some 6] [1] (.range [(.int 5)]) [] (.idx (.var 3) (.var 1)) (.comp [none,none,none,some 1,some 3] [1,2] (.var 2) [(.cmp .Eq (.var 2) (.var 3))] (.idx (.var 4) (.var 1)))) r=some (ab5 nm ar):=by
 refine (dd8 (xs:=List.range 5) (g:=nI) (kf:=λ k=>.str (nm k)) (vf:=λ k=>.list (((ar.filter λ e:Nat×Nat=>decide (e.2=k)).map λ e:Nat×Nat=>e.1).map λ a=>.str (nm a))) (R:=λ k=>[none,some (.fr,nI k),some (.fr,.list (ar.map pD)),some (.fr,y5 nm)]) (ak2 (m7 z7 y9) (am6 5 (by decide))) (λ k _=>?_) (λ k hk=>aa8 (d9 rfl) (d9 rfl) (ai3 (List.mem_range.mp hk))) (λ k hk=>?_) (λ k _=>rfl) (by decide)).trans ?_
 ·show m8 [none,none,bj2 (r.get 3),bj2 (r.get 6)] [1] (nI k)=_
  rw [h3,h6];rfl
 ·have h:=ag6 (U:=c6 L2d) (r:=[none,some (.fr,nI k),some (.fr,.list (ar.map pD)),some (.fr,y5 nm)]) (cap:=[none,none,none,some 1,some 3]) (tgt:=[1,2]) (src:=.var 2) (ifs:=[(.cmp .Eq (.var 2) (.var 3))]) (elt:=.idx (.var 4) (.var 1)) (xs:=ar) (g:=pD) (h:=λ e=>.str (nm e.1)) (p:=λ e=>decide (e.2=k)) (R:=λ e=>[none,some (.fr,nI e.1),some (.fr,nI e.2),some (.fr,nI k),some (.fr,y5 nm)])
   (ah2 rfl (d9 rfl)) (λ e _=>dh0) (λ e _=>ag7 (t_b rfl rfl (ae4 (d9 rfl) (d9 rfl) (db2 _ _)))) (λ e he _=>aa8 (d9 rfl) (d9 rfl) (ai3 (C.ha e he).1)) (szl (Nat.le_trans (cj5 C) (by decide)))
  rw [h,List.map_map];rfl
 ·rw [cq7 C.N];rfl
inductive eu4 (xs:List Int):Prop
 | mk (nm:Nat->Str) (ar:List (Nat×Nat)) (ks:List Nat) (P:Nat->List Nat) (kind:Nat) (tx:D) (rest:Nat) (ord s7 s8:Slot) (C:GrC nm ar) (F:ar7 ar ks P) (hn:ks.Nodup)
  (hex:execs (c6 L2d) fr2 cj0 ((List.replicate 15 none).set 0 (some (.fr,.list (xs.map .int))))=some (.next,rW (.list (xs.map .int)) kind tx (.list (ar.map pD)) rest ord (some (.fr,y5 nm)) s7 s8 (some (.fr,pD3 nm P ks))))
  (ht:eval (c6 L2d) cw5 (rW (.list (xs.map .int)) kind tx (.list (ar.map pD)) rest ord (some (.fr,y5 nm)) s7 s8 (some (.fr,pD3 nm P ks)))=some (y5 nm)):eu4 xs
theorem cs6 (xs:List Int) (hxs:xs.length<=63):eu4 xs:=by
 obtain ⟨kind,rot,ar,rest,ord,hk,hn,ha,hr,ho,e⟩:=bn6 xs hxs
 have N:Nms λ k=>wr kind (rot+k):=⟨λ k=>(cl7 hk (rot+k)).2.2,λ i hi j hj q=>by
  have:=er6 hk q
  lia⟩
 generalize hnm:(λ k=>wr kind (rot+k))=nm at N
 have wf:∀ k,z6 [.str (ak8 (rot+k)),nI kind]=some (.str (nm k))/\ad8 [.str (ak8 (rot+k)),nI kind]=some (.str (nm k)):=λ k=>by
  rw [<- hnm]
  obtain ⟨a,b,_⟩:=cl7 hk (rot+k)
  exact ⟨a,b⟩
 have C:GrC nm ar:=⟨N,hn,ha⟩
 have h5a:∀ e∈ar,e.2 < 5:=λ e he=>(ha e he).2.1
 obtain ⟨ks,P,g,hc,eg⟩:=bm8 C hr
 have l5:=g.lt h5a
 have hkn:=(az3 g).n
 have ho':∀ v,v∈ord.filter (λ v=>v != 0)↔v≠0/\v < 5:=λ v=>by
  rw [List.mem_filter,ho.mem_iff,List.mem_range,bne_iff_ne]
  exact And.comm
 have el:=bh9 C (az3 g).k l5 hkn (o:=ord.filter λ v=>v != 0) λ v hv=>((ho' v).mp hv).symm
 obtain ⟨tx,htx⟩:∃ tx,tx=PyData.list ((List.range 5).map λ k=>.str (ak8 (rot+k))):=⟨_,rfl⟩
 obtain ⟨dX,hX⟩:∃ dX,dX=PyData.list (xs.map .int):=⟨_,rfl⟩
 rw [<- htx,<- hX] at e
 refine ⟨nm,ar,ks,_,kind,tx,rest,some (.fr,.list (ord.map nI)),some (.fr,ab9 nm ar),some (.fr,ab5 nm ar),C,ey6 h5a g hc ho',hkn,?_,?_⟩
 ·rw [<- hX]
  unfold cj0
  refine (r7 (r':=rW dX kind tx (.list (ar.map pD)) rest (some (.fr,.list (ord.map nI))) none none none none) (bt6 (by decide) (w7 (d7 (k0 rfl) j0) (by rw [dy7];exact e)) rfl)).trans ?_
  refine (r7 (r':=rW dX kind tx (.list (ar.map pD)) rest (some (.fr,.list (ord.map nI))) (some (.fr,y5 nm)) none none none) (f7 (d:=y5 nm) rfl (ax9 (xs:=List.range 5) (g:=λ k=>.str (ak8 (rot+k))) (h:=λ k=>.str (nm k)) (R:=λ k=>[none,some (.fr,.str (ak8 (rot+k))),none,some (.fr,nI kind)]) (ah2 rfl (d9 (by rw [htx];rfl))) (λ k _=>rfl) (λ k _=>w7 (d7 (k0 rfl) (d7 (k0 rfl) j0)) (by rw [ct5];exact (wf k).1)) rfl) rfl)).trans ?_
  refine (r7 (r':=rW dX kind tx (.list (ar.map pD)) rest (some (.fr,.list (ord.map nI))) (some (.fr,y5 nm)) (some (.fr,ab9 nm ar)) none none) (f7 rfl (dn2 C rfl rfl) rfl)).trans ?_
  refine (r7 (r':=rW dX kind tx (.list (ar.map pD)) rest (some (.fr,.list (ord.map nI))) (some (.fr,y5 nm)) (some (.fr,ab9 nm ar)) (some (.fr,ab5 nm ar)) none) (f7 rfl (dm0 C rfl rfl) rfl)).trans ?_
  have hord:eval (c6 L2d) (.comp [none,none,some 6] [1] (.var 5) [(.cmp .NotEq (.var 1) (.int 0))] (.idx (.var 2) (.var 1))) (rW dX kind tx (.list (ar.map pD)) rest (some (.fr,.list (ord.map nI))) (some (.fr,y5 nm)) (some (.fr,ab9 nm ar)) (some (.fr,ab5 nm ar)) none)=some (au2 nm (ord.filter λ v=>v != 0)):=
   ag6 (xs:=ord) (g:=nI) (h:=λ v=>.str (nm v)) (p:=λ v=>v != 0) (R:=λ v=>[none,some (.fr,nI v),some (.fr,y5 nm)]) (ah2 rfl (d9 rfl)) (λ v _=>rfl) (λ v _=>ag7 (t_b rfl rfl (ae4 (d9 rfl) z7 (bq2 v 0)))) (λ v hv _=>aa8 (d9 rfl) (d9 rfl) (ai3 (List.mem_range.mp (ho.mem_iff.mp hv)))) (szl (by rw [ho.length_eq];decide))
  exact l8 (f7 rfl (w7 (d7 (w7 (d7 (k0 rfl) (d7 (k0 rfl) (d7 (k0 rfl) j0))) (by rw [dy1];exact eg)) (d7 hord (d7 (k0 rfl) j0))) (by rw [dl9];exact el)) rfl)
 ·exact ax9 (xs:=List.range 5) (g:=λ k=>.str (ak8 (rot+k))) (h:=λ k=>.str (nm k)) (R:=λ k=>[none,some (.fr,.str (ak8 (rot+k))),none,some (.fr,nI kind)]) (ah2 rfl (d9 (by rw [htx];rfl))) (λ k _=>rfl) (λ k _=>w7 (d7 (k0 rfl) (d7 (k0 rfl) j0)) (by rw [ee6];exact (wf k).2)) rfl
end
section
open PySem.Calls
variable {w:World} {qa:Heap} {mg mb:Str->Option Value} {A:Around} {B:FM} {s:Shared} {P:Addr}
theorem ew9 {xs:List Int} (hxs:xs.length<=63) {v:Value} {fa:Addr} (G:Glb qa mg mb) (H:an5 mg qa) (DF:cs0 mg qa P) (rm:Rm 6 A) (stk:Stk A B s.heap) (kp:j4 B s.heap) (hb:∀ a o,qa.get? a=some o->B a=some o) (hr:Rd prog w B (.list (xs.map .int)) v) (hfa:mg (i6 P2 34).name=some (.ref fa)) :
  codeAny (model prog w) A (.call (.ref fa) ⟨[v],[]⟩) (λ r s'=>r = .ok (.ret (.bool true))/\ep9 w B s P s') s:=by
 obtain ⟨nm,ar,ks,Q,kind,tx,rest,ord,s7,s8,C,F,hn,hex,ht⟩:=cs6 xs hxs
 have hl:ar.length<=100:=Nat.le_trans (cj5 C) (by decide)
 have hR:∀ o:Nat,c6 L2a "_law_reach" [.list (ar.map pD),.int (o:Int)]=some (.list ((Rn ar (o:Int)).map .int)):=λ o=>by
  rw [dq0]
  unfold Rn
  rw [cc9]
  exact bn7 hl
 have hnd:(Rn ar 5).Nodup:=by
  show ((k8 ar 5 4).map λ n:Nat=>(n:Int)).Nodup
  rw [List.Nodup,List.pairwise_map]
  exact (az2 F.lt).imp λ {a b} q e=>q (Int.ofNat.inj e)
 have h20:(Rn ar 5).length<=20:=by
  show ((k8 ar 5 4).map λ n:Nat=>(n:Int)).length<=20
  rw [List.length_map]
  exact Nat.le_trans (y8 5 (az2 F.lt) λ y hy=>F.n y (F.all.mp hy)) (by decide)
 refine dq7 (told:=y5 nm) (arD:=.list (ar.map pD)) (R:=Rn ar) (tx:=txN nm) (jn:=jnN nm ar) G H DF (λ o ho=>?_) hnd h20 (λ r1 l x=>ee3 C.N F r1 l x) (dh6 F) hex rfl rfl ht (ei0 F C.N hn) rm stk kp hb hr hfa
 simp only [List.mem_cons,List.not_mem_nil,or_false] at ho
 rcases ho with rfl | rfl | rfl | rfl | rfl
 ·exact hR 1
 ·exact hR 2
 ·exact hR 3
 ·exact hR 4
 ·exact hR 5
end
end
section
noncomputable abbrev P2x:Program:=PySem.Challenge.pw_rt0078_03
noncomputable def ag9:Program:={ P2x with main:={ P2x.main with body:=[0,2,4,6,7,9,11,13,14,15,16,18,20,21,22,23,24,25,27,28,29,30,31,32,33,34].filterMap λ i=>P2x.main.body[i]? } }
theorem ez1:PySem.Challenge.rw_rt0078_03.wellSaid=true:=by
  first
    | (delta OpenLaw.wellSaid OpenRow.wellSaid OpenRow.partSaid looksOpen
       rewrite [Fast.te8326940854005059898, Fast.te17119622794617984870, Fast.te8377067652309620493]
       repeat' with_reducible refine Bool.and_eq_true_iff.mpr ⟨?_, ?_⟩
       all_goals decide +kernel)
    | kernel_rfl
noncomputable abbrev Xt2:Shared->Bool:=λ s=>xlAt ag9 [] s && recOk (RowW.records PySem.Challenge.rw_rt0078_03.row.toRowW) s
theorem ez0:LeftO P2x ag9 [] Xt2 (Hook.obs Hook.none) (Hook.val Hook.none) 2956:=λ w=>by
  first
    | (delta openEnds fencedOpening topFrom
       rewrite [Fast.te4187177175401517315, Fast.te10274390034422433532, Fast.te14364793385576792824, Fast.te1435165496053646825, Fast.te14289696077712309145, Fast.te14082659384304107361]
       kernel_rfl)
    | kernel_rfl
theorem ex0:(chainsOk ag9 && opensWell P2x && (frees PySem.Challenge.rw_rt0078_03.row.toRowW && PySem.Challenge.rw_rt0078_03.row.within.isEmpty))=true:=⋯
theorem et2:∀ i∈[9,13,14,15,16,18,21,22,23,24,25,27,28,29,30,31,32,33,34],i6 P2 i∈recsOf ag9:=λ i hi=>
 List.mem_of_find?_eq_some (p:=λ d=>d.name == (i6 P2 i).name) (List.map_inj_left.mp (show List.map (λ i=>(recsOf ag9).find? λ d=>d.name == (i6 P2 i).name) _=List.map (λ i=>some (i6 P2 i)) _ by kernel_rfl) i hi)
theorem er7:(biL.all λ p=>!(startupNames ++ looseW ag9 [] ++ (recsOf ag9).map (·.name) ++ (litsOf ag9).map (·.1) ++ (clssOf ag9 (looseW ag9 [])).map (·.name)).contains p.1)=true:=by decide +kernel
theorem en9:∀ p∈biL,p.1≠"__name__"/\bootBuiltins p.1=some p.2:=λ p hp=>
 ⟨bne_iff_ne.mp (List.all_eq_true.mp (show (biL.all λ p=>p.1 != "__name__")=true by kernel_rfl) p hp),List.map_inj_left.mp (show biL.map (λ p=>bootBuiltins p.1)=biL.map (λ p=>some p.2) by kernel_rfl) p hp⟩
theorem ez4 {mean:ExcName->Option Value} {mg mb:Str->Option Value} {h:Heap} (T:Top ag9 (looseW ag9 []) mean mg mb h):Glb h mg mb:=by
 refine ⟨T.g,T.b,T.nolimit,λ x v hm=>?_⟩
 have h1:=List.all_eq_true.mp er7 _ hm
 obtain ⟨h2,h3⟩:=en9 _ hm
 have h4:x ∉ (startupNames ++ looseW ag9 [] ++ (recsOf ag9).map (·.name) ++ (litsOf ag9).map (·.1) ++ (clssOf ag9 (looseW ag9 [])).map (·.name)):=λ q=>by
  rw [List.contains_iff_mem.mpr q] at h1;cases h1
 simp only [List.mem_append,not_or] at h4
 obtain ⟨⟨⟨⟨a1,a2⟩,a3⟩,a4⟩,a5⟩:=h4
 exact ⟨T.free x a1 a2 a3 a4 a5,(T.builtins x h2).trans h3⟩
theorem ez2 {mean:ExcName->Option Value} {mg mb:Str->Option Value} {h:Heap} (T:Top ag9 (looseW ag9 []) mean mg mb h):∃ P,cs0 mg h P/\isCodeTable h P:=by
 obtain ⟨a,o,pm,code,doc,h1,h2,h3,h4⟩:=T.fn _ (et2 31 (by decide))
 obtain ⟨a',o',fd,c,P,t1,t2,t3,t4,t5,t6⟩:=T.tab _ (et2 31 (by decide))
 obtain ⟨bm,ob,b1,b2,b3,b4,b5,b6⟩:=T.bmain
 rw [h1] at t1;cases t1
 rw [h2] at t2;cases t2
 rw [h3] at t3;cases t3
 have t4':code = .ref c:=t4
 subst t4'
 have hbP:bm≠P:=λ q=>by
  rw [q,t6.2] at b3;cases b3;cases b4
 have hbG:bm≠mainGlobals:=λ q=>by
  obtain ⟨o,es,ep,e,hd,_⟩:=T.g
  rw [q,e] at b3;cases b3;rw [hd] at b6;cases b6
 exact ⟨P,⟨a,o,pm,doc,c,h1,h2,h3,h4,CodeHd.of t5 t6,t6.2,bm,ob,b1,b2,hbG,hbP,b3,b4,b5,b6⟩,t6.isCodeTable⟩
end
end Mine.Internal
theorem PySem.Challenge.cw_rt0078_03_holds : PySem.Challenge.rw_rt0078_03.Holds := by
 refine holds_law Mine.Internal.ez1 λ said => ?_
 refine holds_open (q := Mine.Internal.ag9) (loose := []) (Xt := Mine.Internal.Xt2) (XP := XL Mine.Internal.ag9 []) (Yf := Hook.obs Hook.none) (Ya := Hook.val Hook.none) (YP := Hook.says Hook.none) (N := 2956) Mine.Internal.ez0 (Hook.of _) (Hook.keeps _) (λ s e => xl_of s (Bool.and_eq_true_iff.mp e).1) XL.keeps (by rfl) (by rfl) (by rfl) (λ s e => recFacts_of (Bool.and_eq_true_iff.mp e).2) (by rfl) said Mine.Internal.ex0 ⟨rfl, rfl, rfl, rfl, rfl, by decide +kernel⟩ ?hw ?hc
 case hw => w_witness2
 intro w s₀ s₁ mg mb G Y fa o pm cd doc dV kV ho hd hcd hD hmg hg args vals as hpre hlay hrd hwl hlo
 refine Ground.open G ?_
 intro T B D TE TW
 wrow_args hpre hlay hrd hwl hlo
 rename_i xs hs _ _ _ _ _ _ l vs _ hL _ _ _ hI _ qf _
 have H : Mine.Internal.an5 mg s₁.heap := λ i hi => let ⟨a, o, pm, code, doc, h1, h2, h3, h4⟩ := T.fn _ (Mine.Internal.et2 i hi); ⟨a, o, pm, code, doc, h1, h2, h3, h4⟩
 have Gl := Mine.Internal.ez4 T
 obtain ⟨P, DF, hct⟩ := Mine.Internal.ez2 T
 obtain ⟨ob, hob, hcls, nn, hdat⟩ := hL
 have hxs : xs.length <= 63 := by omega
 have hr : Mine.Internal.Rd Mine.Internal.prog w (λ a => s₁.heap.get? a) (.list (xs.map .int)) (.ref l) := Mine.Internal.bo4.mpr ⟨l, ob, vs, rfl, hob, ⟨hcls, nn, hdat⟩, Mine.Internal.ew8 hI⟩
 have key := Mine.Internal.ew9 (w := w) (A := callerA) (s := s₁) (B := λ a => s₁.heap.get? a) hxs Gl H DF ⟨rfl, by decide, by decide⟩ ⟨[], rfl, λ e he => by cases he⟩ (λ a o e => e) (λ a o e => e) hr hmg
 have hP : s₁.heap.get? P = some (tabObj #[]) := by obtain ⟨_, _, _, _, _, _, _, _, _, _, q, _⟩ := DF; exact q
 refine wpAny_call (codeAny_mono key λ r s' q => ?_)
 obtain ⟨rfl, B', g, m, ps, hp⟩ := q
 have hk : ∀ b o, b ≠ P -> s₁.heap.get? b = some o -> s'.heap.get? b = some o := λ b o q e => g.keep b o (g.le b o ((Mine.Internal.FM.no_ne q).trans e))
 refine ⟨.inl ⟨.bool true, .bool true, [], rfl, λ _ => ?_, .bool true, ?_, λ _ => ⟨by simp, by simp⟩⟩, ?hold, m.os, .of_eq (m.gens.trans hg)⟩
 ·first | rfl | wrow_none_raised | trace_state
 ·first | rfl | wrow_post | trace_state
 case hold =>
  refine ⟨λ b o e => ?_, λ b o e => ?_⟩
  ·by_cases q : b = P
   ·subst q
    rw [hP] at e; cases e
    exact .inr (.inl ⟨hct, rfl, #[], ps, rfl, by rw [Array.empty_append]; exact hp⟩)
   ·exact .inl (hk b o q e)
  ·by_cases q : b = P
   ·subst q; exact ⟨_, hp⟩
   ·exact ⟨o, hk b o q e⟩
