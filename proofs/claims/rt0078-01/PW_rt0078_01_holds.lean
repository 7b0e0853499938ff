import PyProof.Rows.All
import Wide.All
import OpenK.AllK
import Wide.FinOn
import KE.KTurns
import KE.LcTurns
import PyProof.Rows.Range3
import PyProof.ZipIter
import KE.KAssignIn
import PyProof.DictValues
import PyProof.EnumMake
import PyProof.TupleOfGen
import PyProof.TypeOfCall
import PyProof.Rows.SetFrom
import PyProof.CollectWalk
import PyProof.WalksS
import PyProof.Rows.SortWalk
import PyProof.CollectIter
import PyProof.Rows.ExtendIn
import PyProof.ExcAttrAll.IndexError
import Lean
import PySem.Challenge.RW_rt0078_01
set_option Elab.async false
set_option genSizeOf false
set_option genInjectivity false
set_option compiler.extract_closed false
set_option linter.all false
set_option maxRecDepth 100000
set_option maxHeartbeats 8000000
open PySem PySem.W PyProof.Rows
namespace Mine
set_option tactic.hygienic false
local macro_rules | `(tactic| cases $h:ident) => `(tactic| first | contradiction | (replace $h:ident := Option.some.inj $h; subst $h) | (injection $h with h1 h2; subst h1; subst h2) | (injection $h with h1; subst h1) | subst $h | cases ($h))
section
theorem ar7 {n j k:Nat} (h:n - j=k+1):n - (j+1)=k:=congrArg Nat.pred h
theorem bd7 {n j k:Nat} (h:n - j=k+1):j < n:=Nat.lt_of_sub_eq_succ h
theorem dv1 {n j k:Nat} (h:n - j≤k+1):n - (j+1)≤k:=Nat.pred_le_pred h
theorem ce5 {n i:Nat} (h:i < n):n - i=n - (i+1)+1:=(Nat.sub_add_cancel (Nat.sub_pos_of_lt h)).symm
noncomputable def prog:Program:=PySem.Challenge.pw_rt0078_01
noncomputable abbrev D:=PyData
noncomputable abbrev Calls:=String→List D→Option D
inductive af4 where | fr | own | lock | cap
  deriving DecidableEq
inductive BF where | len | sorted | min | max | divmod
inductive MF where | startswith | endswith | rstrip | rfind | split | join | get
noncomputable def ax8 (x:Str):Bool:=x != ("__debug__":Str) && x != ("__classdict__":Str)
noncomputable def d6 (sc:Scope) (x:Str):Option Nat:=match sc.names.lookup x with
  | some .local | some .cell | some .free=>if ax8 x then sc.names.findIdx? (·.1 == x) else none
  | _=>none
noncomputable def i4 (sc:Scope) (x:Str):Bool:=sc.names.lookup x == some .globalImplicit && ax8 x
noncomputable def l7 (sc:Scope) (x:Str):Option Nat:=match sc.names.lookup x with
  | some .local | some .cell=>d6 sc x
  | _=>none
noncomputable def ai4 (inner outer:Scope):List (Option Nat):=inner.names.map fun (n,k)=>if k == .free then d6 outer n else none
noncomputable def ai1 (e:Expr):Bool:=e.ctorIdx != 7
noncomputable def eb2:ScopeKind→Bool | .function=>true | _=>false
noncomputable def bh4 (inner outer:Scope) (iter:Expr):Bool:=
  eb2 inner.kind && decide ((inner.names.map (·.1)).Nodup) && ai1 iter &&
    inner.names.all fun (x,k)=>if k == .free then (outer.names.lookup x == some .cell || outer.names.lookup x == some .free) && ax8 x else true
noncomputable def af4.ownish:af4→Bool
  | .own | .lock=>true
  | _=>false
noncomputable abbrev Slot:=Option (af4×D)
noncomputable abbrev Rho:=List Slot
noncomputable def Rho.get (r:Rho) (i:Nat):Slot:=(r[i]?).getD none
noncomputable def af4.isOwn:af4→Bool | .own=>true | _=>false
noncomputable def Rho.frz (r:Rho) (i:Nat):Rho:=match r.get i with
  | some (.own,d)=>r.set i (some (.fr,d))
  | _=>r
noncomputable def sz (n:Nat):Bool:=n≤16777216
noncomputable def ai2:D→Option Int | .int i=>some i | _=>none
noncomputable def aa8:D→Option Str | .str i=>some i | _=>none
noncomputable def w6:D→Option (List D) | .list l=>some l | _=>none
noncomputable def bp0:D→Option (List D) | .tuple l=>some l | _=>none
noncomputable def ej4:D→Option Bool | .bool b=>some b | _=>none
noncomputable def isB (b:Bool):D→Bool | .bool c=>b == c | _=>false
noncomputable def bf9:D→Option (List (D×D)) | .dict l=>some l | _=>none
noncomputable def gd {α:Type} (c:Bool) (o:Option α):Option α:=bif c then o else none
noncomputable def one {α:Type}:List α→Option α | [a]=>some a | _=>none
noncomputable def two {α:Type}:List α→Option (α×α) | [a,b]=>some (a,b) | _=>none
inductive dl6 {α β:Type} (o:Option α) (f:α→Option β) (b:β):Prop
  | mk (a:α) (h1:o=some a) (h2:f a=some b):dl6 o f b
theorem am2 {α:Type} {p:α→Bool} {l:List α} (h:l.all p=true):∀ x∈l,p x=true:=by simpa using h
@[elab_as_elim] theorem bx8 {α:Type} {l:List α} {P:List α→Prop} (e:l.length=0) (h:P []):P l:=by
  cases l with
  | nil=>exact h
  | cons=>exact nomatch e
@[elab_as_elim] theorem an4 {α:Type} {n:Nat} {l:List α} {P:List α→Prop} (e:l.length=n+1) (h:∀ a t,t.length=n→P (a :: t)):P l:=by
  cases l with
  | nil=>exact nomatch e
  | cons a t=>exact h a t (Nat.succ.inj e)
theorem a6 {α β:Type} {o:Option α} {f:α→Option β} {b:β} (h:(o >>= f)=some b):dl6 o f b:=by
  cases o with
  | none=>cases h
  | some a=>exact ⟨a,rfl,h⟩
theorem g6 {α:Type} {c:Bool} {o:Option α} {a:α} (h:gd c o=some a):c=true∧o=some a:=by
  cases c
  · cases h
  · exact ⟨rfl,h⟩
theorem ai9 {α:Type} {o p:Option α} {a:α} (h:o.or p=some a):o=some a∨p=some a:=by
  cases o
  · exact .inr h
  · exact .inl h
theorem af9 {d:D} {i:Int} (h:ai2 d=some i):d = .int i:=by cases d <;> cases h;rfl
theorem n9 {d:D} {i:Str} (h:aa8 d=some i):d = .str i:=by cases d <;> cases h;rfl
theorem l6 {d:D} {i:List D} (h:w6 d=some i):d = .list i:=by cases d <;> cases h;rfl
theorem bk9 {d:D} {i:List D} (h:bp0 d=some i):d = .tuple i:=by cases d <;> cases h;rfl
theorem dw9 {b:Bool} {d:D} (h:isB b d=true):d = .bool b:=by
  cases d with
  | bool c=>rw [eq_of_beq h]
  | _=>cases h
theorem ax6 {d:D} {i:List (D×D)} (h:bf9 d=some i):d = .dict i:=by cases d <;> cases h;rfl
theorem aj7 {α:Type} {l:List α} {a:α} (h:one l=some a):l=[a]:=by
  match l,h with
  | [_],h=>cases h;rfl
theorem ao9 {α:Type} {l:List α} {p:α×α} (h:two l=some p):l=[p.1,p.2]:=by
  cases l with
  | nil=>exact nomatch h
  | cons a l=>
  cases l with
  | nil=>exact nomatch h
  | cons b l=>
  cases l with
  | nil=>exact congrArg (fun p:α×α=>[p.1,p.2]) (Option.some.inj h)
  | cons=>exact nomatch h
noncomputable def ah2 {α:Type} (f:Int→Int→Option α) (a b:D):Option α:=do
  let x ← ai2 a
  let y ← ai2 b
  f x y
noncomputable def as9 {α:Type} (f:Str→Str→Option α) (a b:D):Option α:=do
  let x ← aa8 a
  let y ← aa8 b
  f x y
inductive On2 {α β γ:Type} (c:α→D) (e:β→D) (f:α→β→Option γ) (a b:D) (r:γ):Prop
  | mk (x:α) (y:β) (h1:a=c x) (h2:b=e y) (h:f x y=some r):On2 c e f a b r
theorem bm3 {α:Type} {f:Int→Int→Option α} {a b:D} {r:α} (h:ah2 f a b=some r):On2 .int .int f a b r:=by
  obtain ⟨x,h1,h⟩:=a6 h
  obtain ⟨y,h2,h⟩:=a6 h
  exact ⟨x,y,af9 h1,af9 h2,h⟩
theorem aq8 {α:Type} {f:Str→Str→Option α} {a b:D} {r:α} (h:as9 f a b=some r):On2 .str .str f a b r:=by
  obtain ⟨x,h1,h⟩:=a6 h
  obtain ⟨y,h2,h⟩:=a6 h
  exact ⟨x,y,n9 h1,n9 h2,h⟩
mutual
noncomputable def ltD:D→D→Bool
  | .int a,d=>((ai2 d).map fun b=>decide (a < b)).getD false
  | .str a,d=>((aa8 d).map fun b=>decide (a.cps.toList < b.cps.toList)).getD false
  | .list xs,d=>((w6 d).map fun ys=>av3 xs ys).getD false
  | _,_=>false
noncomputable def av3:List D→List D→Bool
  | [],l=>!l.isEmpty
  | x :: xs,l=>match l with
    | []=>false
    | y :: ys=>bif PyData.eqv x y then av3 xs ys else ltD x y
end
theorem di8 (a b:List D):ltD (.list a) (.list b)=av3 a b:=rfl
noncomputable def ar3:D→Bool | .int _=>true | _=>false
noncomputable def isStr:D→Bool | .str _=>true | _=>false
noncomputable def ag0:D→Bool | .list l=>l.all isStr | _=>false
noncomputable def leB (a b:D):Bool:=!ltD b a
noncomputable def cg7 (l:List D):Option (List D):=
  if decide (l.length < 64) && l.all isStr && SeqAt.shaped (.list l) then some (l.mergeSort leB) else none
noncomputable def dk7:List D→Option D
  | []=>none
  | d :: r=>if (d :: r).all ar3 || ((d :: r).all ag0 && (d :: r).all SeqAt.shaped) then some (r.foldl (fun m x=>if ltD x m then x else m) d) else none
noncomputable def dl5:List D→Option D
  | []=>none
  | d :: r=>if (d :: r).all ar3 || ((d :: r).all ag0 && (d :: r).all SeqAt.shaped) then some (r.foldl (fun m x=>if ltD m x then x else m) d) else none
noncomputable def eqK (a b:D):Bool:=((do let x ← aa8 a;let y ← aa8 b;some (x == y)):Option Bool).getD false
noncomputable def z6:D→Bool | .str _=>true | _=>false
noncomputable def aw7 (kvs:List (D×D)) (k:D):Option D:=(kvs.find? fun e=>eqK e.1 k).map (·.2)
noncomputable def ax5 (kvs:List (D×D)) (k v:D):List (D×D):=
  if kvs.any fun e=>eqK e.1 k then kvs.map fun e=>if eqK e.1 k then (e.1,v) else e else kvs ++ [(k,v)]
noncomputable def cj4 (b:List (D×D)) (e:D×D):Bool:=((aw7 b e.1).map (PyData.eqv e.2)).getD false
noncomputable def ae6 (a b:List (D×D)):Bool:=a.length == b.length && a.all (cj4 b)
noncomputable def ak8 (a:List (D×D)):Bool:=a.all fun e=>z6 e.1 && SeqAt.shaped e.2
noncomputable def eqT (a b:D):Option Bool:=do
  let p ← two (← bp0 a)
  let q ← two (← bp0 b)
  let i ← ai2 p.1
  let j ← ai2 q.1
  let x ← bf9 p.2
  let y ← bf9 q.2
  gd (ak8 x && ak8 y) (some (i == j && ae6 x y))
noncomputable def eqD (a b:D):Option Bool:=(as9 (fun x y=>some (x == y)) a b).or (gd (SeqAt.shaped a && SeqAt.shaped b) (some (PyData.eqv a b)))
noncomputable def inD (a b:D):Option Bool:=(as9 (fun x y=>some (Txt.contains y x)) a b).or
  (do let l ← w6 b;gd (SeqAt.shaped a && SeqAt.shaped (.list l)) (some (l.any fun y=>PyData.eqv y a)))
noncomputable def bk7 (op:CmpOp) (a b:D):Option Bool:=match op with
  | .Eq=>eqD a b
  | .NotEq=>((eqD a b).or (eqT a b)).map (!·)
  | .In=>inD a b
  | _=>none
noncomputable def small (i:Int):Bool:=decide (i.natAbs < 2 ^ 60)
noncomputable def dc4 (a b:D):Option D:=(ah2 (fun x y=>some (.int (x+y))) a b).or (as9 (fun x y=>gd (sz (x.length+y.length)) (some (.str (x ++ y)))) a b)
noncomputable def eq6 (a b:D):Option D:=(dc4 a b).or (do let x ← w6 a;let y ← w6 b;gd (sz (x.length+y.length)) (some (.list (x ++ y))))
noncomputable def er1 (a b:D):Option D:=do
  let x ← aa8 a
  let y ← ai2 b
  gd (decide (0≤y) && (decide (y≤1048576) && x.length == 1)) (some (.str ⟨Array.replicate y.toNat (x.cps.getD 0 0)⟩))
noncomputable def ay1 (op:Operator) (a b:D):Option D:=match op with
  | .Add=>eq6 a b
  | .Sub=>ah2 (fun x y=>some (.int (x - y))) a b
  | .Mult=>er1 a b
  | .FloorDiv=>ah2 (fun x y=>gd (decide (0 < y) && (small x && small y)) (some (.int (x.fdiv y)))) a b
  | .Mod=>ah2 (fun x y=>gd (decide (0 < y)) (some (.int (x.fmod y)))) a b
  | .RShift=>ah2 (fun x y=>gd (decide (0≤y) && decide (y≤64)) (some (.int (x.fdiv (2 ^ y.toNat))))) a b
  | .BitAnd=>ah2 (fun x y=>gd (y == 1) (some (.int (x.fmod 2)))) a b
  | _=>none
noncomputable def bh8:D→Option Bool
  | .bool b=>some b
  | .str s=>gd (sz s.length) (some (s.length != 0))
  | .tuple l=>gd (sz l.length) (some (!l.isEmpty))
  | _=>none
noncomputable def ed0:D→Option (List D)
  | .list l=>some l
  | .tuple l=>some l
  | _=>none
noncomputable def bk1 (a b:D):Option D:=(do
  let l ← ed0 a
  let i ← ai2 b
  gd (decide (0≤i) && decide (i < 1152921504606846976)) l[i.toNat]?).or (do
  let l ← bf9 a
  gd (z6 b && l.all fun e=>z6 e.1) (aw7 l b))
noncomputable def el5 (fl:List D→Nat→List D) (a:D) (i:Int):Option D:=do
  let l ← w6 a
  gd (decide (0≤i) && (decide (i≤16777216) && sz l.length)) (some (.list (fl l i.toNat)))
noncomputable def aw9 (a b:D):Option D:=do
  let i ← ai2 b
  (el5 (fun l n=>l.take n) a i).or (do let s ← aa8 a;gd (decide (0≤i) && (decide (i≤16777216) && sz s.length)) (some (.str ⟨(s.cps.toList.take i.toNat).toArray⟩)))
noncomputable def bj0 (a b:D):Option D:=do
  let i ← ai2 b
  el5 (fun l n=>l.drop n) a i
noncomputable def ei1 (d:D):Option D:=(do let l ← w6 d;gd (sz l.length) (some (PyData.int l.length))).or
  (do let s ← aa8 d;gd (sz s.length) (some (.int s.length)))
noncomputable def bfD (f:BF) (ds:List D):Option D:=match f with
  | .len=>do ei1 (← one ds)
  | .sorted=>do (cg7 (← w6 (← one ds))).map PyData.list
  | .min=>do dk7 (← w6 (← one ds))
  | .max=>(do dl5 (← w6 (← one ds))).or (do
    let p ← two ds
    ah2 (fun a b=>some (.int (max a b))) p.1 p.2)
  | .divmod=>do
    let p ← two ds
    ah2 (fun a b=>gd (decide (0 < b) && (small a && small b)) (some (.tuple [.int (a.fdiv b),.int (a.fmod b)]))) p.1 p.2
noncomputable def mbD:MF→Option (Str→Str→Bool)
  | .startswith=>some Txt.startswith
  | .endswith=>some Txt.endswith
  | _=>none
noncomputable def smD (m:MF) (x:Str) (d:D):Option D:=match m with
  | .startswith=>(aa8 d).map fun y=>.bool (Txt.startswith x y)
  | .endswith=>(aa8 d).map fun y=>.bool (Txt.endswith x y)
  | .rstrip=>do let y ← aa8 d;gd (sz x.length) (some (.str (Txt.rstripChars x y)))
  | .rfind=>(aa8 d).map fun y=>.int (Txt.rfind x y)
  | .split=>do let y ← aa8 d;gd (sz (x.length+2) && y.length == 1) (some (.list ((Txt.split x y).map PyData.str)))
  | .join=>do
    let l ← w6 d
    let ss ← l.mapM aa8
    gd (JoinOk x ss && sz l.length) (some (.str (Txt.join x ss)))
  | .get=>none
noncomputable def eo4 (r:D) (ds:List D):Option D:=do
  let kvs ← bf9 r
  let p ← two ds
  gd (z6 p.1 && kvs.all (fun e=>z6 e.1)) (some ((aw7 kvs p.1).getD p.2))
noncomputable def ct9:MF→Bool | .get=>true | _=>false
noncomputable def mfD (m:MF) (r:D) (ds:List D):Option D:=bif ct9 m then eo4 r ds else do
  let x ← aa8 r
  let d ← one ds
  smD m x d
noncomputable def inR (n:Int):Bool:=decide (-1048576≤n) && decide (n≤1048576)
noncomputable def ep3 (ds:List D):Option (List D):=do
  let a ← ai2 (ds.headD .none)
  let p ← two (ds.drop 1)
  ah2 (fun b c=>gd ((c == -1 && b == -1) && a == 4) (some ((List.range 5).map fun (k:Nat)=>.int (4+(k:Int) * (-1))))) p.1 p.2
noncomputable def ax2 (ds:List D):Option (List D):=
  ((do let n ← ai2 (← one ds);gd (inR n) (some ((List.range n.toNat).map fun (k:Nat)=>PyData.int ((k:Nat):Int)))).or
  (do let p ← two ds;ah2 (fun a b=>gd (inR a && inR b) (some ((List.range (b - a).toNat).map fun (k:Nat)=>.int (a+(k:Int))))) p.1 p.2)).or (ep3 ds)
noncomputable def aa7 (n:Nat):List D→List D
  | []=>[]
  | d :: r=>.tuple [.int n,d] :: aa7 (n+1) r
noncomputable def co2:D→Option (List D)
  | .list l=>some l
  | .tuple l=>some l
  | .str s=>some (s.cps.toList.map fun c=>.str ⟨#[c]⟩)
  | .dict kvs=>gd (kvs.all fun e=>z6 e.1) (some (kvs.map (·.1)))
  | _=>none
noncomputable def cg3:List (List D)→Option (List D)
  | []=>none
  | l :: ls=>gd (ls.all fun x=>x.length == l.length) (some ((List.range l.length).map fun i=>.tuple ((l :: ls).filterMap (·[i]?))))
noncomputable def bs7 (l:List D):Option D:=do
  let is ← l.mapM ai2
  gd (is.all fun i=>i == 0 || i == 1) (some (.list (((if 0∈is then [(0:Int)] else []) ++ (if 1∈is then [1] else [])).map PyData.int)))
noncomputable def al4:Rho→List Nat→List D→Rho
  | r,[],_=>r
  | r,i :: is,ds=>match ds with
    | []=>r
    | d :: ds=>al4 (r.set i (some (.fr,d))) is ds
noncomputable def af0 (r:Rho) (tgt:List Nat) (d:D):Option Rho:=
  bif tgt.length == 1 then (do let x ← one tgt;some (r.set x (some (.fr,d)))) else
  (do let ds ← bp0 d;gd (decide (2≤tgt.length) && ds.length == tgt.length) (some (al4 r tgt ds)))
noncomputable def dv5:Slot→Slot
  | some (m,d)=>some (match m with | .fr=>.fr | _=>.cap,d)
  | none=>none
noncomputable def ba1 (r:Rho) (cap:List (Option Nat)):Rho:=cap.map fun o=>dv5 (o.bind r.get)
structure IR where
  tag:Nat
  v:Option Nat
  bl:Bool
  ao:Bool
  sr:Bool
  al:Bool
  fr0:(String→Bool)→Bool
  ev0:Calls→Rho→Option D
  tb:Calls→Rho→Option Bool
  it0:Calls→Rho→Option (List D)
section
variable (calls:Calls)
noncomputable def eval (e:IR) (r:Rho):Option D:=bif e.bl then (e.tb calls r).map .bool else e.ev0 calls r
noncomputable def look (e:IR) (r:Rho):Option D:=match e.v with
  | some i=>(r.get i).map (·.2)
  | none=>eval calls e r
noncomputable def ac7 (e:IR) (r:Rho):Option Bool:=bif e.bl || e.ao then e.tb calls r else do
  let d ← look calls e r
  bh8 d
noncomputable def d7 (e:IR) (r:Rho):Option (List D):=bif e.sr then e.it0 calls r else do co2 (← look calls e r)
noncomputable def ab8:List IR→Rho→Option (List D)
  | [],_=>some []
  | e :: es,r=>do
      let d ← eval calls e r
      let ds ← ab8 es r
      some (d :: ds)
noncomputable def ao7:List IR→Rho→Option (List D)
  | [],_=>some []
  | e :: es,r=>do
      let d ← look calls e r
      let ds ← ao7 es r
      some (d :: ds)
noncomputable def bd6:List IR→Rho→Option Bool
  | [],_=>some true
  | e :: es,r=>do bif ← ac7 calls e r then bd6 es r else some false
noncomputable def orE:List IR→Rho→Option Bool
  | [],_=>some false
  | e :: es,r=>do bif ← ac7 calls e r then some true else orE es r
noncomputable def aq0:List IR→Rho→Option Bool
  | [],_=>some true
  | e :: es,r=>do bif ← ac7 calls e r then aq0 es r else some false
end
namespace IR
noncomputable def pl (t:Nat) (f:Calls→Rho→Option D):IR:=⟨t,none,false,false,false,false,fun ξ=>false,f,fun ξ ξ=>none,fun ξ ξ=>none⟩
noncomputable def bo (t:Nat) (f:Calls→Rho→Option Bool):IR:=⟨t,none,true,false,false,false,fun ξ=>false,fun ξ ξ=>none,f,fun ξ ξ=>none⟩
noncomputable def so (t:Nat) (a:Bool) (f:Calls→Rho→Option (List D)):IR:=⟨t,none,false,false,true,a,fun ξ=>false,fun ξ ξ=>none,fun ξ ξ=>none,f⟩
end IR
noncomputable def bt6:Slot→Option D
  | some (.fr,d)=>some d
  | _=>none
noncomputable def IR.var (i:Nat):IR:=⟨0,some i,false,false,false,false,fun ξ=>false,fun ξ r=>bt6 (r.get i),fun ξ ξ=>none,fun ξ ξ=>none⟩
noncomputable def IR.none:IR:=.pl 1 fun ξ ξ=>some .none
noncomputable def IR.bool (b:Bool):IR:=.bo 2 fun ξ ξ=>some b
noncomputable def IR.int (i:Int):IR:=.pl 3 fun ξ ξ=>some (.int i)
noncomputable def IR.str (s:Str):IR:=.pl 4 fun ξ ξ=>some (.str s)
noncomputable def IR.list (es:List IR):IR:={ IR.pl 5 fun c r=>do
  let ds ← ab8 c es r
  gd (sz ds.length) (some (.list ds)) with fr0:=fun ξ=>true }
noncomputable def IR.tup (es:List IR):IR:=.pl 6 fun c r=>do
  let ds ← ab8 c es r
  gd (sz ds.length) (some (.tuple ds))
noncomputable def IR.dict (ks vs:List IR):IR:={ IR.pl 7 fun c r=>do
  let ks ← ab8 c ks r
  let vs ← ab8 c vs r
  gd (ks.all z6 && (ks.length == vs.length && decide (ks.length≤15))) (some (.dict ((ks.zip vs).foldl (fun m e=>ax5 m e.1 e.2) []))) with fr0:=fun ξ=>true }
noncomputable def IR.bin (op:Operator) (a b:IR):IR:=.pl 8 fun c r=>do
  let x ← look c a r
  let y ← look c b r
  ay1 op x y
noncomputable def IR.cmp (op:CmpOp) (a b:IR):IR:=.bo 9 fun c r=>do
  let x ← look c a r
  let y ← look c b r
  bk7 op x y
noncomputable def IR.and (es:List IR):IR:=.bo 10 fun c r=>bd6 c es r
noncomputable def IR.or (es:List IR):IR:=.bo 11 fun c r=>orE c es r
noncomputable def IR.andT (es:List IR):IR:={ IR.bo 12 fun c r=>bd6 c es r with bl:=false,ao:=true }
noncomputable def IR.not (a:IR):IR:=.bo 13 fun c r=>(ac7 c a r).map (!·)
noncomputable def IR.ite (x a b:IR):IR:=.pl 14 fun c r=>do bif ← ac7 c x r then eval c a r else eval c b r
noncomputable def IR.idx (a i:IR):IR:=.pl 15 fun c r=>do
  let x ← look c a r
  let y ← look c i r
  bk1 x y
noncomputable def IR.last (a:IR):IR:=.pl 16 fun c r=>do
  let l ← w6 (← look c a r)
  l.getLast?
noncomputable def IR.upto (a n:IR):IR:=.pl 17 fun c r=>do
  let x ← look c a r
  let y ← look c n r
  aw9 x y
noncomputable def IR.from (a n:IR):IR:=.pl 18 fun c r=>do
  let x ← look c a r
  let y ← look c n r
  bj0 x y
noncomputable def IR.bcall (f:BF) (es:List IR):IR:=.pl 19 fun c r=>do bfD f (← ao7 c es r)
noncomputable def IR.isinst (e:IR) (ty:String):IR:=.bo 20 fun c r=>do
  let _ ← aa8 (← look c e r)
  some false
noncomputable def at2:MF→Bool | .join=>true | _=>false
noncomputable def IR.meth (m:MF) (a:IR) (es:List IR):IR:=⟨21,Option.none,(mbD m).isSome,false,false,false,fun ξ=>false,
  fun c r=>do
    let x ← look c a r
    let ds ← bif at2 m then ao7 c es r else ab8 c es r
    mfD m x ds,
  fun c r=>do
    let f ← mbD m
    let x ← look c a r
    let ds ← ab8 c es r
    as9 (fun x y=>some (f x y)) x (← one ds),fun ξ ξ=>Option.none⟩
noncomputable def IR.replace (a:IR) (x y:Str):IR:=.pl 22 fun c r=>do
  let s ← aa8 (← look c a r)
  gd ((x != y) && decide (s.length+(s.length+1) * y.length≤16777216)) (some (.str (Txt.replace s x y)))
noncomputable def IR.call (f:String) (es:List IR):IR:={ IR.pl 23 fun c r=>do c f (← ab8 c es r) with fr0:=fun fresh=>fresh f }
noncomputable def IR.range (es:List IR):IR:=.so 24 false fun c r=>do ax2 (← ao7 c es r)
noncomputable def IR.enum (e:IR):IR:=.so 25 true fun c r=>do
  let l ← w6 (← look c e r)
  some (aa7 0 l)
noncomputable def IR.comp (cap:List (Option Nat)) (tgt:List Nat) (src:IR) (ifs:List IR) (elt:IR):IR:=.pl 26 fun c r=>do
  let its ← d7 c src r
  let ds ← its.mapM fun d=>do
    let r1 ← af0 (ba1 r cap) tgt d
    bif ← aq0 c ifs r1 then (eval c elt r1).map some else some Option.none
  gd (sz (ds.filterMap id).length) (some (.list (ds.filterMap id)))
noncomputable def IR.rev (a:IR):IR:=.pl 29 fun c r=>do
  let l ← w6 (← look c a r)
  gd (sz l.length) (some (.list l.reverse))
noncomputable def IR.sortset (a:IR):IR:=.pl 30 fun c r=>do bs7 (← w6 (← look c a r))
noncomputable def IR.zip (es:List IR):IR:=.so 31 false fun c r=>do
  let ls ← (← ab8 c es r).mapM w6
  gd (decide (2≤ls.length) && decide (ls.length≤3)) (cg3 ls)
noncomputable def IR.dcomp (cap:List (Option Nat)) (tgt:List Nat) (src:IR) (ifs:List IR) (key elt:IR):IR:={ IR.pl 32 fun c r=>do
  let its ← d7 c src r
  let ds ← its.mapM fun d=>do
    let r1 ← af0 (ba1 r cap) tgt d
    let k ← eval c key r1
    let v ← eval c elt r1
    some (k,v)
  gd ((ds.all fun e=>z6 e.1) && (ifs.isEmpty && decide (ds.length≤60))) (some (.dict (ds.foldl (fun m e=>ax5 m e.1 e.2) []))) with fr0:=fun ξ=>true }
noncomputable def IR.tupmap (f:String) (e:IR):IR:=.pl 28 fun c r=>do
  let l ← w6 (← look c e r)
  gd (sz l.length) (do some (.tuple (← l.mapM fun d=>c f [d])))
inductive Fl where
  | next | brk | ret (fresh:Bool) (d:D)
noncomputable def Rho.put (r:Rho) (x:Nat) (m:af4) (d:D):Option Rho:=match r.get x with
  | some (.lock,_)=>none
  | _=>if decide (x < r.length) then some (r.set x (some (m,d))) else none
noncomputable def as8:Rho→List Nat→List D→Option Rho
  | r,[],ds=>bif ds.isEmpty then some r else none
  | r,x :: xs,ds=>match ds with
    | []=>none
    | d :: ds=>do as8 (← r.put x .fr d) xs ds
noncomputable def ai6 (r:Rho) (tgt:List Nat) (d:D):Option Rho:=
  bif tgt.length == 1 then (do r.put (← one tgt) .fr d) else
  (do let ds ← bp0 d;gd (decide (2≤tgt.length) && ds.length == tgt.length) (as8 r tgt ds))
noncomputable def y4 (f:D→Rho→Option (Fl×Rho)):List D→Rho→Option (Fl×Rho)
  | [],r=>some (.next,r)
  | d :: ds,r=>do
      let p ← f d r
      match p.1 with
      | .next=>y4 f ds p.2
      | .brk=>some (.next,p.2)
      | .ret b v=>some (.ret b v,p.2)
noncomputable def bs8 (r:Rho) (i:Nat):Rho:=match r.get i with
  | some (.own,d)=>r.set i (some (.lock,d))
  | _=>r
noncomputable def af3 (r:Rho) (e:IR):Rho:=match e.v with
  | some i=>bs8 r i
  | none=>r
noncomputable def dj0:Slot→Slot
  | some (.own,_)=>none
  | s=>s
noncomputable def di7 (r:Rho) (src:IR):Rho:=bif src.al then r.map dj0 else r
noncomputable def cb3 (r0 r:Rho) (i:Nat):Rho:=match r0.get i with
  | some (.own,_)=>(match r.get i with
    | some (.lock,d)=>r.set i (some (.own,d))
    | _=>r)
  | _=>r
noncomputable def ag8 (r0 r:Rho) (e:IR):Rho:=match e.v with
  | some i=>cb3 r0 r i
  | none=>r
noncomputable def be8 (fresh:String→Bool) (e:IR):Bool:=e.fr0 fresh
noncomputable def an7 (r:Rho) (e:IR):Rho:=match e.v with
  | some y=>r.frz y
  | none=>r
noncomputable def frzFrom (r:Rho):Nat→Rho
  | 0=>r
  | n+1=>frzFrom (r.frz n) n
noncomputable def ax7 (r:Rho):Rho:=frzFrom r r.length
noncomputable def ao4:Slot→Option D
  | some (.own,d)=>some d
  | _=>none
section
variable (calls:Calls)
end
noncomputable abbrev Out:=Option (Fl×Rho)
noncomputable def SI:=Calls→(String→Bool)→Rho→Out
section
variable (calls:Calls) (fresh:String→Bool)
noncomputable def exec (s:SI) (r:Rho):Out:=s calls fresh r
noncomputable def en2 (f:Rho→Out) (p:Fl×Rho):Out:=match p.1 with
  | .next=>f p.2
  | .brk=>some (.brk,p.2)
  | .ret b v=>some (.ret b v,p.2)
noncomputable def execs:List SI→Rho→Out
  | [],r=>some (.next,r)
  | s :: ss,r=>do
      let p ← exec calls fresh s r
      en2 (execs ss) p
end
namespace SI
noncomputable def assign (x:Nat) (own:Bool) (e:IR):SI:=fun calls fresh r=>do
  let d ← eval calls e (an7 r e)
  let r2 ← (an7 r e).put x (bif own && be8 fresh e then .own else .fr) d
  some (.next,r2)
noncomputable def unpackS (x:Nat) (cap:List (Option Nat)) (tgt:List Nat) (src:IR) (elt:IR):SI:=fun calls ξ r=>do
  let its ← d7 calls src r
  let ds ← its.mapM fun d=>do eval calls elt (← af0 (ba1 r cap) tgt d)
  let b ← ej4 (← ds.head?)
  gd (ds.all (isB b)) (do some (.next,← r.put x .fr (.bool b)))
noncomputable def unpack (xs:List Nat) (e:IR):SI:=fun calls ξ r=>do
  let ds ← bp0 (← eval calls e r)
  some (.next,← as8 r xs ds)
noncomputable def aug (x:Nat) (_:Operator) (e:IR):SI:=fun calls ξ r=>do
  let d ← look calls e r
  let a ← bt6 (r.get x)
  let v ← dc4 a d
  some (.next,← r.put x .fr v)
noncomputable def augItem (x:Nat) (i:IR) (_:Operator) (e:IR):SI:=fun calls ξ r=>do
  let k ← look calls i r
  let d ← look calls e r
  let l ← w6 (← ao4 (r.get x))
  let j ← ai2 k
  gd (decide (0≤j) && decide (j < 1152921504606846976)) (do
    let old ← l[j.toNat]?
    let v ← ah2 (fun a b=>some (a+b)) old d
    some (.next,← r.put x .own (.list (l.set j.toNat (.int v)))))
noncomputable def append (x:Nat) (e:IR):SI:=fun calls ξ r=>do
  let d ← eval calls e (an7 r e)
  let l ← w6 (← ao4 ((an7 r e).get x))
  gd (sz (l.length+1)) (do some (.next,← (an7 r e).put x .own (.list (l ++ [d]))))
noncomputable def appendPop (x y:Nat) (i:IR):SI:=fun calls ξ r=>do
  let j ← ai2 (← look calls i r)
  let l ← w6 (← ao4 (r.get x))
  let m ← w6 (← ao4 (r.get y))
  gd ((x != y && sz (l.length+1)) && (decide (0≤j) && sz m.length)) (do
    let d ← m[j.toNat]?
    let r1 ← r.put y .own (.list (m.eraseIdx j.toNat))
    some (.next,← r1.put x .own (.list (l ++ [d]))))
noncomputable def setItem (x:Nat) (k e:IR):SI:=fun calls ξ r=>do
  let v ← eval calls e r
  let y ← look calls k r
  let l ← bf9 (← ao4 (r.get x))
  gd (z6 y && (l.all (fun e=>z6 e.1) && decide (l.length≤60))) (do some (.next,← r.put x .own (.dict (ax5 l y v))))
noncomputable def for_ (tgt:List Nat) (src:IR) (body:List SI):SI:=fun calls fresh r=>do
  let its ← d7 calls src (di7 r src)
  let p ← y4 (fun d r=>do execs calls fresh body (← ai6 r tgt d)) its (af3 r src)
  some (p.1,ag8 r p.2 src)
noncomputable def if_ (c:IR) (a b:List SI):SI:=fun calls fresh r=>do bif ← ac7 calls c r then execs calls fresh a r else execs calls fresh b r
noncomputable def ret (e:IR):SI:=fun calls ξ r=>match e.v with
  | some x=>do
    let s ← r.get x
    match s.1 with
    | .own=>some (.ret true s.2,r)
    | .fr=>some (.ret false s.2,r)
    | _=>none
  | none=>do
    let d ← eval calls e (ax7 r)
    some (.ret false d,ax7 r)
noncomputable def brk:SI:=fun ξ ξ r=>some (.brk,r)
noncomputable def try_ (body:List SI):SI:=fun calls fresh r=>execs calls fresh body r
noncomputable def stuck:SI:=fun ξ ξ ξ=>none
end SI
end
section
open PySem.StrLaws PySem.Builtin PySem.Builtin.Str
noncomputable abbrev cl (x:Str):List Nat:=x.cps.toList
theorem af5 {x y:Str} (h:cl x=cl y):x=y:=by
  obtain ⟨a⟩:=x;obtain ⟨b⟩:=y
  simp only [cl] at h
  have:a=b:=Array.toList_inj.mp h
  rw [this]
noncomputable def mkS (l:List Nat):Str:=⟨l.toArray⟩
@[simp] theorem dr7 (l:List Nat):cl (mkS l)=l:=rfl
@[simp] theorem an0 (x y:Str):cl (x ++ y)=cl x ++ cl y:=by
  show (Str.append x y).cps.toList=_
  simp [Str.append]
theorem al5 (x:Str):x.length=(cl x).length:=by simp [Str.length]
@[simp] theorem di5 (l:List Nat):(mkS l).length=l.length:=by simp [al5]
theorem bi8:("/":Str)=⟨#[47]⟩:=by decide
theorem ao6:cl ("/":Str)=[47]:=by rw [bi8]
theorem eb6:("/":Str)=mkS [47]:=by rw [bi8];rfl
theorem cm3 (x:Str) (i:Nat):StrLaws.At x ("/":Str) x.length i↔(cl x)[i]?=some 47:=by
  rw [bi8];exact subAt_one x 47 i
theorem bw3 (x:Str):Txt.startswith x "/"=decide ((cl x)[0]?=some 47):=by
  unfold Txt.startswith
  have h:=cm3 x 0
  unfold StrLaws.At at h
  by_cases e:(cl x)[0]?=some 47
  · obtain ⟨h1,h2⟩:=h.mpr e
    rw [h2,decide_eq_true h1,decide_eq_true e];rfl
  · rw [decide_eq_false e]
    rw [Bool.eq_false_iff]
    intro q
    simp only [Bool.and_eq_true,decide_eq_true_eq] at q
    exact e (h.mp q)
theorem dz1 (x:Str):Txt.endswith x "/"=decide ((cl x).getLast?=some 47):=by
  unfold Txt.endswith
  have hl:("/":Str).length=1:=by rw [bi8];rfl
  have h:=cm3 x (x.length - 1)
  unfold StrLaws.At at h
  rw [hl] at h⊢
  have e2:(cl x).getLast?=(cl x)[x.length - 1]?:=by rw [al5,List.getLast?_eq_getElem?]
  by_cases e:(cl x).getLast?=some 47
  · rw [decide_eq_true e]
    obtain ⟨h1,h2⟩:=h.mpr (e2▸e)
    rw [h2]
    have:0+1≤x.length:=by
      rcases Nat.eq_zero_or_pos x.length with q | q
      · rw [al5] at q;rw [List.eq_nil_of_length_eq_zero q] at e;cases e
      · assumption
    simp [this]
  · rw [decide_eq_false e,Bool.eq_false_iff]
    intro q
    simp only [Bool.and_eq_true,decide_eq_true_eq] at q
    exact e (e2.trans (h.mp ⟨by lia,q.2⟩))
theorem dl3 {x:Str} {u v:List Nat} (h:cl x=u ++ 47 :: v) (hv:47 ∉ v):Txt.rfind x "/"=(u.length:Int):=by
  have hu:(cl x)[u.length]?=some 47:=by rw [h];simp
  unfold Txt.rfind
  rcases last_spec x "/" with ⟨h1,h2⟩ | ⟨i,h1,h2,h3⟩
  · exact absurd ((cm3 x _).mpr hu) (h2 _)
  · rw [h1]
    rw [cm3] at h2
    have e:i=u.length:=by
      rcases Nat.lt_trichotomy i u.length with q | q | q
      · exact absurd ((cm3 x _).mpr hu) (h3 _ q)
      · exact q
      · exfalso
        rw [h,List.getElem?_append_right (by exact Nat.le_of_lt ‹_›),List.getElem?_cons] at h2
        rw [if_neg (by lia)] at h2
        exact hv (List.mem_of_getElem? h2)
    rw [e]
theorem bg5 (x:Str):cl (Txt.rstripChars x "/")=((cl x).reverse.dropWhile (· == 47)).reverse:=by
  have hg:("/":Str).cps.contains=fun c=>c == 47:=by
    funext c;rw [bi8];simp [Array.contains]
  unfold Txt.rstripChars
  rw [PyProof.Rows.stripBy_eq,hg]
  unfold strSub stripLo stripHi
  simp only [cl,Bool.false_eq_true,if_false,if_true,List.drop_zero,Array.toList_extract]
  rw [al5]
  generalize hL:cl x=L
  have:=List.takeWhile_append_dropWhile (p:=fun c=>c == 47) (l:=L.reverse)
  have e:L=(L.reverse.dropWhile (fun c=>c == 47)).reverse ++ (L.reverse.takeWhile (fun c=>c == 47)).reverse:=by
    rw [← List.reverse_append,this,List.reverse_reverse]
  have hl:=congrArg List.length this
  simp only [List.length_append,List.length_reverse] at hl
  have e2:L.length - (L.reverse.takeWhile (fun c=>c == 47)).length=(L.reverse.dropWhile (fun c=>c == 47)).reverse.length:=by rw [← hl,Nat.add_sub_cancel_left,List.length_reverse]
  simp only [cl] at hL
  rw [hL,e2]
  simp only [List.extract,Nat.sub_zero,List.drop_zero]
  conv=>lhs;arg 2;rw [e]
  exact List.take_left
theorem an2 (a b:Str) (r:List Str):cl (Str.join "/" (a :: b :: r))=cl a ++ 47 :: cl (Str.join "/" (b :: r)):=by
  show cl (a ++ "/" ++ Str.join "/" (b :: r))=_
  rw [an0,an0,ao6];simp
theorem cy8:∀ {a b r r':List Nat},47 ∉ a→47 ∉ b→a ++ 47 :: r=b ++ 47 :: r'→a=b∧r=r'
  | [],[],r,r',_,_,h=>⟨rfl,by simpa using h⟩
  | [],y :: b,r,r',_,hb,h=>by simp at h;exact absurd h.1 (by intro e;subst e;simp at hb)
  | x :: a,[],r,r',ha,_,h=>by simp at h;exact absurd h.1 (by intro e;subst e;simp at ha)
  | x :: a,y :: b,r,r',ha,hb,h=>by
    simp only [List.cons_append,List.cons.injEq] at h
    simp only [List.mem_cons,not_or] at ha hb
    obtain ⟨e1,e2⟩:=cy8 ha.2 hb.2 h.2
    exact ⟨by rw [h.1,e1],e2⟩
theorem cg9:∀ {A B:List Str},A≠[]→B≠[]→(∀ a∈A,47 ∉ cl a)→(∀ b∈B,47 ∉ cl b)→cl (Str.join "/" A)=cl (Str.join "/" B)→A=B
  | [],_,h,_,_,_,_=>absurd rfl h
  | _,[],_,h,_,_,_=>absurd rfl h
  | [a],[b],_,_,_,_,h=>by
    have:a=b:=af5 h
    rw [this]
  | [a],b :: c :: r,_,_,ha,_,h=>by
    rw [an2] at h
    have:=ha a (by simp)
    have h:cl a=cl b ++ 47 :: _:=h
    rw [h] at this;simp at this
  | b :: c :: r,[a],_,_,_,ha,h=>by
    rw [an2] at h
    have:=ha a (by simp)
    have h:cl b ++ 47 :: _=cl a:=h
    rw [← h] at this;simp at this
  | a :: b :: r,c :: d :: r',_,_,ha,hb,h=>by
    rw [an2,an2] at h
    obtain ⟨e1,e2⟩:=cy8 (ha a (by simp)) (hb c (by simp)) h
    have:=cg9 (by simp) (by simp) (fun x hx=>ha x (by simp [hx])) (fun x hx=>hb x (by simp [hx])) e2
    rw [af5 e1,this]
theorem ds5 (y:Str) (l:List Str):Txt.join y l=Str.join y l:=glued_eq_join y l
theorem dp7 (x:Str):Txt.split x "/"≠[]:=by
  unfold Txt.split
  split
  · simp
  · split
    · simp
    · rw [partsBetween_eq]
      obtain ⟨p,r,e⟩:=partsFrom_ne x ("/":Str).length 0 (occurrences x "/" 0 x.length (x.length+1))
      rw [e];simp
theorem cm4 {x:Str} {A:List Str} (hA:A≠[]) (hf:∀ a∈A,47 ∉ cl a) (h:cl (Str.join "/" A)=cl x):Txt.split x "/"=A:=by
  refine cg9 (dp7 x) hA ?_ hf ?_
  · rw [bi8];exact split_free x 47
  · rw [join_split,h]
noncomputable def ah7 (n:Str):Prop:=cl n≠[]∧47 ∉ cl n∧cl n≠[46]∧n.length≤64∧PyData.strOk n=true
noncomputable def pl (l:List Str):List Nat:=l.flatMap fun n=>47 :: cl n
noncomputable def PS (l:List Str):Str:=if l=[] then mkS [47] else mkS (pl l)
noncomputable def em1 (l:List Str):Prop:=(∀ n∈l,ah7 n)∧l.length≤8
theorem ah5:PS []="/":=by rw [eb6];rfl
theorem cd8 {l:List Str} (h:l≠[]):PS l=mkS (pl l):=by unfold PS;rw [if_neg h]
theorem do1 (l m:List Str):pl (l ++ m)=pl l ++ pl m:=by unfold pl;rw [List.flatMap_append]
theorem bd0 (l:List Str) (n:Str):pl (l ++ [n])=pl l ++ 47 :: cl n:=by rw [do1];simp [pl]
theorem ah3 {l:List Str} (h:l≠[]):cl (PS l)=pl l:=by rw [cd8 h];rfl
theorem cf3:∀ {l:List Str},l≠[]→47 :: cl (Str.join "/" l)=pl l
  | [],h=>absurd rfl h
  | [a],_=>by simp [pl,Str.join]
  | a :: b :: r,_=>by
    rw [an2,cf3 (l:=b :: r) (by simp)]
    simp [pl]
theorem dk2:∀ {l:List Str},(∀ n∈l,ah7 n)→(pl l).length≤65 * l.length
  | [],_=>by simp [pl]
  | a :: r,h=>by
    have:=dk2 (l:=r) fun n hn=>h n (by simp [hn])
    have h2:=(h a (by simp)).2.2.2.1
    rw [al5] at h2
    have e:pl (a :: r)=47 :: cl a ++ pl r:=by simp [pl]
    rw [e];simp only [List.length_append,List.length_cons] at *;lia
theorem aw6 {l:List Str} (h:em1 l):(PS l).length≤600:=by
  by_cases e:l=[]
  · subst e;rw [ah5,eb6];simp
  · rw [cd8 e,di5]
    have:=dk2 h.1;have:=h.2;lia
theorem cr2 {l:List Str} (h:l≠[]):∃ t,pl l=47 :: t:=by
  cases l with
  | nil=>exact absurd rfl h
  | cons a r=>exact ⟨_,rfl⟩
theorem en4 (l:List Str):cl (PS l)≠[]:=by
  by_cases e:l=[]
  · subst e;rw [ah5,ao6];simp
  · rw [ah3 e];obtain ⟨t,h⟩:=cr2 e;rw [h];simp
theorem bm0 {l:List Str} (h:∀ n∈l,ah7 n) (hl:l≠[]):∃ t c,pl l=t ++ [c]∧c≠47:=by
  obtain ⟨m,n,rfl⟩:∃ m n,l=m ++ [n]:=⟨l.dropLast,l.getLast hl,(List.dropLast_concat_getLast hl).symm⟩
  obtain ⟨h1,h2,_⟩:=h n (by simp)
  refine ⟨pl m ++ 47 :: (cl n).dropLast,(cl n).getLast h1,?_,fun e=>h2 (e▸List.getLast_mem h1)⟩
  rw [bd0,List.append_assoc,List.cons_append,List.dropLast_concat_getLast]
theorem cw6 {l:List Str} (h:∀ n∈l,ah7 n):Txt.endswith (PS l) "/"=decide (l=[]):=by
  rw [dz1]
  by_cases e:l=[]
  · subst e;rw [ah5,ao6];rfl
  · rw [ah3 e,decide_eq_false e]
    obtain ⟨t,c,q,hc⟩:=bm0 h e
    rw [q];simpa using hc
theorem db9 (l:List Str):Txt.startswith (PS l) "/"=true:=by
  rw [bw3]
  by_cases e:l=[]
  · subst e;rw [ah5,ao6];rfl
  · rw [ah3 e];obtain ⟨t,h⟩:=cr2 e;rw [h];rfl
theorem dd1 {n:Str} (h:ah7 n):Txt.startswith n "/"=false:=by
  rw [bw3,decide_eq_false_iff_not]
  exact fun e=>h.2.1 (List.mem_of_getElem? e)
theorem cg6 (n:Str):PS [] ++ n=PS ([] ++ [n]):=by
  refine af5 ?_
  rw [an0,ah5,ao6,ah3 (by simp)];simp [pl]
theorem dt4 {l:List Str} (h:l≠[]) (n:Str):PS l ++ ("/" ++ n)=PS (l ++ [n]):=by
  refine af5 ?_
  rw [an0,an0,ao6,ah3 h,ah3 (by simp),bd0];rfl
theorem dg9 (l:List Str) {n:Str} (h:ah7 n):Txt.rfind (PS (l ++ [n])) "/"=((pl l).length:Int):=
  dl3 (v:=cl n) (by rw [ah3 (by simp),bd0]) h.2.1
theorem bw7 {l:List Str} (h:∀ n∈l,ah7 n) (hl:l≠[]):Txt.rstripChars (PS l) "/"=PS l:=by
  refine af5 ?_
  rw [bg5,ah3 hl]
  obtain ⟨t,c,q,hc⟩:=bm0 h hl
  rw [q];simp [hc]
theorem bo4:Txt.rstripChars (PS []) "/"=mkS []:=by
  refine af5 ?_
  rw [bg5,ah5,ao6];rfl
theorem cn7 {l:List Str} (h:∀ n∈l,ah7 n) (hl:l≠[]):Txt.rstripChars (mkS (pl l ++ [47])) "/"=PS l:=by
  refine af5 ?_
  rw [bg5,ah3 hl]
  obtain ⟨t,c,q,hc⟩:=bm0 h hl
  rw [dr7,q];simp [hc]
theorem aw5 {l:List Str} (h:∀ n∈l,ah7 n) (hl:l≠[]):Txt.split (PS l) "/"=mkS [] :: l:=by
  refine cm4 (by simp) (fun a ha=>?_) ?_
  · rcases List.mem_cons.mp ha with rfl | q
    · simp
    · exact (h a q).2.1
  · obtain ⟨a,r,rfl⟩:=List.exists_cons_of_ne_nil hl
    rw [an2,cf3 (by simp),ah3 hl];rfl
theorem as2:Txt.split (PS []) "/"=[mkS [],mkS []]:=by
  refine cm4 (by simp) (fun a ha=>?_) ?_
  · simp at ha;subst ha;simp
  · rw [an2,ah5,ao6];rfl
theorem cy9 (l:List Str):"/" ++ Txt.join "/" l=PS l:=by
  refine af5 ?_
  rw [ds5,an0,ao6]
  by_cases e:l=[]
  · subst e;rw [ah5,ao6];rfl
  · rw [ah3 e,← cf3 e];rfl
theorem cq0 {l m:List Str} (hl:∀ n∈l,ah7 n) (hm:∀ n∈m,ah7 n) (h:PS l=PS m):l=m:=by
  by_cases e:l=[] <;> by_cases e2:m=[]
  · rw [e,e2]
  · subst e
    have:=aw5 hm e2
    rw [← h,as2] at this
    have q:m=[mkS []]:=by simpa using this.symm
    subst q
    exact ((hm (mkS []) (by simp)).1 rfl).elim
  · subst e2
    have:=aw5 hl e
    rw [h,as2] at this
    have q:l=[mkS []]:=by simpa using this.symm
    subst q
    exact ((hl (mkS []) (by simp)).1 rfl).elim
  · have:=aw5 hl e
    rw [h,aw5 hm e2] at this
    simpa using this.symm
theorem bx1 {x:Str}:PyData.strOk x=true↔∀ c∈cl x,c < 0x110000:=by
  unfold PyData.strOk
  rw [← Array.all_toList,List.all_eq_true]
  simp only [decide_eq_true_eq]
theorem aw2 {l:List Str} (h:∀ n∈l,ah7 n):PyData.strOk (PS l)=true:=by
  rw [bx1]
  intro c hc
  by_cases e:l=[]
  · subst e;rw [ah5,ao6] at hc;simp at hc;subst hc;decide
  · rw [ah3 e] at hc
    unfold pl at hc
    obtain ⟨n,hn,q⟩:=List.mem_flatMap.mp hc
    rcases List.mem_cons.mp q with rfl | q
    · decide
    · exact bx1.mp (h n hn).2.2.2.2 c q
theorem cs3:∀ (l:List Nat) {m:List Nat},m≠[]→l < l ++ m
  | [],[],h=>absurd rfl h
  | [],c :: m,_=>List.nil_lt_cons ..
  | c :: l,m,h=>by
    rw [List.cons_append,List.cons_lt_cons_iff]
    exact .inr ⟨rfl,cs3 l h⟩
theorem ep4 {l m:List Str} (hm:m≠[]) (h:∀ n∈l ++ m,ah7 n):cl (PS l) < cl (PS (l ++ m)):=by
  have hp:pl m≠[]:=by obtain ⟨t,e⟩:=cr2 hm;rw [e];simp
  by_cases e:l=[]
  · subst e
    rw [ah5,ao6,ah3 (by simpa using hm)]
    obtain ⟨a,r,rfl⟩:=List.exists_cons_of_ne_nil hm
    have h1:=(h a (by simp)).1
    have:pl ([] ++ a :: r)=[47] ++ (cl a ++ pl r):=by simp [pl]
    rw [this]
    exact cs3 _ (by simp [h1])
  · rw [ah3 e,ah3 (by simp [e]),do1]
    exact cs3 _ hp
end
section
open PySem.Calls 
noncomputable abbrev Key:=Str
noncomputable abbrev kk (prog:Program) (w:World):KeyKind prog w Key:=strKind prog w
noncomputable abbrev bn7:D→Option Key:=aa8
noncomputable abbrev FM:=Addr→Option Obj
noncomputable def FM.le (B B':FM):Prop:=∀ a o,B a=some o→B' a=some o
theorem FM.le.refl (B:FM):B.le B:=fun ξ ξ e=>e
theorem FM.le.trans {A B C:FM} (x:A.le B) (y:B.le C):A.le C:=fun a o e=>y a o (x a o e)
inductive ba0 (c:String) (vs:List Value) (o:Obj):Prop
  | mk (h:o.cls = .type c) (n:Nat) (e:o.data = .seq vs.toArray n):ba0 c vs o
theorem ba0.two {c:String} {vs:List Value} {o:Obj} (x:ba0 c vs o):∃ n,o.data = .seq vs.toArray n:=by obtain ⟨_,n,e⟩:=x;exact ⟨n,e⟩
inductive cf0 (get:Addr→Option Obj) (c:String) (P:List Value→Prop) (v:Value):Prop
  | mk (a:Addr) (o:Obj) (vs:List Value) (e:v = .ref a) (ho:get a=some o) (hs:ba0 c vs o) (hr:P vs):cf0 get c P v
inductive IsI (i:Int) (v:Value):Prop
  | mk (t:Tok) (h:True) (e:v = .int i t):IsI i v
inductive IsS (x:Str) (v:Value):Prop
  | mk (t:Tok) (h:True) (e:v = .str x t):IsS x v
noncomputable def by0 (_:Tok):Prop:=True
section
variable (prog:Program) (w:World)
mutual
noncomputable def Rd (B:FM):D→Value→Prop
  | .none,v=>v = .none
  | .bool b,v=>v = .bool b
  | .int i,v=>IsI i v
  | .str x,v=>IsS x v
  | .list ds,v=>cf0 B "list" (fun vs=>RdL B ds vs) v
  | .tuple ds,v=>cf0 B "tuple" (fun vs=>RdL B ds vs) v
  | .dict kvs,v=>∃ a o ps,v = .ref a∧B a=some o∧(o.IsDictOf (kk prog w) ps∧a≠sysModules)∧RdK B kvs ps
noncomputable def RdL (B:FM):List D→List Value→Prop
  | [],vs=>vs=[]
  | d :: ds,vs=>∃ v r,vs=v :: r∧Rd B d v∧RdL B ds r
noncomputable def RdK (B:FM):List (D×D)→List (Key×Value)→Prop
  | [],ps=>ps=[]
  | e :: r,ps=>∃ k v r',ps=(k,v) :: r'∧bn7 e.1=some k∧Rd B e.2 v∧RdK B r r'
end
noncomputable def f6 (h:Heap) (B:FM):D→Value→Prop
  | .list ds,v=>cf0 h.get? "list" (fun vs=>RdL prog w B ds vs) v
  | .tuple ds,v=>cf0 h.get? "tuple" (fun vs=>RdL prog w B ds vs) v
  | .dict kvs,v=>∃ a o ps,v = .ref a∧h.get? a=some o∧(o.IsDictOf (kk prog w) ps∧a≠sysModules)∧RdK prog w B kvs ps
  | d,v=>Rd prog w B d v
end
section
variable {w:World}
mutual
theorem Rd.mono {B B':FM} (hB:B.le B'):∀ {d:D} {v:Value},Rd prog w B d v→Rd prog w B' d v
  | .none,_,h=>by exact h
  | .bool _,_,h=>by exact h
  | .int _,_,h=>by exact h
  | .str _,_,h=>by exact h
  | .list ds,v,h=>by
    obtain ⟨a,o,vs,e,ho,hs,hr⟩:=h
    exact ⟨a,o,vs,e,hB _ _ ho,hs,RdL.mono hB hr⟩
  | .tuple ds,v,h=>by
    obtain ⟨a,o,vs,e,ho,hs,hr⟩:=h
    exact ⟨a,o,vs,e,hB _ _ ho,hs,RdL.mono hB hr⟩
  | .dict kvs,v,h=>by
    obtain ⟨a,o,vs,e,ho,hs,hr⟩:=h
    exact ⟨a,o,vs,e,hB _ _ ho,hs,RdK.mono hB hr⟩
theorem RdL.mono {B B':FM} (hB:B.le B'):∀ {ds:List D} {vs:List Value},RdL prog w B ds vs→RdL prog w B' ds vs
  | [],_,h=>by exact h
  | d :: ds,vs,h=>by
    obtain ⟨v,r,e,h1,h2⟩:=h
    exact ⟨v,r,e,Rd.mono hB h1,RdL.mono hB h2⟩
theorem RdK.mono {B B':FM} (hB:B.le B'):∀ {ds:List (D×D)} {vs:List (Key×Value)},RdK prog w B ds vs→RdK prog w B' ds vs
  | [],_,h=>by exact h
  | d :: ds,vs,h=>by
    obtain ⟨k,v,r,e,h0,h1,h2⟩:=h
    exact ⟨k,v,r,e,h0,Rd.mono hB h1,RdK.mono hB h2⟩
end
noncomputable def i9 (B:FM) (h:Heap):Prop:=∀ a o,B a=some o→h.get? a=some o
theorem Rd.top {B:FM} {h:Heap} (k:i9 B h) {d:D} {v:Value} (r:Rd prog w B d v):f6 prog w h B d v:=by
  cases d <;> simp only [f6,Rd] at r⊢<;> first | exact r | (obtain ⟨a,o,vs,e,ho,x⟩:=r;exact ⟨a,o,vs,e,k _ _ ho,x⟩) | (obtain ⟨a,o,vs,e,ho,x,y⟩:=r;exact ⟨a,o,vs,e,k _ _ ho,x,y⟩)
noncomputable def Up (o:Obj) (x:Option Obj):Prop:=x=some o∨((∃ es ep,o.data = .dict es ep)∧o.cls≠.type "dict"∧∃ sl,x=some { o with slots:=sl })
noncomputable def an9 (o:Obj):Prop:=(∀ es ep,o.data≠.dict es ep)∨o.cls = .type "dict"
theorem Up.solid {o:Obj} {x:Option Obj} (u:Up o x) (h:an9 o):x=some o:=by
  rcases u with e | ⟨⟨es,ep,e1⟩,e2,_⟩
  · exact e
  · rcases h with h | h
    · exact absurd e1 (h es ep)
    · exact absurd h e2
theorem Up.ex {o:Obj} {x:Option Obj} (u:Up o x):∃ o',x=some o'∧o'.cls=o.cls∧o'.data=o.data:=by
  rcases u with e | ⟨_,_,sl,e⟩
  · exact ⟨o,e,rfl,rfl⟩
  · exact ⟨_,e,rfl,rfl⟩
theorem Up.trans {o:Obj} {x y:Option Obj} (u:Up o x) (v:∀ o',x=some o'→Up o' y):Up o y:=by
  rcases u with e | ⟨e1,e2,sl,e⟩
  · exact v o e
  · rcases v _ e with f | ⟨_,_,sl',f⟩
    · exact .inr ⟨e1,e2,sl,f⟩
    · exact .inr ⟨e1,e2,sl',f⟩
noncomputable def Old (h h':Heap):Prop:=∀ a o,h.get? a=some o→Up o (h'.get? a)
theorem Old.of {h h':Heap} (k:∀ a o,h.get? a=some o→h'.get? a=some o):Old h h':=fun a o e=>.inl (k a o e)
theorem Old.refl (h:Heap):Old h h:=.of fun ξ ξ e=>e
theorem Old.trans {h h1 h2:Heap} (x:Old h h1) (y:Old h1 h2):Old h h2:=fun a o e=>(x a o e).trans fun o' e'=>y a o' e'
theorem Old.solid {h h':Heap} (x:Old h h') {a:Addr} {o:Obj} (e:h.get? a=some o) (s:an9 o):h'.get? a=some o:=(x a o e).solid s
theorem Old.ex {h h':Heap} (x:Old h h') {a:Addr} (e:h.get? a≠none):h'.get? a≠none:=by
  cases q:h.get? a with
  | none=>exact absurd q e
  | some o=>obtain ⟨o',e',_⟩:=(x a o q).ex;rw [e'];simp
theorem Old.back {h h':Heap} (x:Old h h') {a:Addr} (e:h'.get? a=none):h.get? a=none:=by
  cases q:h.get? a with
  | none=>rfl
  | some o=>obtain ⟨o',e',_⟩:=(x a o q).ex;rw [e'] at e;cases e
theorem Old.ns {h h':Heap} (x:Old h h') {a:Addr} {m:Str→Option Value} (n:h.Ns a m):h'.Ns a m:=by
  obtain ⟨o,es,ep,e,hd,r⟩:=n
  obtain ⟨o',e',_,hd'⟩:=(x a o e).ex
  exact ⟨o',es,ep,e',hd'.trans hd,r⟩
theorem Old.cell {h h':Heap} (x:Old h h') {c:Addr} {v:Option Value} (n:h.IsCell c v):h'.IsCell c v:=by
  obtain ⟨o,e,hd⟩:=n
  obtain ⟨o',e',_,hd'⟩:=(x c o e).ex
  exact ⟨o',e',hd'.trans hd⟩
theorem an9.seq {o:Obj} {xs:Array Value} {n:Nat} (e:o.data = .seq xs n):an9 o:=.inl fun es ep q=>by rw [e] at q;cases q
theorem an9.fields {o:Obj} {xs:Array Value} (e:o.data = .fields xs):an9 o:=.inl fun es ep q=>by rw [e] at q;cases q
theorem ba0.solid {c:String} {vs:List Value} {o:Obj} (x:ba0 c vs o):an9 o:=let ⟨_,_,e⟩:=x;.seq e
theorem Old.list {h h':Heap} (x:Old h h') {a:Addr} {vs:Array Value} (n:h.IsList a vs):h'.IsList a vs:=by
  obtain ⟨o,e,hc,m,hd⟩:=n
  exact ⟨o,x.solid e (.seq hd),hc,m,hd⟩
theorem Old.tup {h h':Heap} (x:Old h h') {a:Addr} {vs:Array Value} (n:h.IsTuple a vs):h'.IsTuple a vs:=by
  obtain ⟨o,e,hc,m,hd⟩:=n
  exact ⟨o,x.solid e (.seq hd),hc,m,hd⟩
theorem ag3 {o:Obj} {ps:List (Key×Value)} (x:o.IsDictOf (kk prog w) ps):an9 o:=let ⟨_,_,e,_⟩:=x;.inr e.1
theorem f6.mono {h h':Heap} {B B':FM} (hh:Old h h') (hB:B.le B') {d:D} {v:Value} (r:f6 prog w h B d v):f6 prog w h' B' d v:=by
  cases d <;> simp only [f6] at r⊢<;> first
    | exact Rd.mono hB r
    | (obtain ⟨a,o,vs,e,ho,x,y⟩:=r;exact ⟨a,o,vs,e,hh.solid ho x.solid,x,RdL.mono hB y⟩)
    | (obtain ⟨a,o,vs,e,ho,x,y⟩:=r;exact ⟨a,o,vs,e,hh.solid ho (ag3 x.1),x,RdK.mono hB y⟩)
structure Gr (B:FM) (h:Heap) (B':FM) (h':Heap):Prop where
  le:B.le B'
  old:Old h h'
  keep:i9 B' h'
  new:∀ a o,B' a=some o→B a=some o∨h.get? a=none
theorem Gr.refl {B:FM} {h:Heap} (k:i9 B h):Gr B h B h:=⟨.refl _,.refl _,k,fun ξ ξ e=>.inl e⟩
theorem Gr.trans {B B1 B2:FM} {h h1 h2:Heap} (x:Gr B h B1 h1) (y:Gr B1 h1 B2 h2):Gr B h B2 h2 where
  le:=x.le.trans y.le
  old:=x.old.trans y.old
  keep:=y.keep
  new:=fun a o e=>by
    rcases y.new a o e with q | q
    · exact x.new a o q
    · exact .inr (x.old.back q)
theorem Gr.heap {B:FM} {h h':Heap} (k:i9 B h) (o:∀ a o,h.get? a=some o→h'.get? a=some o):Gr B h B h':=⟨.refl _,.of o,fun a x e=>o a x (k a x e),fun ξ ξ e=>.inl e⟩
noncomputable def FM.add (B:FM) (a:Addr) (o:Obj):FM:=fun b=>if b=a then some o else B b
theorem FM.add_self (B:FM) (a:Addr) (o:Obj):B.add a o a=some o:=by simp [FM.add]
theorem FM.le_add {B:FM} {a:Addr} {o:Obj} (h:∀ o',B a=some o'→o'=o):B.le (B.add a o):=fun b x e=>by
  unfold FM.add
  by_cases q:b=a
  · subst q;rw [if_pos rfl,h x e]
  · rw [if_neg q];exact e
theorem i6 {h:Heap} {a:Addr} (q:h.objs.size≤a):h.get? a=none:=by
  cases e:h.get? a with
  | none=>rfl
  | some o=>exact absurd (Heap.lt_size e) (Nat.not_lt.mpr q)
theorem Gr.freeze {B B':FM} {h h':Heap} {a:Addr} {o:Obj} (x:Gr B h B' h') (hn:h.get? a=none) (ho:h'.get? a=some o):Gr B h (B'.add a o) h' where
  le:=x.le.trans (FM.le_add fun o' e=>by have:=x.keep a o' e;rw [ho] at this;exact (Option.some.inj this).symm)
  old:=x.old
  keep:=fun b o' e=>by
    unfold FM.add at e
    by_cases q:b=a
    · subst q;rw [if_pos rfl] at e;cases e;exact ho
    · rw [if_neg q] at e;exact x.keep b o' e
  new:=fun b o' e=>by
    unfold FM.add at e
    by_cases q:b=a
    · subst q;exact .inr hn
    · rw [if_neg q] at e;exact x.new b o' e
theorem RdL.length {B:FM}:∀ {ds:List D} {vs:List Value},RdL prog w B ds vs→vs.length=ds.length
  | [],vs,h=>by obtain rfl:=h;rfl
  | d :: ds,vs,h=>by
    obtain ⟨v,r,rfl,_,h2⟩:=h
    simp [RdL.length h2]
theorem RdL.nil {B:FM}:RdL prog w B [] []:=rfl
theorem RdL.cons {B:FM} {d:D} {ds:List D} {v:Value} {vs:List Value} (a:Rd prog w B d v) (b:RdL prog w B ds vs):RdL prog w B (d :: ds) (v :: vs):=by exact ⟨v,vs,rfl,a,b⟩
theorem RdL.append {B:FM}:∀ {ds es:List D} {vs ws:List Value},RdL prog w B ds vs→RdL prog w B es ws→RdL prog w B (ds ++ es) (vs ++ ws)
  | [],_,vs,_,h,k=>by obtain rfl:=h;exact k
  | d :: ds,_,vs,_,h,k=>by
    obtain ⟨v,r,rfl,h1,h2⟩:=h
    exact RdL.cons h1 (RdL.append h2 k)
theorem RdL.get {B:FM}:∀ {ds:List D} {vs:List Value} {i:Nat} {d:D},RdL prog w B ds vs→ds[i]?=some d→∃ v,vs[i]?=some v∧Rd prog w B d v
  | [],_,_,_,_,e=>by simp at e
  | d :: ds,vs,0,x,h,e=>by
    obtain ⟨v,r,rfl,h1,_⟩:=h
    simp at e;subst e
    exact ⟨v,rfl,h1⟩
  | d :: ds,vs,i+1,x,h,e=>by
    obtain ⟨v,r,rfl,_,h2⟩:=h
    exact RdL.get (i:=i) (ds:=ds) (vs:=r) h2 (by simpa using e)
theorem RdL.take {B:FM}:∀ (n:Nat) {ds:List D} {vs:List Value},RdL prog w B ds vs→RdL prog w B (ds.take n) (vs.take n)
  | 0,_,_,_=>by simp;exact RdL.nil
  | n+1,[],vs,h=>by obtain rfl:=h;exact RdL.nil
  | n+1,d :: ds,vs,h=>by
    obtain ⟨v,r,rfl,h1,h2⟩:=h
    exact RdL.cons h1 (RdL.take n h2)
theorem RdL.drop {B:FM}:∀ (n:Nat) {ds:List D} {vs:List Value},RdL prog w B ds vs→RdL prog w B (ds.drop n) (vs.drop n)
  | 0,_,_,h=>h
  | n+1,[],vs,h=>by obtain rfl:=h;exact RdL.nil
  | n+1,d :: ds,vs,h=>by
    obtain ⟨v,r,rfl,h1,h2⟩:=h
    exact RdL.drop n h2
theorem RdL.reverse {B:FM}:∀ {ds:List D} {vs:List Value},RdL prog w B ds vs→RdL prog w B ds.reverse vs.reverse
  | [],vs,h=>by obtain rfl:=h;exact RdL.nil
  | d :: ds,vs,h=>by
    obtain ⟨v,r,rfl,h1,h2⟩:=h
    simp only [List.reverse_cons]
    exact RdL.append (RdL.reverse h2) (RdL.cons h1 RdL.nil)
mutual
theorem Rd.reads {B:FM} {h:Heap} (k:i9 B h):∀ {d:D} {v:Value},Rd prog w B d v→SeqAt.shaped d=true∨d.canLay0=true→∃ as,Reads h v d as
  | .none,v,r,_=>by obtain rfl:=r;exact ⟨_,.none⟩
  | .bool b,v,r,_=>by obtain rfl:=r;exact ⟨_,.bool b⟩
  | .int i,v,r,_=>by obtain ⟨t,_,rfl⟩:=r;exact ⟨_,.int i t⟩
  | .str x,v,r,_=>by obtain ⟨t,_,rfl⟩:=r;exact ⟨_,.str x t⟩
  | .list ds,v,r,c=>by
    obtain ⟨a,o,vs,rfl,ho,⟨h1,n,h2⟩,hr⟩:=r
    have c':PyData.canLayAll0 ds=true:=by
      have:PyData.canLay0 (.list ds)=true:=c.elim SeqAt.canLay_of_shaped id
      simpa [PyData.canLay0] using this
    obtain ⟨as,q⟩:=RdL.reads k hr c'
    exact ⟨_,.list (k _ _ ho) h1 h2 (by simpa using q)⟩
  | .tuple ds,v,r,c=>by
    obtain ⟨a,o,vs,rfl,ho,⟨h1,n,h2⟩,hr⟩:=r
    have c':PyData.canLayAll0 ds=true:=by
      have:PyData.canLay0 (.tuple ds)=true:=c.elim SeqAt.canLay_of_shaped id
      simpa [PyData.canLay0] using this
    obtain ⟨as,q⟩:=RdL.reads k hr c'
    exact ⟨_,.tuple (k _ _ ho) h1 h2 (by simpa using q)⟩
  | .dict kvs,v,r,c=>by
    have:PyData.canLay0 (.dict kvs)=true:=c.elim SeqAt.canLay_of_shaped id
    simp [PyData.canLay0] at this
theorem RdL.reads {B:FM} {h:Heap} (k:i9 B h):∀ {ds:List D} {vs:List Value},RdL prog w B ds vs→PyData.canLayAll0 ds=true→∃ as,ReadsAll h vs ds as
  | [],vs,r,_=>by obtain rfl:=r;exact ⟨_,.nil⟩
  | d :: ds,vs,r,c=>by
    obtain ⟨v,r,rfl,h1,h2⟩:=r
    have c':d.canLay0=true∧PyData.canLayAll0 ds=true:=by simpa [PyData.canLayAll0] using c
    obtain ⟨as,q1⟩:=Rd.reads k h1 (.inr c'.1)
    obtain ⟨bs,q2⟩:=RdL.reads k h2 c'.2
    exact ⟨_,.cons q1 q2⟩
end
theorem f6.reads {B:FM} {h:Heap} (k:i9 B h) {d:D} {v:Value} (r:f6 prog w h B d v) (c:SeqAt.shaped d=true):∃ as,Reads h v d as:=by
  have c0:d.canLay0=true:=SeqAt.canLay_of_shaped c
  cases d with
  | list ds=>
    obtain ⟨a,o,vs,rfl,ho,⟨h1,n,h2⟩,hr⟩:=r
    obtain ⟨as,q⟩:=RdL.reads k hr (by simpa [PyData.canLay0] using c0)
    exact ⟨_,.list ho h1 h2 (by simpa using q)⟩
  | tuple ds=>
    obtain ⟨a,o,vs,rfl,ho,⟨h1,n,h2⟩,hr⟩:=r
    obtain ⟨as,q⟩:=RdL.reads k hr (by simpa [PyData.canLay0] using c0)
    exact ⟨_,.tuple ho h1 h2 (by simpa using q)⟩
  | dict kvs=>simp [PyData.canLay0] at c0
  | _=>exact Rd.reads (w:=w) k r (.inl c)
end
end
section
open PySem.Calls PySem.SeqAt
structure n7 (s s':Shared):Prop where
  gens:s'.gens=s.gens
  os:s'.os=s.os
  toks:s.toks≤s'.toks
theorem n7.refl (s:Shared):n7 s s:=⟨rfl,rfl,Nat.le_refl _⟩
theorem n7.trans {s s1 s2:Shared} (x:n7 s s1) (y:n7 s1 s2):n7 s s2:=⟨y.gens.trans x.gens,y.os.trans x.os,Nat.le_trans x.toks y.toks⟩
structure Rm (k:Nat) (A:Around):Prop where
  handled:A.handled=none
  depth:A.depth+k≤900
  units:A.units+10 * k+200≤cLine
theorem Rm.le {k j:Nat} {A:Around} (x:Rm k A) (h:j≤k):Rm j A:=⟨x.handled,by have:=x.depth;lia,by have:=x.units;lia⟩
theorem Rm.u {k:Nat} {A:Around} (x:Rm k A) (n:Nat) (h:n≤199):A.units+n < cLine:=by have:=x.units;lia
section
variable (prog:Program) (w:World)
inductive EvP (B:FM) (s:Shared) (d:D) (v:Value) (s':Shared):Prop
  | mk (B':FM) (g:Gr B s.heap B' s'.heap) (r:Rd prog w B' d v) (m:n7 s s'):EvP B s d v s'
inductive LkP (B:FM) (s:Shared) (d:D) (v:Value) (s':Shared):Prop
  | mk (B':FM) (g:Gr B s.heap B' s'.heap) (r:f6 prog w s'.heap B' d v) (m:n7 s s'):LkP B s d v s'
noncomputable def aa1 (h:Heap) (a:Addr):Prop:=∀ o,h.get? a=some o→o.dict=none∧o.slots=#[]
inductive FrP (B:FM) (s:Shared) (d:D) (v:Value) (s':Shared):Prop
  | mk (B':FM) (a:Addr) (e:v = .ref a) (g:Gr B s.heap B' s'.heap) (hn:s.heap.get? a=none) (hb:B' a=none) (t:f6 prog w s'.heap B' d v) (m:n7 s s') (hp:aa1 s'.heap a):FrP B s d v s'
end
section
variable {w:World}
theorem EvP.look {B:FM} {s:Shared} {d:D} {v:Value} {s':Shared} (h:EvP prog w B s d v s'):LkP prog w B s d v s':=let ⟨B',g,r,m⟩:=h;⟨B',g,r.top g.keep,m⟩
theorem FrP.ev {B:FM} {s:Shared} {d:D} {v:Value} {s':Shared} (h:FrP prog w B s d v s'):EvP prog w B s d v s':=by
  obtain ⟨B',a,rfl,g,hn,hb,t,m,_⟩:=h
  cases d with
  | list ds=>
    obtain ⟨a',o,vs,e,ho,x,y⟩:=t
    cases e
    have hle:B'.le (B'.add a o):=FM.le_add fun o' e=>by rw [hb] at e;cases e
    exact ⟨B'.add a o,g.freeze hn ho,by exact ⟨a,o,vs,rfl,FM.add_self ..,x,y.mono hle⟩,m⟩
  | tuple ds=>
    obtain ⟨a',o,vs,e,ho,x,y⟩:=t
    cases e
    have hle:B'.le (B'.add a o):=FM.le_add fun o' e=>by rw [hb] at e;cases e
    exact ⟨B'.add a o,g.freeze hn ho,by exact ⟨a,o,vs,rfl,FM.add_self ..,x,y.mono hle⟩,m⟩
  | dict ds=>
    obtain ⟨a',o,vs,e,ho,x,y⟩:=t
    cases e
    have hle:B'.le (B'.add a o):=FM.le_add fun o' e=>by rw [hb] at e;cases e
    exact ⟨B'.add a o,g.freeze hn ho,by exact ⟨a,o,vs,rfl,FM.add_self ..,x,y.mono hle⟩,m⟩
  | none=>exact ⟨B',g,t,m⟩
  | bool b=>exact ⟨B',g,t,m⟩
  | int i=>exact ⟨B',g,t,m⟩
  | str x=>exact ⟨B',g,t,m⟩
theorem EvP.after {B B1:FM} {s s1:Shared} {d:D} {v:Value} {s':Shared} (g:Gr B s.heap B1 s1.heap) (m:n7 s s1) (h:EvP prog w B1 s1 d v s'):EvP prog w B s d v s':=
  let ⟨B',g',r,m'⟩:=h;⟨B',g.trans g',r,m.trans m'⟩
theorem LkP.after {B B1:FM} {s s1:Shared} {d:D} {v:Value} {s':Shared} (g:Gr B s.heap B1 s1.heap) (m:n7 s s1) (h:LkP prog w B1 s1 d v s'):LkP prog w B s d v s':=
  let ⟨B',g',r,m'⟩:=h;⟨B',g.trans g',r,m.trans m'⟩
theorem FrP.after {B B1:FM} {s s1:Shared} {d:D} {v:Value} {s':Shared} (g:Gr B s.heap B1 s1.heap) (m:n7 s s1) (h:FrP prog w B1 s1 d v s'):FrP prog w B s d v s':=by
  obtain ⟨B',a,rfl,g',hn,hb,t,m',hp⟩:=h
  refine ⟨B',a,rfl,g.trans g',?_,hb,t,m.trans m',hp⟩
  exact g.old.back hn
theorem EvP.int {B:FM} {s:Shared} {i:Int} {t k:Nat} (kp:i9 B s.heap) (ht:by0 t) (hk:s.toks≤k):EvP prog w B s (.int i) (.int i t) { s with toks:=k }:=
  ⟨B,Gr.refl kp,by exact ⟨t,ht,rfl⟩,rfl,rfl,hk⟩
theorem EvP.str {B:FM} {s:Shared} {x:Str} {t k:Nat} (kp:i9 B s.heap) (ht:by0 t) (hk:s.toks≤k):EvP prog w B s (.str x) (.str x t) { s with toks:=k }:=
  ⟨B,Gr.refl kp,by exact ⟨t,ht,rfl⟩,rfl,rfl,hk⟩
theorem EvP.bool {B:FM} {s:Shared} {b:Bool} {k:Nat} (kp:i9 B s.heap) (hk:s.toks≤k):EvP prog w B s (.bool b) (.bool b) { s with toks:=k }:=
  ⟨B,Gr.refl kp,rfl,rfl,rfl,hk⟩
theorem EvP.bool0 {B:FM} {s:Shared} {b:Bool} (kp:i9 B s.heap):EvP prog w B s (.bool b) (.bool b) s:=⟨B,Gr.refl kp,rfl,.refl s⟩
theorem EvP.same {B:FM} {s:Shared} {d:D} {v:Value} (kp:i9 B s.heap) (r:Rd prog w B d v):EvP prog w B s d v s:=⟨B,Gr.refl kp,r,.refl s⟩
theorem di2 {h:Heap} {o o':Obj} (e:(h.push o).get? h.objs.size=some o'):o=o':=by
  have:=((Heap.get?_eq_some _ _ _).mp e).1
  cases h
  simp [Heap.push] at this
  exact this
theorem EvP.new {B:FM} {s:Shared} {d:D} {o:Obj} {k:Nat} (kp:i9 B s.heap) (hk:s.toks≤k)
    (t:f6 prog w (s.heap.push o) B d (.ref s.heap.objs.size)) (hpl:o.dict=none∧o.slots=#[]):FrP prog w B s d (.ref s.heap.objs.size) { s with heap:=s.heap.push o,toks:=k }:=by
  refine ⟨B,_,rfl,Gr.heap kp fun a x e=>Heap.get?_push_of_some _ e,i6 (Nat.le_refl _),?_,t,⟨rfl,rfl,hk⟩,fun o' e=>di2 e▸hpl⟩
  cases e:B s.heap.objs.size with
  | none=>rfl
  | some x=>exact absurd (Heap.lt_size (kp _ _ e)) (Nat.lt_irrefl _)
theorem FrP.list {B:FM} {s:Shared} {ds:List D} {vs:List Value} {n k:Nat} (kp:i9 B s.heap) (hk:s.toks≤k) (r:RdL prog w B ds vs) :
    FrP prog w B s (.list ds) (.ref s.heap.objs.size) { s with heap:=s.heap.push { cls:=.type "list",data:=.seq vs.toArray n },toks:=k }:=
  EvP.new kp hk (by exact ⟨_,_,vs,rfl,Heap.get?_push_size _ rfl,⟨rfl,n,rfl⟩,r⟩) ⟨rfl,rfl⟩
theorem FrP.tuple {B:FM} {s:Shared} {ds:List D} {vs:List Value} {n k:Nat} (kp:i9 B s.heap) (hk:s.toks≤k) (r:RdL prog w B ds vs) :
    FrP prog w B s (.tuple ds) (.ref s.heap.objs.size) { s with heap:=s.heap.push { cls:=.type "tuple",data:=.seq vs.toArray n },toks:=k }:=
  EvP.new kp hk (by exact ⟨_,_,vs,rfl,Heap.get?_push_size _ rfl,⟨rfl,n,rfl⟩,r⟩) ⟨rfl,rfl⟩
theorem ba0.isList {h:Heap} {a:Addr} {o:Obj} {vs:List Value} (ho:h.get? a=some o) (x:ba0 "list" vs o):h.IsList a vs.toArray:=⟨o,ho,x.1,x.two⟩
theorem ba0.isTuple {h:Heap} {a:Addr} {o:Obj} {vs:List Value} (ho:h.get? a=some o) (x:ba0 "tuple" vs o):h.IsTuple a vs.toArray:=⟨o,ho,x.1,x.two⟩
theorem ai5 {n:Nat} (h:sz n=true):n≤sizeLine:=by
  unfold sz at h
  rw [sizeLine_eq]
  simpa using h
section
variable {h:Heap} {B:FM} {v:Value}
theorem bq4 {ds:List D}:f6 prog w h B (.list ds) v↔cf0 h.get? "list" (fun vs=>RdL prog w B ds vs) v:=Iff.rfl
theorem bi4 {ds:List D}:f6 prog w h B (.tuple ds) v↔cf0 h.get? "tuple" (fun vs=>RdL prog w B ds vs) v:=Iff.rfl
theorem dx9 {i:Int}:f6 prog w h B (.int i) v↔IsI i v:=Iff.rfl
theorem cy0 {i:Str}:f6 prog w h B (.str i) v↔IsS i v:=Iff.rfl
theorem dl7 {i:Bool}:f6 prog w h B (.bool i) v↔v = .bool i:=Iff.rfl
theorem ap2 {i:Int}:Rd prog w B (.int i) v↔IsI i v:=Iff.rfl
theorem bg0 {i:Str}:Rd prog w B (.str i) v↔IsS i v:=Iff.rfl
theorem cx1 {i:Bool}:Rd prog w B (.bool i) v↔v = .bool i:=Iff.rfl
theorem cy1 {ds:List D}:Rd prog w B (.list ds) v↔cf0 B "list" (fun vs=>RdL prog w B ds vs) v:=Iff.rfl
theorem dn0 {ds:List D}:Rd prog w B (.tuple ds) v↔cf0 B "tuple" (fun vs=>RdL prog w B ds vs) v:=Iff.rfl
end
theorem b8 {a b:Bool} (h:(a && b)=true):a=true∧b=true:=Bool.and_eq_true_iff.mp h
theorem f7 {a b:Bool} (h1:a=true) (h2:b=true):(a && b)=true:=Bool.and_eq_true_iff.mpr ⟨h1,h2⟩
theorem ad9 {α:Type} [BEq α] [LawfulBEq α] {a b:α} (h:(a == b)=true):a=b:=eq_of_beq h
theorem cr5 {y:Int} (h:0 < y):y≠0:=Int.ne_of_gt h
section
variable {A:Around} {E:Value→Shared→Prop} {s:Shared} {B:FM} {a b:Value}
theorem ce1 {ds es:List D} (kp:i9 B s.heap) (ha:f6 prog w s.heap B (.list ds) a) (hb:f6 prog w s.heap B (.list es) b) (hz:sz (ds.length+es.length)=true) :
    wpAny (model prog w) A (binaryOp .Add a b) (FrP prog w B s (.list (ds ++ es))) E s:=by
  obtain ⟨l,o,vs,rfl,ho,x,y⟩:=ha
  obtain ⟨l2,o2,ws,rfl,ho2,x2,y2⟩:=hb
  obtain ⟨⟨cls,dd,data,sl⟩,ho,hc,n,hd⟩:=x.isList ho
  obtain ⟨⟨cls2,dd2,data2,sl2⟩,ho2,hc2,n2,hd2⟩:=x2.isList ho2
  simp only at hc hd hc2 hd2
  subst hc hd hc2 hd2
  have e:vs.toArray ++ ws.toArray=(vs ++ ws).toArray:=by simp
  refine concat_meets ⟨_,ho,rfl⟩ ⟨_,ho2,rfl⟩ noFill_list_add seq_list_add PySem.F.slot_list_add PySem.F.entry_list_add (PySem.F.args_list_add_2 _ _) (list_addW l l2 vs.toArray ws.toArray n n2 dd dd2 sl sl2 (by have:=ai5 hz;rw [← y.length,← y2.length] at this;simpa using this)) ⟨ho,ho2,?_⟩
  rw [e]
  exact FrP.list kp (Nat.le_refl _) (y.append y2)
theorem cp9 (i:Int):Builtin.bitAnd i 1=i.fmod 2:=by
  cases i with
  | ofNat n=>
    show ((n &&& 1:Nat):Int)=((n:Nat):Int).fmod 2
    rw [Nat.and_one_is_mod,Int.fmod_eq_emod_of_nonneg _ (by decide)];rfl
  | negSucc n=>
    show (1:Int) - ((1 &&& (- Int.negSucc n - 1).toNat:Nat):Int)=_
    rw [show (- Int.negSucc n - 1).toNat=n from congrArg Int.toNat (Int.add_sub_cancel (n:Int) 1),Nat.and_comm,Nat.and_one_is_mod,Int.fmod_eq_emod_of_nonneg _ (by decide),Int.negSucc_emod n (by decide)];rfl
theorem cs0 {x y:Str} {t u:Nat} (kp:i9 B s.heap) (hs:0 < s.toks) (ht:by0 t) (hu:by0 u) (hz:sz (x.length+y.length)=true) :
    wpAny (model prog w) A (binaryOp .Add (.str x t) (.str y u)) (EvP prog w B s (.str (x ++ y))) E s:=by
  have hz':x.length+y.length≤sizeLine:=ai5 hz
  refine P.add_str ?_
  by_cases h1:x.length=0
  · have:(x.length == 0)=true:=by simp [h1]
    rw [if_pos this]
    have e:x ++ y=y:=by
      have:x.cps=#[]:=Array.size_eq_zero_iff.mp h1
      show Str.mk (x.cps ++ y.cps)=y
      rw [this];simp
    rw [e]
    exact EvP.str kp hu (Nat.le_refl _)
  · have:¬ (x.length == 0)=true:=by simpa using h1
    rw [if_neg this]
    by_cases h2:y.length=0
    · have:(y.length == 0)=true:=by simp [h2]
      rw [if_pos this]
      have e:x ++ y=x:=by
        have:y.cps=#[]:=Array.size_eq_zero_iff.mp h2
        show Str.mk (x.cps ++ y.cps)=x
        rw [this];simp
      rw [e]
      exact EvP.str kp ht (Nat.le_refl _)
    · have:¬ (y.length == 0)=true:=by simpa using h2
      rw [if_neg this]
      refine ⟨?_,?_⟩
      · rw [Str.length_append];exact hz'
      · exact EvP.str kp trivial (Nat.le_succ _)
theorem ct3 {x:Str} {t u:Nat} {n:Int} (kp:i9 B s.heap) (hs:0 < s.toks) (ht:by0 t) (h0:0≤n) (h1:n≤1048576) (hx:x.length=1) :
    wpAny (model prog w) A (binaryOp .Mult (.str x t) (.int n u)) (EvP prog w B s (.str ⟨Array.replicate n.toNat (x.cps.getD 0 0)⟩)) E s:=by
  obtain ⟨⟨l⟩⟩:=x
  obtain ⟨c,rfl⟩:∃ c,l=[c]:=by
    simp [Str.length] at hx
    exact List.length_eq_one_iff.mp hx
  refine P.mul_str (by simp;lia) (fun hn hc=>?_) (fun hn hc=>?_) ?_
  · simp only [Str.length]
    show ¬ ((1:Int) > (2 ^ 63 - 1) / n)
    have hn':1≤n:=by lia
    have:(1:Int)≤(2 ^ 63 - 1) / n:=by
      rw [Int.le_ediv_iff_mul_le (by assumption)];lia
    lia
  · unfold Builtin.Str.tooLong
    simp only [Str.length,List.size_toArray,List.length_cons,List.length_nil,Nat.zero_add,Nat.one_mul,sizeLine]
    exact decide_eq_false (by lia)
  · have key:∀ m:Nat,(List.replicate m (#[c]:Array Nat)).foldl (· ++ ·) #[]=Array.replicate m c:=by
      intro m
      have:∀ (m:Nat) (acc:Array Nat),(List.replicate m (#[c]:Array Nat)).foldl (· ++ ·) acc=acc ++ Array.replicate m c:=by
        intro m
        induction m with
        | zero=>intro acc;simp
        | succ m ih=>intro acc;rw [List.replicate_succ,List.foldl_cons,ih,Array.append_assoc];congr 1;simp [Array.replicate_succ']
      rw [this];simp
    by_cases hn:n < 1
    · rw [if_pos hn]
      obtain rfl:n=0:=by lia
      refine ⟨by decide,?_⟩
      exact EvP.str kp trivial (Nat.le_succ _)
    · rw [if_neg hn]
      by_cases h2:n=1
      · subst h2
        rw [if_pos (by simp)]
        exact EvP.str kp ht (Nat.le_refl _)
      · rw [if_neg (by simp [h2,Str.length])]
        refine ⟨?_,?_⟩
        · show (Array.size _)≤_
          rw [key,Array.size_replicate,sizeLine_eq];lia
        · rw [key]
          exact EvP.str kp trivial (Nat.le_succ _)
theorem au9 {x y:Int} (h:small y=true):Builtin.divisionGoesByPylong x y=false:=by
  refine PyProof.noPylong_of_log2 ?_
  unfold small at h
  have h':y.natAbs < 2 ^ 60:=by simpa using h
  by_cases h0:y.natAbs=0
  · rw [h0];decide +kernel
  · have h30:y.natAbs.log2 < 60:=(Nat.log2_lt h0).mpr h'
    exact Nat.le_trans ‹_› (Nat.le_of_ble_eq_true rfl)
inductive ee0 {α:Type} (f:Int→Int→Option α) (a b:Value) (d:α):Prop
  | mk (x y:Int) (t u:Tok) (e1:a = .int x t) (e2:b = .int y u) (h:f x y=some d):ee0 f a b d
theorem aj8 {α:Type} {f:Int→Int→Option α} {da db:D} {d:α} (ha:f6 prog w s.heap B da a) (hb:f6 prog w s.heap B db b) (h:ah2 f da db=some d):ee0 f a b d:=by
  obtain ⟨x,y,rfl,rfl,h⟩:=bm3 h
  obtain ⟨t,ht,rfl⟩:=ha
  obtain ⟨u,hu,rfl⟩:=hb
  exact ⟨x,y,t,u,rfl,rfl,h⟩
theorem ef5 {da db d:D} (kp:i9 B s.heap) (hs:0 < s.toks) (ha:f6 prog w s.heap B da a) (hb:f6 prog w s.heap B db b) (h:eq6 da db=some d) :
    wpAny (model prog w) A (binaryOp .Add a b) (EvP prog w B s d) E s:=by
  rcases ai9 h with h | h
  · rcases ai9 h with h | h
    · obtain ⟨x,y,t,u,rfl,rfl,h⟩:=aj8 ha hb h
      cases h
      exact P.add_int (EvP.int kp trivial (Nat.le_succ _))
    · obtain ⟨x,y,rfl,rfl,h⟩:=aq8 h
      obtain ⟨t,ht,rfl⟩:=ha
      obtain ⟨u,hu,rfl⟩:=hb
      obtain ⟨hz,h⟩:=g6 h
      cases h
      exact cs0 kp hs ht hu hz
  · obtain ⟨x,hx,h⟩:=a6 h
    obtain ⟨y,hy,h⟩:=a6 h
    obtain rfl:=l6 hx
    obtain rfl:=l6 hy
    obtain ⟨hz,h⟩:=g6 h
    cases h
    exact wpAny_mono (ce1 kp ha hb hz) (fun ξ ξ q=>q.ev) fun ξ ξ e=>e
theorem ek0 {da db d:D} (kp:i9 B s.heap) (hs:0 < s.toks) (ha:f6 prog w s.heap B da a) (hb:f6 prog w s.heap B db b) (h:er1 da db=some d) :
    wpAny (model prog w) A (binaryOp .Mult a b) (EvP prog w B s d) E s:=by
  obtain ⟨x,hx,h⟩:=a6 h
  obtain ⟨y,hy,h⟩:=a6 h
  obtain rfl:=n9 hx
  obtain rfl:=af9 hy
  obtain ⟨hc,h⟩:=g6 h
  cases h
  obtain ⟨t,ht,rfl⟩:=ha
  obtain ⟨u,hu,rfl⟩:=hb
  obtain ⟨h1,hc⟩:=b8 hc
  obtain ⟨h2,h3⟩:=b8 hc
  exact ct3 kp hs ht (of_decide_eq_true h1) (of_decide_eq_true h2) (ad9 h3)
theorem eg3 {op:Operator} {da db d:D} (kp:i9 B s.heap) (hs:0 < s.toks) (ha:f6 prog w s.heap B da a) (hb:f6 prog w s.heap B db b) (h:ay1 op da db=some d) :
    wpAny (model prog w) A (binaryOp op a b) (EvP prog w B s d) E s:=by
  cases op with
  | Add=>exact ef5 kp hs ha hb h
  | Mult=>exact ek0 kp hs ha hb h
  | Sub=>
    obtain ⟨x,y,t,u,rfl,rfl,h⟩:=aj8 ha hb h
    cases h
    exact P.sub_int (EvP.int kp trivial (Nat.le_succ _))
  | FloorDiv=>
    obtain ⟨x,y,t,u,rfl,rfl,h⟩:=aj8 ha hb h
    obtain ⟨hc,h⟩:=g6 h
    cases h
    exact floordiv_int (cr5 (of_decide_eq_true (b8 hc).1)) (EvP.int kp trivial (Nat.le_succ _)) (Or.inl (au9 (b8 (b8 hc).2).2))
  | Mod=>
    obtain ⟨x,y,t,u,rfl,rfl,h⟩:=aj8 ha hb h
    obtain ⟨hc,h⟩:=g6 h
    cases h
    exact mod_int' (cr5 (of_decide_eq_true hc)) (EvP.int kp trivial (Nat.le_succ _))
  | RShift=>
    obtain ⟨x,y,t,u,rfl,rfl,h⟩:=aj8 ha hb h
    obtain ⟨hc,h⟩:=g6 h
    cases h
    exact rshift_int (of_decide_eq_true (b8 hc).1) (EvP.int kp trivial (Nat.le_succ _))
  | BitAnd=>
    obtain ⟨x,y,t,u,rfl,rfl,h⟩:=aj8 ha hb h
    obtain ⟨hc,h⟩:=g6 h
    cases h
    cases ad9 hc
    exact and_int (cp9 x▸EvP.int kp trivial (Nat.le_succ _))
  | _=>cases h
end
end
end
section
open PySem.Calls PySem.SeqAt
section
variable {w:World} {A:Around} {E:Value→Shared→Prop} {s:Shared} {B:FM} {k:Nat} {a b:Addr}
variable {u v:Value}
inductive ej0 (B:FM) (kvs:List (D×D)) (ps:List (Key×Value)) (x:Key):Prop
  | no (h1:aw7 kvs (.str x)=none) (h2:valueAt ps x=none):ej0 B kvs ps x
  | yes (e:D) (v:Value) (h1:aw7 kvs (.str x)=some e) (h2:valueAt ps x=some v) (h:Rd prog w B e v):ej0 B kvs ps x
theorem az5 {a:D} {y x:Key} (h:bn7 a=some y):eqK a (.str x)=decide (y=x):=by
  cases n9 h
  show (y == x)=decide (y=x)
  by_cases q:y=x
  · rw [decide_eq_true q,q,beq_self_eq_true]
  · rw [decide_eq_false q,beq_eq_false_iff_ne.mpr q]
theorem RdK.find {x:Key}:∀ {kvs:List (D×D)} {ps:List (Key×Value)},RdK prog w B kvs ps→ej0 (w:=w) B kvs ps x
  | [],_,h=>by
    cases (h:_=_)
    exact .no rfl rfl
  | e :: r,_,h=>by
    obtain ⟨k',v',r',rfl,h0,h1,h2⟩:=h
    have hk:eqK e.1 (.str x)=decide (k'=x):=az5 h0
    by_cases q:k'=x
    · rw [decide_eq_true q] at hk
      exact .yes e.2 v' (congrArg (Option.map _) (List.find?_cons_of_pos (p:=fun e:D×D=>eqK e.1 (.str x)) hk)) (congrArg (Option.map _) (List.find?_cons_of_pos (p:=fun kv:Key×Value=>decide (kv.1=x)) (decide_eq_true q))) h1
    · rw [decide_eq_false q] at hk
      have a1:aw7 (e :: r) (.str x)=aw7 r (.str x):=congrArg (Option.map _) (List.find?_cons_of_neg (p:=fun e:D×D=>eqK e.1 (.str x)) (ne_true_of_eq_false hk))
      have a2:valueAt ((k',v') :: r') x=valueAt r' x:=congrArg (Option.map _) (List.find?_cons_of_neg (p:=fun kv:Key×Value=>decide (kv.1=x)) (ne_true_of_eq_false (decide_eq_false q)))
      cases RdK.find (x:=x) h2 with
      | no h1 h2=>exact .no (a1.trans h1) (a2.trans h2)
      | yes e v h1 h2 h=>exact .yes e v (a1.trans h1) (a2.trans h2) h
theorem ab0 {h:Heap} {a:Addr} {o:Obj} {ps:List (Key×Value)} (ho:h.get? a=some o) (x:o.IsDictOf (kk prog w) ps):h.DictOf (kk prog w) a ps:=Heap.dictOf_iff.mpr ⟨o,ho,x⟩
inductive en0 (B:FM) (x:List (D×D)) (i:Nat) (e:DictEntry):Prop
  | mk (d:D×D) (y:Key) (h1:x[i]?=some d) (h2:bn7 d.1=some y) (h3:(kk prog w).is y e.key=true) (h4:Rd prog w B d.2 e.val):en0 B x i e
theorem es9 {es:List DictEntry} {ps:List (Key×Value)} (P:Pairs (kk prog w) es ps):∀ {x:List (D×D)} {i:Nat} {e:DictEntry},RdK prog w B x ps→es[i]?=some e→en0 (w:=w) B x i e:=by
  induction P with
  | nil=>intro x i e _ h;simp at h
  | @cons e0 kv es kvs h1 h2 _ ih=>
    intro x i e R h
    cases x with
    | nil=>exact nomatch R
    | cons d x=>
      obtain ⟨k',v',r',q,h0,h3,h4⟩:=R
      injection q with q1 q2
      subst q1 q2
      cases i with
      | zero=>
        have:e0=e:=Option.some.inj h
        subst this
        exact ⟨d,k',rfl,h0,h1,h2▸h3⟩
      | succ i=>
        obtain ⟨d',y,a1,a2,a3,a4⟩:=ih h4 (show es[i]?=some e from h)
        exact ⟨d',y,a1,a2,a3,a4⟩
theorem ea8 {x y:D} {u v:Value} (kp:i9 B s.heap) (hu:A.units+64 < cLine) (ha:Rd prog w B x u) (hb:Rd prog w B y v) (h1:SeqAt.shaped x=true) (h2:SeqAt.shaped y=true):EqAt A s u v (PyData.eqv x y):=by
  obtain ⟨as,ra⟩:=(ha.top kp).reads kp h1
  obtain ⟨bs,rb⟩:=(hb.top kp).reads kp h2
  exact eqAt_reads x y A s u v as bs ra rb (canLay_of_shaped h1) (canLay_of_shaped h2) (room_of_shaped h1 hu)
theorem bf3:∀ {x:List (D×D)} {ps:List (Key×Value)},RdK prog w B x ps→x.length=ps.length
  | [],_,h=>by cases (h:_=_);rfl
  | d :: x,_,h=>by
    obtain ⟨k',v',r',rfl,_,_,h4⟩:=h
    exact congrArg Nat.succ (bf3 h4)
theorem dn5 {x:List (D×D)} {d:D×D} {i:Nat} (h:ak8 x=true) (e:x[i]?=some d):SeqAt.shaped d.2=true:=(b8 (am2 h d (List.mem_of_getElem? e))).2
theorem dj4 {x:List (D×D)} {y:Key} {d:D} (h:ak8 x=true) (e:aw7 x (.str y)=some d):SeqAt.shaped d=true:=by
  obtain ⟨p,h1,rfl⟩:=Option.map_eq_some_iff.mp e
  exact (b8 (am2 h p (List.mem_of_find?_eq_some h1))).2
theorem ct6 {id:String} {oa ob:Obj} {pa pb:List (Key×Value)} {x y:List (D×D)} {Q:Bool→Shared→Prop} (ha:s.heap.get? a=some oa) (hb:s.heap.get? b=some ob) (da:oa.IsDictOf (kk prog w) pa) (db:ob.IsDictOf (kk prog w) pb)
    (na:a≠sysModules) (nb:b≠sysModules) (ra:RdK prog w B x pa) (rb:RdK prog w B y pb) (kp:i9 B s.heap) (fx:ak8 x=true) (fy:ak8 y=true) (hu:A.units+64 < cLine) (hQ:Q (ae6 x y) s) :
    wpAny (model prog w) A (Builtin.Dict.samePairs id a b) Q E s:=by
  obtain ⟨ea,epa,xa,dda,ka,prA,ndA⟩:=da
  obtain ⟨eb,epb,xb,ddb,kb,prB,ndB⟩:=db
  have la:ea.size=x.length:=by rw [bf3 ra,← prA.length];rfl
  have lb:eb.size=y.length:=by rw [bf3 rb,← prB.length];rfl
  unfold Builtin.Dict.samePairs Builtin.Dict.showsAll
  rw [if_neg (by rw [beq_eq_false_iff_ne.mpr na];exact Bool.false_ne_true),if_neg (by rw [beq_eq_false_iff_ne.mpr nb];exact Bool.false_ne_true)]
  refine wpAny_bind (wpAny_pure (wpAny_bind (wpAny_pure ?_)))
  refine wpAny_bind (wpAny_dictEntries ha dda (wpAny_bind (wpAny_dictEntries hb ddb ?_)))
  unfold ae6 at hQ
  by_cases hl:x.length=y.length
  · rw [beq_iff_eq.mpr hl,Bool.true_and] at hQ
    rw [if_neg (by rw [la,lb,hl];simp)]
    refine wpAny_bind (wpAny_dictEpoch ha dda ?_)
    rw [Std.Legacy.Range.forIn_eq_forIn_range']
    simp only [Std.Legacy.Range.size,Nat.sub_zero,Nat.add_sub_cancel,Nat.div_one]
    refine wpAny_bind (wpAny_forIn_list _ (fun rest b s'=>b.1=none∧s'=s∧∃ i,rest=List.range' i (ea.size - i)∧i≤ea.size∧Q ((x.drop i).all (cj4 y)) s) _ ?_ ?_ _ _ ⟨rfl,rfl,0,by simp,Nat.zero_le _,hQ⟩)
    · rintro j rest bb s' ⟨hb',rfl,i,hr,hi,hR⟩
      have hlt:i < ea.size:=by
        rcases Nat.lt_or_ge i ea.size with h | h
        · exact h
        · rw [Nat.sub_eq_zero_of_le h] at hr;cases hr
      rw [ce5 (by assumption),List.range'_succ] at hr
      injection hr with q1 q2
      subst q1
      obtain ⟨d,ky,e1,e2,e3,e4⟩:=es9 prA (i:=j) (e:=ea[j]) ra (by simp [hlt])
      have hxl:j < x.length:=(List.getElem?_eq_some_iff.mp e1).1
      have e1':x[j]=d:=(List.getElem?_eq_some_iff.mp e1).2
      rw [List.drop_eq_getElem_cons hxl,e1',List.all_cons] at hR
      obtain ⟨ky',h1,h2⟩:=ka ea[j] (Array.getElem_mem hlt)
      have:=(kk prog w).inj _ _ _ h1 e3
      subst this
      refine wpAny_bind (wpAny_dictEntries ha dda ?_)
      rw [Array.getElem?_eq_getElem hlt]
      refine wpAny_bind (wpAny_holding ?_)
      rw [h2]
      refine wpAny_bind (wpAny_dictFind_of (knd:=kk prog w) e3 hb ddb kb ?_)
      have hf:=findBy_of_findIdx? (kk prog w).is eb ky'
      have hv:findBy (kk prog w).is eb ky'=valueAt pb ky':=by rw [← prB.find,Array.find?_toList];rfl
      rw [hv] at hf
      have hd1:d.1 = .str ky':=n9 e2
      unfold cj4 at hR
      rw [hd1] at hR
      cases hi':eb.findIdx? fun e=>(kk prog w).is ky' e.key with
      | none=>
        rw [hi'] at hf
        cases rb.find (x:=ky') with
        | no n1 n2=>
          rw [n1] at hR
          exact wpAny_pure (wpAny_pure (wpAny_pure hR))
        | yes e v n1 n2 n3=>rw [n2] at hf;cases hf
      | some i'=>
        rw [hi'] at hf
        obtain ⟨hlt',-,-⟩:=Array.findIdx?_eq_some_iff_getElem.mp hi'
        simp only [Array.getElem?_eq_getElem hlt',Option.map_some] at hf
        cases rb.find (x:=ky') with
        | no n1 n2=>rw [n2] at hf;cases hf
        | yes e v n1 n2 n3=>
          rw [n2] at hf
          cases hf
          rw [n1] at hR
          refine wpAny_bind (wpAny_dictEntries hb ddb ?_)
          rw [Array.getElem?_eq_getElem hlt']
          refine wpAny_holding (ea8 (s:=s') kp hu e4 n3 (dn5 fx e1) (dj4 fy n1) prog w _ _ ?_)
          change Q (PyData.eqv d.2 e && (x.drop (j+1)).all (cj4 y)) s' at hR
          cases hq:PyData.eqv d.2 e with
          | false=>
            rw [hq] at hR
            exact wpAny_pure (wpAny_pure hR)
          | true=>
            rw [hq] at hR
            refine wpAny_bind (wpAny_dictEpoch ha dda ?_)
            rw [if_neg (by simp)]
            exact wpAny_pure ⟨rfl,rfl,j+1,q2,hlt,hR⟩
    · rintro bb s' ⟨hb',rfl,i,hr,hi,hR⟩
      have hge:ea.size≤i:=by
        rcases Nat.lt_or_ge i ea.size with h | h
        · rw [ce5 (by assumption),List.range'_succ] at hr;cases hr
        · exact h
      rw [List.drop_of_length_le (by lia)] at hR
      rw [hb']
      exact wpAny_pure hR
  · rw [beq_eq_false_iff_ne.mpr hl,Bool.false_and] at hQ
    rw [if_pos (by rw [la,lb];simpa using hl)]
    exact wpAny_bind (wpAny_rule (wpAny_pure hQ))
theorem cm2:∀ {x y:List (D×D)} {ps:List (Key×Value)},i9 B s.heap→RdK prog w B x ps→RdK prog w B y ps→ak8 x=true→ak8 y=true→x=y
  | [],[],_,_,_,_,_,_=>rfl
  | [],e :: y,_,_,h1,h2,_,_=>by
    cases (h1:_=_)
    obtain ⟨_,_,_,q,_⟩:=h2
    cases q
  | d :: x,[],_,_,h1,h2,_,_=>by
    cases (h2:_=_)
    obtain ⟨_,_,_,q,_⟩:=h1
    cases q
  | d :: x,e :: y,_,kp,h1,h2,f1,f2=>by
    obtain ⟨k1,v1,r1,rfl,a1,a2,a3⟩:=h1
    obtain ⟨k2,v2,r2,q,b1,b2,b3⟩:=h2
    injection q with q1 q2
    injection q1 with q3 q4
    subst q2 q3 q4
    obtain ⟨c1,c2⟩:=b8 f1
    obtain ⟨c3,c4⟩:=b8 f2
    obtain ⟨as,ra⟩:=(a2.top kp).reads kp (b8 c1).2
    obtain ⟨bs,rb⟩:=(b2.top kp).reads kp (b8 c3).2
    have e2:=(PySem.Reads.unique ra _ _ rb).1
    rw [cm2 kp a3 b3 c2 c4]
    congr 1
    exact Prod.ext ((n9 a1).trans (n9 b1).symm) e2
theorem dh5:∀ {x:List (D×D)} {ps:List (Key×Value)},RdK prog w B x ps→∀ e∈x,∃ ky,bn7 e.1=some ky∧ky∈ps.map (·.1)
  | [],_,_,e,h=>by cases h
  | d :: x,_,h,e,he=>by
    obtain ⟨k',v',r',rfl,a1,a2,a3⟩:=h
    rcases List.mem_cons.mp he with rfl | he
    · exact ⟨k',a1,.head _⟩
    · obtain ⟨ky,c1,c2⟩:=dh5 a3 e he
      exact ⟨ky,c1,.tail _ c2⟩
theorem bz4:∀ {x:List (D×D)} {ps:List (Key×Value)},RdK prog w B x ps→(ps.map (·.1)).Nodup→∀ e∈x,aw7 x e.1=some e.2
  | [],_,_,_,e,h=>by cases h
  | d :: x,_,h,hn,e,he=>by
    obtain ⟨k',v',r',rfl,a1,a2,a3⟩:=h
    rw [List.map_cons,List.nodup_cons] at hn
    rcases List.mem_cons.mp he with rfl | he
    · unfold aw7
      rw [List.find?_cons_of_pos]
      · rfl
      · rw [n9 a1];exact (az5 rfl).trans (decide_eq_true rfl)
    · have ih:=bz4 a3 hn.2 e he
      unfold aw7 at ih⊢
      rw [List.find?_cons_of_neg]
      · exact ih
      · obtain ⟨ky,h1,h2⟩:=dh5 a3 e he
        rw [n9 h1,az5 a1,decide_eq_false (fun q=>hn.1 (by rw [q];exact h2))]
        exact Bool.false_ne_true
theorem ci5 {x:List (D×D)} {ps:List (Key×Value)} (h:RdK prog w B x ps) (hn:(ps.map (·.1)).Nodup) (f:ak8 x=true):ae6 x x=true:=by
  unfold ae6
  rw [beq_self_eq_true,Bool.true_and,List.all_eq_true]
  intro e he
  unfold cj4
  rw [bz4 h hn e he]
  exact eqv_refl _ (canLay_of_shaped (b8 (am2 f e he)).2)
theorem dz7 {oa ob:Obj} {pa pb:List (Key×Value)} {x y:List (D×D)} {Q:Value→Shared→Prop} (ha:s.heap.get? a=some oa) (hb:s.heap.get? b=some ob) (da:oa.IsDictOf (kk prog w) pa) (db:ob.IsDictOf (kk prog w) pb)
    (na:a≠sysModules) (nb:b≠sysModules) (ra:RdK prog w B x pa) (rb:RdK prog w B y pb) (kp:i9 B s.heap) (fx:ak8 x=true) (fy:ak8 y=true) (hu:A.units+66 < cLine) (hQ:Q (.bool (ae6 x y)) s) :
    wpAny (model prog w) A (richCompare .Eq (.ref a) (.ref b)) Q E s:=by
  have ta:s.TypeIs (.ref a) "dict":=(ab0 ha da).mapOf.typeIs
  have tb:s.TypeIs (.ref b) "dict":=(ab0 hb db).mapOf.typeIs
  refine wpAny_richCompare_same_room ta tb F.slot_dict_eq (wpAny_call_entry F.slot_dict_eq ta F.entry_dict_eq ?_ (F.args_dict_eq_2 _ _)) (by lia)
  show wpAny _ _ (Builtin.Dict.dictSlotArgs "__eq__" ⟨[.ref a,.ref b],[]⟩ >>= _) _ _ _
  refine wpAny_bind ?_
  unfold Builtin.Dict.dictSlotArgs
  refine wpAny_bind (wpAny_notOrdered_dict ta ?_)
  show wpAny _ _ (pure (Value.ref a,Value.ref b)) _ _ _
  refine wpAny_pure (wpAny_bind (wpAny_isInstance tb F.sub_dict_dict ?_))
  show wpAny _ _ (Builtin.Dict.samePairs _ a b >>= _) _ _ _
  refine wpAny_bind (ct6 ha hb da db na nb ra rb kp fx fy (by show A.units+1+64 < cLine;exact Nat.le_of_lt ‹_›) ?_)
  refine wpAny_pure ⟨_,rfl,nofun,?_⟩
  rw [show (ae6 x y == true)=ae6 x y by cases ae6 x y <;> rfl]
  exact hQ
theorem cr6 {es:List DictEntry} {pa:List (Key×Value)} (h1:Pairs (kk prog w) es pa):∀ {pb:List (Key×Value)},Pairs (kk prog w) es pb→pa=pb:=by
  induction h1 with
  | nil=>intro pb h;cases (h);rfl
  | @cons e kv es kvs h1 h2 _ ih=>
    intro pb h
    cases (h) with
    | cons h3 h4 h5=>
      rw [ih h5]
      congr 1
      exact Prod.ext ((kk prog w).inj _ _ _ h1 h3) (h2.symm.trans h4)
theorem ei5 {oa ob:Obj} {pa pb:List (Key×Value)} {x y:List (D×D)} {Q:Bool→Shared→Prop} (ha:B a=some oa) (hb:B b=some ob) (da:oa.IsDictOf (kk prog w) pa) (db:ob.IsDictOf (kk prog w) pb)
    (na:a≠sysModules) (nb:b≠sysModules) (ra:RdK prog w B x pa) (rb:RdK prog w B y pb) (kp:i9 B s.heap) (fx:ak8 x=true) (fy:ak8 y=true) (hu:A.units+66 < cLine) (hQ:Q (ae6 x y) s) :
    wpAny (model prog w) A (eqBool (.ref a) (.ref b)) Q E s:=by
  unfold eqBool
  refine wpAny_holding ?_
  by_cases e:a=b
  · subst e
    have:=ha.symm.trans hb
    injection this with e1
    subst e1
    have e2:pa=pb:=by
      obtain ⟨e1,_,_,d1,_,p1,_⟩:=da
      obtain ⟨e2,_,_,d2,_,p2,_⟩:=db
      have h3:=d1.symm.trans d2
      injection h3 with h3 _
      subst h3
      exact cr6 p1 p2
    subst e2
    obtain rfl:=cm2 kp ra rb fx fy
    obtain ⟨_,_,_,_,_,_,hn⟩:=da
    rw [ci5 ra hn fx] at hQ
    rw [if_pos (beq_self_eq_true _)]
    exact wpAny_bind (wpAny_rule (wpAny_pure hQ))
  · rw [if_neg (by simpa using e)]
    exact wpAny_bind (dz7 (kp _ _ ha) (kp _ _ hb) da db na nb ra rb kp fx fy hu (wpAny_truthy_bool hQ))
theorem ea1 {u v:Value} {i j:Int} {x y:List (D×D)} {Q:Value→Shared→Prop} (kp:i9 B s.heap) (hu:A.units+80 < cLine) (hu1:f6 prog w s.heap B (.tuple [.int i,.dict x]) u) (hv1:f6 prog w s.heap B (.tuple [.int j,.dict y]) v) (fx:ak8 x=true) (fy:ak8 y=true)
    (hQ:Q (.bool (!(i == j && ae6 x y))) s):wpAny (model prog w) A (compareOp .NotEq u v) Q E s:=by
  obtain ⟨a,o1,vs,rfl,ho1,⟨hc1,n1,hd1⟩,hr1⟩:=hu1
  obtain ⟨b,o2,us,rfl,ho2,⟨hc2,n2,hd2⟩,hr2⟩:=hv1
  obtain ⟨_,_,rfl,⟨t1,_,rfl⟩,_,_,rfl,⟨a1,oa,pa,rfl,ha,⟨da,na⟩,ra⟩,hr1⟩:=hr1
  cases (hr1:_=_)
  obtain ⟨_,_,rfl,⟨t2,_,rfl⟩,_,_,rfl,⟨b1,ob,pb,rfl,hb,⟨db,nb⟩,rb⟩,hr2⟩:=hr2
  cases (hr2:_=_)
  have ta:s.TypeIs (.ref a) "tuple":=⟨_,ho1,hc1⟩
  have tb:s.TypeIs (.ref b) "tuple":=⟨_,ho2,hc2⟩
  show wpAny _ _ (richCompare .NotEq (.ref a) (.ref b)) _ _ _
  refine wpAny_richCompare_same_room ta tb F.slot_tuple_ne (wpAny_call_entry F.slot_tuple_ne ta F.entry_tuple_ne ?_ (F.args_tuple_ne_2 _ _)) (by lia)
  show wpAny _ _ (isInstance (.ref b) (.type "tuple") >>= _) _ _ _
  refine wpAny_bind (wpAny_isInstance tb AutoSeq1.sub_tuple_tuple ?_)
  show wpAny _ _ (Builtin.Tuple.tupleItemsOf (.ref a) >>= _) _ _ _
  refine wpAny_bind (wpAny_tupleItemsOf ho1 hd1 (wpAny_bind (wpAny_tupleItemsOf ho2 hd2 ?_)))
  refine wpAny_bind ?_
  simp only [List.zip_cons_cons,List.zip_nil_right,List.forIn_cons,List.forIn_nil]
  refine wpAny_bind (wpAny_bind ((EqAt.int_int i t1 j t2) prog w _ _ ?_))
  cases hi:(i == j) with
  | false=>
    rw [hi] at hQ
    exact wpAny_bind (wpAny_pure (wpAny_pure (wpAny_pure (wpAny_pure ⟨_,rfl,nofun,hQ⟩))))
  | true=>
    rw [hi] at hQ
    refine wpAny_pure (wpAny_bind (wpAny_bind (ei5 ha hb da db na nb ra rb kp fx fy (by show A.units+1+66 < cLine;lia) ?_)))
    cases hd:ae6 x y with
    | false=>
      rw [hd] at hQ
      exact wpAny_bind (wpAny_pure (wpAny_pure (wpAny_pure (wpAny_pure ⟨_,rfl,nofun,hQ⟩))))
    | true=>
      rw [hd] at hQ
      exact wpAny_pure (wpAny_pure (wpAny_pure ⟨_,rfl,nofun,hQ⟩))
end
end
section
open PySem.Calls PySem.SeqAt
section
variable {w:World} {A:Around} {E:Value→Shared→Prop} {s:Shared} {B:FM} {k:Nat} {a b:Value}
theorem em7 (n:Str) (t:Tok):(kk prog w).is n (.str n t)=true:=by
  have:Value.isStrOf n (.str n t)=true:=by simp [Value.isStrOf]
  exact this
theorem as0 {d:D} (h:z6 d=true):∃ x,d = .str x:=by cases d <;> first | exact ⟨_,rfl⟩ | cases h
theorem Rd.keyis {x:Key} {v:Value} {C:FM} (r:Rd prog w C (.str x) v):(kk prog w).is x v=true:=by
  obtain ⟨t,_,rfl⟩:=r
  exact em7 _ t
theorem ei3 {a:Addr} (h:a≠sysModules):(a == sysModules)=false:=beq_eq_false_iff_ne.mpr h
theorem dg8 (x y:Str):(x.cps.toList == y.cps.toList)=(x == y):=by
  have:(x == y)=decide (x=y):=by
    by_cases h:x=y
    · subst h;simp
    · rw [decide_eq_false h];exact beq_eq_false_iff_ne.mpr h
  rw [this]
  by_cases h:x=y
  · subst h;simp
  · rw [decide_eq_false h]
    refine beq_eq_false_iff_ne.mpr fun e=>h ?_
    cases x;cases y;simp at e;simp [e]
theorem da6 {x y:Str} (kp:i9 B s.heap) (ha:f6 prog w s.heap B (.str x) a) (hb:f6 prog w s.heap B (.str y) b) :
    wpAny (model prog w) A (compareOp .Eq a b) (EvP prog w B s (.bool (x == y))) E s:=by
  obtain ⟨t,ht,rfl⟩:=ha
  obtain ⟨u,hu,rfl⟩:=hb
  exact P.eq_str (by rw [dg8];exact EvP.bool0 kp)
theorem de9 {x y:Str} (kp:i9 B s.heap) (ha:f6 prog w s.heap B (.str x) a) (hb:f6 prog w s.heap B (.str y) b) :
    wpAny (model prog w) A (compareOp .NotEq a b) (EvP prog w B s (.bool (!(x == y)))) E s:=by
  obtain ⟨t,ht,rfl⟩:=ha
  obtain ⟨u,hu,rfl⟩:=hb
  refine P.ne_str ?_
  have:(x.cps.toList != y.cps.toList)=!(x == y):=by rw [← dg8];rfl
  rw [this];exact EvP.bool0 kp
theorem ce2 {x y:D} (kp:i9 B s.heap) (rm:Rm k A) (ha:f6 prog w s.heap B x a) (hb:f6 prog w s.heap B y b) (h1:SeqAt.shaped x=true) (h2:SeqAt.shaped y=true) :
    wpAny (model prog w) A (compareOp .Eq a b) (EvP prog w B s (.bool (PyData.eqv x y))) E s:=by
  obtain ⟨as,ra⟩:=ha.reads kp h1
  obtain ⟨bs,rb⟩:=hb.reads kp h2
  exact eq_dataH ra rb h1 h2 (rm.u 64 (by decide)) (EvP.bool0 kp)
theorem cd7 {x y:D} (kp:i9 B s.heap) (rm:Rm k A) (ha:f6 prog w s.heap B x a) (hb:f6 prog w s.heap B y b) (h1:SeqAt.shaped x=true) (h2:SeqAt.shaped y=true) :
    wpAny (model prog w) A (compareOp .NotEq a b) (EvP prog w B s (.bool (!PyData.eqv x y))) E s:=by
  obtain ⟨as,ra⟩:=ha.reads kp h1
  obtain ⟨bs,rb⟩:=hb.reads kp h2
  exact ne_dataH ra rb h1 h2 (rm.u 64 (by decide)) (EvP.bool0 kp)
theorem cs1 {x:D} {l:List D} (kp:i9 B s.heap) (rm:Rm k A) (ha:f6 prog w s.heap B x a) (hb:f6 prog w s.heap B (.list l) b) (h1:SeqAt.shaped x=true) (h2:SeqAt.shaped (.list l)=true) :
    wpAny (model prog w) A (compareOp .In a b) (EvP prog w B s (.bool (l.any fun y=>PyData.eqv y x))) E s:=by
  obtain ⟨as,ra⟩:=ha.reads kp h1
  obtain ⟨bs,rb⟩:=hb.reads kp h2
  exact in_list_reads rb ra (by simpa [PyData.canLay0] using canLay_of_shaped h2) (canLay_of_shaped h1) (room_in_shaped h1 (rm.u 65 (by decide))) (EvP.bool0 kp)
theorem ep1 {x y:D} {r:Bool} (kp:i9 B s.heap) (rm:Rm k A) (ha:f6 prog w s.heap B x a) (hb:f6 prog w s.heap B y b) (h:inD x y=some r) :
    wpAny (model prog w) A (compareOp .In a b) (EvP prog w B s (.bool r)) E s:=by
  rcases ai9 h with h | h
  · obtain ⟨x,y,rfl,rfl,h⟩:=aq8 h
    obtain ⟨t,ht,rfl⟩:=ha
    obtain ⟨u,hu,rfl⟩:=hb
    cases h
    exact P.in_str (EvP.bool0 kp)
  · obtain ⟨l,hl,h⟩:=a6 h
    obtain rfl:=l6 hl
    obtain ⟨c,h⟩:=g6 h
    cases h
    exact cs1 kp rm ha hb (b8 c).1 (b8 c).2
theorem eq8 {x y:D} {r:Bool} (kp:i9 B s.heap) (rm:Rm k A) (ha:f6 prog w s.heap B x a) (hb:f6 prog w s.heap B y b) (h:eqD x y=some r) :
    wpAny (model prog w) A (compareOp .Eq a b) (EvP prog w B s (.bool r)) E s:=by
  rcases ai9 h with h | h
  · obtain ⟨x,y,rfl,rfl,h⟩:=aq8 h
    cases h
    exact da6 kp ha hb
  · obtain ⟨c,h⟩:=g6 h
    cases h
    exact ce2 kp rm ha hb (b8 c).1 (b8 c).2
theorem eo6 {x y:D} {r:Bool} (kp:i9 B s.heap) (rm:Rm k A) (ha:f6 prog w s.heap B x a) (hb:f6 prog w s.heap B y b) (h:eqD x y=some r) :
    wpAny (model prog w) A (compareOp .NotEq a b) (EvP prog w B s (.bool (!r))) E s:=by
  rcases ai9 h with h | h
  · obtain ⟨x,y,rfl,rfl,h⟩:=aq8 h
    cases h
    exact de9 kp ha hb
  · obtain ⟨c,h⟩:=g6 h
    cases h
    exact cd7 kp rm ha hb (b8 c).1 (b8 c).2
theorem ef8 {x y:D} {r:Bool} (kp:i9 B s.heap) (rm:Rm k A) (ha:f6 prog w s.heap B x a) (hb:f6 prog w s.heap B y b) (h:(eqD x y).or (eqT x y)=some r) :
    wpAny (model prog w) A (compareOp .NotEq a b) (EvP prog w B s (.bool (!r))) E s:=by
  rcases ai9 h with h | h
  · exact eo6 kp rm ha hb h
  · obtain ⟨x1,q1,h⟩:=a6 h
    obtain ⟨p,q2,h⟩:=a6 h
    obtain ⟨y1,q3,h⟩:=a6 h
    obtain ⟨q,q4,h⟩:=a6 h
    obtain ⟨i,q5,h⟩:=a6 h
    obtain ⟨j,q6,h⟩:=a6 h
    obtain ⟨dx,q7,h⟩:=a6 h
    obtain ⟨dy,q8,h⟩:=a6 h
    obtain ⟨hc,h⟩:=g6 h
    cases h
    obtain rfl:=bk9 q1
    obtain rfl:=bk9 q3
    obtain rfl:=ao9 q2
    obtain rfl:=ao9 q4
    rw [af9 q5,ax6 q7] at ha
    rw [af9 q6,ax6 q8] at hb
    exact ea1 kp (rm.u 80 (by decide)) ha hb (b8 hc).1 (b8 hc).2 (EvP.bool0 kp)
theorem ab5 {α β:Type} {o:Option α} {f:α→β} {b:β} (h:o.map f=some b):∃ a,o=some a∧f a=b:=Option.map_eq_some_iff.mp h
theorem dr3 {op:CmpOp} {x y:D} {r:Bool} (kp:i9 B s.heap) (rm:Rm k A) (ha:f6 prog w s.heap B x a) (hb:f6 prog w s.heap B y b) (h:bk7 op x y=some r) :
    wpAny (model prog w) A (compareOp op a b) (EvP prog w B s (.bool r)) E s:=by
  cases op with
  | Eq=>exact eq8 kp rm ha hb h
  | NotEq=>
    obtain ⟨r',h1,rfl⟩:=ab5 h
    exact ef8 kp rm ha hb h1
  | In=>exact ep1 kp rm ha hb h
  | _=>cases h
noncomputable def TrP (B:FM) (s:Shared) (r:Bool) (v:Bool) (s':Shared):Prop:=v=r∧Gr B s.heap B s'.heap∧n7 s s'
theorem TrP.same {r:Bool} {n:Nat} (kp:i9 B s.heap) (h:s.toks≤n):TrP B s r r { s with toks:=n }:=⟨rfl,Gr.refl kp,rfl,rfl,h⟩
theorem dn7 {n:Nat} (h:sz n=true):(n:Int) < 2 ^ 63:=by have:n≤16777216:=of_decide_eq_true h;lia
theorem RdL.size_le {B:FM} {l:List D} {vs:List Value} (hr:RdL prog w B l vs) (h:sz l.length=true):vs.toArray.size≤sizeLine:=by
  rw [List.size_toArray,hr.length];exact ai5 h
theorem RdL.size {B:FM} {l:List D} {vs:List Value} (hr:RdL prog w B l vs) (h:sz l.length=true):(vs.toArray.size:Int) < 2 ^ 63:=by
  rw [List.size_toArray,hr.length];exact dn7 h
theorem de4 {l:List D} {vs:List Value} (hr:RdL prog w B l vs):vs.toArray.isEmpty=l.isEmpty:=by
  cases l with
  | nil=>cases (hr:_=_);rfl
  | cons d l=>obtain ⟨v,r,rfl,_⟩:=hr;rfl
theorem dm7 {x:D} {r:Bool} (kp:i9 B s.heap) (ha:f6 prog w s.heap B x a) (h:bh8 x=some r) :
    wpAny (model prog w) A (truthy a) (TrP B s r) E s:=by
  cases x with
  | bool x=>
    cases h
    obtain rfl:=ha
    exact wpAny_truthy_bool ⟨rfl,Gr.refl kp,.refl s⟩
  | str x=>
    obtain ⟨hz,h⟩:=g6 h
    cases h
    obtain ⟨t,ht,rfl⟩:=ha
    refine P.truthy_str (Int.not_le.mpr (dn7 hz)) ?_
    have e:((x.length:Int) != 0)=(x.length != 0):=by
      cases x.length <;> rfl
    rw [e]
    exact TrP.same kp (Nat.le_add_right _ 2)
  | tuple x=>
    obtain ⟨hz,h⟩:=g6 h
    cases h
    obtain ⟨c,o,vs,rfl,ho,hs,hr⟩:=ha
    refine truthy_tuple (hs.isTuple ho) (hr.size hz) ?_
    rw [de4 hr]
    exact TrP.same kp (Nat.le_add_right _ 2)
  | _=>cases h
end
end
section
open PySem.Calls PySem.SeqAt
section
variable {w:World} {A:Around} {E:Value→Shared→Prop} {s:Shared} {B:FM} {k:Nat} {a b:Value}
theorem bk3 (slice:Expr) (o i:Value):∃ ops,subscripted slice false o i=operate ops (getItem o i):=by
  unfold subscripted
  split
  · exact ⟨_,rfl⟩
  · rename_i h;cases h
  · exact ⟨_,rfl⟩
theorem aj9 {value slice:Expr} {o i:Value} {T id:String} {Q:Value→Shared→Prop} (hT:s.TypeIs o T)
    (hl:typeLookup (.type T) "__getitem__"=pure (some (.builtin id))) (hg:wpAny (model prog w) A (getItem o i) Q E s):wpAny (model prog w) A (subscriptTail value slice o i) Q E s:=by
  obtain ⟨ops,e⟩:=bk3 slice o i
  exact tail_any hT hl hg e
theorem du1 {d:D} {l:List D} (h:ed0 d=some l):d = .list l∨d = .tuple l:=by
  cases d with
  | list x=>cases h;exact .inl rfl
  | tuple x=>cases h;exact .inr rfl
  | _=>cases h
theorem ed5 {i:Int} (h:i < 1152921504606846976):i < 2 ^ 63:=Int.lt_trans h (by decide)
theorem cn4 {value slice:Expr} {kvs:List (D×D)} {y d:D} (kp:i9 B s.heap) (ha:f6 prog w s.heap B (.dict kvs) a) (hb:f6 prog w s.heap B y b) (hk:z6 y=true) (h:aw7 kvs y=some d) :
    wpAny (model prog w) A (subscriptTail value slice a b) (EvP prog w B s d) E s:=by
  obtain ⟨x,rfl⟩:=as0 hk
  obtain ⟨l,o,ps,rfl,ho,⟨hdo,hns⟩,hrk⟩:=ha
  have hm:=(ab0 ho hdo).mapOf
  obtain ⟨t,_,rfl⟩:=hb
  cases hrk.find (x:=x) with
  | no e1 e2=>rw [e1] at h;cases h
  | yes e v e1 e2 f2=>
    rw [e1] at h
    cases h
    exact aj9 (T:="dict") hm.typeIs slot_dict_getitem.lookup (wpAny_getItem_of (knd:=kk prog w) (em7 x t) hm e2 ⟨B,Gr.refl kp,f2,rfl,rfl,Nat.le_succ _⟩)
theorem ek1 {value slice:Expr} {x y d:D} (kp:i9 B s.heap) (ha:f6 prog w s.heap B x a) (hb:f6 prog w s.heap B y b) (h:bk1 x y=some d) :
    wpAny (model prog w) A (subscriptTail value slice a b) (EvP prog w B s d) E s:=by
  rcases ai9 h with h | h
  case inr=>
    obtain ⟨l,hl,q⟩:=a6 h
    obtain rfl:=ax6 hl
    obtain ⟨hc,q⟩:=g6 q
    exact cn4 kp ha hb (b8 hc).1 q
  obtain ⟨l,hl,q⟩:=a6 h
  obtain ⟨i,hi,q⟩:=a6 q
  obtain rfl:=af9 hi
  obtain ⟨hc,q⟩:=g6 q
  have h0:=of_decide_eq_true (b8 hc).1
  have h1:=ed5 (of_decide_eq_true (b8 hc).2)
  obtain ⟨t,ht,rfl⟩:=hb
  rcases du1 hl with rfl | rfl
  · obtain ⟨l,o,vs,rfl,ho,hs,hr⟩:=ha
    obtain ⟨v,e,hv⟩:=hr.get q
    exact aj9 (hs.isList ho).typeIs slot_list_getitem.lookup (wpAny_getItem_list (hs.isList ho) h0 h1 (vs.getElem?_toArray▸e) (EvP.same kp hv))
  · obtain ⟨l,o,vs,rfl,ho,hs,hr⟩:=ha
    obtain ⟨v,e,hv⟩:=hr.get q
    obtain ⟨n,rfl⟩:=Int.eq_ofNat_of_zero_le h0
    have hlt:(n:Int) < vs.length:=Int.ofNat_lt.mpr (List.getElem?_eq_some_iff.mp e).1
    have hj:seqIndex? (n:Int) vs.toArray.size=some n:=by
      unfold seqIndex?
      rw [if_neg (Int.not_lt.mpr h0)]
      exact if_pos (f7 (decide_eq_true h0) (decide_eq_true hlt))
    exact aj9 (T:="tuple") ⟨o,ho,hs.1⟩ slot_tuple_getitem.lookup (getItem_tuple (hs.isTuple ho) (Int.le_trans (by decide) h0) h1 hj (vs.getElem?_toArray▸e) (EvP.same kp hv))
theorem dx1 {value slice:Expr} {l:List D} {d:D} {t:Tok} (kp:i9 B s.heap) (ha:f6 prog w s.heap B (.list l) a) (h:l.getLast?=some d) :
    wpAny (model prog w) A (subscriptTail value slice a (.int (-1) t)) (EvP prog w B s d) E s:=by
  obtain ⟨c,o,vs,rfl,ho,hs,hr⟩:=ha
  rw [List.getLast?_eq_getElem?] at h
  obtain ⟨v,e,hv⟩:=hr.get h
  have hl:=hr.length
  have hpos:0 < l.length:=by
    have:=(List.getElem?_eq_some_iff.mp h).1
    lia
  refine aj9 (hs.isList ho).typeIs slot_list_getitem.lookup (wpAny_getItem_list_neg (hs.isList ho) (by lia) (by simp;lia) (by lia) ?_ (EvP.same kp hv))
  have:(-1+((vs.toArray.size:Nat):Int)).toNat=l.length - 1:=by
    rw [List.size_toArray,hl,Int.add_comm];exact Int.toNat_sub l.length 1
  rw [this]
  simpa using e
theorem bi9 (n:Nat) (len:Nat):Builtin.Str.strSliceIndices none (some (n:Int)) 1 len=List.range (min n len):=by
  have h1:¬ ((n:Int) < 0):=by lia
  simp only [Builtin.Str.strSliceIndices,sliceRange,h1,if_false,show ((1:Int) > 0)=True from by simp,if_true]
  have e1:max (0:Int) (min (n:Int) (len:Int))=(min n len:Nat):=by
    rcases Nat.le_total n len with q | q
    · rw [Int.min_eq_left (Int.ofNat_le.mpr q),Nat.min_eq_left q];exact Int.max_eq_right (Int.natCast_nonneg n)
    · rw [Int.min_eq_right (Int.ofNat_le.mpr q),Nat.min_eq_right q];exact Int.max_eq_right (Int.natCast_nonneg len)
  rw [e1]
  by_cases h:0 < min n len
  · rw [if_pos (by lia)]
    have e3:((((min n len:Nat):Int) - 0+1 - 1) / 1).toNat=min n len:=by simp
    rw [e3]
    have:(fun (x:Nat)=>((0:Int)+(x:Int) * 1).toNat)=id:=by funext x;simp
    first
      | (rw [this];simp)
      | (conv=>lhs;rw [show (List.range (min n len))=(List.range (min n len)).map id by simp]
         simp)
      | (apply List.ext_getElem <;> simp)
  · have:min n len=0:=by lia
    rw [this,if_neg (by lia)];simp
theorem bq0 (x:Str) (n:Nat):Txt.slice x none (some (n:Int))=⟨(x.cps.toList.take n).toArray⟩:=by
  have e:(Builtin.Str.strSliceIndices none (some (n:Int)) 1 x.length).filterMap (x.cps[·]?)=x.cps.toList.take n:=by
    rw [bi9]
    have:=StrLaws.picks x.cps.toList (min n x.length) 0 (by first | (simp [Str.length];done) | (simp [Str.length];exact Nat.min_le_right ..))
    simp only [Nat.zero_add,List.map_id',List.drop_zero] at this
    have h2:x.cps.toList.take (min n x.length)=x.cps.toList.take n:=by
      rw [List.take_eq_take_iff];first | (simp [Str.length];done) | (simp [Str.length];lia)
    rw [← h2,← this];simp
  unfold Txt.slice
  split
  · rename_i h
    simp only [beq_self_eq_true,Bool.true_and,beq_iff_eq] at h
    rw [bi9] at h
    simp at h
    obtain ⟨⟨l⟩⟩:=x
    simp [Str.length] at h⊢
    exact (List.take_of_length_le (by lia)).symm
  · rw [e]
theorem dn3 {s1:Shared} {c:Prop} [Decidable c] {y z r:Str} {t:Tok} (g:Gr B s.heap B s1.heap) (m:n7 s s1) (hs:0 < s1.toks) (ht:by0 t) (e:(if c then y else z)=r) (hz:r.length≤sizeLine) :
    (if c then Made.val (.str y t) else Made.str z).post (EvP prog w B s (.str r)) s1:=by
  by_cases hc:c
  · rw [if_pos hc] at e⊢
    subst e
    exact EvP.after g m (EvP.str g.keep ht (Nat.le_refl _))
  · rw [if_neg hc] at e⊢
    subst e
    exact ⟨hz,EvP.after g m (EvP.str g.keep trivial (Nat.le_succ _))⟩
theorem ay6 (kp:i9 B s.heap) (vl vu vk:Value) {n:Nat} (hn:s.toks≤n):Gr B s.heap B (s.heap.push { cls:=.type "slice",data:=.fields #[vl,vu,vk] })∧n7 s { s with heap:=s.heap.push { cls:=.type "slice",data:=.fields #[vl,vu,vk] },toks:=n }:=
  ⟨Gr.heap kp fun ξ ξ e=>Heap.get?_push_of_some _ e,rfl,rfl,hn⟩
theorem du0 {value slice:Expr} {x y d:D} (kp:i9 B s.heap) (hs:0 < s.toks) (ha:f6 prog w s.heap B x a) (hb:f6 prog w s.heap B y b) (h:aw9 x y=some d) :
    wpAny (model prog w) A (subscriptTail value slice a (.ref s.heap.objs.size)) (EvP prog w B s d) E { s with heap:=s.heap.push { cls:=.type "slice",data:=.fields #[.none,b,.none] } }:=by
  obtain ⟨g,m⟩:=ay6 kp .none b .none (Nat.le_refl s.toks)
  obtain ⟨i,hi,q⟩:=a6 h
  obtain rfl:=af9 hi
  obtain ⟨t,ht,rfl⟩:=hb
  rcases ai9 q with q | q
  · obtain ⟨l,hl,q⟩:=a6 q
    obtain rfl:=l6 hl
    obtain ⟨hc,q⟩:=g6 q
    obtain ⟨n,rfl⟩:=Int.eq_ofNat_of_zero_le (of_decide_eq_true (b8 hc).1)
    cases q
    obtain ⟨l,o,vs,rfl,ho,hsq,hr⟩:=ha
    have hl:=(hsq.isList ho).push { cls:=.type "slice",data:=.fields #[.none,.int n t,.none] }
    refine aj9 (Heap.IsList.typeIs (s:={ s with heap:=s.heap.push _ }) hl) slot_list_getitem.lookup ?_
    refine wpAny_getItem_list_slice hl (Heap.IsSliceOf.new ..) .none (.int _ t) .none (by decide) ?_ (by rw [List.size_toArray,hr.length];exact ai5 (b8 (b8 hc).2).2)
    rw [slicePick_upto']
    exact EvP.after g m (FrP.ev (FrP.list g.keep (Nat.le_refl _) (hr.take n)))
  · obtain ⟨l,hl,q⟩:=a6 q
    obtain rfl:=n9 hl
    obtain ⟨hc,q⟩:=g6 q
    obtain ⟨n,rfl⟩:=Int.eq_ofNat_of_zero_le (of_decide_eq_true (b8 hc).1)
    cases q
    obtain ⟨u,hu,rfl⟩:=ha
    refine aj9 (T:="str") (typeIs_str _ _ u) F.slot_str_getitem.lookup ?_
    refine wpAny_getItem_str_slice (l:=none) (u:=some ((n:Int),t)) (st:=none) ⟨_,Heap.get?_push_size _ rfl,rfl,rfl⟩ rfl ?_
    refine dn3 g m hs hu (bq0 _ n) (Nat.le_trans ?_ (ai5 (b8 (b8 hc).2).2))
    simp [Str.length];exact Nat.min_le_right ..
theorem dy3 {value slice:Expr} {x y d:D} (kp:i9 B s.heap) (hs:0 < s.toks) (ha:f6 prog w s.heap B x a) (hb:f6 prog w s.heap B y b) (h:bj0 x y=some d) :
    wpAny (model prog w) A (subscriptTail value slice a (.ref s.heap.objs.size)) (EvP prog w B s d) E { s with heap:=s.heap.push { cls:=.type "slice",data:=.fields #[b,.none,.none] } }:=by
  obtain ⟨g,m⟩:=ay6 kp b .none .none (Nat.le_refl s.toks)
  obtain ⟨i,hi,q⟩:=a6 h
  obtain rfl:=af9 hi
  obtain ⟨t,ht,rfl⟩:=hb
  obtain ⟨l,hl,q⟩:=a6 q
  obtain rfl:=l6 hl
  obtain ⟨hc,q⟩:=g6 q
  obtain ⟨n,rfl⟩:=Int.eq_ofNat_of_zero_le (of_decide_eq_true (b8 hc).1)
  cases q
  obtain ⟨l,o,vs,rfl,ho,hsq,hr⟩:=ha
  have hl:=(hsq.isList ho).push { cls:=.type "slice",data:=.fields #[.int n t,.none,.none] }
  refine aj9 (Heap.IsList.typeIs (s:={ s with heap:=s.heap.push _ }) hl) slot_list_getitem.lookup ?_
  refine wpAny_getItem_list_slice hl (Heap.IsSliceOf.new ..) (.int _ t) .none .none (by decide) ?_ (by rw [List.size_toArray,hr.length];exact ai5 (b8 (b8 hc).2).2)
  rw [slicePick_from']
  exact EvP.after g m (FrP.ev (FrP.list g.keep (Nat.le_refl _) (hr.drop n)))
end
end
section
open PySem.Calls PySem.SeqAt
structure t9 (env:Env) (sc:Scope):Prop where
  kind:env.scope.kind = .function
  globals:env.globals=mainGlobals
  builtins:env.builtins=builtinsNs
  loc:∀ x,sc.names.lookup x=some .local→env.kindOf x=some .local
  cell:∀ x,sc.names.lookup x=some .cell∨sc.names.lookup x=some .free→env.kindOf x=some .cell∨env.kindOf x=some .free
  glob:∀ x,sc.names.lookup x=some .globalImplicit→env.kindOf x=some .globalImplicit
  cells:∀ x,sc.names.lookup x=some .cell∨sc.names.lookup x=some .free→∃ c,env.cells.lookup x=some c
inductive At (env:Env) (h:Heap) (x:Str) (v:Value):Prop
  | loc (m:Str→Option Value):env.kindOf x=some .local→h.Ns env.locals m→m x=some v→At env h x v
  | cell (c:Addr):env.kindOf x=some .cell∨env.kindOf x=some .free→env.cells.lookup x=some c→h.IsCell c (some v)→At env h x v
theorem At.keeps {env:Env} {h h':Heap} {x:Str} {v:Value} (k:Old h h'):At env h x v→At env h' x v
  | .loc m e hn hv=>.loc m e (k.ns hn) hv
  | .cell c e hc hv=>.cell c e hc (k.cell hv)
theorem At.load {M:Model} {A:Around} {E:Value→Shared→Prop} {s:Shared} {env:Env} {x:Str} {v:Value} {Q:Value→Shared→Prop} {pos:Pos} (hk:env.scope.kind = .function) (hx:ax8 x=true)
    (a:At env s.heap x v) (h:Q v s):wpAny M A (PySem.eval (.Name x pos) env) Q E s:=by
  have h1:(x == ("__debug__":Str))=false:=by
    have:=(Bool.and_eq_true_iff.mp hx).1
    simpa [bne] using this
  have h2:(x == ("__classdict__":Str))=false:=by
    have:=(Bool.and_eq_true_iff.mp hx).2
    simpa [bne] using this
  refine wpAny_Name ?_ h1
  cases a with
  | loc m e hn hv=>exact wpAny_loadName_local hk e hn hv h
  | cell c e hc hv=>
    rcases e with e | e
    · exact wpAny_loadName_cell hk e hc hv h
    · exact wpAny_loadName_free hk e hc hv h h2
inductive es8 (B:FM) (h:Heap) (e:Env):Prop
  | mk (h1:e.scope.kind≠.module) (f o es ep:_) (h2:e.frame=some f) (h3:h.get? f=some o) (h4:o.data = .dict es ep) (h5:o.cls≠.type "dict") (h6:B f=none)
noncomputable def bn8 (B:FM) (h:Heap) (l:List Env):Prop:=∀ e∈l,es8 B h e
inductive Stk (A:Around) (B:FM) (h:Heap):Prop
  | mk (l:_) (h1:A.frames=some l) (h2:bn8 B h l)
theorem dw6 {B B':FM} {h h':Heap} (g:Gr B h B' h') {a:Addr} (hb:B a=none) (he:h.get? a≠none):B' a=none:=by
  cases e:B' a with
  | none=>rfl
  | some o=>
    rcases g.new a o e with q | q
    · rw [hb] at q;cases q
    · exact absurd q he
theorem bn8.step {B B':FM} {h h':Heap} {l:List Env} (x:bn8 B h l) (g:Gr B h B' h'):bn8 B' h' l:=fun e he=>by
  obtain ⟨k,f,o,es,ep,q1,q2,q3,q4,q5⟩:=x e he
  obtain ⟨o',p1,p2,p3⟩:=(g.old f o q2).ex
  exact ⟨k,f,o',es,ep,q1,p1,p3.trans q3,by rw [p2];exact q4,dw6 g q5 (by rw [q2];simp)⟩
theorem Stk.step {A:Around} {B B':FM} {h h':Heap} (x:Stk A B h) (g:Gr B h B' h'):Stk A B' h':=let ⟨l,e,q⟩:=x;⟨l,e,q.step g⟩
section
variable (prog:Program) (w:World)
inductive en5 (prog:Program) (w:World) (env:Env) (h:Heap) (B:FM) (m:af4) (d:D) (x:Str):Prop
  | mk (v:Value) (a:At env h x v) (t:f6 prog w h B d v) (f:m = .fr→Rd prog w B d v):en5 prog w env h B m d x
structure Rdr (env:Env) (sc:Scope) (r:Rho) (B:FM) (h:Heap):Prop where
  keep:i9 B h
  vars:∀ x i m d,d6 sc x=some i→r.get i=some (m,d)→en5 prog w env h B m d x
structure Glb (h₀:Heap) (mg mb:Str→Option Value):Prop where
  g:h₀.Ns mainGlobals mg
  b:h₀.Ns builtinsNs mb
  nolimit:h₀.NoLimit
  bi:∀ x v,(x,v)∈([("len",.builtin "len"),("sorted",.builtin "sorted"),("min",.builtin "min"),("max",.builtin "max"),("sum",.builtin "sum"),("divmod",.builtin "divmod"),("isinstance",.builtin "isinstance"),
    ("range",.type "range"),("enumerate",.type "enumerate"),("zip",.type "zip"),("tuple",.type "tuple"),("map",.type "map"),("set",.type "set"),("bytes",.type "bytes"),("type",.type "type"),("issubclass",.builtin "issubclass"),("str",.type "str"),("IndexError",.type "IndexError")]:List (Str×Value))→mg x=none∧mb x=some v
structure Ok (h₀:Heap) (k:Nat) (A:Around) (env:Env) (sc:Scope) (r:Rho) (B:FM) (s:Shared):Prop where
  rm:Rm k A
  eok:t9 env sc
  rd:Rdr prog w env sc r B s.heap
  base:∀ a o,h₀.get? a=some o→B a=some o
  toks:0 < s.toks
  cellE:∀ x c,env.cells.lookup x=some c→∃ v,s.heap.IsCell c v
  stk:Stk A B s.heap
  frE:∀ f,env.frame=some f→s.heap.get? f≠none
end
section
variable {w:World} {h₀:Heap} {mg mb:Str→Option Value} {k:Nat} {A:Around} {env:Env} {sc:Scope} {r:Rho} {B:FM} {s:Shared} {E:Value→Shared→Prop}
theorem Rdr.step {B':FM} {h h':Heap} (x:Rdr prog w env sc r B h) (g:Gr B h B' h'):Rdr prog w env sc r B' h' where
  keep:=g.keep
  vars:=fun y i m d hs hr=>by
    obtain ⟨v,a,t,f⟩:=x.vars y i m d hs hr
    exact ⟨v,a.keeps g.old,t.mono g.old g.le,fun q=>(f q).mono g.le⟩
theorem Ok.step {B':FM} {s':Shared} (x:Ok prog w h₀ k A env sc r B s) (g:Gr B s.heap B' s'.heap) (m:n7 s s'):Ok prog w h₀ k A env sc r B' s':=
  ⟨x.rm,x.eok,x.rd.step g,fun a o e=>g.le _ _ (x.base a o e),Nat.lt_of_lt_of_le x.toks m.toks,fun y c e=>let ⟨v,q⟩:=x.cellE y c e;⟨v,g.old.cell q⟩,x.stk.step g,fun f hf=>g.old.ex (x.frE f hf)⟩
theorem Ok.keep (x:Ok prog w h₀ k A env sc r B s):i9 B s.heap:=x.rd.keep
theorem Ok.old (x:Ok prog w h₀ k A env sc r B s):∀ a o,h₀.get? a=some o→s.heap.get? a=some o:=fun a o e=>x.keep a o (x.base a o e)
theorem Ok.big (G:Glb h₀ mg mb) (x:Ok prog w h₀ k A env sc r B s):s.heap.objs.size≠sysModules:=by
  obtain ⟨o,_,_,ho,_⟩:=G.g
  have h1:3 < s.heap.objs.size:=Heap.lt_size (x.old _ _ ho)
  intro e
  have h2:s.heap.objs.size=1:=e
  lia
theorem Ok.u {n:Nat} (x:Ok prog w h₀ k A env sc r B s) (h:n≤199):A.units+n < cLine:=x.rm.u n h
variable (w h₀ k) (calls:String→List D→Option D)
noncomputable def i8 (sc:Scope) (e:PySem.Expr) (ir:IR):Prop:=
  ∀ ⦃A E s env r B d⦄,Ok prog w h₀ k A env sc r B s→eval calls ir r=some d→wpAny (model prog w) A (PySem.eval e env) (EvP prog w B s d) E s
noncomputable def ac2 (sc:Scope) (e:PySem.Expr) (ir:IR):Prop:=
  ∀ ⦃A E s env r B d⦄,Ok prog w h₀ k A env sc r B s→look calls ir r=some d→wpAny (model prog w) A (PySem.eval e env) (LkP prog w B s d) E s
noncomputable def ap7 (sc:Scope) (e:PySem.Expr) (ir:IR):Prop:=
  ∀ ⦃A E s env r B b⦄,Ok prog w h₀ k A env sc r B s→ac7 calls ir r=some b→
    wpAny (model prog w) A (isTrue e env (PySem.eval e env)) (fun v s'=>v=b∧∃ B',Gr B s.heap B' s'.heap∧n7 s s') E s
end
end
section
open PySem.Calls PySem.SeqAt
section
variable {w:World} {h₀:Heap} {mg mb:Str→Option Value} {k:Nat} {calls:String→List D→Option D} {sc:Scope}
theorem bv4 {b:Bool} {kd:Nat} {pos:Pos}:i8 w h₀ k calls sc (.Constant (.bool b) kd pos) (.bool b):=fun A E s env r B d ok h=>by
  cases h
  exact wpAny_pure (EvP.same ok.keep (rfl))
theorem b7 {i:Int} {kd:Nat} {pos:Pos}:i8 w h₀ k calls sc (.Constant (.int i) kd pos) (.int i):=fun A E s env r B d ok h=>by
  cases h
  exact wpAny_Constant_int (EvP.int ok.keep trivial (Nat.le_succ _))
theorem a8 {i:Str} {kd:Nat} {pos:Pos}:i8 w h₀ k calls sc (.Constant (.str i) kd pos) (.str i):=fun A E s env r B d ok h=>by
  cases h
  exact Constant_str (EvP.str ok.keep trivial (Nat.le_succ _))
theorem cg1 {i:Int} {kd:Nat} {p pos:Pos}:i8 w h₀ k calls sc (.UnaryOp .USub (.Constant (.int i) kd p) pos) (.int (-i)):=fun A E s env r B d ok h=>by
  cases h
  show wpAny _ _ (do let v ← PySem.eval (.Constant (.int i) kd p) env;standAt pos;holding [v] (unaryOp .USub v)) _ _ _
  refine wpAny_bind (wpAny_Constant_int (wpAny_bind (wpAny_standAt (wpAny_holding (P.neg_int ?_)))))
  exact EvP.int (s:=s) ok.keep trivial (by show s.toks≤s.toks+1+1;lia)
theorem j3 {x:Str} {i:Nat} (h:d6 sc x=some i):ax8 x=true:=by
  unfold d6 at h
  split at h <;> first | (split at h <;> first | assumption | cases h) | cases h
theorem ay3 {s:Slot} {d:D} (h:bt6 s=some d):s=some (.fr,d):=by
  cases s with
  | none=>exact nomatch h
  | some p=>
  obtain ⟨m,e⟩:=p
  cases m with
  | fr=>exact congrArg (fun d=>some (af4.fr,d)) (Option.some.inj h)
  | own | lock | cap=>exact nomatch h
theorem ar8 {s:Slot} {d:D} (h:ao4 s=some d):s=some (.own,d):=by
  cases s with
  | none=>exact nomatch h
  | some p=>
  obtain ⟨m,e⟩:=p
  cases m with
  | own=>exact congrArg (fun d=>some (af4.own,d)) (Option.some.inj h)
  | fr | lock | cap=>exact nomatch h
theorem d9 {x:Str} {i:Nat} {pos:Pos} (hs:d6 sc x=some i):i8 w h₀ k calls sc (.Name x pos) (.var i):=fun A E s env r B d ok h=>by
  obtain ⟨v,a,t,f⟩:=ok.rd.vars x i _ _ hs (ay3 h)
  exact a.load ok.eok.kind (j3 hs) (EvP.same ok.keep (f rfl))
theorem b6 {x:Str} {i:Nat} {pos:Pos} (hs:d6 sc x=some i):ac2 w h₀ k calls sc (.Name x pos) (.var i):=fun A E s env r B d ok h=>by
  obtain ⟨⟨m,d'⟩,e,rfl⟩:=ab5 h
  obtain ⟨v,a,t,f⟩:=ok.rd.vars x i _ _ hs e
  exact a.load ok.eok.kind (j3 hs) ⟨B,Gr.refl ok.keep,t,.refl s⟩
theorem cb8 {ir:IR} {r:Rho} {d:D} (hv:ir.v=none) (h:look calls ir r=some d):eval calls ir r=some d:=by
  unfold look at h
  rw [hv] at h
  exact h
theorem i8.lk {e:PySem.Expr} {ir:IR} (h:i8 w h₀ k calls sc e ir) (hv:ir.v=none):ac2 w h₀ k calls sc e ir:=fun A E s env r B d ok hd=>
  wpAny_mono (h ok (cb8 hv hd)) (fun ξ ξ q=>q.look) fun ξ ξ e=>e
theorem k8 {e:PySem.Expr} {ir:IR} {A:Around} {E:Value→Shared→Prop} {s:Shared} {env:Env} {r:Rho} {B:FM} {d:D} {Q:Value→Shared→Prop} (h:ac2 w h₀ k calls sc e ir) (ok:Ok prog w h₀ k A env sc r B s)
    (hd:look calls ir r=some d) (hQ:∀ v s' B',Gr B s.heap B' s'.heap→n7 s s'→f6 prog w s'.heap B' d v→Ok prog w h₀ k A env sc r B' s'→Q v s'):wpAny (model prog w) A (PySem.eval e env) Q E s:=
  wpAny_mono (h ok hd) (fun v s' ⟨B',g,t,m⟩=>hQ v s' B' g m t (ok.step g m)) fun ξ ξ e=>e
theorem ak4 {e:PySem.Expr} {ir:IR} {A:Around} {E:Value→Shared→Prop} {s:Shared} {env:Env} {r:Rho} {B:FM} {d:D} {Q:Value→Shared→Prop} (h:i8 w h₀ k calls sc e ir) (ok:Ok prog w h₀ k A env sc r B s)
    (hd:eval calls ir r=some d) (hQ:∀ v s' B',Gr B s.heap B' s'.heap→n7 s s'→Rd prog w B' d v→Ok prog w h₀ k A env sc r B' s'→Q v s'):wpAny (model prog w) A (PySem.eval e env) Q E s:=
  wpAny_mono (h ok hd) (fun v s' ⟨B',g,t,m⟩=>hQ v s' B' g m t (ok.step g m)) fun ξ ξ e=>e
theorem w8 {l r':PySem.Expr} {op:Operator} {a b:IR} {pos:Pos} (hl:ac2 w h₀ k calls sc l a) (hr:ac2 w h₀ k calls sc r' b):i8 w h₀ k calls sc (.BinOp l op r' pos) (.bin op a b):=fun A E s env r B d ok h=>by
  obtain ⟨x,hx,h⟩:=a6 h
  obtain ⟨y,hy,h⟩:=a6 h
  refine wpAny_BinOp (k8 hl ok hx fun va s1 B1 g1 m1 t1 ok1=>k8 hr ok1 hy fun vb s2 B2 g2 m2 t2 ok2=>?_)
  exact wpAny_mono (eg3 ok2.keep ok2.toks (t1.mono g2.old g2.le) t2 h) (fun v s' q=>(q.after g2 m2).after g1 m1) fun ξ ξ e=>e
theorem dr5 {l r':PySem.Expr} {op:CmpOp} {a b:IR} {pos:Pos} (hl:ac2 w h₀ k calls sc l a) (hr:ac2 w h₀ k calls sc r' b) (hm:behindInMarks op r'=false):i8 w h₀ k calls sc (.Compare l [op] [r'] pos) (.cmp op a b):=fun A E s env r B d ok h=>by
  obtain ⟨q,hq,rfl⟩:=ab5 h
  obtain ⟨x,hx,hq⟩:=a6 hq
  obtain ⟨y,hy,hq⟩:=a6 hq
  refine wpAny_Compare1 (k8 hl ok hx fun va s1 B1 g1 m1 t1 ok1=>k8 hr ok1 hy fun vb s2 B2 g2 m2 t2 ok2=>?_) hm
  exact wpAny_mono (dr3 ok2.keep ok2.rm (t1.mono g2.old g2.le) t2 hq) (fun v s' q=>(q.after g2 m2).after g1 m1) fun ξ ξ e=>e
noncomputable def TsP (B:FM) (s:Shared) (b:Bool) (v:Bool) (s':Shared):Prop:=v=b∧∃ B',Gr B s.heap B' s'.heap∧n7 s s'
theorem cj1 {s s1:Shared} {A:Around} {E':Value→Shared→Prop} {B B1:FM} {v:Value} {d:D} {b:Bool} (g:Gr B s.heap B1 s1.heap) (m:n7 s s1) (t:f6 prog w s1.heap B1 d v) (h:bh8 d=some b) :
    wpAny (model prog w) A (truthy v) (TsP B s b) E' s1:=
  wpAny_mono (dm7 g.keep t h) (fun _ _ ⟨e,g',m'⟩=>⟨e,B1,g.trans g',m.trans m'⟩) fun ξ ξ e=>e
noncomputable def bh9 (e:PySem.Expr):Bool:=e.ctorIdx != 3 && (e.ctorIdx != 0 && (e.ctorIdx != 5 && e.ctorIdx != 15))
set_option tactic.hygienic true in
theorem ap3 {e:PySem.Expr} {env:Env} {A:Around} {E:Value→Shared→Prop} {s:Shared} {Q:Bool→Shared→Prop} (hp:bh9 e=true)
    (h:wpAny (model prog w) A (PySem.eval e env) (fun v s'=>wpAny (model prog w) A (truthy v) Q E s') E s):wpAny (model prog w) A (isTrue e env (PySem.eval e env)) Q E s:=by
  have:isTrue e env (PySem.eval e env)=(do let v ← PySem.eval e env;standAt e.pos;holding [v] (truthy v)):=by
    cases e <;> first | rfl | cases hp
  rw [this]
  exact wpAny_bind (wpAny_mono h (fun v s' h'=>wpAny_bind (wpAny_standAt (wpAny_holding h'))) fun ξ ξ e=>e)
noncomputable def bd2 (ir:IR):Bool:=!ir.ao && (ir.v.isNone || !ir.bl)
theorem cw3 {ir:IR} {r:Rho} {b:Bool} (hb:ir.bl=true) (h:ac7 calls ir r=some b):eval calls ir r=some (.bool b):=by
  unfold ac7 at h
  unfold eval
  rw [hb] at h⊢
  exact congrArg (Option.map PyData.bool) h
theorem dh3 {ir:IR} {r:Rho} {b:Bool} (hp:bd2 ir=true) (h:ac7 calls ir r=some b):dl6 (look calls ir r) bh8 b:=by
  obtain ⟨h1,h2⟩:=b8 hp
  cases hb:ir.bl with
  | false=>
    unfold ac7 at h
    rw [hb,(Bool.not_eq_true' _).mp h1] at h
    exact a6 h
  | true=>
    rw [hb] at h2
    have hv:ir.v=none:=by
      cases hv:ir.v with
      | none=>rfl
      | some i=>rw [hv] at h2;cases h2
    refine ⟨.bool b,?_,rfl⟩
    unfold look
    rw [hv]
    exact cw3 hb h
theorem dg2 {e:PySem.Expr} {ir:IR} (h:ac2 w h₀ k calls sc e ir) (hp:bh9 e=true) (h1:bd2 ir=true):ap7 w h₀ k calls sc e ir:=fun A E s env r B b ok hd=>by
  obtain ⟨d,hd,hb⟩:=dh3 h1 hd
  exact ap3 hp (k8 h ok hd fun v s' B' g m t ξ=>cj1 g m t hb)
theorem i5 {l r':PySem.Expr} {op:CmpOp} {a b:IR} {pos:Pos} (hl:ac2 w h₀ k calls sc l a) (hr:ac2 w h₀ k calls sc r' b) (hm:behindInMarks op r'=false):ap7 w h₀ k calls sc (.Compare l [op] [r'] pos) (.cmp op a b):=fun A E s env r B b ok h=>by
  obtain ⟨x,hx,h⟩:=a6 h
  obtain ⟨y,hy,h⟩:=a6 h
  refine wpAny_isTrue_Compare1 (k8 hl ok hx fun va s1 B1 g1 m1 t1 ok1=>k8 hr ok1 hy fun vb s2 B2 g2 m2 t2 ok2=>?_) hm
  refine wpAny_mono (dr3 ok2.keep ok2.rm (t1.mono g2.old g2.le) t2 h) (fun v s' q'=>?_) fun ξ ξ e=>e
  obtain ⟨B3,g3,t3,m3⟩:=q'
  exact cj1 (g1.trans (g2.trans g3)) (m1.trans (m2.trans m3)) (t3.top g3.keep) rfl
theorem dk4 {x:PySem.Expr} {a:IR} {pos:Pos} (h:ap7 w h₀ k calls sc x a):ap7 w h₀ k calls sc (.UnaryOp .Not x pos) (.not a):=fun A E s env r B b ok hd=>by
  obtain ⟨q,hq,rfl⟩:=ab5 hd
  show wpAny _ _ (do return !(← isTrue x env (PySem.eval x env))) _ _ _
  refine wpAny_bind (wpAny_mono (h ok hq) (fun v s' q'=>wpAny_pure ?_) fun ξ ξ e=>e)
  obtain ⟨rfl,B',g,m⟩:=q'
  exact ⟨rfl,B',g,m⟩
theorem co3 {c a b:PySem.Expr} {ic ia ib:IR} {pos:Pos} (hc:ap7 w h₀ k calls sc c ic) (ha:i8 w h₀ k calls sc a ia) (hb:i8 w h₀ k calls sc b ib):i8 w h₀ k calls sc (.IfExp c a b pos) (.ite ic ia ib):=fun A E s env r B d ok hd=>by
  obtain ⟨t,ht,hd⟩:=a6 hd
  show wpAny _ _ (do if ← isTrue c env (PySem.eval c env) then PySem.eval a env else PySem.eval b env) _ _ _
  refine wpAny_bind (wpAny_mono (hc ok ht) (fun v s1 q'=>?_) fun ξ ξ e=>e)
  obtain ⟨rfl,B1,g1,m1⟩:=q'
  cases v
  · exact wpAny_mono (hb (ok.step g1 m1) hd) (fun v s' q=>q.after g1 m1) fun ξ ξ e=>e
  · exact wpAny_mono (ha (ok.step g1 m1) hd) (fun v s' q=>q.after g1 m1) fun ξ ξ e=>e
inductive a9 {α β:Type} (R:α→β→Prop):List α→List β→Prop
  | nil:a9 R [] []
  | cons {a b as bs}:R a b→a9 R as bs→a9 R (a :: as) (b :: bs)
theorem a9.mono {α β:Type} {R S:α→β→Prop} (h:∀ a b,R a b→S a b) {as:List α} {bs:List β} (q:a9 R as bs):a9 S as bs:=by
  induction q with
  | nil=>exact .nil
  | cons x y ih=>exact .cons (h _ _ x) ih
theorem ek6 {es:List PySem.Expr} {irs:List IR} {A:Around} {E:Value→Shared→Prop} {s:Shared} {env:Env} {r:Rho} {B:FM} {b:Bool} (h:a9 (ap7 w h₀ k calls sc) es irs) (ok:Ok prog w h₀ k A env sc r B s) (hd:bd6 calls irs r=some b) :
    wpAny (model prog w) A (allTrue .And es env) (TsP B s b) E s:=by
  induction h generalizing s B with
  | nil=>exact wpAny_pure ⟨Option.some.inj hd,B,Gr.refl ok.keep,.refl s⟩
  | @cons x ir xs irs hx _ ih=>
    obtain ⟨t,ht,hd⟩:=a6 hd
    show wpAny _ _ (do match BoolOp.And,← isTrue x env (PySem.eval x env) with | .And,false=>pure false | .Or,true=>pure true | _,_=>allTrue .And xs env) _ _ _
    refine wpAny_bind (wpAny_mono (hx ok ht) (fun v s1 q'=>?_) fun ξ ξ e=>e)
    obtain ⟨rfl,B1,g1,m1⟩:=q'
    cases v
    · cases hd
      exact wpAny_pure ⟨rfl,B1,g1,m1⟩
    · exact wpAny_mono (ih (ok.step g1 m1) hd) (fun v s' ⟨e,B',g,m⟩=>⟨e,B',g1.trans g,m1.trans m⟩) fun ξ ξ e=>e
theorem er6 {es:List PySem.Expr} {irs:List IR} {A:Around} {E:Value→Shared→Prop} {s:Shared} {env:Env} {r:Rho} {B:FM} {b:Bool} (h:a9 (ap7 w h₀ k calls sc) es irs) (ok:Ok prog w h₀ k A env sc r B s) (hd:orE calls irs r=some b) :
    wpAny (model prog w) A (allTrue .Or es env) (TsP B s b) E s:=by
  induction h generalizing s B with
  | nil=>exact wpAny_pure ⟨Option.some.inj hd,B,Gr.refl ok.keep,.refl s⟩
  | @cons x ir xs irs hx _ ih=>
    obtain ⟨t,ht,hd⟩:=a6 hd
    show wpAny _ _ (do match BoolOp.Or,← isTrue x env (PySem.eval x env) with | .And,false=>pure false | .Or,true=>pure true | _,_=>allTrue .Or xs env) _ _ _
    refine wpAny_bind (wpAny_mono (hx ok ht) (fun v s1 q'=>?_) fun ξ ξ e=>e)
    obtain ⟨rfl,B1,g1,m1⟩:=q'
    cases v
    · exact wpAny_mono (ih (ok.step g1 m1) hd) (fun v s' ⟨e,B',g,m⟩=>⟨e,B',g1.trans g,m1.trans m⟩) fun ξ ξ e=>e
    · cases hd
      exact wpAny_pure ⟨rfl,B1,g1,m1⟩
theorem ek4 {es:List PySem.Expr} {irs:List IR} {pos:Pos} (h:a9 (ap7 w h₀ k calls sc) es irs):ap7 w h₀ k calls sc (.BoolOp .Or es pos) (.or irs):=fun A E s env r B b ok hd=>er6 h ok hd
theorem cx2 {es:List PySem.Expr} {irs:List IR} {pos:Pos} (h:a9 (ap7 w h₀ k calls sc) es irs):ap7 w h₀ k calls sc (.BoolOp .And es pos) (.andT irs):=fun A E s env r B b ok hd=>ek6 h ok hd
noncomputable def av6 (ir:IR):Bool:=ir.bl
theorem br3 {b:Bool}:truthy (.bool b)=pure b:=rfl
theorem dc8 {op:BoolOp} {es:List PySem.Expr} {irs:List IR} {A:Around} {E:Value→Shared→Prop} {s:Shared} {env:Env} {r:Rho} {B:FM} {b:Bool} {pos:Pos} (h:a9 (i8 w h₀ k calls sc) es irs) (hb:irs.all av6=true)
    (hne:es≠[]) (ok:Ok prog w h₀ k A env sc r B s) (hd:(match op with | .And=>bd6 calls irs r | .Or=>orE calls irs r)=some b) :
    wpAny (model prog w) A (boolOp pos op (evalEach es env)) (EvP prog w B s (.bool b)) E s:=by
  induction h generalizing s B b with
  | nil=>exact absurd rfl hne
  | @cons x ir xs irs hx hr ih=>
    have hb1:av6 ir=true∧irs.all av6=true:=by simpa using hb
    have step:∃ t,ac7 calls ir r=some t∧(match op,t with | .And,false=>b=false | .Or,true=>b=true | _,_=>(match op with | .And=>bd6 calls irs r | .Or=>orE calls irs r)=some b):=by
      cases op
      · obtain ⟨t,ht,hd⟩:=a6 hd
        refine ⟨t,ht,?_⟩
        cases t
        · cases hd;rfl
        · exact hd
      · obtain ⟨t,ht,hd⟩:=a6 hd
        refine ⟨t,ht,?_⟩
        cases t
        · exact hd
        · cases hd;rfl
    obtain ⟨t,ht,hd'⟩:=step
    have he:=cw3 hb1.1 ht
    cases hr with
    | nil=>
      have:b=t:=by
        cases op <;> cases t <;> first | exact hd' | exact (Option.some.inj hd').symm
      subst this
      show wpAny _ _ (PySem.eval x env) _ _ _
      exact hx ok he
    | @cons y ir2 ys irs2 hy hys=>
      show wpAny _ _ (do let v ← PySem.eval x env;standAt pos;let t ← holding [v] (truthy v);match op,t with | .And,false | .Or,true=>pure v | _,_=>boolOp pos op (evalEach (y :: ys) env)) _ _ _
      refine wpAny_bind (ak4 hx ok he fun v s1 B1 g1 m1 r1 ok1=>wpAny_bind (wpAny_standAt (wpAny_bind (wpAny_holding ?_))))
      obtain rfl:=r1
      rw [br3]
      refine wpAny_pure ?_
      have fin:=fun (b:Bool) q=>wpAny_mono (ih (b:=b) hb1.2 (by simp) ok1 q) (fun v s' q=>EvP.after g1 m1 q) fun ξ ξ e=>e
      cases op <;> cases t <;> simp only at hd'⊢
      · subst hd';exact wpAny_pure ⟨B1,g1,rfl,m1⟩
      · exact fin _ hd'
      · exact fin _ hd'
      · subst hd';exact wpAny_pure ⟨B1,g1,rfl,m1⟩
theorem eh5 {es:List PySem.Expr} {irs:List IR} {pos:Pos} (h:a9 (i8 w h₀ k calls sc) es irs) (hb:irs.all av6=true) (hne:es≠[]):i8 w h₀ k calls sc (.BoolOp .And es pos) (.and irs):=fun A E s env r B d ok hd=>by
  obtain ⟨b,hq,rfl⟩:=ab5 hd
  exact dc8 (op:=.And) h hb hne ok hq
end
end
section
open PySem.Calls PySem.SeqAt
section
variable {w:World} {h₀:Heap} {mg mb:Str→Option Value} {k:Nat} {calls:String→List D→Option D} {sc:Scope}
noncomputable def m8 (e:PySem.Expr):Bool:=e.ctorIdx != 22
theorem c9 {e:PySem.Expr} {rest:List PySem.Expr} {env:Env} (h:m8 e=true):starEach (e :: rest) env=(false,PySem.eval e env) :: starEach rest env:=by
  cases e <;> first | rfl | cases h
theorem j6 {t:Sem Value} {rest:List (Bool×Sem Value)} {pos:Pos}:backTo pos ((false,t) :: rest)=(false,t) :: backTo pos rest:=rfl
theorem bh0 {es:List PySem.Expr} {irs:List IR} {A:Around} {E:Value→Shared→Prop} {s:Shared} {env:Env} {r:Rho} {B:FM} {ds:List D} {pos:Pos} {Q:List Value→Shared→Prop} (h:a9 (i8 w h₀ k calls sc) es irs) (hn:es.all m8=true)
    (ok:Ok prog w h₀ k A env sc r B s) (hd:ab8 calls irs r=some ds)
    (hQ:∀ vs s' B',Gr B s.heap B' s'.heap→n7 s s'→RdL prog w B' ds vs→Ok prog w h₀ k A env sc r B' s'→Q vs s'):wpAny (model prog w) A (spliced (backTo pos (starEach es env))) Q E s:=by
  induction h generalizing s B ds Q with
  | nil=>
    cases hd
    exact spliced_nil (hQ _ _ B (Gr.refl ok.keep) (.refl s) RdL.nil ok)
  | @cons x ir xs irs hx hr ih=>
    obtain ⟨d,h1,hd⟩:=a6 hd
    obtain ⟨ds',h2,hd⟩:=a6 hd
    cases hd
    have hn':=b8 hn
    rw [c9 hn'.1,j6]
    refine spliced_cons (ak4 hx ok h1 fun v s1 B1 g1 m1 r1 ok1=>ih hn'.2 ok1 h2 fun vs s2 B2 g2 m2 r2 ok2=>?_)
    exact hQ _ _ B2 (g1.trans g2) (m1.trans m2) (RdL.cons (r1.mono g2.le) r2) ok2
theorem cq2 {es:List PySem.Expr} {irs:List IR} {A:Around} {E:Value→Shared→Prop} {s:Shared} {env:Env} {r:Rho} {B:FM} {ds:List D} {pos:Pos} {Q:List Value→Shared→Prop} (h:a9 (ac2 w h₀ k calls sc) es irs) (hn:es.all m8=true)
    (ok:Ok prog w h₀ k A env sc r B s) (hd:ao7 calls irs r=some ds)
    (hQ:∀ vs s' B',Gr B s.heap B' s'.heap→n7 s s'→a9 (fun d v=>f6 prog w s'.heap B' d v) ds vs→Ok prog w h₀ k A env sc r B' s'→Q vs s'):wpAny (model prog w) A (spliced (backTo pos (starEach es env))) Q E s:=by
  induction h generalizing s B ds Q with
  | nil=>
    cases hd
    exact spliced_nil (hQ _ _ B (Gr.refl ok.keep) (.refl s) .nil ok)
  | @cons x ir xs irs hx hr ih=>
    obtain ⟨d,h1,hd⟩:=a6 hd
    obtain ⟨ds',h2,hd⟩:=a6 hd
    cases hd
    have hn':=b8 hn
    rw [c9 hn'.1,j6]
    refine spliced_cons (k8 hx ok h1 fun v s1 B1 g1 m1 r1 ok1=>ih hn'.2 ok1 h2 fun vs s2 B2 g2 m2 r2 ok2=>?_)
    exact hQ _ _ B2 (g1.trans g2) (m1.trans m2) (.cons (r1.mono g2.old g2.le) r2) ok2
theorem cf2 {es:List PySem.Expr} {irs:List IR} {pos:Pos} {A:Around} {E:Value→Shared→Prop} {s:Shared} {env:Env} {r:Rho} {B:FM} {d:D} (h:a9 (i8 w h₀ k calls sc) es irs) (hn:es.all m8=true) (ok:Ok prog w h₀ k A env sc r B s) (hd:eval calls (.list irs) r=some d) :
    wpAny (model prog w) A (PySem.eval (.List es pos) env) (FrP prog w B s d) E s:=by
  obtain ⟨ds,h1,hd⟩:=a6 hd
  obtain ⟨hz,hd⟩:=g6 hd
  cases hd
  refine List_ (bh0 h hn ok h1 fun vs s1 B1 g1 m1 r1 ok1=>?_)
  exact wpAny_newObj_type (FrP.after g1 m1 (FrP.list g1.keep (Nat.le_refl _) r1)) (r1.size_le hz)
theorem ad3 {es:List PySem.Expr} {irs:List IR} {pos:Pos} (h:a9 (i8 w h₀ k calls sc) es irs) (hn:es.all m8=true):i8 w h₀ k calls sc (.List es pos) (.list irs):=fun A E s env r B d ok hd=>
  wpAny_mono (cf2 h hn ok hd) (fun ξ ξ q=>q.ev) fun ξ ξ e=>e
theorem ax9 {es:List PySem.Expr} {irs:List IR} {kd:Nat} {pos:Pos} (h:a9 (i8 w h₀ k calls sc) es irs) (hn:es.all m8=true):i8 w h₀ k calls sc (.Tuple es kd pos) (.tup irs):=fun A E s env r B d ok hd=>by
  obtain ⟨ds,h1,hd⟩:=a6 hd
  obtain ⟨hz,hd⟩:=g6 hd
  cases hd
  refine Tuple_ (bh0 h hn ok h1 fun vs s1 B1 g1 m1 r1 ok1=>?_)
  exact wpAny_newObj_type (FrP.after g1 m1 (FrP.tuple g1.keep (Nat.le_refl _) r1)).ev (r1.size_le hz)
theorem n8 {v i:PySem.Expr} {a b:IR} {pos:Pos} (hv:ac2 w h₀ k calls sc v a) (hi:ac2 w h₀ k calls sc i b):i8 w h₀ k calls sc (.Subscript v i pos) (.idx a b):=fun A E s env r B d ok hd=>by
  obtain ⟨x,hx,hd⟩:=a6 hd
  obtain ⟨y,hy,hd⟩:=a6 hd
  refine Subscript_ (k8 hv ok hx fun va s1 B1 g1 m1 t1 ok1=>k8 hi ok1 hy fun vb s2 B2 g2 m2 t2 ok2=>?_)
  exact wpAny_mono (ek1 ok2.keep (t1.mono g2.old g2.le) t2 hd) (fun v s' q=>(q.after g2 m2).after g1 m1) fun ξ ξ e=>e
theorem cv1 {v:PySem.Expr} {a:IR} {kd:Nat} {p q pos:Pos} (hv:ac2 w h₀ k calls sc v a):i8 w h₀ k calls sc (.Subscript v (.UnaryOp .USub (.Constant (.int 1) kd p) q) pos) (.last a):=fun A E s env r B d ok hd=>by
  obtain ⟨x,hx,hd⟩:=a6 hd
  obtain ⟨l,hl,hd⟩:=a6 hd
  obtain rfl:=l6 hl
  · refine Subscript_ (k8 hv ok hx fun va s1 B1 g1 m1 t1 ok1=>?_)
    refine ak4 (cg1 (k:=k) (h₀:=h₀) (calls:=calls) (sc:=sc)) ok1 (show eval calls (.int (-1)) r=some (.int (-1)) from rfl) fun vb s2 B2 g2 m2 t2 ok2=>?_
    obtain ⟨t,_,rfl⟩:=t2
    exact wpAny_mono (dx1 ok2.keep (t1.mono g2.old g2.le) hd) (fun v s' q=>(q.after g2 m2).after g1 m1) fun ξ ξ e=>e
theorem af7 {A:Around} {E:Value→Shared→Prop} {s:Shared} {l u st:Value} {Q:Value→Shared→Prop} (h:Q (.ref s.heap.objs.size) { s with heap:=s.heap.push { cls:=.type "slice",data:=.fields #[l,u,st] } }) :
    wpAny (model prog w) A (newFields "slice" [l,u,st]) Q E s:=wpAny_newObj_type h
theorem as6 {v n:PySem.Expr} {a b:IR} {p pos:Pos} (hv:ac2 w h₀ k calls sc v a) (hi:ac2 w h₀ k calls sc n b):i8 w h₀ k calls sc (.Subscript v (.Slice none (some n) none p) pos) (.upto a b):=fun A E s env r B d ok hd=>by
  obtain ⟨x,hx,hd⟩:=a6 hd
  obtain ⟨y,hy,hd⟩:=a6 hd
  refine Subscript_ (k8 hv ok hx fun va s1 B1 g1 m1 t1 ok1=>?_)
  show wpAny _ _ (do let l ← (pure .none:Sem Value);let u ← holding [l] (PySem.eval n env);let st ← holding [l,u] (pure .none:Sem Value);newFields "slice" [l,u,st]) _ _ _
  refine wpAny_bind (wpAny_pure (wpAny_bind (wpAny_holding (k8 hi ok1 hy fun vb s2 B2 g2 m2 t2 ok2=>wpAny_bind (wpAny_holding (wpAny_pure (af7 ?_)))))))
  exact wpAny_mono (du0 ok2.keep ok2.toks (t1.mono g2.old g2.le) t2 hd) (fun v s' q=>(q.after g2 m2).after g1 m1) fun ξ ξ e=>e
theorem ay9 {v n:PySem.Expr} {a b:IR} {p pos:Pos} (hv:ac2 w h₀ k calls sc v a) (hi:ac2 w h₀ k calls sc n b):i8 w h₀ k calls sc (.Subscript v (.Slice (some n) none none p) pos) (.from a b):=fun A E s env r B d ok hd=>by
  obtain ⟨x,hx,hd⟩:=a6 hd
  obtain ⟨y,hy,hd⟩:=a6 hd
  refine Subscript_ (k8 hv ok hx fun va s1 B1 g1 m1 t1 ok1=>?_)
  show wpAny _ _ (do let l ← PySem.eval n env;let u ← holding [l] (pure .none:Sem Value);let st ← holding [l,u] (pure .none:Sem Value);newFields "slice" [l,u,st]) _ _ _
  refine wpAny_bind (k8 hi ok1 hy fun vb s2 B2 g2 m2 t2 ok2=>wpAny_bind (wpAny_holding (wpAny_pure (wpAny_bind (wpAny_holding (wpAny_pure (af7 ?_)))))))
  exact wpAny_mono (dy3 ok2.keep ok2.toks (t1.mono g2.old g2.le) t2 hd) (fun v s' q=>(q.after g2 m2).after g1 m1) fun ξ ξ e=>e
variable (w h₀ mg k) in
inductive ac3 (f:String) (sp:List D→Option D):Prop
  | mk (fa o fd:_) (h1:mg (Str.ofString f)=some (.ref fa)) (h2:h₀.get? fa=some o) (h3:o.data = .func fd) (h4:∀ ⦃A:Around⦄ ⦃s:Shared⦄ ⦃B:FM⦄ ⦃vs:List Value⦄ ⦃ds:List D⦄ ⦃d:D⦄,Rm k A→Stk A B s.heap→i9 B s.heap→(∀ a o,h₀.get? a=some o→B a=some o)→0 < s.toks→RdL prog w B ds vs→sp ds=some d→codeAny (model prog w) A (.call (.ref fa) ⟨vs,[]⟩) (fun r s'=>∃ v,r = .ok (.ret v)∧EvP prog w B s d v s') s)
theorem bh5 {x:Str} (hx:i4 sc x=true):sc.names.lookup x=some .globalImplicit∧(x == ("__debug__":Str))=false:=by
  obtain ⟨h1,h2⟩:=b8 hx
  exact ⟨ad9 h1,(Bool.not_eq_true' _).mp (b8 h2).1⟩
theorem bj5 {A:Around} {E:Value→Shared→Prop} {s:Shared} {env:Env} {r:Rho} {B:FM} {x:Str} {v:Value} {pos:Pos} {Q:Value→Shared→Prop} (G:Glb h₀ mg mb) (ok:Ok prog w h₀ k A env sc r B s) (hx:i4 sc x=true) (hv:mg x=some v) (h:Q v s) :
    wpAny (model prog w) A (PySem.eval (.Name x pos) env) Q E s:=by
  obtain ⟨h1,h3⟩:=bh5 hx
  exact Name_function_global ok.eok.kind (ok.eok.glob x h1) (loadGlobal_global (by rw [ok.eok.globals];exact G.g.keeps ok.old) hv h) h3
theorem t7 {A:Around} {E:Value→Shared→Prop} {s:Shared} {env:Env} {r:Rho} {B:FM} {x:Str} {v:Value} {pos:Pos} {Q:Value→Shared→Prop} (G:Glb h₀ mg mb) (ok:Ok prog w h₀ k A env sc r B s) (hx:i4 sc x=true)
    (hm:mg x=none∧mb x=some v) (h:Q v s):wpAny (model prog w) A (PySem.eval (.Name x pos) env) Q E s:=by
  obtain ⟨h1,h3⟩:=bh5 hx
  exact Name_function_global ok.eok.kind (ok.eok.glob x h1) (loadGlobal_builtin (by rw [ok.eok.globals];exact G.g.keeps ok.old) hm.1 (by rw [ok.eok.builtins];exact G.b.keeps ok.old) hm.2 h) h3
end
end
section
open PySem.Calls PySem.SeqAt
open AutoSeq1 (wpAny_loadPart')
open PySem.MeetsSeq PySem.MeetsSeq3
theorem ap1:∀ {xs:List D} {i:Nat} {x:D},PyData.canLayAll0 xs=true→xs[i]?=some x→x.canLay0=true
  | [],_,_,_,e=>by simp at e
  | y :: ys,0,x,h,e=>by
    have h':y.canLay0=true∧PyData.canLayAll0 ys=true:=by simpa [PyData.canLayAll0] using h
    simp at e;subst e;exact h'.1
  | y :: ys,i+1,x,h,e=>by
    have h':y.canLay0=true∧PyData.canLayAll0 ys=true:=by simpa [PyData.canLayAll0] using h
    exact ap1 (i:=i) h'.2 (by simpa using e)
theorem bf2:∀ {xs:List D} {i:Nat} {x:D},xs[i]?=some x→x.depth≤PyData.depthAll xs
  | [],_,_,e=>by simp at e
  | y :: ys,0,x,e=>by
    simp at e;subst e
    simp only [PyData.depthAll];lia
  | y :: ys,i+1,x,e=>by
    have:=bf2 (xs:=ys) (i:=i) (x:=x) (by simpa using e)
    simp only [PyData.depthAll];lia
theorem db7 {xs:List D} {i:Nat} {x:D} (h:SeqAt.shaped (.list xs)=true) (e:xs[i]?=some x):x.depth≤64:=by
  have h1:=depth_of_shaped h
  have h2:=bf2 e
  simp only [PyData.depth] at h1
  lia
noncomputable def bj7 (op:CmpOp) (A:Around) (s:Shared) (x y:Value) (b:Bool):Prop:=∀ (prog:Program) (w:World) (Q:Value→Shared→Prop) (E:Value→Shared→Prop),Q (.bool b) s→wpAny (model prog w) A (richCompare op x y) Q E s
noncomputable def eg9:Bool→Int | true=>0 | false=>4
noncomputable def bu0:Bool→CmpOp | true=>.Lt | false=>.Gt
noncomputable def t8 (up:Bool) (n m:Nat) (e c:Nat→Bool):Nat→Nat→Bool
  | 0,_=>if up then decide (n < m) else decide (m < n)
  | k+1,i=>if i < n∧i < m then (if e i then t8 up n m e c k (i+1) else c i) else (if up then decide (n < m) else decide (m < n))
theorem ck7 (up:Bool) (l b:Addr) (d7 items2:Array Value) (n n2:Nat) (dd dd2:Option Addr) (sl sl2:Array (Option Value)) (e c:Nat→Bool) (k:Nat) :
    ∀ i:Nat,d7.size - i≤k→Meets (Builtin.«list.__eq__.loop» ⟨[.ref l,.ref b,rawInt i,rawInt (eg9 up)],[]⟩)
      (fun A R s=>s.heap.get? l=some { cls:=.type "list",dict:=dd,data:=.seq d7 n,slots:=sl }∧s.heap.get? b=some { cls:=.type "list",dict:=dd2,data:=.seq items2 n2,slots:=sl2 }∧
        (∀ j (h1:j < d7.size) (h2:j < items2.size),EqAt A.in1 s d7[j] items2[j] (e j))∧(∀ j (h1:j < d7.size) (h2:j < items2.size),e j=false→bj7 (bu0 up) A.in1 s d7[j] items2[j] (c j))∧
        R (.ok (.ret (.bool (t8 up d7.size items2.size e c k i)))) s):=by
  induction k with
  | zero=>
    intro i hk prog w A R s h
    obtain ⟨hp,g,d,tk,os⟩:=s;obtain ⟨hl,hb,he,hc,h⟩:=h
    have hi1:d7[((i:Nat):Int).toNat]?=none:=by simp;lia
    cases up <;> (
      wp_walk using wpAny_loadPart' hl,wpAny_loadPart' hb
      rw [hi1]
      wp_walk using wpAny_loadPart' hl,wpAny_loadPart' hb
      first
        | (show R (.ok (.ret (.bool (decide (d7.size < items2.size))))) _;simpa [t8] using h)
        | (show R (.ok (.ret (.bool (decide (d7.size > items2.size))))) _;simpa [t8] using h))
  | succ k ih=>
    intro i hk prog w A R s h
    obtain ⟨hp,g,d,tk,os⟩:=s;obtain ⟨hl,hb,he,hc,h⟩:=h
    have hcc:((i:Int)+1)=((i+1:Nat):Int):=by push_cast;rfl
    unfold t8 at h
    by_cases h1:i < d7.size
    · by_cases h2:i < items2.size
      · rw [if_pos ⟨h1,h2⟩] at h
        have hi1:d7[((i:Nat):Int).toNat]?=some d7[i]:=by simp [h1]
        have hi2:items2[((i:Nat):Int).toNat]?=some items2[i]:=by simp [h2]
        cases up <;> (
          wp_walk using wpAny_loadPart' hl,wpAny_loadPart' hb
          rw [hi1,hi2]
          refine wpAny_bind (he i h1 h2 prog w _ _ ?_)
          cases hb':e i with
          | true=>
            rw [hb'] at h
            simp only [if_true] at h
            wp_walk
            rw [hcc]
            exact ⟨plainId_quiet plain_eq_loop _,codeAny_builtin entry_eq_loop (by
              rw [Around.under_plainId plain_eq_loop _]
              exact ih (i+1) (by exact dv1 ‹_›) prog w A R _ ⟨hl,hb,he,hc,h⟩)⟩
          | false=>
            rw [hb'] at h
            simp only [Bool.false_eq_true,if_false] at h
            wp_walk using wpAny_loadPart' hl,wpAny_loadPart' hb
            rw [hi1,hi2]
            refine wpAny_bind (hc i h1 h2 hb' prog w _ _ ?_)
            wp_walk
            exact h)
      · rw [if_neg (fun q=>h2 q.2)] at h
        have hi1:d7[((i:Nat):Int).toNat]?=some d7[i]:=by simp [h1]
        have hi2:items2[((i:Nat):Int).toNat]?=none:=by simp;exact Nat.not_lt.mp ‹_›
        cases up <;> (
          wp_walk using wpAny_loadPart' hl,wpAny_loadPart' hb
          rw [hi1,hi2]
          wp_walk using wpAny_loadPart' hl,wpAny_loadPart' hb
          first
            | (show R (.ok (.ret (.bool (decide (d7.size < items2.size))))) _;simpa using h)
            | (show R (.ok (.ret (.bool (decide (d7.size > items2.size))))) _;simpa using h))
    · rw [if_neg (fun q=>h1 q.1)] at h
      have hi1:d7[((i:Nat):Int).toNat]?=none:=by simp;exact Nat.not_lt.mp ‹_›
      cases up <;> (
        wp_walk using wpAny_loadPart' hl,wpAny_loadPart' hb
        rw [hi1]
        wp_walk using wpAny_loadPart' hl,wpAny_loadPart' hb
        first
          | (show R (.ok (.ret (.bool (decide (d7.size < items2.size))))) _;simpa using h)
          | (show R (.ok (.ret (.bool (decide (d7.size > items2.size))))) _;simpa using h))
theorem bt3 (up:Bool) (l b:Addr) (d7 items2:Array Value) (n n2:Nat) (dd dd2:Option Addr) (sl sl2:Array (Option Value)) (e c:Nat→Bool) :
    Meets (match up with | true=>Builtin.«list.__lt__» ⟨[.ref l,.ref b],[]⟩ | false=>Builtin.«list.__gt__» ⟨[.ref l,.ref b],[]⟩)
      (fun A R s=>s.heap.get? l=some { cls:=.type "list",dict:=dd,data:=.seq d7 n,slots:=sl }∧s.heap.get? b=some { cls:=.type "list",dict:=dd2,data:=.seq items2 n2,slots:=sl2 }∧
        (∀ j (h1:j < d7.size) (h2:j < items2.size),EqAt A.in1 s d7[j] items2[j] (e j))∧(∀ j (h1:j < d7.size) (h2:j < items2.size),e j=false→bj7 (bu0 up) A.in1 s d7[j] items2[j] (c j))∧
        R (.ok (.ret (.bool (t8 up d7.size items2.size e c d7.size 0)))) s):=by
  intro prog w A R s h
  obtain ⟨hp,g,d,tk,os⟩:=s;obtain ⟨hl,hb,he,hc,h⟩:=h
  have f3:=AutoSeq1.sub_list_list
  cases up
  · wp_walk using wpAny_loadPart' hl,wpAny_loadPart' hb
    exact ⟨plainId_quiet plain_eq_loop _,codeAny_builtin entry_eq_loop (by
      rw [Around.under_plainId plain_eq_loop _]
      exact ck7 false l b d7 items2 n n2 dd dd2 sl sl2 e c d7.size 0 (by lia) prog w A R _ ⟨hl,hb,he,hc,h⟩)⟩
  · wp_walk using wpAny_loadPart' hl,wpAny_loadPart' hb
    exact ⟨plainId_quiet plain_eq_loop _,codeAny_builtin entry_eq_loop (by
      rw [Around.under_plainId plain_eq_loop _]
      exact ck7 true l b d7 items2 n n2 dd dd2 sl sl2 e c d7.size 0 (by lia) prog w A R _ ⟨hl,hb,he,hc,h⟩)⟩
section
variable {w:World} {A:Around} {E:Value→Shared→Prop} {s:Shared} {B:FM} {a b:Value}
theorem bq5 (up:Bool) {xs ys:List D} {vs ws:List Value} {l m:Addr} {o o2:Obj} (kp:i9 B s.heap) (hu:A.units+70 < cLine) (ho:s.heap.get? l=some o) (hs:ba0 "list" vs o) (ho2:s.heap.get? m=some o2) (hs2:ba0 "list" ws o2)
    (hr:RdL prog w B xs vs) (hr2:RdL prog w B ys ws) (h1:SeqAt.shaped (.list xs)=true) (h2:SeqAt.shaped (.list ys)=true) (c:Nat→Bool)
    (hc:∀ j x y v u,xs[j]?=some x→ys[j]?=some y→vs[j]?=some v→ws[j]?=some u→PyData.eqv x y=false→bj7 (bu0 up) A.in1 s v u (c j)) :
    bj7 (bu0 up) A s (.ref l) (.ref m) (t8 up xs.length ys.length (fun j=>(xs[j]?.bind fun x=>ys[j]?.map fun y=>PyData.eqv x y).getD false) c xs.length 0):=by
  intro prog' w' Q E hQ
  obtain ⟨⟨cls,dd,data,sl⟩,ho,hcl,n,hd⟩:=hs.isList ho
  obtain ⟨⟨cls2,dd2,data2,sl2⟩,ho2,hc2,n2,hd2⟩:=hs2.isList ho2
  simp only at hcl hd hc2 hd2
  subst hcl hd hc2 hd2
  have e1:=hr.length
  have e2:=hr2.length
  have c1:PyData.canLayAll0 xs=true:=by simpa [PyData.canLay0] using canLay_of_shaped h1
  have c2:PyData.canLayAll0 ys=true:=by simpa [PyData.canLay0] using canLay_of_shaped h2
  have key:∀ j (q1:j < vs.toArray.size) (q2:j < ws.toArray.size),EqAt A.in1 s vs.toArray[j] ws.toArray[j] ((xs[j]?.bind fun x=>ys[j]?.map fun y=>PyData.eqv x y).getD false):=by
    intro j q1 q2
    simp only [List.size_toArray] at q1 q2
    have hx:xs[j]?=some xs[j]:=List.getElem?_eq_getElem (by lia)
    have hy:ys[j]?=some ys[j]:=List.getElem?_eq_getElem (by lia)
    obtain ⟨v,hv,rv⟩:=hr.get hx
    obtain ⟨u,hu',ru⟩:=hr2.get hy
    have hv':vs[j]=v:=by rw [List.getElem?_eq_getElem q1] at hv;exact Option.some.inj hv
    have hu'':ws[j]=u:=by rw [List.getElem?_eq_getElem q2] at hu';exact Option.some.inj hu'
    rw [hx,hy]
    simp only [Option.bind_some,Option.map_some,Option.getD_some,List.getElem_toArray,hv',hu'']
    have m1:PyData.canLay0 xs[j]=true:=ap1 c1 hx
    have m2:PyData.canLay0 ys[j]=true:=ap1 c2 hy
    obtain ⟨as,r1⟩:=rv.reads kp (.inr m1)
    obtain ⟨bs,r2⟩:=ru.reads kp (.inr m2)
    refine eqAt_reads _ _ A.in1 s v u as bs r1 r2 m1 m2 ?_
    have d1:PyData.depth xs[j]≤64:=db7 h1 hx
    have:min (PyData.depth xs[j]) (PyData.depth ys[j])≤64:=Nat.le_trans (Nat.min_le_left _ _) d1
    show A.units+1+_ < cLine
    lia
  have key2:∀ j (q1:j < vs.toArray.size) (q2:j < ws.toArray.size),((xs[j]?.bind fun x=>ys[j]?.map fun y=>PyData.eqv x y).getD false)=false→bj7 (bu0 up) A.in1 s vs.toArray[j] ws.toArray[j] (c j):=by
    intro j q1 q2 hf
    simp only [List.size_toArray] at q1 q2
    have hx:xs[j]?=some xs[j]:=List.getElem?_eq_getElem (by lia)
    have hy:ys[j]?=some ys[j]:=List.getElem?_eq_getElem (by lia)
    rw [hx,hy] at hf
    simp only [Option.bind_some,Option.map_some,Option.getD_some] at hf
    simp only [List.getElem_toArray]
    exact hc j _ _ _ _ hx hy (List.getElem?_eq_getElem q1) (List.getElem?_eq_getElem q2) hf
  have hfin:∀ up',up'=up→t8 up' vs.toArray.size ws.toArray.size (fun j=>(xs[j]?.bind fun x=>ys[j]?.map fun y=>PyData.eqv x y).getD false) c vs.toArray.size 0=t8 up xs.length ys.length (fun j=>(xs[j]?.bind fun x=>ys[j]?.map fun y=>PyData.eqv x y).getD false) c xs.length 0:=by
    intro up' e;subst e;simp only [List.size_toArray,e1,e2]
  cases up
  · refine richCompare_meets_room (op:=.Gt) (T:="list") ⟨_,ho,rfl⟩ ⟨_,ho2,rfl⟩ F.slot_list_gt F.entry_list_gt (F.args_list_gt_2 _ _) (bt3 false l m vs.toArray ws.toArray n n2 dd dd2 sl sl2 _ c) ⟨ho,ho2,key,key2,?_⟩ (by lia)
    rw [hfin false rfl]
    exact ⟨(by intro q;cases q),hQ⟩
  · refine richCompare_meets_room (op:=.Lt) (T:="list") ⟨_,ho,rfl⟩ ⟨_,ho2,rfl⟩ F.slot_list_lt F.entry_list_lt (F.args_list_lt_2 _ _) (bt3 true l m vs.toArray ws.toArray n n2 dd dd2 sl sl2 _ c) ⟨ho,ho2,key,key2,?_⟩ (by lia)
    rw [hfin true rfl]
    exact ⟨(by intro q;cases q),hQ⟩
noncomputable def eAt (xs ys:List D) (j:Nat):Bool:=(xs[j]?.bind fun x=>ys[j]?.map fun y=>PyData.eqv x y).getD false
noncomputable def cAt (f:D→D→Bool) (xs ys:List D) (j:Nat):Bool:=(xs[j]?.bind fun x=>ys[j]?.map fun y=>f x y).getD false
noncomputable def bq3:List D→List D→Bool
  | [],[]=>false
  | [],_ :: _=>false
  | _ :: _,[]=>true
  | x :: xs,y :: ys=>bif PyData.eqv x y then bq3 xs ys else ltD y x
theorem bh7 (up:Bool) (f:D→D→Bool) (x y:D) (xs ys:List D):∀ (k i:Nat),t8 up (xs.length+1) (ys.length+1) (eAt (x :: xs) (y :: ys)) (cAt f (x :: xs) (y :: ys)) k (i+1)=t8 up xs.length ys.length (eAt xs ys) (cAt f xs ys) k i
  | 0,i=>by simp [t8]
  | k+1,i=>by
    unfold t8
    have e1:eAt (x :: xs) (y :: ys) (i+1)=eAt xs ys i:=by simp [eAt]
    have e2:cAt f (x :: xs) (y :: ys) (i+1)=cAt f xs ys i:=by simp [cAt]
    have e3:(i+1 < xs.length+1∧i+1 < ys.length+1)↔(i < xs.length∧i < ys.length):=by lia
    rw [e1,e2,bh7 up f x y xs ys k (i+1)]
    simp only [e3,Nat.add_lt_add_iff_right]
theorem dh8:∀ (xs ys:List D) (k:Nat),xs.length≤k→t8 true xs.length ys.length (eAt xs ys) (cAt ltD xs ys) k 0=av3 xs ys
  | [],[],k,_=>by cases k <;> simp [t8,av3]
  | [],y :: ys,k,_=>by cases k <;> simp [t8,av3]
  | x :: xs,[],k,_=>by cases k <;> simp [t8,av3]
  | x :: xs,y :: ys,0,h=>by simp at h
  | x :: xs,y :: ys,k+1,h=>by
    have ih:=dh8 xs ys k (by simpa using h)
    have:=bh7 true ltD x y xs ys k 0
    unfold t8
    rw [if_pos (by simp)]
    simp only [List.length_cons,Nat.zero_add] at this⊢
    rw [this,ih,av3]
    simp [eAt,cAt]
theorem do3:∀ (xs ys:List D) (k:Nat),xs.length≤k→t8 false xs.length ys.length (eAt xs ys) (cAt (fun a b=>ltD b a) xs ys) k 0=bq3 xs ys
  | [],[],k,_=>by cases k <;> simp [t8,bq3]
  | [],y :: ys,k,_=>by cases k <;> simp [t8,bq3]
  | x :: xs,[],k,_=>by cases k <;> simp [t8,bq3]
  | x :: xs,y :: ys,0,h=>by simp at h
  | x :: xs,y :: ys,k+1,h=>by
    have ih:=do3 xs ys k (by simpa using h)
    have:=bh7 false (fun a b=>ltD b a) x y xs ys k 0
    unfold t8
    rw [if_pos (by simp)]
    simp only [List.length_cons,Nat.zero_add] at this⊢
    rw [this,ih,bq3]
    simp [eAt,cAt]
theorem bv6 (up:Bool) {A:Around} {s:Shared} {x y:Str} {v u:Value} {C:FM} (h1:Rd prog w C (.str x) v) (h2:Rd prog w C (.str y) u):bj7 (bu0 up) A s v u (match up with | true=>ltD (.str x) (.str y) | false=>ltD (.str y) (.str x)):=by
  intro prog' w' Q E hQ
  obtain ⟨t,_,rfl⟩:=h1
  obtain ⟨t',_,rfl⟩:=h2
  cases up
  · exact richCompare_gives (op:=.Gt) (typeIs_str s _ t) (typeIs_str s _ t') F.slot_str_gt F.entry_str_gt (F.args_str_gt_2 _ _) (gives_str_gt _ _ t t') (fun x=>nomatch x) hQ
  · exact richCompare_gives (op:=.Lt) (typeIs_str s _ t) (typeIs_str s _ t') F.slot_str_lt F.entry_str_lt (F.args_str_lt_2 _ _) (gives_str_lt _ _ t t') (fun x=>nomatch x) hQ
theorem df2 (up:Bool) {A:Around} {s:Shared} {x y:Int} {v u:Value} {C:FM} (h1:Rd prog w C (.int x) v) (h2:Rd prog w C (.int y) u):bj7 (bu0 up) A s v u (match up with | true=>ltD (.int x) (.int y) | false=>ltD (.int y) (.int x)):=by
  intro prog' w' Q E hQ
  obtain ⟨t,_,rfl⟩:=h1
  obtain ⟨t',_,rfl⟩:=h2
  cases up
  · exact richCompare_gives (op:=.Gt) (typeIs_int s _ t) (typeIs_int s _ t') F.slot_int_gt F.entry_int_gt (F.args_int_gt_2 _ _) (gives_int_gt _ _ t t') (fun x=>nomatch x) hQ
  · exact richCompare_gives (op:=.Lt) (typeIs_int s _ t) (typeIs_int s _ t') F.slot_int_lt F.entry_int_lt (F.args_int_lt_2 _ _) (gives_int_lt _ _ t t') (fun x=>nomatch x) hQ
theorem am9 {d:D} (h:isStr d=true):∃ x,d = .str x:=by cases d <;> simp [isStr] at h;exact ⟨_,rfl⟩
theorem dl1 {d:D} (h:ar3 d=true):∃ x,d = .int x:=by cases d <;> simp [ar3] at h;exact ⟨_,rfl⟩
theorem df3 {d:D} (h:ag0 d=true):∃ l,d = .list l∧∀ x∈l,isStr x=true:=by
  cases d <;> simp [ag0] at h
  exact ⟨_,rfl,h⟩
theorem au0 {α:Type} {l:List α} {i:Nat} {x:α} (h:l[i]?=some x):x∈l:=List.mem_of_getElem? h
theorem cv7:∀ (xs ys:List D),(∀ x∈xs,isStr x=true)→(∀ y∈ys,isStr y=true)→bq3 xs ys=av3 ys xs
  | [],[],_,_=>by simp [bq3,av3]
  | [],_ :: _,_,_=>by simp [bq3,av3]
  | _ :: _,[],_,_=>by simp [bq3,av3]
  | x :: xs,y :: ys,h1,h2=>by
    obtain ⟨a,rfl⟩:=am9 (h1 x (by simp))
    obtain ⟨b,rfl⟩:=am9 (h2 y (by simp))
    have ih:=cv7 xs ys (fun z hz=>h1 z (by simp [hz])) (fun z hz=>h2 z (by simp [hz]))
    rw [bq3,av3,ih]
    have:PyData.eqv (.str a) (.str b)=PyData.eqv (.str b) (.str a):=by
      simp only [PyData.eqv]
      by_cases e:a=b
      · subst e;rfl
      · have h1:(a == b)=false:=beq_eq_false_iff_ne.mpr e
        have h2:(b == a)=false:=beq_eq_false_iff_ne.mpr (Ne.symm e)
        rw [h1,h2]
    rw [this]
theorem cr3 (up:Bool) {xs ys:List D} {v u:Value} (kp:i9 B s.heap) (hu:A.units+70 < cLine) (h1:Rd prog w B (.list xs) v) (h2:Rd prog w B (.list ys) u) (s1:SeqAt.shaped (.list xs)=true) (s2:SeqAt.shaped (.list ys)=true)
    (a1:∀ x∈xs,isStr x=true) (a2:∀ y∈ys,isStr y=true):bj7 (bu0 up) A s v u (match up with | true=>ltD (.list xs) (.list ys) | false=>ltD (.list ys) (.list xs)):=by
  obtain ⟨l,o,vs,rfl,ho,hs,hr⟩:=h1
  obtain ⟨m,o2,ws,rfl,ho2,hs2,hr2⟩:=h2
  cases up
  · have:=bq5 false kp hu (kp _ _ ho) hs (kp _ _ ho2) hs2 hr hr2 s1 s2 (cAt (fun a b=>ltD b a) xs ys) (fun j x y v u hx hy hv hu' ξ=>by
      obtain ⟨a,rfl⟩:=am9 (a1 x (au0 hx))
      obtain ⟨b,rfl⟩:=am9 (a2 y (au0 hy))
      obtain ⟨v',e1,r1⟩:=hr.get hx
      obtain ⟨u',e2,r2⟩:=hr2.get hy
      rw [hv] at e1;cases e1
      rw [hu'] at e2;cases e2
      have:=bv6 (A:=A.in1) (s:=s) false r1 r2
      simpa [cAt,hx,hy] using this)
    have e:=do3 xs ys xs.length (Nat.le_refl _)
    unfold eAt at e
    rw [e,cv7 xs ys a1 a2] at this
    exact this
  · have:=bq5 true kp hu (kp _ _ ho) hs (kp _ _ ho2) hs2 hr hr2 s1 s2 (cAt ltD xs ys) (fun j x y v u hx hy hv hu' ξ=>by
      obtain ⟨a,rfl⟩:=am9 (a1 x (au0 hx))
      obtain ⟨b,rfl⟩:=am9 (a2 y (au0 hy))
      obtain ⟨v',e1,r1⟩:=hr.get hx
      obtain ⟨u',e2,r2⟩:=hr2.get hy
      rw [hv] at e1;cases e1
      rw [hu'] at e2;cases e2
      have:=bv6 (A:=A.in1) (s:=s) true r1 r2
      simpa [cAt,hx,hy] using this)
    have e:=dh8 xs ys xs.length (Nat.le_refl _)
    unfold eAt at e
    rw [e] at this
    exact this
end
end
section
open PySem.Calls PySem.SeqAt
section
variable {w:World} {A:Around} {E:Value→Shared→Prop} {s:Shared} {B:FM}
theorem EvP.grown {d:D} {v:Value} {h':Heap} {tk:Nat} (kp:i9 B s.heap) (ho:∀ a o,s.heap.get? a=some o→h'.get? a=some o) (ht:s.toks≤tk) (r:Rd prog w B d v) :
    EvP prog w B s d v { s with heap:=h',toks:=tk }:=⟨B,Gr.heap kp ho,r,rfl,rfl,ht⟩
theorem r7 {a:Addr} (kp:i9 B s.heap) (hn:s.heap.get? a=none):B a=none:=by
  cases e:B a with
  | none=>rfl
  | some o=>rw [kp _ _ e] at hn;cases hn
theorem FrP.made {h':Heap} {tk:Nat} {a:Addr} {o:Obj} {ds:List D} {vs:List Value} (kp:i9 B s.heap) (ho:∀ a o,s.heap.get? a=some o→h'.get? a=some o) (ht:s.toks≤tk) (hn:s.heap.get? a=none)
    (hg:h'.get? a=some o) (hs:ba0 "list" vs o) (r:RdL prog w B ds vs) (hpl:o.dict=none∧o.slots=#[]):FrP prog w B s (.list ds) (.ref a) { s with heap:=h',toks:=tk }:=
  ⟨B,a,rfl,Gr.heap kp ho,hn,r7 kp hn,bq4.mpr ⟨a,o,vs,rfl,hg,hs,r⟩,⟨rfl,rfl,ht⟩,fun o' e=>by rw [hg] at e;cases e;exact hpl⟩
noncomputable def ck2 (prog:Program) (w:World) (A:Around) (B:FM) (op:CmpOp) (d7:List Value) (bt:Nat→Nat→Bool):Prop:=
  ∀ i j vi vj (s:Shared) (Q:Value→Shared→Prop) (E:Value→Shared→Prop),d7[i]?=some vi→d7[j]?=some vj→i9 B s.heap→Q (.bool (bt i j)) s→wpAny (model prog w) A (richCompare op vi vj) Q E s
end
section
variable {w:World} {A:Around} {R:Result→Shared→Prop} {I l:Addr} {d7:List Value} {B:FM}
theorem dn9 (hh:A.handled=none) (hl:l≠I) (bt:Nat→Nat→Bool) (hcmp:ck2 prog w A.in1 B .Lt d7 bt) (S:Addr) (hSl:S≠l) (hSI:S≠I) (hBI:B I=none) (hBS:B S=none) :
    ∀ (k j:Nat) (s:Shared) (vb:Value) (c:Nat),d7.length - (j+1)=k→j+1≤d7.length→s.heap.IsListIter I l (j+1)→s.heap.IsList l d7.toArray→i9 B s.heap→d7[argBest bt j]?=some vb→
    s.heap.get? S=some { cls:=.type "list",dict:=none,data:=.seq #[vb,vb] c,slots:=#[] }→
    (∀ v h' tk,d7[argBest bt (d7.length - 1)]?=some v→(∀ b o,b≠I→b≠S→s.heap.get? b=some o→h'.get? b=some o)→R (.ok (.ret v)) { s with heap:=h',toks:=tk })→
    codeAny (model prog w) A (.builtin "min.loop" ⟨[.ref I,.none,.ref S],[]⟩) R s:=by
  have W:=Walks.list (prog:=prog) (w:=w) (A:=A.in1) hh I l hl d7.toArray
  have hname:(toString "min" ++ toString ".loop":String)="min.loop":=by decide
  intro k
  induction k with
  | zero=>
    intro j s vb c hk hj hst hlst kp hPb hS hR
    have hin:j+1=d7.length:=by lia
    refine codeAny_builtin PySem.F.entry_min_loop ?_
    rw [Around.under_plainId PySem.F.plain_min_loop _]
    show wpAny _ A.in1 (seqItems? (.ref S) >>= _) _ _ s
    refine wpAny_bind (wpAny_seqItems hS rfl ?_)
    show wpAny _ A.in1 (tryCatch (pyNext (.ref I)) _ >>= _) _ _ s
    refine wpAny_bind (wpAny_tryCatch (W.done s _ _ (by simp only [List.size_toArray];rw [← hin];exact ⟨hst,hlst⟩) fun h' tk hk'=>?_))
    have hS':=hk' S _ (by simpa using hSI) hS
    show wpAny _ A.in1 (updateSeq S (fun ξ=>#[]) >>= _) _ _ _
    refine wpAny_bind ?_
    refine wpAny_updateSeq hS' rfl (wpAny_bind (wpAny_letGo (wpAny_pure ?_)))
    refine hR vb _ tk (by rw [← hin];exact hPb) fun b o hbI hbS e=>(Heap.get?_update_other _ _ (Ne.symm hbS)).trans (hk' b o (by simpa using hbI) e)
  | succ k ih=>
    intro j s vb c hk hj hst hlst kp hPb hS hR
    have hlt:j+1 < d7.length:=by exact bd7 ‹_›
    refine codeAny_builtin PySem.F.entry_min_loop ?_
    rw [Around.under_plainId PySem.F.plain_min_loop _]
    show wpAny _ A.in1 (seqItems? (.ref S) >>= _) _ _ s
    refine wpAny_bind (wpAny_seqItems hS rfl ?_)
    show wpAny _ A.in1 (tryCatch (pyNext (.ref I)) _ >>= _) _ _ s
    refine wpAny_bind (wpAny_tryCatch (W.item (j+1) s _ _ (by simpa using hlt) ⟨hst,hlst⟩ fun v h' tk hP hst' hk'=>?_))
    have hk2:∀ b o,b≠I→s.heap.get? b=some o→h'.get? b=some o:=fun b o hb e=>hk' b o (by simpa using hb) e
    have hP':d7[j+1]?=some v:=by simpa using hP
    have hS':=hk2 S _ hSI hS
    have kp':i9 B h':=fun b o e=>hk2 b o (fun q=>by subst q;rw [hBI] at e;cases e) (kp b o e)
    show wpAny _ A.in1 (tryCatch (holding [v,v] (richCompare .Lt v vb >>= _)) _ >>= _) _ _ _
    refine wpAny_bind (wpAny_tryCatch (wpAny_holding (wpAny_bind (hcmp (j+1) (argBest bt j) v vb _ _ _ hP' hPb kp' ?_))))
    refine wpAny_bind (wpAny_holding (wpAny_truthy_bool ?_))
    refine wpAny_bind (wpAny_letGo (wpAny_pure ?_))
    cases hb:bt (j+1) (argBest bt j) with
    | true=>
      simp only [if_true]
      refine wpAny_bind ?_
      refine wpAny_updateSeq hS' rfl (wpAny_bind (wpAny_letGo ?_))
      rw [hname]
      have o2:∀ b o,b≠S→h'.get? b=some o→(h'.update S (Obj.mapSeq fun ξ=>#[v,v])).get? b=some o:=fun b o hb e=>(Heap.get?_update_other _ _ (Ne.symm hb)).trans e
      refine wpAny_pure ⟨plainId_quiet PySem.F.plain_min_loop _,ih (j+1) _ v _ (by exact ar7 ‹_›) hlt (hst'.1.at fun o e=>o2 _ _ (Ne.symm hSI) e) (hst'.2.at fun o e=>o2 _ _ (Ne.symm hSl) e)
        (fun b o e=>o2 b o (fun q=>by subst q;rw [hBS] at e;cases e) (kp' b o e)) (by simp only [argBest,hb,if_true];exact hP') (Heap.get?_update_self _ hS' rfl) fun v' h'' tk'' hP'' hk''=>?_⟩
      exact hR v' h'' tk'' hP'' fun b o hbI hbS e=>hk'' b o hbI hbS (o2 b o hbS (hk2 b o hbI e))
    | false=>
      simp only [Bool.false_eq_true,if_false]
      refine wpAny_bind (wpAny_letGo ?_)
      rw [hname]
      refine wpAny_pure ⟨plainId_quiet PySem.F.plain_min_loop _,ih (j+1) _ vb c (by exact ar7 ‹_›) hlt hst'.1 hst'.2 kp' (by simp only [argBest,hb,Bool.false_eq_true,if_false];exact hPb) hS' fun v' h'' tk'' hP'' hk''=>?_⟩
      exact hR v' h'' tk'' hP'' fun b o hbI hbS e=>hk'' b o hbI hbS (hk2 b o hbI e)
theorem di3 {E:Value→Shared→Prop} {s:Shared} {Q:Value→Shared→Prop} {bt:Nat→Nat→Bool} (hh:A.handled=none) (kp:i9 B s.heap) (hl:s.heap.IsList l d7.toArray) (hne:0 < d7.length)
    (hcmp:ck2 prog w A.in1 B .Lt d7 bt) (h:∀ v h' tk,d7[argBest bt (d7.length - 1)]?=some v→(∀ b o,s.heap.get? b=some o→h'.get? b=some o)→Q v { s with heap:=h',toks:=tk }) :
    wpAny (model prog w) A (call (.builtin "min") [.ref l]) Q E s:=by
  have hname:(toString "min" ++ toString ".loop":String)="min.loop":=by decide
  have hlt:l < s.heap.objs.size:=by obtain ⟨_,e,_⟩:=hl;exact Heap.lt_size e
  refine call_function_tree PySem.F.kind_min PySem.F.plain_min PySem.F.entry_min (PySem.F.args_min1 _) ?_
  show wpAny _ A.in1 (Builtin.Builtins.bindParams "min" ["key","default"] 0 ⟨[],[]⟩ >>= _) _ _ s
  refine wpAny_bind (wpAny_of_eq (show Builtin.Builtins.bindParams "min" ["key","default"] 0 ⟨[],[]⟩=pure [none,none] from rfl) ?_)
  refine wpAny_bind (wpAny_pure ?_)
  refine wpAny_bind (wpAny_pyIter_list hl ?_)
  refine wpAny_bind (wpAny_newObj_type ?_)
  rw [hname]
  have s1:(s.heap.push { cls:=.type "list_iterator",data:=.fields #[.ref l,.int 0 0] }).objs.size=s.heap.objs.size+1:=Heap.size_push ..
  have old:∀ b o,s.heap.get? b=some o→((s.heap.push { cls:=.type "list_iterator",data:=.fields #[.ref l,.int 0 0] }).push { cls:=.type "list",data:=.seq #[] }).get? b=some o:=fun b o e=>Heap.get?_push_of_some _ (Heap.get?_push_of_some _ e)
  have ho1:((s.heap.push { cls:=.type "list_iterator",data:=.fields #[.ref l,.int 0 0] }).push { cls:=.type "list",data:=.seq #[] }).IsListIter s.heap.objs.size l 0:=⟨_,Heap.get?_push_of_some _ (Heap.get?_push_size _ rfl),rfl,rfl⟩
  have hS:((s.heap.push { cls:=.type "list_iterator",data:=.fields #[.ref l,.int 0 0] }).push { cls:=.type "list",data:=.seq #[] }).get? (s.heap.push { cls:=.type "list_iterator",data:=.fields #[.ref l,.int 0 0] }).objs.size=some { cls:=.type "list",dict:=none,data:=.seq #[] 0,slots:=#[] }:=Heap.get?_push_size _ rfl
  revert ho1 hS old
  generalize ((s.heap.push { cls:=.type "list_iterator",data:=.fields #[.ref l,.int 0 0] }).push { cls:=.type "list",data:=.seq #[] })=H
  rw [s1]
  intro old ho1 hS
  have hI:l≠s.heap.objs.size:=Nat.ne_of_lt hlt
  have hSI:s.heap.objs.size+1≠s.heap.objs.size:=Nat.succ_ne_self _
  have hSl:s.heap.objs.size+1≠l:=Nat.ne_of_gt (Nat.lt_succ_of_lt hlt)
  have kpH:i9 B H:=fun b o e=>old b o (kp b o e)
  have hBI:B s.heap.objs.size=none:=r7 kp (i6 (Nat.le_refl _))
  have hBS:B (s.heap.objs.size+1)=none:=r7 kp (i6 (Nat.le_succ _))
  refine wpAny_pure ⟨plainId_quiet PySem.F.plain_min_loop _,?_⟩
  refine codeAny_builtin PySem.F.entry_min_loop ?_
  rw [Around.under_plainId PySem.F.plain_min_loop _]
  show wpAny _ A.in1 (seqItems? (.ref (s.heap.objs.size+1)) >>= _) _ _ _
  refine wpAny_bind (wpAny_seqItems hS rfl ?_)
  show wpAny _ A.in1 (tryCatch (pyNext (.ref s.heap.objs.size)) _ >>= _) _ _ _
  refine wpAny_bind (wpAny_tryCatch ((Walks.list (prog:=prog) (w:=w) (A:=A.in1) hh s.heap.objs.size l hI d7.toArray).item 0 _ _ _ (by simpa using hne) ⟨ho1,hl.at fun o e=>old _ _ e⟩ fun v h' tk hP hst' hk'=>?_))
  have hk2:∀ b o,b≠s.heap.objs.size→H.get? b=some o→h'.get? b=some o:=fun b o hb e=>hk' b o (by simpa using hb) e
  have hP':d7[0]?=some v:=by simpa using hP
  have hS':=hk2 _ _ hSI hS
  have kp':i9 B h':=fun b o e=>hk2 b o (fun q=>by subst q;rw [hBI] at e;cases e) (kpH b o e)
  show wpAny _ A.in1 (updateSeq (s.heap.objs.size+1) (fun ξ=>#[v,v]) >>= _) _ _ _
  refine wpAny_bind ?_
  refine wpAny_updateSeq hS' rfl ?_
  rw [hname]
  have o2:∀ b o,b≠s.heap.objs.size+1→h'.get? b=some o→(h'.update (s.heap.objs.size+1) (Obj.mapSeq fun ξ=>#[v,v])).get? b=some o:=fun b o hb e=>(Heap.get?_update_other _ _ (Ne.symm hb)).trans e
  refine wpAny_pure ⟨plainId_quiet PySem.F.plain_min_loop _,dn9 hh hI bt hcmp _ hSl hSI hBI hBS _ 0 _ v _ rfl hne (hst'.1.at fun o e=>o2 _ _ (Ne.symm hSI) e) (hst'.2.at fun o e=>o2 _ _ (Ne.symm hSl) e)
    (fun b o e=>o2 b o (fun q=>by subst q;rw [hBS] at e;cases e) (kp' b o e)) hP' (Heap.get?_update_self _ hS' rfl) fun v' h'' tk'' hP'' hk''=>?_⟩
  refine h v' h'' tk'' hP'' fun b o e=>?_
  have hb:=Heap.lt_size e
  exact hk'' b o (Nat.ne_of_lt hb) (Nat.ne_of_lt (Nat.lt_succ_of_lt hb)) (o2 b o (Nat.ne_of_lt (Nat.lt_succ_of_lt hb)) (hk2 b o (Nat.ne_of_lt hb) (old b o e)))
end
section
variable {w:World} {A:Around} {R:Result→Shared→Prop} {I l:Addr} {d7:List Value} {B:FM}
theorem dj1 (hh:A.handled=none) (hl:l≠I) (bt:Nat→Nat→Bool) (hcmp:ck2 prog w A.in1 B .Gt d7 bt) (S:Addr) (hSl:S≠l) (hSI:S≠I) (hBI:B I=none) (hBS:B S=none) :
    ∀ (k j:Nat) (s:Shared) (vb:Value) (c:Nat),d7.length - (j+1)=k→j+1≤d7.length→s.heap.IsListIter I l (j+1)→s.heap.IsList l d7.toArray→i9 B s.heap→d7[argBest bt j]?=some vb→
    s.heap.get? S=some { cls:=.type "list",dict:=none,data:=.seq #[vb,vb] c,slots:=#[] }→
    (∀ v h' tk,d7[argBest bt (d7.length - 1)]?=some v→(∀ b o,b≠I→b≠S→s.heap.get? b=some o→h'.get? b=some o)→R (.ok (.ret v)) { s with heap:=h',toks:=tk })→
    codeAny (model prog w) A (.builtin "max.loop" ⟨[.ref I,.none,.ref S],[]⟩) R s:=by
  have W:=Walks.list (prog:=prog) (w:=w) (A:=A.in1) hh I l hl d7.toArray
  have hname:(toString "max" ++ toString ".loop":String)="max.loop":=by decide
  intro k
  induction k with
  | zero=>
    intro j s vb c hk hj hst hlst kp hPb hS hR
    have hin:j+1=d7.length:=by lia
    refine codeAny_builtin PySem.F.entry_max_loop ?_
    rw [Around.under_plainId PySem.F.plain_max_loop _]
    show wpAny _ A.in1 (seqItems? (.ref S) >>= _) _ _ s
    refine wpAny_bind (wpAny_seqItems hS rfl ?_)
    show wpAny _ A.in1 (tryCatch (pyNext (.ref I)) _ >>= _) _ _ s
    refine wpAny_bind (wpAny_tryCatch (W.done s _ _ (by simp only [List.size_toArray];rw [← hin];exact ⟨hst,hlst⟩) fun h' tk hk'=>?_))
    have hS':=hk' S _ (by simpa using hSI) hS
    show wpAny _ A.in1 (updateSeq S (fun ξ=>#[]) >>= _) _ _ _
    refine wpAny_bind ?_
    refine wpAny_updateSeq hS' rfl (wpAny_bind (wpAny_letGo (wpAny_pure ?_)))
    refine hR vb _ tk (by rw [← hin];exact hPb) fun b o hbI hbS e=>(Heap.get?_update_other _ _ (Ne.symm hbS)).trans (hk' b o (by simpa using hbI) e)
  | succ k ih=>
    intro j s vb c hk hj hst hlst kp hPb hS hR
    have hlt:j+1 < d7.length:=by exact bd7 ‹_›
    refine codeAny_builtin PySem.F.entry_max_loop ?_
    rw [Around.under_plainId PySem.F.plain_max_loop _]
    show wpAny _ A.in1 (seqItems? (.ref S) >>= _) _ _ s
    refine wpAny_bind (wpAny_seqItems hS rfl ?_)
    show wpAny _ A.in1 (tryCatch (pyNext (.ref I)) _ >>= _) _ _ s
    refine wpAny_bind (wpAny_tryCatch (W.item (j+1) s _ _ (by simpa using hlt) ⟨hst,hlst⟩ fun v h' tk hP hst' hk'=>?_))
    have hk2:∀ b o,b≠I→s.heap.get? b=some o→h'.get? b=some o:=fun b o hb e=>hk' b o (by simpa using hb) e
    have hP':d7[j+1]?=some v:=by simpa using hP
    have hS':=hk2 S _ hSI hS
    have kp':i9 B h':=fun b o e=>hk2 b o (fun q=>by subst q;rw [hBI] at e;cases e) (kp b o e)
    show wpAny _ A.in1 (tryCatch (holding [v,v] (richCompare .Gt v vb >>= _)) _ >>= _) _ _ _
    refine wpAny_bind (wpAny_tryCatch (wpAny_holding (wpAny_bind (hcmp (j+1) (argBest bt j) v vb _ _ _ hP' hPb kp' ?_))))
    refine wpAny_bind (wpAny_holding (wpAny_truthy_bool ?_))
    refine wpAny_bind (wpAny_letGo (wpAny_pure ?_))
    cases hb:bt (j+1) (argBest bt j) with
    | true=>
      simp only [if_true]
      refine wpAny_bind ?_
      refine wpAny_updateSeq hS' rfl (wpAny_bind (wpAny_letGo ?_))
      rw [hname]
      have o2:∀ b o,b≠S→h'.get? b=some o→(h'.update S (Obj.mapSeq fun ξ=>#[v,v])).get? b=some o:=fun b o hb e=>(Heap.get?_update_other _ _ (Ne.symm hb)).trans e
      refine wpAny_pure ⟨plainId_quiet PySem.F.plain_max_loop _,ih (j+1) _ v _ (by exact ar7 ‹_›) hlt (hst'.1.at fun o e=>o2 _ _ (Ne.symm hSI) e) (hst'.2.at fun o e=>o2 _ _ (Ne.symm hSl) e)
        (fun b o e=>o2 b o (fun q=>by subst q;rw [hBS] at e;cases e) (kp' b o e)) (by simp only [argBest,hb,if_true];exact hP') (Heap.get?_update_self _ hS' rfl) fun v' h'' tk'' hP'' hk''=>?_⟩
      exact hR v' h'' tk'' hP'' fun b o hbI hbS e=>hk'' b o hbI hbS (o2 b o hbS (hk2 b o hbI e))
    | false=>
      simp only [Bool.false_eq_true,if_false]
      refine wpAny_bind (wpAny_letGo ?_)
      rw [hname]
      refine wpAny_pure ⟨plainId_quiet PySem.F.plain_max_loop _,ih (j+1) _ vb c (by exact ar7 ‹_›) hlt hst'.1 hst'.2 kp' (by simp only [argBest,hb,Bool.false_eq_true,if_false];exact hPb) hS' fun v' h'' tk'' hP'' hk''=>?_⟩
      exact hR v' h'' tk'' hP'' fun b o hbI hbS e=>hk'' b o hbI hbS (hk2 b o hbI e)
theorem dp3 {E:Value→Shared→Prop} {s:Shared} {Q:Value→Shared→Prop} {bt:Nat→Nat→Bool} (hh:A.handled=none) (kp:i9 B s.heap) (hl:s.heap.IsList l d7.toArray) (hne:0 < d7.length)
    (hcmp:ck2 prog w A.in1 B .Gt d7 bt) (h:∀ v h' tk,d7[argBest bt (d7.length - 1)]?=some v→(∀ b o,s.heap.get? b=some o→h'.get? b=some o)→Q v { s with heap:=h',toks:=tk }) :
    wpAny (model prog w) A (call (.builtin "max") [.ref l]) Q E s:=by
  have hname:(toString "max" ++ toString ".loop":String)="max.loop":=by decide
  have hlt:l < s.heap.objs.size:=by obtain ⟨_,e,_⟩:=hl;exact Heap.lt_size e
  refine call_function_tree PySem.F.kind_max PySem.F.plain_max PySem.F.entry_max (PySem.F.args_max1 _) ?_
  show wpAny _ A.in1 (Builtin.Builtins.bindParams "max" ["key","default"] 0 ⟨[],[]⟩ >>= _) _ _ s
  refine wpAny_bind (wpAny_of_eq (show Builtin.Builtins.bindParams "max" ["key","default"] 0 ⟨[],[]⟩=pure [none,none] from rfl) ?_)
  refine wpAny_bind (wpAny_pure ?_)
  refine wpAny_bind (wpAny_pyIter_list hl ?_)
  refine wpAny_bind (wpAny_newObj_type ?_)
  rw [hname]
  have s1:(s.heap.push { cls:=.type "list_iterator",data:=.fields #[.ref l,.int 0 0] }).objs.size=s.heap.objs.size+1:=Heap.size_push ..
  have old:∀ b o,s.heap.get? b=some o→((s.heap.push { cls:=.type "list_iterator",data:=.fields #[.ref l,.int 0 0] }).push { cls:=.type "list",data:=.seq #[] }).get? b=some o:=fun b o e=>Heap.get?_push_of_some _ (Heap.get?_push_of_some _ e)
  have ho1:((s.heap.push { cls:=.type "list_iterator",data:=.fields #[.ref l,.int 0 0] }).push { cls:=.type "list",data:=.seq #[] }).IsListIter s.heap.objs.size l 0:=⟨_,Heap.get?_push_of_some _ (Heap.get?_push_size _ rfl),rfl,rfl⟩
  have hS:((s.heap.push { cls:=.type "list_iterator",data:=.fields #[.ref l,.int 0 0] }).push { cls:=.type "list",data:=.seq #[] }).get? (s.heap.push { cls:=.type "list_iterator",data:=.fields #[.ref l,.int 0 0] }).objs.size=some { cls:=.type "list",dict:=none,data:=.seq #[] 0,slots:=#[] }:=Heap.get?_push_size _ rfl
  revert ho1 hS old
  generalize ((s.heap.push { cls:=.type "list_iterator",data:=.fields #[.ref l,.int 0 0] }).push { cls:=.type "list",data:=.seq #[] })=H
  rw [s1]
  intro old ho1 hS
  have hI:l≠s.heap.objs.size:=Nat.ne_of_lt hlt
  have hSI:s.heap.objs.size+1≠s.heap.objs.size:=Nat.succ_ne_self _
  have hSl:s.heap.objs.size+1≠l:=Nat.ne_of_gt (Nat.lt_succ_of_lt hlt)
  have kpH:i9 B H:=fun b o e=>old b o (kp b o e)
  have hBI:B s.heap.objs.size=none:=r7 kp (i6 (Nat.le_refl _))
  have hBS:B (s.heap.objs.size+1)=none:=r7 kp (i6 (Nat.le_succ _))
  refine wpAny_pure ⟨plainId_quiet PySem.F.plain_max_loop _,?_⟩
  refine codeAny_builtin PySem.F.entry_max_loop ?_
  rw [Around.under_plainId PySem.F.plain_max_loop _]
  show wpAny _ A.in1 (seqItems? (.ref (s.heap.objs.size+1)) >>= _) _ _ _
  refine wpAny_bind (wpAny_seqItems hS rfl ?_)
  show wpAny _ A.in1 (tryCatch (pyNext (.ref s.heap.objs.size)) _ >>= _) _ _ _
  refine wpAny_bind (wpAny_tryCatch ((Walks.list (prog:=prog) (w:=w) (A:=A.in1) hh s.heap.objs.size l hI d7.toArray).item 0 _ _ _ (by simpa using hne) ⟨ho1,hl.at fun o e=>old _ _ e⟩ fun v h' tk hP hst' hk'=>?_))
  have hk2:∀ b o,b≠s.heap.objs.size→H.get? b=some o→h'.get? b=some o:=fun b o hb e=>hk' b o (by simpa using hb) e
  have hP':d7[0]?=some v:=by simpa using hP
  have hS':=hk2 _ _ hSI hS
  have kp':i9 B h':=fun b o e=>hk2 b o (fun q=>by subst q;rw [hBI] at e;cases e) (kpH b o e)
  show wpAny _ A.in1 (updateSeq (s.heap.objs.size+1) (fun ξ=>#[v,v]) >>= _) _ _ _
  refine wpAny_bind ?_
  refine wpAny_updateSeq hS' rfl ?_
  rw [hname]
  have o2:∀ b o,b≠s.heap.objs.size+1→h'.get? b=some o→(h'.update (s.heap.objs.size+1) (Obj.mapSeq fun ξ=>#[v,v])).get? b=some o:=fun b o hb e=>(Heap.get?_update_other _ _ (Ne.symm hb)).trans e
  refine wpAny_pure ⟨plainId_quiet PySem.F.plain_max_loop _,dj1 hh hI bt hcmp _ hSl hSI hBI hBS _ 0 _ v _ rfl hne (hst'.1.at fun o e=>o2 _ _ (Ne.symm hSI) e) (hst'.2.at fun o e=>o2 _ _ (Ne.symm hSl) e)
    (fun b o e=>o2 b o (fun q=>by subst q;rw [hBS] at e;cases e) (kp' b o e)) hP' (Heap.get?_update_self _ hS' rfl) fun v' h'' tk'' hP'' hk''=>?_⟩
  refine h v' h'' tk'' hP'' fun b o e=>?_
  have hb:=Heap.lt_size e
  exact hk'' b o (Nat.ne_of_lt hb) (Nat.ne_of_lt (Nat.lt_succ_of_lt hb)) (o2 b o (Nat.ne_of_lt (Nat.lt_succ_of_lt hb)) (hk2 b o (Nat.ne_of_lt hb) (old b o e)))
end
end
section
open PySem.Calls PySem.SeqAt
noncomputable def bv2 (lt:D→D→Bool) (ds:List D) (i j:Nat):Bool:=(ds[i]?.bind fun x=>ds[j]?.map fun y=>lt x y).getD false
theorem dw8 {lt:D→D→Bool} {ds:List D} {i j:Nat} {x y:D} (h1:ds[i]?=some x) (h2:ds[j]?=some y):bv2 lt ds i j=lt x y:=by unfold bv2;rw [h1,h2];rfl
theorem as7 (lt:D→D→Bool) (d:D) (r:List D):∀ k,k≤r.length→(d :: r)[argBest (bv2 lt (d :: r)) k]?=some ((r.take k).foldl (fun m x=>if lt x m then x else m) d)
  | 0,_=>by simp [argBest]
  | k+1,h=>by
    have ih:=as7 lt d r k (by exact Nat.le_of_lt ‹_›)
    have hx:(d :: r)[k+1]?=some r[k]:=by rw [List.getElem?_cons_succ,List.getElem?_eq_getElem (by assumption)]
    have e:=dw8 (lt:=lt) hx ih
    rw [show r.take (k+1)=r.take k ++ [r[k]] from by rw [List.take_succ_eq_append_getElem (by assumption)],List.foldl_append]
    show (d :: r)[argBest (bv2 lt (d :: r)) (k+1)]?=_
    unfold argBest
    rw [e]
    simp only [List.foldl_cons,List.foldl_nil]
    split
    · exact hx
    · exact ih
section
variable {w:World} {A:Around} {E:Value→Shared→Prop} {s:Shared} {B:FM}
theorem bx4 (up:Bool) {ds:List D} {vs:List Value} (hi:ds.all ar3=true) (r:RdL prog w B ds vs):ck2 prog w A B (bu0 up) vs (bv2 (match up with | true=>ltD | false=>fun a b=>ltD b a) ds):=by
  intro i j vi vj s Q E ei ej kp hQ
  have g:∀ {i:Nat} {v:Value},vs[i]?=some v→∃ n,ds[i]?=some (.int n)∧Rd prog w B (.int n) v:=by
    intro i v e
    have hlt:i < ds.length:=by rw [← r.length];exact (List.getElem?_eq_some_iff.mp e).1
    obtain ⟨v',e',r'⟩:=r.get (List.getElem?_eq_getElem hlt)
    rw [e] at e';cases e'
    obtain ⟨n,hn⟩:=dl1 (am2 hi _ (List.getElem_mem hlt))
    exact ⟨n,by rw [List.getElem?_eq_getElem hlt,hn],hn▸r'⟩
  obtain ⟨n,e1,r1⟩:=g ei
  obtain ⟨m,e2,r2⟩:=g ej
  refine df2 up r1 r2 prog w Q E ?_
  cases up <;> simpa [bv2,e1,e2] using hQ
theorem bw4 (up:Bool) {ds:List D} {vs:List Value} (hu:A.units+70 < cLine) (hi:ds.all ag0=true) (hz:ds.all SeqAt.shaped=true) (r:RdL prog w B ds vs):ck2 prog w A B (bu0 up) vs (bv2 (match up with | true=>ltD | false=>fun a b=>ltD b a) ds):=by
  intro i j vi vj s Q E ei ej kp hQ
  have g:∀ {i:Nat} {v:Value},vs[i]?=some v→∃ l,ds[i]?=some (.list l)∧(∀ x∈l,isStr x=true)∧SeqAt.shaped (.list l)=true∧Rd prog w B (.list l) v:=by
    intro i v e
    have hlt:i < ds.length:=by rw [← r.length];exact (List.getElem?_eq_some_iff.mp e).1
    obtain ⟨v',e',r'⟩:=r.get (List.getElem?_eq_getElem hlt)
    rw [e] at e';cases e'
    obtain ⟨n,hn,ha⟩:=df3 (am2 hi _ (List.getElem_mem hlt))
    exact ⟨n,by rw [List.getElem?_eq_getElem hlt,hn],ha,hn▸am2 hz _ (List.getElem_mem hlt),hn▸r'⟩
  obtain ⟨n,e1,a1,z1,r1⟩:=g ei
  obtain ⟨m,e2,a2,z2,r2⟩:=g ej
  refine cr3 up kp hu r1 r2 z1 z2 a1 a2 prog w Q E ?_
  cases up <;> simpa [bv2,e1,e2] using hQ
theorem ak0 {t:Sem Value} {Q:Value→Shared→Prop} (h:wpAny (model prog w) A t (fun v s'=>s.toks≤s'.toks→Q v s') E s):wpAny (model prog w) A t Q E s:=
  wpAny_with_toks (Nat.le_refl s.toks) (wpAny_mono h (fun ξ ξ q=>q) fun ξ ξ e ξ=>e)
theorem aj6 {ds:List D} {vs:List Value} {i:Nat} {v:Value} {d:D} (r:RdL prog w B ds vs) (e:vs[i]?=some v) (e2:ds[i]?=some d):Rd prog w B d v:=by
  obtain ⟨v',e',r'⟩:=r.get e2
  rw [e] at e';cases e'
  exact r'
theorem eg4 {l:List D} {v:Value} {d:D} (rm:A.handled=none) (hu:A.units+71 < cLine) (kp:i9 B s.heap) (t:f6 prog w s.heap B (.list l) v) (h:dk7 l=some d):wpAny (model prog w) A (call (.builtin "min") [v]) (EvP prog w B s d) E s:=by
  obtain ⟨a,o,vs,rfl,ho,x,r⟩:=t
  cases l with
  | nil=>cases h
  | cons d0 rest=>
    simp only [dk7] at h
    by_cases hc:((d0 :: rest).all ar3 || ((d0 :: rest).all ag0 && (d0 :: rest).all SeqAt.shaped))=true
    · rw [if_pos hc] at h
      cases h
      have hlen:=r.length
      have cb:ck2 prog w A.in1 B .Lt vs (bv2 ltD (d0 :: rest)):=by
        rcases Bool.or_eq_true_iff.mp hc with hc | hc
        · exact bx4 true hc r
        · obtain ⟨c1,c2⟩:=Bool.and_eq_true_iff.mp hc
          exact bw4 true (by show A.units+1+70 < cLine;assumption) c1 c2 r
      refine ak0 (di3 rm kp (x.isList ho) (by rw [hlen];simp) cb fun v h' tk hv hk=>?_)
      intro htk
      refine EvP.grown kp hk htk (aj6 r hv ?_)
      rw [hlen]
      have:=as7 ltD d0 rest rest.length (Nat.le_refl _)
      simpa using this
    · rw [if_neg hc] at h;cases h
theorem ee8 {l:List D} {v:Value} {d:D} (rm:A.handled=none) (hu:A.units+71 < cLine) (kp:i9 B s.heap) (t:f6 prog w s.heap B (.list l) v) (h:dl5 l=some d):wpAny (model prog w) A (call (.builtin "max") [v]) (EvP prog w B s d) E s:=by
  obtain ⟨a,o,vs,rfl,ho,x,r⟩:=t
  cases l with
  | nil=>cases h
  | cons d0 rest=>
    simp only [dl5] at h
    by_cases hc:((d0 :: rest).all ar3 || ((d0 :: rest).all ag0 && (d0 :: rest).all SeqAt.shaped))=true
    · rw [if_pos hc] at h
      cases h
      have hlen:=r.length
      have cb:ck2 prog w A.in1 B .Gt vs (bv2 (fun a b=>ltD b a) (d0 :: rest)):=by
        rcases Bool.or_eq_true_iff.mp hc with hc | hc
        · exact bx4 false hc r
        · obtain ⟨c1,c2⟩:=Bool.and_eq_true_iff.mp hc
          exact bw4 false (by show A.units+1+70 < cLine;assumption) c1 c2 r
      refine ak0 (dp3 rm kp (x.isList ho) (by rw [hlen];simp) cb fun v h' tk hv hk=>?_)
      intro htk
      refine EvP.grown kp hk htk (aj6 r hv ?_)
      rw [hlen]
      have:=as7 (fun a b=>ltD b a) d0 rest rest.length (Nat.le_refl _)
      simpa using this
    · rw [if_neg hc] at h;cases h
theorem bx0:∀ {l:List D} {is:List Int},l.mapM ai2=some is→l=is.map .int
  | [],is,h=>by simp at h;subst h;rfl
  | d :: l,is,h=>by
    rw [List.mapM_cons] at h
    cases d <;> simp only [ai2] at h <;> first | (cases h;done) | skip
    cases hl:l.mapM ai2 with
    | none=>rw [hl] at h;cases h
    | some js=>
      rw [hl] at h
      simp only [Option.pure_def,Option.bind_eq_bind,Option.bind_some,Option.some.injEq] at h
      subst h
      rw [bx0 hl];rfl
theorem dz0 {is:List Int} {vs:List Value} (q:IntsAre vs is):RdL prog w B (is.map .int) vs:=by
  induction q with
  | nil=>exact RdL.nil
  | cons n t h ih=>exact RdL.cons (ap2.mpr ⟨t,trivial,rfl⟩) ih
theorem cx9:∀ {is:List Int} {vs:List Value},RdL prog w B (is.map .int) vs→IntsAre vs is
  | [],vs,h=>by simp only [List.map_nil] at h;obtain rfl:=h;exact .nil
  | i :: is,vs,h=>by
    simp only [List.map_cons] at h;rw [RdL] at h
    obtain ⟨v,r,rfl,h1,h2⟩:=h
    obtain ⟨t,_,rfl⟩:=h1
    exact .cons i t (cx9 h2)
theorem eb0 {is:List Str} {vs:List Value} (q:StrsAre vs is):RdL prog w B (is.map .str) vs:=by
  induction q with
  | nil=>exact RdL.nil
  | cons n t h ih=>exact RdL.cons (bg0.mpr ⟨t,trivial,rfl⟩) ih
theorem cw9:∀ {is:List Str} {vs:List Value},RdL prog w B (is.map .str) vs→StrsAre vs is
  | [],vs,h=>by simp only [List.map_nil] at h;obtain rfl:=h;exact .nil
  | i :: is,vs,h=>by
    simp only [List.map_cons] at h;rw [RdL] at h
    obtain ⟨v,r,rfl,h1,h2⟩:=h
    obtain ⟨t,_,rfl⟩:=h1
    exact .cons i t (cw9 h2)
theorem ch5:∀ {l:List D},l.all isStr=true→∃ is:List Str,l=is.map .str
  | [],_=>⟨[],rfl⟩
  | d :: l,h=>by
    obtain ⟨h1,h2⟩:=Bool.and_eq_true_iff.mp (by simpa using h:(isStr d && l.all isStr)=true)
    obtain ⟨i,rfl⟩:=am9 h1
    obtain ⟨is,rfl⟩:=ch5 h2
    exact ⟨i :: is,rfl⟩
theorem bk0 {a b:Str} (h1:¬ b.cps.toList < a.cps.toList) (h2:¬ a.cps.toList < b.cps.toList):a=b:=by
  have:a.cps.toList=b.cps.toList:=List.le_antisymm (List.not_lt.mp h1) (List.not_lt.mp h2)
  cases a;cases b;congr 1;exact Array.toList_inj.mp this
theorem eq3 {a b c:List Nat} (h1:a < b) (h2:b≤c):a < c:=by
  refine Classical.byContradiction fun h=>?_
  exact absurd (List.lt_of_le_of_lt (List.le_trans h2 (List.not_lt.mp h)) h1) (List.lt_irrefl _)
theorem bq1:∀ {l:List Str} {p:Str},risingS p l=true→(∀ q∈l,¬ q.cps.toList < p.cps.toList)∧l.Pairwise (fun a b=>¬ b.cps.toList < a.cps.toList)
  | [],_,_=>⟨by simp,.nil⟩
  | x :: l,p,h=>by
    obtain ⟨h1,h2⟩:=Bool.and_eq_true_iff.mp (show (!Spec.ltCps x.cps.toList p.cps.toList && risingS x l)=true from h)
    obtain ⟨i1,i2⟩:=bq1 h2
    have hx:¬ x.cps.toList < p.cps.toList:=by
      rw [PyProof.Rows.ltCps_eq] at h1;simpa using h1
    refine ⟨fun q hq=>?_,List.pairwise_cons.mpr ⟨i1,i2⟩⟩
    rcases List.mem_cons.mp hq with rfl | hq
    · exact hx
    · intro hlt
      exact i1 q hq (eq3 hlt (List.not_lt.mp hx))
theorem dd7 {is js:List Str} (p:js.Perm is) (h:sortedS js=true):(is.map PyData.str).mergeSort leB=js.map .str:=by
  have e:(is.map PyData.str).mergeSort leB=(is.mergeSort (fun a b=>!decide (b.cps.toList < a.cps.toList))).map .str:=by
    rw [List.map_mergeSort]
    intro a _ b _
    rfl
  rw [e]
  congr 1
  have hp:js.Pairwise (fun a b=>¬ b.cps.toList < a.cps.toList):=by
    cases js with
    | nil=>exact .nil
    | cons x l=>
      obtain ⟨i1,i2⟩:=bq1 (p:=x) (l:=l) h
      exact List.pairwise_cons.mpr ⟨i1,i2⟩
  refine List.Perm.eq_of_pairwise (le:=fun a b=>¬ b.cps.toList < a.cps.toList) (fun a b ξ ξ h1 h2=>bk0 h1 h2) ?_ hp ((List.mergeSort_perm _ _).trans p.symm)
  have:=List.pairwise_mergeSort (le:=fun (a b:Str)=>!decide (b.cps.toList < a.cps.toList)) (fun a b c h1 h2=>by
    simp only [Bool.not_eq_true',decide_eq_false_iff_not] at *
    exact fun hc=>h1 (List.lt_of_le_of_lt (List.not_lt.mp h2) hc)) (fun a b=>by
    simp only [Bool.or_eq_true,Bool.not_eq_true',decide_eq_false_iff_not]
    by_cases q:b.cps.toList < a.cps.toList
    · exact .inr fun q2=>List.lt_irrefl _ (List.lt_trans q q2)
    · exact .inl q) is
  exact this.imp fun h=>by simpa using h
end
end
section
open PySem.Calls PySem.SeqAt
noncomputable def cc0:BF→String
  | .len=>"len" | .sorted=>"sorted" | .min=>"min" | .max=>"max" | .divmod=>"divmod"
section
variable {w:World} {A:Around} {E:Value→Shared→Prop} {s:Shared} {B:FM}
theorem db5 {l l':List D} {v:Value} (rm:A.handled=none) (hu:A.units+74 < cLine) (kp:i9 B s.heap) (t:f6 prog w s.heap B (.list l) v) (h:cg7 l=some l') :
    wpAny (model prog w) A (call (.builtin "sorted") [v]) (FrP prog w B s (.list l')) E s:=by
  unfold cg7 at h
  split at h
  · rename_i hc
    cases h
    obtain ⟨hc,hs⟩:=b8 hc
    obtain ⟨h64,hk⟩:=b8 hc
    obtain ⟨is,rfl⟩:=ch5 hk
    obtain ⟨a,o,vs,rfl,ho,x,r⟩:=t
    have hI:=cw9 r
    refine ak0 (sorted_strs (x.isList ho) hI (by rw [r.length];exact of_decide_eq_true h64) fun out ns' a1 a2 a3 htk=>?_)
    obtain ⟨e,he⟩:=sortedAll_at s.heap vs out
    rw [dd7 a2 a3]
    exact FrP.made kp (fun ξ ξ=>sortedAll_old) htk (i6 (Nat.le_succ _)) he ⟨rfl,e,rfl⟩ (eb0 a1) ⟨rfl,rfl⟩
  · cases h
theorem bh3 {P:D→Value→Prop} {d:D} {vs:List Value} (h:a9 P [d] vs):∃ v,vs=[v]∧P d v:=by
  cases h with | cons a b=>cases b;exact ⟨_,rfl,a⟩
theorem cb7 {P:D→Value→Prop} {d e:D} {vs:List Value} (h:a9 P [d,e] vs):∃ v u,vs=[v,u]∧P d v∧P e u:=by
  cases h with | cons a b=>cases b with | cons b c=>cases c;exact ⟨_,_,rfl,a,b⟩
theorem ek2 {d d':D} {v:Value} (kp:i9 B s.heap) (t:f6 prog w s.heap B d v) (h:ei1 d=some d'):wpAny (model prog w) A (call (.builtin "len") [v]) (EvP prog w B s d') E s:=by
  rcases ai9 h with q | q
  · obtain ⟨l,hl,q⟩:=a6 q
    obtain rfl:=l6 hl
    obtain ⟨hz,q⟩:=g6 q
    cases q
    obtain ⟨a,o,vs,rfl,ho,x,r2⟩:=t
    refine call_len_list (x.isList ho) (r2.size hz) ?_
    rw [List.size_toArray,r2.length]
    exact EvP.int kp trivial (Nat.le_add_right _ 2)
  · obtain ⟨l,hl,q⟩:=a6 q
    obtain rfl:=n9 hl
    obtain ⟨hz,q⟩:=g6 q
    cases q
    obtain ⟨t,_,rfl⟩:=t
    exact P.len_str (Int.not_le.mpr (dn7 hz)) (EvP.int kp trivial (Nat.le_add_right _ 2))
theorem ep5 {f:BF} {ds:List D} {vs:List Value} {d:D} (rm:A.handled=none) (hu:A.units+74 < cLine) (kp:i9 B s.heap) (r:a9 (fun d v=>f6 prog w s.heap B d v) ds vs) (h:bfD f ds=some d) :
    wpAny (model prog w) A (call (.builtin (cc0 f)) vs) (EvP prog w B s d) E s:=by
  have hu':A.units+73 < cLine:=Nat.lt_of_succ_lt hu
  cases f with
  | divmod=>
    obtain ⟨p,hp,q⟩:=a6 h
    obtain rfl:=ao9 hp
    obtain ⟨v,u,rfl,t1,t2⟩:=cb7 r
    obtain ⟨x,y,t,t',rfl,rfl,q⟩:=aj8 t1 t2 q
    obtain ⟨hc,q⟩:=g6 q
    cases q
    refine divmod_int (cr5 (of_decide_eq_true (b8 hc).1)) ?_ (Or.inl (au9 (b8 (b8 hc).2).2))
    exact (FrP.tuple (vs:=[.int (x.fdiv y) s.toks,.int (x.fmod y) (s.toks+1)]) (n:=0) kp (Nat.le_add_right _ 2) (RdL.cons (ap2.mpr ⟨_,trivial,rfl⟩) (RdL.cons (ap2.mpr ⟨_,trivial,rfl⟩) RdL.nil))).ev
  | len=>
    obtain ⟨d1,hd,q⟩:=a6 h
    obtain rfl:=aj7 hd
    obtain ⟨v,rfl,t⟩:=bh3 r
    exact ek2 kp t q
  | sorted=>
    obtain ⟨d1,hd,q⟩:=a6 h
    obtain ⟨l,hl,q⟩:=a6 q
    obtain rfl:=aj7 hd
    obtain rfl:=l6 hl
    obtain ⟨l',hl,rfl⟩:=ab5 q
    obtain ⟨v,rfl,t⟩:=bh3 r
    exact wpAny_mono (db5 rm hu kp t hl) (fun ξ ξ q=>q.ev) fun ξ ξ e=>e
  | min=>
    obtain ⟨d1,hd,q⟩:=a6 h
    obtain ⟨l,hl,q⟩:=a6 q
    obtain rfl:=aj7 hd
    obtain rfl:=l6 hl
    obtain ⟨v,rfl,t⟩:=bh3 r
    exact eg4 rm (by lia) kp t q
  | max=>
    rcases ai9 h with h | h
    · obtain ⟨d1,hd,q⟩:=a6 h
      obtain ⟨l,hl,q⟩:=a6 q
      obtain rfl:=aj7 hd
      obtain rfl:=l6 hl
      obtain ⟨v,rfl,t⟩:=bh3 r
      exact ee8 rm (by lia) kp t q
    · obtain ⟨p,hp,q⟩:=a6 h
      obtain rfl:=ao9 hp
      obtain ⟨v,u,rfl,t1,t2⟩:=cb7 r
      obtain ⟨x,y,t,t',h1,h2,q⟩:=aj8 t1 t2 q
      subst h1 h2
      cases q
      refine ak0 (max_two_ints rm fun h' tk hk htk=>?_)
      refine ⟨B,Gr.heap kp hk,?_,rfl,rfl,htk⟩
      split
      · rw [Int.max_eq_right (by lia)];exact ap2.mpr ⟨_,trivial,rfl⟩
      · rw [Int.max_eq_left (by lia)];exact ap2.mpr ⟨_,trivial,rfl⟩
end
section
variable {w:World} {h₀:Heap} {mg mb:Str→Option Value} {k:Nat} {calls:String→List D→Option D} {sc:Scope}
theorem ei6 {f:BF}:(Str.ofString (cc0 f),Value.builtin (cc0 f))∈([("len",.builtin "len"),("sorted",.builtin "sorted"),("min",.builtin "min"),("max",.builtin "max"),("sum",.builtin "sum"),("divmod",.builtin "divmod"),("isinstance",.builtin "isinstance"),
    ("range",.type "range"),("enumerate",.type "enumerate"),("zip",.type "zip"),("tuple",.type "tuple"),("map",.type "map"),("set",.type "set"),("bytes",.type "bytes"),("type",.type "type"),("issubclass",.builtin "issubclass"),("str",.type "str"),("IndexError",.type "IndexError")]:List (Str×Value)):=by
  cases f
  · exact .head _
  · exact .tail _ (.head _)
  · exact .tail _ (.tail _ (.head _))
  · exact .tail _ (.tail _ (.tail _ (.head _)))
  · exact .tail _ (.tail _ (.tail _ (.tail _ (.tail _ (.head _)))))
theorem at3 {es:List PySem.Expr} {env:Env} {pos:Pos} (h:es.all m8=true):(backTo pos (starEach es env)).any (·.1)=false:=by
  induction es with
  | nil=>rfl
  | cons e es ih=>
    have h':=b8 h
    rw [c9 h'.1,j6]
    simp [ih h'.2]
theorem w5 {x:Str} {f:BF} {es:List PySem.Expr} {irs:List IR} {p pos:Pos} (G:Glb h₀ mg mb) (hx:i4 sc x=true) (hf:Str.ofString (cc0 f)=x) (h:a9 (ac2 w h₀ k calls sc) es irs) (hn:es.all m8=true) :
    i8 w h₀ k calls sc (.Call (.Name x p) es [] pos) (.bcall f irs):=fun A E s env r B d ok hd=>by
  obtain ⟨ds,h1,hd⟩:=a6 hd
  subst hf
  refine Call_ (t7 G ok hx (G.bi _ _ ei6) ?_)
  cases es with
  | nil=>
    cases h
    cases h1
    cases f <;> cases hd
  | cons e rest=>
    have hn':=b8 hn
    refine callWith_builtin1 (cq2 h hn ok h1 fun vs s1 B1 g1 m1 r1 ok1=>?_) (c9 hn'.1) (at3 hn'.2)
    exact wpAny_mono (ep5 ok1.rm.handled (ok1.u (n:=74) (by decide)) ok1.keep r1 hd) (fun v s' q=>q.after g1 m1) fun ξ ξ e=>e
end
end
section
open PySem.Calls PySem.SeqAt
noncomputable def bb5:MF→String
  | .startswith=>"startswith" | .endswith=>"endswith" | .rstrip=>"rstrip" | .rfind=>"rfind" | .split=>"split" | .join=>"join" | .get=>"get"
section
variable {w:World} {A:Around} {E:Value→Shared→Prop} {s:Shared} {B:FM} {env:Env}
noncomputable def av7 (e:PySem.Expr):Bool:=e.ctorIdx == 23 || (e.ctorIdx == 19 || e.ctorIdx == 21)
theorem at7 {o:PySem.Expr} {nm:Str} (h:av7 o=true):attributeBase o nm env (PySem.eval o env)=PySem.eval o env:=by
  cases o <;> first | rfl | cases h
theorem dd5 {es:List PySem.Expr} {pos:Pos} (h:es.all m8=true):(backTo pos (starEach es env)).all (fun x=>!x.1)=true:=by
  induction es with
  | nil=>rfl
  | cons e es ih=>
    have h':=b8 h
    rw [c9 h'.1,j6]
    simp [ih h'.2]
theorem bc3 {es:List PySem.Expr} {pos:Pos} (h:es.all m8=true) (hl:es.length < 20) :
    ((backTo pos (starEach es env)).all (fun x=>!x.1) && (backToKw pos (keywordEach [] env)).all (fun x=>x.1.isSome)
      && decide (es.length+([]:List Keyword).length+(if ([]:List Keyword).isEmpty then 0 else 1) < 30))=true:=by
  rw [dd5 h]
  have:decide (es.length+([]:List Keyword).length+(if ([]:List Keyword).isEmpty then 0 else 1) < 30)=true:=by
    simp;exact Nat.le_trans ‹_› (Nat.le_of_ble_eq_true rfl)
  rw [this];rfl
theorem be9:∀ {l:List D} {ss:List Str},l.mapM aa8=some ss→l=ss.map .str
  | [],ss,h=>by cases h;rfl
  | d :: l,ss,h=>by
    rw [List.mapM_cons] at h
    obtain ⟨x,hx,q⟩:=a6 h
    obtain ⟨xs,hl,q⟩:=a6 q
    cases q
    rw [n9 hx,be9 hl];rfl
theorem br0:∀ {ss:List Str} {vs:List Value},RdL prog w B (ss.map .str) vs→∃ l:List (Str×Tok),vs=strValues l∧l.map (·.1)=ss
  | [],vs,h=>by obtain rfl:=h;exact ⟨[],rfl,rfl⟩
  | i :: is,vs,h=>by
    obtain ⟨v,r,rfl,h1,h2⟩:=h
    obtain ⟨t,_,rfl⟩:=h1
    obtain ⟨l,rfl,e⟩:=br0 h2
    exact ⟨(i,t) :: l,rfl,by simp [e]⟩
theorem bm4:∀ {l:List (Str×Tok)},RdL prog w B ((l.map (·.1)).map .str) (strValues l)
  | []=>RdL.nil
  | (x,t) :: l=>RdL.cons (bg0.mpr ⟨t,trivial,rfl⟩) bm4
theorem FrP.push {h:Heap} {o:Obj} {ds:List D} {vs:List Value} {tk:Nat} (kp:i9 B s.heap) (ht:s.toks≤tk) (r:RdL prog w B ds vs) (hs:ba0 "list" vs o) (hf:o.isFreed=false) (hpl:o.dict=none∧o.slots=#[]) :
    FrP prog w B s (.list ds) (.ref s.heap.objs.size) { s with heap:=s.heap.push o,toks:=tk }:=
  FrP.made kp (fun a x e=>Heap.get?_push_of_some _ e) ht (i6 (Nat.le_refl _)) (Heap.get?_push_size _ hf) hs r hpl
theorem cp5 (x y:Str):(Builtin.Str.partsBetween x (Builtin.Str.occurrences x y 0 x.length (x.length+1)) y.length).length≤x.length+2:=by
  rw [PySem.StrLaws.partsBetween_eq]
  have h:=StrLaws.occ_length_le x y 0 x.length (x.length+1)
  have:∀ (cuts:List Nat) (k:Nat),(StrLaws.partsFrom x y.length k cuts).length=cuts.length+1:=by
    intro cuts
    induction cuts with
    | nil=>intro k;rfl
    | cons c r ih=>intro k;simp [StrLaws.partsFrom,ih]
  rw [this];exact Nat.lt_succ_of_le ‹_›
theorem dg7 {x:Str} {t:Tok} {y:Str} {u:Tok} (kp:i9 B s.heap) (hz:sz (x.length+2)=true) (hy:y.length=1) :
    wpAny (model prog w) A (call (.builtin "str.split") [.str x t,.str y u]) (EvP prog w B s (.list ((Txt.split x y).map .str))) E s:=by
  have key:∀ (l:List (Str×Tok)) (tk:Nat) (n:Nat),l.map (·.1)=Txt.split x y→s.toks≤tk→EvP prog w B s (.list ((Txt.split x y).map .str)) (.ref s.heap.objs.size) { s with heap:=s.heap.push { cls:=.type "list",data:=.seq (strValues l).toArray n },toks:=tk }:=by
    intro l tk n e ht
    rw [← e]
    exact (FrP.push (h:=s.heap) kp ht bm4 ⟨rfl,n,rfl⟩ rfl ⟨rfl,rfl⟩).ev
  cases h1:(decide (x.length < y.length) || decide (Builtin.Str.strKind x < Builtin.Str.strKind y))
  · cases hf:(Builtin.Str.occurrences x y 0 x.length (x.length+1)).isEmpty
    · refine call_meets F.slot_str_split (typeIs_str _ _ _) F.entry_str_split (F.args_str_split_2 _ _) (meets_str_split_sep x y t u h1 (by simp [hy]) hf (Nat.le_trans (Nat.le_add_right _ 2) (ai5 hz)) (Nat.le_trans (cp5 x y) (ai5 hz))) ?_
      show wants _ _ _ { s with toks:=_,heap:=s.heap.push { cls:=.type "list",data:=.seq (strsFrom s.toks (Builtin.Str.partsBetween x (Builtin.Str.occurrences x y 0 x.length (x.length+1)) y.length)).toArray } }
      rw [strsFrom_eq]
      exact key (numbered s.toks _) _ _ ((numbered_texts _ _).trans ((if_neg (ne_true_of_eq_false h1)).trans (if_neg (ne_true_of_eq_false hf))).symm) (Nat.le_add_right _ _)
    · exact call_meets F.slot_str_split (typeIs_str _ _ _) F.entry_str_split (F.args_str_split_2 _ _) (meets_str_split_not_found x y t u h1 (by simp [hy]) hf)
        (key [(x,t)] _ _ ((if_neg (ne_true_of_eq_false h1)).trans (if_pos hf)).symm (Nat.le_refl _))
  · exact call_meets F.slot_str_split (typeIs_str _ _ _) F.entry_str_split (F.args_str_split_2 _ _) (meets_str_split_cannot_occur x y t u h1)
      (key [(x,t)] _ _ (if_pos h1).symm (Nat.le_refl _))
theorem bj4 {m:MF} {x:Str} {t:Tok} {d1:D} {v:Value} {d:D} (kp:i9 B s.heap) (r:f6 prog w s.heap B d1 v) (h:smD m x d1=some d) :
    wpAny (model prog w) A (call (.builtin ("str." ++ bb5 m)) [.str x t,v]) (EvP prog w B s d) E s:=by
  cases m with
  | startswith=>
    obtain ⟨y,hy,rfl⟩:=ab5 h
    obtain rfl:=n9 hy
    obtain ⟨u,_,rfl⟩:=r
    exact SC.startswith (EvP.bool0 kp)
  | endswith=>
    obtain ⟨y,hy,rfl⟩:=ab5 h
    obtain rfl:=n9 hy
    obtain ⟨u,_,rfl⟩:=r
    exact SC.endswith (EvP.bool0 kp)
  | rstrip=>
    obtain ⟨y,hy,q⟩:=a6 h
    obtain rfl:=n9 hy
    obtain ⟨hz,q⟩:=g6 q
    cases q
    obtain ⟨u,_,rfl⟩:=r
    exact ak0 (SC.rstripChars (fun t' k htk=>EvP.str kp trivial htk) (ai5 hz))
  | rfind=>
    obtain ⟨y,hy,rfl⟩:=ab5 h
    obtain rfl:=n9 hy
    obtain ⟨u,_,rfl⟩:=r
    exact SC.rfind (EvP.int kp trivial (Nat.le_succ _))
  | split=>
    obtain ⟨y,hy,q⟩:=a6 h
    obtain rfl:=n9 hy
    obtain ⟨hc,q⟩:=g6 q
    cases q
    obtain ⟨u,_,rfl⟩:=r
    exact dg7 kp (b8 hc).1 (ad9 (b8 hc).2)
  | join=>
    obtain ⟨l,hl,q⟩:=a6 h
    obtain ⟨ss,h1,q⟩:=a6 q
    obtain rfl:=l6 hl
    obtain ⟨hc,q⟩:=g6 q
    cases q
    obtain rfl:=be9 h1
    obtain ⟨a,o,vs,rfl,ho,xs,rr⟩:=r
    obtain ⟨l,rfl,e⟩:=br0 rr
    exact ak0 (SC.join (xs.isList ho) e (b8 hc).1 fun t' k htk=>EvP.str kp trivial htk)
  | get=>cases h
theorem cv5 {m:MF} (hm:m≠.get):PySem.Slot "str" (Str.ofString (bb5 m)) ("str." ++ bb5 m)∧typeOf (.builtin ("str." ++ bb5 m))=pure (.type "method_descriptor"):=by
  cases m
  · exact ⟨F.slot_str_startswith,F.type_str_startswith⟩
  · exact ⟨F.slot_str_endswith,F.type_str_endswith⟩
  · exact ⟨F.slot_str_rstrip,F.type_str_rstrip⟩
  · exact ⟨F.slot_str_rfind,F.type_str_rfind⟩
  · exact ⟨F.slot_str_split,F.type_str_split⟩
  · exact ⟨F.slot_str_join,F.type_str_join⟩
  · exact absurd rfl hm
end
end
section
open PySem.Calls PySem.SeqAt
section
variable {w:World} {h₀:Heap} {mg mb:Str→Option Value} {k:Nat} {calls:String→List D→Option D} {sc:Scope}
inductive cu5 (m:MF) (a:IR) (irs:List IR) (r:Rho) (d:D):Prop
  | mk (x:Str) (d1:D) (hx:look calls a r=some (.str x)) (h1:(bif at2 m then ao7 calls irs r else ab8 calls irs r)=some [d1]) (hd:smD m x d1=some d):cu5 m a irs r d
theorem dp6 {m:MF} {a:IR} {irs:List IR} {r:Rho} {d:D} (hm:ct9 m=false) (hd:eval calls (.meth m a irs) r=some d):cu5 (calls:=calls) m a irs r d:=by
  have key:∀ {f:Str→Str→Bool} {b:Bool},(do let x ← look calls a r;let ds ← ab8 calls irs r;as9 (fun x y=>some (f x y)) x (← one ds))=some b→at2 m=false→(∀ x y,smD m x (.str y)=some (.bool (f x y)))→cu5 (calls:=calls) m a irs r (.bool b):=by
    intro f b hb hj hs
    obtain ⟨x,hx,hb⟩:=a6 hb
    obtain ⟨ds,h1,hb⟩:=a6 hb
    obtain ⟨d1,h2,hb⟩:=a6 hb
    obtain ⟨x,y,rfl,rfl,hb⟩:=aq8 hb
    cases hb
    exact ⟨x,_,hx,by rw [hj,← aj7 h2];exact h1,hs x y⟩
  have key2:(do let x ← look calls a r;let ds ← bif at2 m then ao7 calls irs r else ab8 calls irs r;mfD m x ds)=some d→cu5 (calls:=calls) m a irs r d:=by
    intro hd
    obtain ⟨x,hx,hd⟩:=a6 hd
    obtain ⟨ds,h1,hd⟩:=a6 hd
    unfold mfD at hd
    rw [hm] at hd
    obtain ⟨y,h2,hd⟩:=a6 hd
    obtain ⟨d1,h3,hd⟩:=a6 hd
    exact ⟨y,d1,n9 h2▸hx,aj7 h3▸h1,hd⟩
  cases m with
  | startswith=>obtain ⟨b,hb,rfl⟩:=ab5 hd;exact key hb rfl fun ξ ξ=>rfl
  | endswith=>obtain ⟨b,hb,rfl⟩:=ab5 hd;exact key hb rfl fun ξ ξ=>rfl
  | get=>cases hm
  | _=>exact key2 hd
theorem cv6 {m:MF} {o:PySem.Expr} {a:IR} {nm:Str} {es:List PySem.Expr} {irs:List IR} {ap pos:Pos} (ho:ac2 w h₀ k calls sc o a) (hr:av7 o=true) (hp:(ap.endLine == pos.line)=true) (hl:es.length < 20)
    (hm:ct9 m=false) (hf:Str.ofString (bb5 m)=nm) (h:a9 (if at2 m=true then ac2 w h₀ k calls sc else i8 w h₀ k calls sc) es irs) (hn:es.all m8=true) :
    i8 w h₀ k calls sc (.Call (.Attribute o nm ap) es [] pos) (.meth m a irs):=fun A E s env r B d ok hd=>by
  obtain ⟨x,d1,hx,h1,hd⟩:=dp6 hm hd
  have hm':m≠.get:=by rintro rfl;cases hm
  subst hf
  refine wpAny_Call_method (at7 hr) (bc3 hn hl) hp F.plainAttrs_str (cv5 hm').1 (cv5 hm').2 ?_
  refine k8 ho ok hx fun v s1 B1 g1 m1 t1 ok1=>?_
  obtain ⟨t,_,rfl⟩:=t1
  refine ⟨typeIs_str _ _ _,nofun,?_⟩
  cases es with
  | nil=>
    cases h
    cases m <;> cases h1
  | cons e rest=>
    have hn':=b8 hn
    refine callWith_method1 ?_ (c9 hn'.1) (at3 hn'.2)
    cases hj:at2 m with
    | true=>
      rw [hj] at h h1
      refine cq2 h hn ok1 h1 fun vs s2 B2 g2 m2 r2 ok2=>?_
      obtain ⟨v,rfl,t2⟩:=bh3 r2
      exact wpAny_mono (bj4 g2.keep t2 hd) (fun v s' q=>(q.after g2 m2).after g1 m1) fun ξ ξ e=>e
    | false=>
      rw [hj] at h h1
      refine bh0 h hn ok1 h1 fun vs s2 B2 g2 m2 r2 ok2=>?_
      obtain ⟨v,r,rfl,r2,r3⟩:=r2
      cases (r3:r=[])
      exact wpAny_mono (bj4 g2.keep (r2.top g2.keep) hd) (fun v s' q=>(q.after g2 m2).after g1 m1) fun ξ ξ e=>e
theorem et9 {A:Around} {E:Value→Shared→Prop} {s:Shared} {env:Env} {x y:Str} {k1 k2:Nat} {p1 p2 pos:Pos} {Q:List Value→Shared→Prop} (h:Q [.str x s.toks,.str y (s.toks+1)] { s with toks:=s.toks+1+1 }) :
    wpAny (model prog w) A (spliced (backTo pos (starEach [.Constant (.str x) k1 p1,.Constant (.str y) k2 p2] env))) Q E s:=
  spliced_cons (Constant_str (k:=k1) (pos:=p1) (spliced_cons (Constant_str (k:=k2) (pos:=p2) (spliced_nil h))))
theorem ej5 {o:PySem.Expr} {a:IR} {es:List PySem.Expr} {irs:List IR} {ap pos:Pos} (ho:ac2 w h₀ k calls sc o a) (hr:av7 o=true) (hp:(ap.endLine == pos.line)=true)
    (h:a9 (i8 w h₀ k calls sc) es irs) (hn:es.all m8=true) (hl:es.length < 20) :
    i8 w h₀ k calls sc (.Call (.Attribute o "get" ap) es [] pos) (.meth .get a irs):=fun A E s env r B d ok hd=>by
  obtain ⟨x,hx,hd⟩:=a6 hd
  obtain ⟨ds,h1,hd⟩:=a6 hd
  obtain ⟨kvs,hk,q⟩:=a6 hd
  obtain ⟨⟨kd,df⟩,h2,q⟩:=a6 q
  obtain rfl:=ax6 hk
  obtain rfl:=ao9 h2
  obtain ⟨hc,q⟩:=g6 q
  cases q
  obtain ⟨x,rfl⟩:=as0 (b8 hc).1
  refine wpAny_Call_method (at7 hr) (bc3 hn hl) hp F.plainAttrs_dict F.slot_dict_get F.type_dict_get ?_
  refine k8 ho ok hx fun v s1 B1 g1 m1 t1 ok1=>?_
  obtain ⟨l,o,ps,rfl,hob,⟨hdo,hns⟩,hrk⟩:=t1
  have hdo':=(ab0 hob hdo).mapOf
  refine ⟨hdo'.typeIs,hdo'.noDict,?_⟩
  cases h with
  | nil=>cases h1
  | @cons e ir rest irs' he hrest=>
    obtain ⟨d1,q1,h1⟩:=a6 h1
    obtain ⟨l1,q2,h1⟩:=a6 h1
    cases h1
    cases hrest with
    | nil=>cases q2
    | @cons e' ir' rest' irs'' he' hrest'=>
      obtain ⟨d2,q3,q2⟩:=a6 q2
      obtain ⟨l2,q4,q2⟩:=a6 q2
      cases q2
      cases hrest' with
      | cons _ _=>obtain ⟨_,_,q4⟩:=a6 q4;obtain ⟨_,_,q4⟩:=a6 q4;cases q4
      | nil=>
      have hn':=b8 hn
      rw [c9 hn'.1,c9 (b8 hn'.2).1]
      refine wpAny_dict_get2 (knd:=kk prog w) (ei3 hns) (ak4 he ok1 q1 fun v1 s2 B2 g2 m2 r2 ok2=>ak4 he' ok2 q3 fun v2 s3 B3 g3 m3 r3 ok3=>?_)
      refine ⟨x,_,Rd.keyis r2,(ab0 ((g2.old.trans g3.old).solid hob (ag3 hdo)) hdo).mapOf,?_⟩
      have g:=g1.trans (g2.trans g3)
      have m:=m1.trans (m2.trans m3)
      cases hrk.find (x:=x) with
      | no e1 e2=>
        rw [e1,e2]
        exact ⟨B3,g,r3,m.gens,m.os,Nat.le_succ_of_le m.toks⟩
      | yes e v e1 e2 f2=>
        rw [e1,e2]
        exact ⟨B3,g,f2.mono (g2.le.trans g3.le),m.gens,m.os,Nat.le_succ_of_le m.toks⟩
theorem cq3 {o:PySem.Expr} {a:IR} {x y:Str} {k1 k2:Nat} {p1 p2 ap pos:Pos} (ho:ac2 w h₀ k calls sc o a) (hr:av7 o=true) (hp:(ap.endLine == pos.line)=true) :
    i8 w h₀ k calls sc (.Call (.Attribute o "replace" ap) [.Constant (.str x) k1 p1,.Constant (.str y) k2 p2] [] pos) (.replace a x y):=fun A E s env r B d ok hd=>by
  obtain ⟨z,hx,hd⟩:=a6 hd
  obtain ⟨z,hz,hd⟩:=a6 hd
  obtain rfl:=n9 hz
  obtain ⟨hc,hd⟩:=g6 hd
  cases hd
  refine wpAny_Call_method (at7 hr) (bc3 rfl (by show 2 < 20;decide)) hp F.plainAttrs_str F.slot_str_replace F.type_str_replace ?_
  refine k8 ho ok hx fun v s1 B1 g1 m1 t1 ok1=>?_
  obtain ⟨t,_,rfl⟩:=t1
  refine ⟨typeIs_str _ _ _,nofun,?_⟩
  refine callWith_method1 (et9 ?_) rfl rfl
  have h1:s1.toks≠0:=Nat.ne_of_gt ok1.toks
  refine ak0 (SC.replace h1 (Nat.succ_ne_zero _) (Nat.ne_of_lt (Nat.lt_succ_self _)) ((Bool.not_eq_true' _).mp (b8 hc).1) (of_decide_eq_true (b8 hc).2) fun t' k htk=>?_)
  exact ⟨B1,g1,bg0.mpr ⟨t',trivial,rfl⟩,m1.gens,m1.os,Nat.le_trans m1.toks (Nat.le_trans (Nat.le_add_right _ 2) htk)⟩
theorem by3 {x t:Str} {e:PySem.Expr} {a:IR} {p q pos:Pos} (G:Glb h₀ mg mb) (hx:i4 sc x=true) (hf:x="isinstance") (ht:i4 sc t=true) (hf2:t="bytes") (h:ac2 w h₀ k calls sc e a) (hn:m8 e=true) :
    i8 w h₀ k calls sc (.Call (.Name x p) [e,.Name t q] [] pos) (.isinst a "bytes"):=fun A E s env r B d ok hd=>by
  subst hf hf2
  obtain ⟨b,hb,rfl⟩:=ab5 hd
  obtain ⟨z,hz,hb⟩:=a6 hb
  obtain ⟨y,hy,hb⟩:=a6 hb
  cases hb
  obtain rfl:=n9 hy
  refine Call_ (t7 G ok hx (G.bi _ (.builtin "isinstance") (by simp)) ?_)
  refine callWith_builtin1 ?_ (c9 hn) rfl
  rw [c9 hn,j6]
  refine spliced_cons (k8 h ok hz fun v s1 B1 g1 m1 t1 ok1=>?_)
  show wpAny _ _ (spliced [(false,PySem.eval (.Name "bytes" q) env)]) _ _ _
  refine spliced_cons (t7 G ok1 ht (G.bi _ (.type "bytes") (by simp)) (spliced_nil ?_))
  obtain ⟨t,_,rfl⟩:=t1
  exact IsiPair.str_bytes ⟨B1,g1,cx1.mpr rfl,m1.gens,m1.os,Nat.le_succ_of_le m1.toks⟩
end
end
section
open PySem.Calls PySem.SeqAt
section
variable {w:World} {B:FM}
theorem RdK.any {x:Key}:∀ {kvs:List (D×D)} {ps:List (Key×Value)},RdK prog w B kvs ps→(kvs.any fun e=>eqK e.1 (.str x))=ps.any (fun kv=>kv.1=x)
  | [],ps,h=>by obtain rfl:=h;rfl
  | e :: r,ps,h=>by
    obtain ⟨k',v',r',rfl,h0,h1,h2⟩:=h
    rw [List.any_cons,List.any_cons,az5 h0,RdK.any h2]
theorem RdK.put {v:D} {x:Key} {u:Value} (hv:Rd prog w B v u):∀ {kvs:List (D×D)} {ps:List (Key×Value)},RdK prog w B kvs ps→
    RdK prog w B (kvs.map fun e=>if eqK e.1 (.str x) then (e.1,v) else e) (ps.map fun kv=>if kv.1=x then (kv.1,u) else kv)
  | [],ps,h=>by obtain rfl:=h;rfl
  | e :: r,ps,h=>by
    obtain ⟨k',v',r',rfl,h0,h1,h2⟩:=h
    by_cases q:k'=x
    · have e1:(if eqK e.1 (.str x)=true then (e.1,v) else e)=(e.1,v):=if_pos ((az5 h0).trans (decide_eq_true q))
      exact ⟨k',u,_,congrArg (· :: _) (if_pos q),(congrArg (fun e:D×D=>bn7 e.1) e1).trans h0,(congrArg (fun e:D×D=>Rd prog w B e.2 u) e1).mpr hv,RdK.put hv h2⟩
    · have e1:(if eqK e.1 (.str x)=true then (e.1,v) else e)=e:=if_neg (by rw [az5 h0,decide_eq_false q];exact Bool.false_ne_true)
      exact ⟨k',v',_,congrArg (· :: _) (if_neg q),(congrArg (fun e:D×D=>bn7 e.1) e1).trans h0,(congrArg (fun e:D×D=>Rd prog w B e.2 v') e1).mpr h1,RdK.put hv h2⟩
theorem RdK.snoc {v:D} {x:Key} {u:Value} (hv:Rd prog w B v u):∀ {kvs:List (D×D)} {ps:List (Key×Value)},RdK prog w B kvs ps→RdK prog w B (kvs ++ [(.str x,v)]) (ps ++ [(x,u)])
  | [],ps,h=>by
    obtain rfl:=h
    exact ⟨x,u,[],rfl,rfl,hv,rfl⟩
  | e :: r,ps,h=>by
    obtain ⟨k',v',r',rfl,h0,h1,h2⟩:=h
    exact ⟨k',v',_,rfl,h0,h1,RdK.snoc hv h2⟩
theorem RdK.stored {v:D} {x:Key} {u:Value} {kvs:List (D×D)} {ps:List (Key×Value)} (hv:Rd prog w B v u) (h:RdK prog w B kvs ps):RdK prog w B (ax5 kvs (.str x) v) (stored ps x u):=by
  unfold ax5 PySem.stored
  rw [RdK.any h]
  split
  · exact RdK.put hv h
  · exact RdK.snoc hv h
noncomputable def ci7 (prog:Program) (w:World) (B:FM):List (D×D)→List (Key×Value)→Prop
  | [],ps=>ps=[]
  | e :: r,ps=>∃ x u ps',ps=(x,u) :: ps'∧bn7 e.1=some x∧Rd prog w B e.2 u∧ci7 prog w B r ps'
theorem ci7.merged:∀ {es:List (D×D)} {ps:List (Key×Value)} {kvs:List (D×D)} {acc:List (Key×Value)},ci7 prog w B es ps→RdK prog w B kvs acc→RdK prog w B (es.foldl (fun m e=>ax5 m e.1 e.2) kvs) (PySem.merged acc ps)
  | [],ps,kvs,acc,h,k=>by cases h;exact k
  | e :: r,ps,kvs,acc,h,k=>by
    obtain ⟨x,u,ps',rfl,h1,h2,h3⟩:=h
    obtain ⟨a,b⟩:=e
    cases n9 h1
    exact ci7.merged (kvs:=ax5 kvs (.str x) b) (acc:=PySem.stored acc x u) h3 (RdK.stored h2 k)
end
section
variable {w:World} {h₀:Heap} {mg mb:Str→Option Value} {k:Nat} {calls:String→List D→Option D} {sc:Scope}
theorem dg3 {ks:List PySem.Expr} {iks:List IR} {A:Around} {E:Value→Shared→Prop} {env:Env} {r:Rho} {pos:Pos} (hk:a9 (i8 w h₀ k calls sc) ks iks) :
    ∀ {vs:List PySem.Expr} {ivs:List IR} {s:Shared} {B:FM} {dk dv:List D} {Q:List (Value×Value)→Shared→Prop},a9 (i8 w h₀ k calls sc) vs ivs→Ok prog w h₀ k A env sc r B s→ab8 calls iks r=some dk→ab8 calls ivs r=some dv→dk.length=dv.length→dk.all z6=true→
    (∀ ps kvs s' B',Gr B s.heap B' s'.heap→n7 s s'→Carries (kk prog w) ps kvs→ci7 prog w B' (dk.zip dv) kvs→Ok prog w h₀ k A env sc r B' s'→Q ps s')→
    wpAny (model prog w) A (evalPairs (pairTrees (ks.map some) vs env pos)) Q E s:=by
  induction hk with
  | nil=>
    intro vs ivs s B dk dv Q hv ok h1 h2 hl ha hQ
    cases h1
    exact evalPairs_nil (hQ _ [] _ B (Gr.refl ok.keep) (.refl s) trivial rfl ok)
  | @cons x ir xs irs hx hxs ih=>
    intro vs ivs s B dk dv Q hv ok h1 h2 hl ha hQ
    obtain ⟨d,q1,h1⟩:=a6 h1
    obtain ⟨ds',q2,h1⟩:=a6 h1
    cases h1
    cases hv with
    | nil=>
      cases h2;cases hl
    | @cons y jr ys jrs hy hys=>
      obtain ⟨e,q3,h2⟩:=a6 h2
      obtain ⟨es',q4,h2⟩:=a6 h2
      cases h2
      obtain ⟨a1,a2⟩:=b8 ha
      obtain ⟨kx,rfl⟩:=as0 a1
      rw [List.map_cons,pairTrees]
      refine evalPairs_cons (ak4 hx ok q1 fun v s1 B1 g1 m1 r1 ok1=>?_)
      refine wpAny_bind (ak4 hy ok1 q3 fun u s2 B2 g2 m2 r2 ok2=>wpAny_bind (wpAny_standAt (wpAny_pure ?_)))
      refine ih hys ok2 q2 q4 (Nat.succ.inj hl) a2 fun ps kvs s3 B3 g3 m3 c3 p3 ok3=>?_
      exact hQ _ ((kx,u) :: kvs) s3 B3 (g1.trans (g2.trans g3)) (m1.trans (m2.trans m3)) ⟨Rd.keyis r1,rfl,c3⟩ ⟨kx,u,kvs,rfl,rfl,r2.mono g3.le,p3⟩ ok3
theorem ea2 {ks vs:List PySem.Expr} {iks ivs:List IR} {pos:Pos} {A:Around} {E:Value→Shared→Prop} {s:Shared} {env:Env} {r:Rho} {B:FM} {d:D} (G:Glb h₀ mg mb) (hk:a9 (i8 w h₀ k calls sc) ks iks) (hv:a9 (i8 w h₀ k calls sc) vs ivs)
    (hl:ks.length=vs.length) (h0:ks≠[]) (h15:ks.length≤15) (ok:Ok prog w h₀ k A env sc r B s) (hd:eval calls (.dict iks ivs) r=some d):wpAny (model prog w) A (PySem.eval (.Dict (ks.map some) vs pos) env) (FrP prog w B s d) E s:=by
  obtain ⟨dk,h1,hd⟩:=a6 hd
  obtain ⟨dv,h2,hd⟩:=a6 hd
  obtain ⟨hc,hd⟩:=g6 hd
  cases hd
  obtain ⟨c1,hc⟩:=b8 hc
  have c2:=ad9 (b8 hc).1
  have hbig:=ok.big G
  have hne:ks.map some≠([]:List (Option PySem.Expr)):=by simpa using h0
  refine wpAny_Dict_walk (knd:=kk prog w) (by simp) (by simpa using hl) hne (by simpa using h15) ?_
  have g0:Gr B s.heap B (s.heap.push { cls:=.type "dict",data:=.dict #[] }):=Gr.heap ok.keep fun a x e=>Heap.get?_push_of_some _ e
  have ok0:Ok prog w h₀ k A env sc r B { s with heap:=s.heap.push { cls:=.type "dict",data:=.dict #[] } }:=ok.step (s':={ s with heap:=s.heap.push { cls:=.type "dict",data:=.dict #[] } }) g0 ⟨rfl,rfl,Nat.le_refl _⟩
  refine dg3 hk hv ok0 h1 h2 c2 c1 fun ps kvs s1 B1 g1 m1 ca pr ok1=>?_
  have hn0:s.heap.get? s.heap.objs.size=none:=i6 (Nat.le_refl _)
  have hB0:B s.heap.objs.size=none:=r7 ok.keep hn0
  obtain ⟨o0,ho0,hd0⟩:=Heap.dictOf_iff.mp (Heap.DictOf.new (knd:=kk prog w) s.heap)
  have hB1:B1 s.heap.objs.size=none:=by
    cases e:B1 s.heap.objs.size with
    | none=>rfl
    | some o=>
      rcases g1.new _ _ e with q | q
      · rw [hB0] at q;cases q
      · rw [show (s.heap.push { cls:=.type "dict",data:=.dict #[] }).get? s.heap.objs.size=some o0 from ho0] at q;cases q
  refine ⟨kvs,ca,ab0 (g1.old.solid ho0 (ag3 hd0)) hd0,fun h' hd' hsb=>?_⟩
  obtain ⟨o,ho,hio⟩:=Heap.dictOf_iff.mp hd'
  have old:∀ a x,s1.heap.get? a=some x→a≠s.heap.objs.size→h'.get? a=some x:=fun a x e q=>(hsb.2 a q).trans e
  have ne:∀ {a x},s.heap.get? a=some x→a≠s.heap.objs.size:=fun e q=>by subst q;rw [hn0] at e;cases e
  refine ⟨B1,_,rfl,⟨g1.le,fun a x e=>((g0.old.trans g1.old) a x e).trans fun o' e'=>.inl (old a o' e' (ne e)),fun a x e=>old a x (g1.keep a x e) (fun q=>by subst q;rw [hB1] at e;cases e),fun a x e=>?_⟩,hn0,hB1,show f6 prog w _ _ (.dict _) _ from ⟨_,o,_,rfl,ho,⟨hio,hbig⟩,pr.merged (rfl)⟩,⟨m1.gens,m1.os,Nat.le_trans m1.toks (Nat.le_add_right _ _)⟩,fun o' e=>by rw [show h'.get? _=some o from ho] at e;cases e;obtain ⟨_,_,hx,_⟩:=hio;exact hx.2⟩
  rcases g1.new a x e with q | q
  · exact .inl q
  · refine .inr ?_
    exact g0.old.back q
end
end
section
open PySem.Calls PySem.SeqAt
noncomputable def az1 (h:Heap) (b:Addr):Prop:=∃ o,h.get? b=some o∧an9 o
theorem az1.ne {h:Heap} {b:Addr} (x:az1 h b):h.get? b≠none:=let ⟨_,e,_⟩:=x;by rw [e];simp
noncomputable def bc7 (e:PySem.Expr):Bool:=e.ctorIdx == 23
inductive bb8 (prog:Program) (w:World) (A:Around) (target:PySem.Expr) (V:Addr→Prop) (B0:FM) (s0:Shared) (its:List D) (it:Value) (s2:Shared):Prop
  | mk (I:Addr) (fp wr:List Addr) (P Md:Nat→Value→Heap→Prop) (St:Nat→Heap→Prop) (B:FM) (h1:it = .ref I) (h2:KTurns prog w A target I fp wr its.length P Md St) (h3:St 0 s2.heap) (h4:Gr B0 s0.heap B s2.heap) (h5:n7 s0 s2) (h6:(∀ i h,St i h→∀ b∈fp,az1 h b)) (h7:(∀ b∈wr,s0.heap.get? b=none∧B b=none)) (h8:(∀ b∈fp,b∈wr∨B b≠none∨V b)) (h9:(∀ i v h B',P i v h→B.le B'→i9 B' h→∃ d,its[i]?=some d∧f6 prog w h B' d v∧(bc7 target=true→Rd prog w B' d v))) (h10:(∀ i s Q E,St i s.heap→Q (.ref I) s→wpAny (model prog w) A (pyIter (.ref I)) Q E s))
noncomputable def cu3:List String:=["enumerate","zip","dict_itemiterator","dict_reverseitemiterator","odict_iterator","itertools.zip_longest","itertools.pairwise"]
section
variable {w:World} {B:FM}
theorem cq1 {d:D} {a:Addr} (t:Rd prog w B d (.ref a)):B a≠none:=by
  cases d with
  | none=>cases t
  | bool b=>cases t
  | int i=>obtain ⟨_,_,e⟩:=t;cases e
  | str x=>obtain ⟨_,_,e⟩:=t;cases e
  | list l=>obtain ⟨a',o,vs,e,ho,_⟩:=t;cases e;rw [ho];simp
  | tuple l=>obtain ⟨a',o,vs,e,ho,_⟩:=t;cases e;rw [ho];simp
  | dict l=>obtain ⟨a',o,vs,e,ho,_⟩:=t;cases e;rw [ho];simp
end
section
variable {w:World} {A:Around} {s:Shared}
theorem dt6 {target:PySem.Expr} {I:Addr} {o:Obj} {n:String} {v:Value} {Q:Unit→Shared→Prop} {E:Value→Shared→Prop} (ho:s.heap.get? I=some o) (hc:o.cls = .type n) (hn:cu3.contains n=false) (h:Q () s) :
    wpAny (model prog w) A (letOwnedTupleGo target (.ref I) v) Q E s:=by
  unfold letOwnedTupleGo
  split
  · cases v <;> first | exact wpAny_pure h | skip
    refine wpAny_bind (wpAny_load ho ?_)
    rw [hc]
    cases o.data <;> first | exact wpAny_pure h | skip
    show wpAny _ _ (if (cu3.contains n && _)=true then _ else _) _ _ _
    rw [hn,Bool.false_and,if_neg Bool.false_ne_true]
    exact wpAny_pure h
  · cases v <;> first | exact wpAny_pure h | skip
    refine wpAny_bind (wpAny_load ho ?_)
    rw [hc]
    cases o.data <;> first | exact wpAny_pure h | skip
    show wpAny _ _ (if (cu3.contains n && _)=true then _ else _) _ _ _
    rw [hn,Bool.false_and,if_neg Bool.false_ne_true]
    exact wpAny_pure h
  · exact wpAny_pure h
end
section
variable {w:World} {A:Around} {s0 s:Shared} {B0 B:FM} {target:PySem.Expr} {V:Addr→Prop}
theorem bb8.walk {its:List D} {fp:List Addr} {P:Nat→Value→Prop} {St:Nat→Heap→Prop} {o:Obj} {n:String} (W:Walks prog w A s.heap.objs.size fp [s.heap.objs.size] its.length P St)
    (g:Gr B0 s0.heap B s.heap) (m:n7 s0 s) (hc:o.cls = .type n) (hn:cu3.contains n=false) (hf:o.isFreed=false) (hst:St 0 (s.heap.push o)) (hcls:∀ i h,St i h→∃ o,h.get? s.heap.objs.size=some o∧o.cls = .type n)
    (hfp:∀ i h,St i h→∀ b∈fp,az1 h b) (hV:∀ b∈fp,b≠s.heap.objs.size→B b≠none∨V b) (hrd:∀ i v (h:Heap) B',P i v→B.le B'→i9 B' h→∃ d,its[i]?=some d∧f6 prog w h B' d v∧(bc7 target=true→Rd prog w B' d v)) :
    bb8 prog w A target V B0 s0 its (.ref s.heap.objs.size) { s with heap:=s.heap.push o }:=by
  have hn0:s.heap.get? s.heap.objs.size=none:=i6 (Nat.le_refl _)
  refine ⟨_,fp,_,_,_,St,B,rfl,KTurns.ofWalks W (fun i v s' Q E st hQ=>?_),hst,g.trans (Gr.heap g.keep fun a x e=>Heap.get?_push_of_some _ e),⟨m.gens,m.os,m.toks⟩,hfp,?_,fun b hb=>(Classical.em (b=s.heap.objs.size)).elim (fun e=>.inl (List.mem_singleton.mpr e)) (fun e=>.inr (hV b hb e)),hrd,fun i s' Q E st hQ=>W.self i s' Q E st hQ⟩
  · obtain ⟨o',h1,h2⟩:=hcls i _ st
    exact dt6 h1 h2 hn hQ
  · intro b hb
    rw [List.mem_singleton.mp hb]
    refine ⟨?_,r7 g.keep hn0⟩
    exact g.old.back hn0
theorem dq4 {l:List D} {v:Value} {E:Value→Shared→Prop} (hh:A.handled=none) (g:Gr B0 s0.heap B s.heap) (m:n7 s0 s) (t:f6 prog w s.heap B (.list l) v) (hv:∀ a,v = .ref a→B a≠none∨V a):wpAny (model prog w) A (pyIter v) (fun it s2=>bb8 prog w A target V B0 s0 l it s2) E s:=by
  obtain ⟨a,o,vs,rfl,ho,x,r⟩:=t
  have hlt:a < s.heap.objs.size:=Heap.lt_size ho
  have hlen:=r.length
  refine wpAny_pyIter_list (x.isList ho) ?_
  have W:=Walks.list (prog:=prog) (w:=w) (A:=A) hh s.heap.objs.size a (Nat.ne_of_lt hlt) vs.toArray
  rw [show vs.toArray.size=l.length by simp [hlen]] at W
  refine bb8.walk W g m (n:="list_iterator") rfl (by decide) rfl ⟨⟨_,Heap.get?_push_size _ rfl,rfl,rfl⟩,(x.isList ho).push _⟩ (fun i h st=>by obtain ⟨o,h1,h2,_⟩:=st.1;exact ⟨o,h1,h2⟩) ?_ ?_ ?_
  · intro i h st b hb
    rcases List.mem_cons.mp hb with rfl | hb
    · obtain ⟨o,e,_,hd⟩:=st.1;exact ⟨o,e,.fields hd⟩
    · rw [List.mem_singleton.mp hb];obtain ⟨o,e,_,_,hd⟩:=st.2;exact ⟨o,e,.seq hd⟩
  · intro b hb hne
    rcases List.mem_cons.mp hb with q | hb
    · exact absurd q hne
    · rw [List.mem_singleton.mp hb];exact hv _ rfl
  · intro i v h B' hP hB hk
    have hv:vs[i]?=some v:=by simpa using hP
    have hi:i < l.length:=by rw [← hlen];exact (List.getElem?_eq_some_iff.mp hv).1
    have hd:=aj6 r hv (List.getElem?_eq_getElem hi)
    exact ⟨l[i],List.getElem?_eq_getElem hi,(hd.mono hB).top hk,fun ξ=>hd.mono hB⟩
theorem dd9 {l:List D} {v:Value} {E:Value→Shared→Prop} (hh:A.handled=none) (g:Gr B0 s0.heap B s.heap) (m:n7 s0 s) (t:f6 prog w s.heap B (.tuple l) v) (hv:∀ a,v = .ref a→B a≠none∨V a):wpAny (model prog w) A (pyIter v) (fun it s2=>bb8 prog w A target V B0 s0 l it s2) E s:=by
  obtain ⟨a,o,vs,rfl,ho,x,r⟩:=t
  have hlt:a < s.heap.objs.size:=Heap.lt_size ho
  have hlen:=r.length
  refine wpAny_pyIter_tuple (x.isTuple ho) ?_
  have W:=Walks.tuple (prog:=prog) (w:=w) (A:=A) hh s.heap.objs.size a (Nat.ne_of_lt hlt) vs.toArray
  rw [show vs.toArray.size=l.length by simp [hlen]] at W
  refine bb8.walk W g m (n:="tuple_iterator") rfl (by decide) rfl ⟨⟨_,Heap.get?_push_size _ rfl,rfl,rfl⟩,(x.isTuple ho).push _⟩ (fun i h st=>by obtain ⟨o,h1,h2,_⟩:=st.1;exact ⟨o,h1,h2⟩) ?_ ?_ ?_
  · intro i h st b hb
    rcases List.mem_cons.mp hb with rfl | hb
    · obtain ⟨o,e,_,hd⟩:=st.1;exact ⟨o,e,.fields hd⟩
    · rw [List.mem_singleton.mp hb];obtain ⟨o,e,_,_,hd⟩:=st.2;exact ⟨o,e,.seq hd⟩
  · intro b hb hne
    rcases List.mem_cons.mp hb with q | hb
    · exact absurd q hne
    · rw [List.mem_singleton.mp hb];exact hv _ rfl
  · intro i v h B' hP hB hk
    have hv:vs[i]?=some v:=by simpa using hP
    have hi:i < l.length:=by rw [← hlen];exact (List.getElem?_eq_some_iff.mp hv).1
    have hd:=aj6 r hv (List.getElem?_eq_getElem hi)
    exact ⟨l[i],List.getElem?_eq_getElem hi,(hd.mono hB).top hk,fun ξ=>hd.mono hB⟩
theorem du2 {x:Str} {v:Value} {E:Value→Shared→Prop} (hh:A.handled=none) (g:Gr B0 s0.heap B s.heap) (m:n7 s0 s) (t:f6 prog w s.heap B (.str x) v) :
    wpAny (model prog w) A (pyIter v) (fun it s2=>bb8 prog w A target V B0 s0 (x.cps.toList.map fun c=>.str ⟨#[c]⟩) it s2) E s:=by
  obtain ⟨u,_,rfl⟩:=t
  have rd:∀ i v (h:Heap) (B':FM),SignAt x i v→B.le B'→i9 B' h→∃ d,(x.cps.toList.map fun c=>PyData.str ⟨#[c]⟩)[i]?=some d∧f6 prog w h B' d v∧(bc7 target=true→Rd prog w B' d v):=by
    rintro i v h B' ⟨c,u,hc,rfl⟩ _ _
    refine ⟨.str ⟨#[c]⟩,?_,cy0.mpr ⟨u,trivial,rfl⟩,fun ξ=>bg0.mpr ⟨u,trivial,rfl⟩⟩
    rw [List.getElem?_map,Array.getElem?_toList,hc];rfl
  cases ha:x.cps.all (· < 128)
  · refine wpAny_pyIter_wide ha ?_
    have W:=Walks.strWide (prog:=prog) (w:=w) (A:=A) hh s.heap.objs.size x u
    rw [show x.cps.size=(x.cps.toList.map fun c=>PyData.str ⟨#[c]⟩).length by simp] at W
    exact bb8.walk W g m (n:="str_iterator") rfl (by decide) rfl ⟨_,Heap.get?_push_size _ rfl,rfl,rfl⟩ (fun i h st=>by obtain ⟨o,h1,h2,_⟩:=st;exact ⟨o,h1,h2⟩) (fun i h st b hb=>by rw [List.mem_singleton.mp hb];obtain ⟨o,e,_,hd⟩:=st;exact ⟨o,e,.fields hd⟩) (fun b hb hne=>absurd (List.mem_singleton.mp hb) hne) rd
  · refine wpAny_pyIter_ascii ha ?_
    have W:=Walks.strAscii (prog:=prog) (w:=w) (A:=A) hh s.heap.objs.size x u
    rw [show x.cps.size=(x.cps.toList.map fun c=>PyData.str ⟨#[c]⟩).length by simp] at W
    exact bb8.walk W g m (n:="str_ascii_iterator") rfl (by decide) rfl ⟨_,Heap.get?_push_size _ rfl,rfl,rfl⟩ (fun i h st=>by obtain ⟨o,h1,h2,_⟩:=st;exact ⟨o,h1,h2⟩) (fun i h st b hb=>by rw [List.mem_singleton.mp hb];obtain ⟨o,e,_,hd⟩:=st;exact ⟨o,e,.fields hd⟩) (fun b hb hne=>absurd (List.mem_singleton.mp hb) hne) rd
end
end
section
open PySem.Calls PySem.SeqAt
section
variable {w:World} {h₀:Heap} {mg mb:Str→Option Value} {k:Nat} {calls:String→List D→Option D} {sc:Scope}
inductive ec7 (ir:IR) (env:Env) (sc:Scope) (r:Rho) (h:Heap) (a:Addr):Prop
  | mk (x i m d:_) (h1:d6 sc x=some i) (h2:r.get i=some (m,d)) (h3:At env h x (.ref a)) (h4:(∀ j,ir.v=some j→i=j)) (h5:(ir.al=true∨∃ j,ir.v=some j))
variable (w h₀ k calls) in
noncomputable def dj5 (sc:Scope) (e:PySem.Expr) (ir:IR):Prop:=
  ∀ ⦃A E s env r B d⦄,Ok prog w h₀ k A env sc r B s→look calls ir r=some d→wpAny (model prog w) A (PySem.eval e env) (fun v s'=>∃ B',Gr B s.heap B' s'.heap∧f6 prog w s'.heap B' d v∧n7 s s'∧∀ a,v = .ref a→B' a≠none∨ec7 ir env sc r s.heap a) E s
theorem ad8 {x:Str} {i:Nat} {pos:Pos} (hs:d6 sc x=some i):dj5 w h₀ k calls sc (.Name x pos) (.var i):=fun A E s env r B d ok h=>by
  obtain ⟨⟨m,d'⟩,e,rfl⟩:=ab5 h
  obtain ⟨v,a,t,f⟩:=ok.rd.vars x i _ _ hs e
  exact a.load ok.eok.kind (j3 hs) ⟨B,Gr.refl ok.keep,t,.refl s,fun b q=>.inr ⟨x,i,m,_,hs,e,q▸a,(fun j e=>Option.some.inj e),.inr ⟨_,rfl⟩⟩⟩
theorem i8.lv {e:PySem.Expr} {ir:IR} (h:i8 w h₀ k calls sc e ir) (hv:ir.v=none):dj5 w h₀ k calls sc e ir:=fun A E s env r B d ok hd=>by
  refine wpAny_mono (h ok (cb8 hv hd)) (fun v s' q=>?_) fun ξ ξ e=>e
  obtain ⟨B',g,rr,m⟩:=q
  exact ⟨B',g,rr.top g.keep,m,fun a q=>.inl (by subst q;exact cq1 rr)⟩
variable (w h₀ k calls) in
noncomputable def al9 (sc:Scope) (e:PySem.Expr) (ir:IR) (target:PySem.Expr):Prop:=
  ∀ ⦃A E s env r B its⦄,Ok prog w h₀ k A env sc r B s→d7 calls ir r=some its→
    wpAny (model prog w) A (PySem.eval e env) (fun x s1=>wpAny (model prog w) A (pyIter x) (fun it s2=>bb8 prog w A target (ec7 ir env sc r s.heap) B s its it s2) E s1) E s
theorem bt9 {I:Addr} {a b c:Int} {h:Heap} (st:IsRangeIter h I a b c):∃ o,h.get? I=some o∧o.cls = .type "range_iterator":=⟨_,st,rfl⟩
theorem de0 {V:Addr→Prop} {A:Around} {E:Value→Shared→Prop} {s0 s:Shared} {B0 B:FM} {target:PySem.Expr} {ds its:List D} {vs:List Value} (hh:A.handled=none) (g:Gr B0 s0.heap B s.heap) (m:n7 s0 s)
    (r:a9 (fun d v=>f6 prog w s.heap B d v) ds vs) (h:ax2 ds=some its) :
    wpAny (model prog w) A (call (.type "range") vs) (fun x s1=>wpAny (model prog w) A (pyIter x) (fun it s2=>bb8 prog w A target V B0 s0 its it s2) E s1) E s:=by
  have key:∀ (a b c:Int) (n:Nat) (t u v:Tok) (tk:Nat),Builtin.Range.small a b c=true→Builtin.Range.rangeSize a b c=(n:Int)→s.toks≤tk→its=(List.range n).map (fun (k:Nat)=>PyData.int (a+(k:Int) * c))→
      wpAny (model prog w) A (pyIter (.ref s.heap.objs.size)) (fun it s2=>bb8 prog w A target V B0 s0 its it s2) E { s with heap:=s.heap.push { cls:=.type "range",data:=.fields #[.int a t,.int b u,.int c v] },toks:=tk }:=by
    intro a b c n t u v tk hsm hn htk hits
    have g1:Gr B0 s0.heap B (s.heap.push { cls:=.type "range",data:=.fields #[.int a t,.int b u,.int c v] }):=g.trans (Gr.heap g.keep fun a x e=>Heap.get?_push_of_some _ e)
    refine wpAny_pyIter_range (a:=a) (b:=b) (c:=c) (t:=t) (u:=u) (v:=v) (IsRange.new s.heap a b c t u v) hsm ?_
    have hl:n=its.length:=by rw [hits];simp
    have W:=(Walks.range (prog:=prog) (w:=w) (A:=A) hh (s.heap.push { cls:=.type "range",data:=.fields #[.int a t,.int b u,.int c v] }).objs.size a c n).bound
    rw [hn]
    rw [hl] at W
    refine bb8.walk (s:={ s with heap:=s.heap.push { cls:=.type "range",data:=.fields #[.int a t,.int b u,.int c v] },toks:=tk }) W g1 ⟨m.gens,m.os,Nat.le_trans m.toks htk⟩ (n:="range_iterator") rfl (by decide) rfl ?_ (fun i h st=>bt9 st) (fun i h st b hb=>by rw [List.mem_singleton.mp hb];exact ⟨_,st,.fields rfl⟩) (fun b hb hne=>absurd (List.mem_singleton.mp hb) hne) ?_
    · show IsRangeIter _ _ _ _ _
      rw [← hl]
      have hz:∀ (h:Heap) (o:Obj),o.isFreed=false→(h.push o).get? h.objs.size=some o:=fun h o q=>Heap.get?_push_size h q
      have:=hz (s.heap.push { cls:=.type "range",data:=.fields #[.int a t,.int b u,.int c v] }) { cls:=.type "range_iterator",data:=.fields #[rawInt a,rawInt n,rawInt c] } rfl
      simpa [IsRangeIter] using this
    · rintro i v h B' ⟨hi,t',rfl⟩ _ _
      refine ⟨.int (a+i * c),?_,dx9.mpr ⟨t',trivial,rfl⟩,fun ξ=>ap2.mpr ⟨t',trivial,rfl⟩⟩
      rw [← hl] at hi
      rw [hits,List.getElem?_map,List.getElem?_range hi];rfl
  have rng:∀ {a b:Int},inR a=true→inR b=true→Builtin.Range.small a b 1=true∧Builtin.Range.rangeSize a b 1=(((b - a).toNat:Nat):Int):=by
    intro a b h1 h2
    have e1:=of_decide_eq_true (b8 h1).1
    have e2:=of_decide_eq_true (b8 h1).2
    have e3:=of_decide_eq_true (b8 h2).1
    have e4:=of_decide_eq_true (b8 h2).2
    exact ⟨small_one (by lia) (by lia) (by lia) (by lia),by rw [rangeSize_one];split <;> lia⟩
  rcases ai9 h with h | h
  case inr=>
    obtain ⟨a,ha,q⟩:=a6 h
    obtain ⟨p,hp,q⟩:=a6 q
    obtain ⟨b,c,h1,h2,q⟩:=bm3 q
    obtain ⟨hc,q⟩:=g6 q
    have hd:=ao9 hp
    cases ds with
    | nil=>cases hd
    | cons d0 rest=>
    replace hd:rest=[p.1,p.2]:=hd
    subst hd
    rw [h1,h2] at r
    obtain rfl:d0 = .int a:=af9 ha
    obtain rfl:=eq_of_beq (b8 hc).2
    obtain rfl:=eq_of_beq (b8 (b8 hc).1).1
    obtain rfl:=eq_of_beq (b8 (b8 hc).1).2
    cases r with | cons r0 rr=>
    obtain ⟨v1,v2,rfl,r1,r2⟩:=cb7 rr
    obtain ⟨t,_,rfl⟩:=r0
    obtain ⟨u,_,rfl⟩:=r1
    obtain ⟨v,_,rfl⟩:=r2
    exact call_range_3 (by decide) (key 4 (-1) (-1) 5 _ _ _ _ (by decide) (by decide) (Nat.le_refl _) (Option.some.inj q).symm) (.inl (PyProof.noPylong_of_log2 (by decide +kernel)))
  rcases ai9 h with h | h
  · obtain ⟨d,hd,q⟩:=a6 h
    obtain ⟨n,hn,q⟩:=a6 q
    obtain rfl:=aj7 hd
    obtain rfl:=af9 hn
    obtain ⟨hc,q⟩:=g6 q
    obtain ⟨v,rfl,t⟩:=bh3 r
    obtain ⟨t,_,rfl⟩:=t
    obtain ⟨z1,z2⟩:=rng (a:=0) rfl hc
    rw [Int.sub_zero] at z2
    exact call_range_1 (key 0 n 1 n.toNat _ _ _ _ z1 z2 (Nat.le_add_right _ 2) ((Option.some.inj q).symm.trans (List.map_congr_left fun k ξ=>by rw [Int.mul_one,Int.zero_add])))
  · obtain ⟨p,hp,q⟩:=a6 h
    obtain rfl:=ao9 hp
    obtain ⟨v,u,rfl,t1,t2⟩:=cb7 r
    obtain ⟨a,b,t,t',rfl,rfl,q⟩:=aj8 t1 t2 q
    obtain ⟨hc,q⟩:=g6 q
    obtain ⟨z1,z2⟩:=rng (b8 hc).1 (b8 hc).2
    exact call_range_2 (key a b 1 (b - a).toNat _ _ _ _ z1 z2 (Nat.le_add_right _ 1) ((Option.some.inj q).symm.trans (List.map_congr_left fun k ξ=>by rw [Int.mul_one])))
theorem l9 {x:Str} {es:List PySem.Expr} {irs:List IR} {p pos:Pos} {target:PySem.Expr} (G:Glb h₀ mg mb) (hx:i4 sc x=true) (hf:x="range") (h:a9 (ac2 w h₀ k calls sc) es irs) (hn:es.all m8=true) :
    al9 w h₀ k calls sc (.Call (.Name x p) es [] pos) (.range irs) target:=fun A E s env r B its ok hd=>by
  obtain ⟨ds,h1,hd⟩:=a6 hd
  subst hf
  refine Call_ (t7 G ok hx (G.bi _ (.type "range") (by simp)) ?_)
  cases es with
  | nil=>
    cases h
    cases (h1)
    cases (hd)
  | cons e rest=>
    have hn':=b8 hn
    exact callWith_type1 (cq2 h hn ok h1 fun vs s1 B1 g1 m1 r1 ok1=>de0 ok.rm.handled g1 m1 r1 hd) (c9 hn'.1) (at3 hn'.2)
theorem be7:∀ (l:List D) (n i:Nat) (d:D),l[i]?=some d→(aa7 n l)[i]?=some (.tuple [.int ((n+i:Nat):Int),d])
  | [],_,_,_,h=>by simp at h
  | x :: l,n,0,d,h=>by simp at h;subst h;simp [aa7]
  | x :: l,n,i+1,d,h=>by
    have:=be7 l (n+1) i d (by simpa using h)
    simp only [aa7,List.getElem?_cons_succ,this]
    congr 5;lia
theorem au6:∀ (l:List D) (n:Nat),(aa7 n l).length=l.length
  | [],_=>rfl
  | x :: l,n=>by simp [aa7,au6 l (n+1)]
theorem bo7 {x:Str} {e:PySem.Expr} {a:IR} {p pos:Pos} {elts:List PySem.Expr} {kd:Nat} {tp:Pos} (G:Glb h₀ mg mb) (hx:i4 sc x=true) (hf:x="enumerate") (h:dj5 w h₀ k calls sc e a) (hn:m8 e=true) :
    al9 w h₀ k calls sc (.Call (.Name x p) [e] [] pos) (.enum a) (.Tuple elts kd tp):=fun A E s env r B its ok hd=>by
  obtain ⟨d,h1,hd⟩:=a6 hd
  obtain ⟨l,hl,hd⟩:=a6 hd
  obtain rfl:=l6 hl
  cases hd
  subst hf
  refine Call_ (t7 G ok hx (G.bi _ (.type "enumerate") (by simp)) ?_)
  refine callWith_type1 ?_ (c9 hn) rfl
  rw [c9 hn,j6]
  refine spliced_cons (wpAny_mono (h ok h1) (fun v s1 q=>spliced_nil ?_) fun ξ ξ e=>e)
  obtain ⟨B1,g1,t1,m1,hV⟩:=q
  obtain ⟨ax,o,vs,rfl,ho,xs,rr⟩:=t1
  have hlt:ax < s1.heap.objs.size:=Heap.lt_size ho
  have hh:=ok.rm.handled
  refine call_enumerate_list (xs.isList ho) fun h' hE hI hsz hk=>?_
  refine wpAny_pyIter_enum hE ?_
  have hl:vs.toArray.size=(aa7 0 l).length:=by rw [au6];simp [rr.length]
  have T:=KTurns.ofWalksU (elts:=elts) (k:=kd) (pos:=tp) (WalksT.enumerate (prog:=prog) (w:=w) (A:=A) hh (s1.heap.objs.size+1) s1.heap.objs.size ax (Nat.succ_ne_self _) (Nat.ne_of_lt (Nat.lt_succ_of_lt hlt)) (Nat.ne_of_lt hlt) vs.toArray).toU
  have W:=WalksT.enumerate (prog:=prog) (w:=w) (A:=A) hh (s1.heap.objs.size+1) s1.heap.objs.size ax (Nat.succ_ne_self _) (Nat.ne_of_lt (Nat.lt_succ_of_lt hlt)) (Nat.ne_of_lt hlt) vs.toArray
  rw [hl] at T
  refine ⟨_,_,_,_,_,_,B1,rfl,T,⟨⟨.none,hE⟩,hI,(xs.isList ho).at fun o e=>hk _ o e⟩,g1.trans (Gr.heap g1.keep hk),⟨m1.gens,m1.os,m1.toks⟩,?_,?_,fun b hb=>?_,?_,fun i s' Q E st hQ=>W.self i s' Q E st hQ⟩
  · rintro i h ⟨⟨old,he⟩,hi,hl⟩ b hb
    have hb':b=s1.heap.objs.size+1∨b=s1.heap.objs.size∨b=ax:=by simpa using hb
    rcases hb' with rfl | rfl | rfl
    · exact ⟨_,he,.fields rfl⟩
    · obtain ⟨o,h1,_,h2⟩:=hi;exact ⟨o,h1,.fields h2⟩
    · obtain ⟨o,h1,_,_,h2⟩:=hl;exact ⟨o,h1,.seq h2⟩
  · intro b hb
    have hb':b=s1.heap.objs.size+1∨b=s1.heap.objs.size:=by simpa using hb
    have hn1:s1.heap.get? b=none:=by rcases hb' with rfl | rfl;exact i6 (Nat.le_succ _);exact i6 (Nat.le_refl _)
    refine ⟨?_,r7 g1.keep hn1⟩
    exact g1.old.back hn1
  · have hb':b=s1.heap.objs.size+1∨b=s1.heap.objs.size∨b=ax:=by simpa using hb
    rcases hb' with rfl | rfl | rfl
    · exact .inl (by simp)
    · exact .inl (by simp)
    · refine .inr ((hV _ rfl).imp id fun ⟨x,i,m,d,q1,q2,q4,_,_⟩=>⟨x,i,m,d,q1,q2,q4,nofun,.inl rfl⟩)
  · rintro i v h B' ⟨T,vals,rfl,⟨t,x,hx,rfl⟩,hT⟩ hB hkp
    have hx':vs[i]?=some x:=by simpa using hx
    have hi:i < l.length:=by rw [← rr.length];exact (List.getElem?_eq_some_iff.mp hx').1
    have hd:=aj6 rr hx' (List.getElem?_eq_getElem hi)
    refine ⟨_,be7 l 0 i _ (List.getElem?_eq_getElem hi),?_,fun q=>(by cases q)⟩
    obtain ⟨o,h1,h2,n,h3⟩:=hT
    refine bi4.mpr ⟨T,o,[.int i t,x],rfl,h1,⟨h2,n,h3⟩,RdL.cons (ap2.mpr ⟨t,trivial,by simp⟩) (RdL.cons (hd.mono hB) RdL.nil)⟩
theorem cw1 {B:FM}:∀ {kvs:List (D×D)} {ps:List (Key×Value)} {i:Nat} {x:Key} {v:Value},RdK prog w B kvs ps→ps[i]?=some (x,v)→(kvs.map (·.1))[i]?=some (.str x)
  | [],_,i,_,_,h,e=>by
    cases (h:_=_)
    exact nomatch e
  | d :: kvs,_,i,x,v,h,e=>by
    obtain ⟨k',v',r',rfl,h0,h1,h2⟩:=h
    cases i with
    | zero=>
      cases (e)
      exact congrArg some (n9 h0)
    | succ i=>exact cw1 (ps:=r') (i:=i) h2 (e:r'[i]?=some (x,v))
theorem df7 {V:Addr→Prop} {A:Around} {E:Value→Shared→Prop} {s0 s:Shared} {B0 B:FM} {target:PySem.Expr} {kvs:List (D×D)} {v:Value} (hh:A.handled=none) (g:Gr B0 s0.heap B s.heap) (m:n7 s0 s) (t:f6 prog w s.heap B (.dict kvs) v) (hv:∀ a,v = .ref a→B a≠none∨V a) :
    wpAny (model prog w) A (pyIter v) (fun it s2=>bb8 prog w A target V B0 s0 (kvs.map (·.1)) it s2) E s:=by
  obtain ⟨a,o,ps,rfl,ho,⟨x,hs⟩,r⟩:=t
  have hlt:a < s.heap.objs.size:=Heap.lt_size ho
  obtain ⟨ep,da⟩:=Heap.DictOf.dictAt (ab0 ho x)
  refine wpAny_pyIter_dict (beq_eq_false_iff_ne.mpr hs) da ?_
  have W:=Walks.dictKeys (prog:=prog) (w:=w) (A:=A) (knd:=kk prog w) hh s.heap.objs.size a (Nat.ne_of_lt hlt) ps ep
  rw [show ps.length=(kvs.map (·.1)).length by rw [← bf3 r,List.length_map]] at W⊢
  refine bb8.walk W g m (n:="dict_keyiterator") rfl (by decide) rfl ⟨⟨_,Heap.get?_push_size _ rfl,rfl,rfl⟩,da.push _⟩ (fun i h st=>by obtain ⟨o,h1,h2,_⟩:=st.1;exact ⟨o,h1,h2⟩) ?_ ?_ ?_
  · intro i h st b hb
    rcases List.mem_cons.mp hb with rfl | hb
    · obtain ⟨o,e,_,hd⟩:=st.1;exact ⟨o,e,.fields hd⟩
    · rw [List.mem_singleton.mp hb];obtain ⟨o,es,e,hx,_⟩:=st.2;exact ⟨o,e,.inr hx.1⟩
  · intro b hb hne
    rcases List.mem_cons.mp hb with q | hb
    · exact absurd q hne
    · rw [List.mem_singleton.mp hb];exact hv _ rfl
  · rintro i v h B' ⟨k,y,hP,hk⟩ hB hkp
    obtain ⟨t,rfl⟩:=Value.isStrOf_shape hk
    exact ⟨.str k,cw1 r hP,cy0.mpr ⟨t,trivial,rfl⟩,fun ξ=>bg0.mpr ⟨t,trivial,rfl⟩⟩
theorem g8 {e:PySem.Expr} {a:IR} {target:PySem.Expr} (hp:a.sr=false) (h:dj5 w h₀ k calls sc e a):al9 w h₀ k calls sc e a target:=fun A E s env r B its ok hd=>by
  unfold d7 at hd
  rw [hp] at hd
  obtain ⟨d,h1,h2⟩:=a6 hd
  refine wpAny_mono (h ok h1) (fun v s1 q=>?_) fun ξ ξ e=>e
  obtain ⟨B1,g1,t1,m1,hV⟩:=q
  have hh:=ok.rm.handled
  cases d with
  | str x=>cases h2;exact du2 hh g1 m1 t1
  | list x=>cases h2;exact dq4 hh g1 m1 t1 hV
  | tuple x=>cases h2;exact dd9 hh g1 m1 t1 hV
  | dict x=>obtain ⟨_,h2⟩:=g6 h2;cases h2;exact df7 hh g1 m1 t1 hV
  | _=>cases h2
end
end
section
open PySem.Calls PySem.SeqAt
structure ZL where
  it:Addr
  l:Addr
  xs:Array Value
noncomputable def av2 (h:Heap) (a:Addr) (vs:List Value):Prop:=h.get? a=some { cls:=.type "tuple",data:=.seq vs.toArray }
noncomputable def ZL.ref (p:ZL):Value:=.ref p.it
inductive ZOn (h:Heap) (i:Nat) (p:ZL):Prop
  | mk (h1:h.IsListIter p.it p.l i) (h2:h.IsList p.l p.xs):ZOn h i p
theorem ZOn.at {h h':Heap} {i:Nat} {p:ZL} (z:ZOn h i p) (a:∀ o,h.get? p.it=some o→h'.get? p.it=some o) (b:∀ o,h.get? p.l=some o→h'.get? p.l=some o):ZOn h' i p:=
  let ⟨x,y⟩:=z;⟨x.at a,y.at b⟩
structure ZAp (z TI TO:Addr) (L:List ZL):Prop where
  TIz:TI≠z
  TOz:TO≠z
  TITO:TI≠TO
  it:∀ p∈L,p.it≠z∧p.it≠TO∧p.it≠TI
  ls:∀ p∈L,p.l≠z∧p.l≠TO∧∀ q∈L,p.l≠q.it
  nd:(L.map (·.it)).Nodup
noncomputable def es7 (TO:Addr) (L:List ZL) (h h':Heap):Prop:=∀ c o,c≠TO→(∀ p∈L,c≠p.it)→h.get? c=some o→h'.get? c=some o
section
variable {w:World} {A:Around} {E:Value→Shared→Prop} {s:Shared}
theorem dm4 {a:Addr} {pre old:List Value} {o x:Value} {Q:Unit→Shared→Prop} {sh:Shared} (ht:av2 sh.heap a (pre ++ o :: old)) (hl:(pre ++ o :: old).length≤15)
    (hQ:∀ h',av2 h' a (pre ++ x :: old)→Heap.SameBut a sh.heap h'→Q () { sh with heap:=h' }) :
    wpAny (model prog w) A (updateSeq a (·.setIfInBounds pre.length x)) Q E sh:=by
  refine wpAny_updateSeq ht rfl (hQ _ ?_ (Heap.SameBut.update ..)) ?_ ?_
  · have:=Heap.get?_update_self (Obj.mapSeq (·.setIfInBounds pre.length x)) ht rfl
    refine this.trans ?_
    simp [Obj.mapSeq]
  · show (pre ++ o :: old).toArray.size≤16777216
    rw [List.size_toArray];exact Nat.le_trans hl (by decide)
  · show ((pre ++ o :: old).toArray.setIfInBounds pre.length x).size≤16777217
    rw [Array.size_setIfInBounds,List.size_toArray];exact Nat.le_trans hl (by decide)
theorem aq3 {α β:Type} {P:α→β→Prop} {l:List α} {m:List β} (h:a9 P l m):l.length=m.length:=by
  induction h with
  | nil=>rfl
  | cons _ _ ih=>exact congrArg Nat.succ ih
noncomputable def ZAt (i:Nat) (L:List ZL) (vs:List Value):Prop:=a9 (fun p v=>p.xs[i]?=some v) L vs
noncomputable abbrev ZB:=Option Fin×PUnit
theorem ch7 {z TI TO:Addr} {i:Nat} {LL:List ZL} (D:ZAp z TI TO LL) {f:Value×Nat→ZB→Sem (ForInStep ZB)}
    (hf:∀ (p:ZL) (pre old:List Value) (o x:Value) (sh:Shared) (Q:ForInStep ZB→Shared→Prop),p∈LL→av2 sh.heap TO (pre ++ o :: old)→(pre ++ o :: old).length≤15→ZOn sh.heap i p→p.xs[i]?=some x→
      (∀ h',av2 h' TO (pre ++ x :: old)→h'.IsListIter p.it p.l (i+1)→(∀ c o,c≠TO→c≠p.it→sh.heap.get? c=some o→h'.get? c=some o)→h'.objs.size=sh.heap.objs.size→Q (.yield (none,⟨⟩)) { sh with heap:=h' })→
      wpAny (model prog w) A (f (p.ref,pre.length) (none,⟨⟩)) Q E sh) :
    ∀ (L:List ZL) (pre old vs:List Value) (sh:Shared) (Q:ZB→Shared→Prop),(∀ p∈L,p∈LL)→(L.map (·.it)).Nodup→av2 sh.heap TO (pre ++ old)→(pre ++ old).length≤15→old.length=L.length→
      (∀ p∈L,ZOn sh.heap i p)→ZAt i L vs→
      (∀ h',av2 h' TO (pre ++ vs)→(∀ p∈L,ZOn h' (i+1) p)→es7 TO L sh.heap h'→h'.objs.size=sh.heap.objs.size→Q (none,⟨⟩) { sh with heap:=h' })→
      wpAny (model prog w) A (forIn ((L.map ZL.ref).zipIdx pre.length) (none,⟨⟩) f) Q E sh
  | [],pre,old,vs,sh,Q,_,_,hT,_,hlen,_,hv,hQ=>by
    obtain rfl:=List.length_eq_zero_iff.mp hlen
    cases (hv)
    exact wpAny_pure (hQ sh.heap hT nofun (fun ξ ξ ξ ξ e=>e) rfl)
  | p :: L,pre,old,vs,sh,Q,hin,nd,hT,hl,hlen,hz,hv,hQ=>by
    cases hv with | @cons _ v _ vs hv1 hv2=>
    refine an4 (P:=fun old=>av2 sh.heap TO (pre ++ old)→(pre ++ old).length≤15→wpAny (model prog w) A (forIn (((p :: L).map ZL.ref).zipIdx pre.length) (none,⟨⟩) f) Q E sh) hlen (fun o old hlen hT hl=>?_) hT hl
    have hp:=hin p List.mem_cons_self
    have ndp:=List.nodup_cons.mp nd
    show wpAny (model prog w) A (forIn ((p.ref,pre.length) :: (L.map ZL.ref).zipIdx (pre.length+1)) (none,⟨⟩) f) Q E sh
    rw [List.forIn_cons]
    refine wpAny_bind (hf p pre old o v sh _ hp hT hl (hz p List.mem_cons_self) hv1 fun h' t1 t2 t3 t4=>?_)
    show wpAny (model prog w) A (forIn ((L.map ZL.ref).zipIdx (pre.length+1)) (none,⟨⟩) f) Q E { sh with heap:=h' }
    have e1:pre.length+1=(pre ++ [v]).length:=by rw [List.length_append];rfl
    have e2:∀ r:List Value,pre ++ v :: r=pre ++ [v] ++ r:=fun r=>by rw [List.append_assoc];rfl
    rw [e1]
    refine ch7 D hf L (pre ++ [v]) old vs _ Q (fun q hq=>hin q (List.mem_cons_of_mem _ hq)) ndp.2 (e2 old▸t1) (by
      rw [← e2]
      rw [List.length_append,List.length_cons] at hl⊢
      exact hl) hlen (fun q hq=>?_) hv2 fun h2 u1 u2 u3 u5=>?_
    · have hq':=hin q (List.mem_cons_of_mem _ hq)
      refine (hz q (List.mem_cons_of_mem _ hq)).at (fun o e=>t3 _ o (D.it q hq').2.1 (fun x=>ndp.1 (List.mem_map.mpr ⟨q,hq,x⟩)) e) (fun o e=>t3 _ o (D.ls q hq').2.1 ((D.ls q hq').2.2 p hp) e)
    · have hpx:=D.ls p hp
      have hpi:=D.it p hp
      have keepP:∀ q∈L,p.it≠q.it:=fun q hq x=>ndp.1 (List.mem_map.mpr ⟨q,hq,x.symm⟩)
      refine hQ h2 (by rw [e2];exact u1) (fun q hq=>?_) (fun c o c2 c3 e=>u3 c o c2 (fun q hq=>c3 q (List.mem_cons_of_mem _ hq)) (t3 c o c2 (c3 p List.mem_cons_self) e)) (u5.trans t4)
      rcases List.mem_cons.mp hq with rfl | hq
      · obtain ⟨_,z2⟩:=hz q List.mem_cons_self
        refine ⟨t2.at fun o e=>u3 _ o hpi.2.1 keepP e,z2.at fun o e=>u3 _ o hpx.2.1 (fun r hr=>hpx.2.2 r (hin r (List.mem_cons_of_mem _ hr))) (t3 _ o hpx.2.1 (hpx.2.2 q hp) e)⟩
      · exact u2 q hq
theorem dp2 {z TI TO:Addr} {i:Nat} {L:List ZL} {old vs:List Value} {Q:Value→Shared→Prop} (D:ZAp z TI TO L) (hn:0 < L.length) (hl:L.length≤15)
    (hz:IsZip s.heap z TI TO .none) (hTI:av2 s.heap TI (L.map ZL.ref)) (hTO:av2 s.heap TO old) (ho:old.length=L.length) (hL:∀ p∈L,ZOn s.heap i p) (hv:ZAt i L vs)
    (hQ:∀ h',IsZip h' z TI TO (rawInt s.heap.objs.size)→av2 h' TO vs→(∀ p∈L,ZOn h' (i+1) p)→av2 h' s.heap.objs.size vs→(∀ c o,c≠z→c≠TO→(∀ p∈L,c≠p.it)→s.heap.get? c=some o→h'.get? c=some o)→Q (.ref s.heap.objs.size) { s with heap:=h' }) :
    wpAny (model prog w) A (Builtin.«zip.__next__» ⟨[.ref z],[]⟩) (fun fin s'=>∃ v,fin = .done (.ret v)∧Q v s') E s:=by
  have hne:(L.map ZL.ref).toArray.isEmpty=false:=by
    cases L with
    | nil=>exact absurd hn (Nat.lt_irrefl 0)
    | cons=>rfl
  show wpAny _ _ (field (.ref z) 2 >>= _) _ _ _
  refine wpAny_bind (wpAny_field hz rfl (x:=.bool false) rfl ?_)
  show wpAny _ _ (field (.ref z) 3 >>= _) _ _ _
  refine wpAny_bind (wpAny_field hz rfl (x:=.ref TI) rfl ?_)
  refine wpAny_bind (wpAny_seqItems hTI rfl ?_)
  simp only [hne]
  show wpAny _ _ (Builtin.SmallTypes.ownedTupleIsFree (.ref z) >>= _) _ _ _
  refine wpAny_bind ?_
  unfold Builtin.SmallTypes.ownedTupleIsFree
  refine wpAny_bind (wpAny_field hz rfl (x:=.none) rfl (wpAny_pure ?_))
  simp only [if_true]
  refine wpAny_bind (wpAny_rule ?_)
  refine wpAny_bind (wpAny_field hz rfl (x:=.ref TO) rfl ?_)
  refine wpAny_bind (wpAny_setField_rec hz (by simp) fun h₁ hz₁ hs₁=>?_)
  replace hz₁:IsZip h₁ z TI TO .ellipsis:=hz₁
  refine wpAny_bind ?_
  have hoff:∀ p∈L,ZOn h₁ i p:=fun p hp=>(hL p hp).at (fun o e=>hs₁.extBut _ _ (D.it p hp).1 e) (fun o e=>hs₁.extBut _ _ (D.ls p hp).1 e)
  have hTO₁:av2 h₁ TO old:=hs₁.extBut _ _ D.TOz hTO
  refine ch7 D ?_ L [] old vs _ _ (fun _=>id) D.nd hTO₁ (ho▸hl) ho hoff hv fun h₅ t5 l5 k5 z5=>?_
  · intro p pre old' o x sh Q' hp ht hl hz' hx hQ'
    obtain ⟨z1,z2⟩:=hz'
    have hpi:=D.it p hp
    refine wpAny_bind (wpAny_onRaise ?_)
    show wpAny _ _ (Builtin.SmallTypes.nextOf (.ref p.it) >>= _) _ _ _
    refine wpAny_bind (wpAny_nextOf_list_item z1 z2 hx fun h₂ h1₂ hs₂=>wpAny_pure ?_)
    have t2:av2 h₂ TO (pre ++ o :: old'):=hs₂.extBut _ _ hpi.2.1.symm ht
    refine wpAny_bind (wpAny_seqItems t2 rfl ?_)
    refine wpAny_bind (dm4 t2 hl fun h₃ t3 hs₃=>?_)
    exact wpAny_bind (wpAny_letGo (wpAny_pure (hQ' h₃ t3 (h1₂.extBut hs₃.extBut hpi.2.1) (fun c o c1 c2 e=>hs₃.extBut _ _ c1 (hs₂.extBut _ _ c2 e)) (hs₃.1.trans hs₂.1))))
  refine wpAny_bind (wpAny_seqItems t5 rfl ?_)
  refine wpAny_bind (wpAny_newTuple ?_ ?_)
  case refine_2=>
    show ([] ++ vs).toArray.toList.length≤_
    have:=aq3 hv
    rw [List.nil_append,List.toList_toArray]
    exact Nat.le_trans (this▸hl) (by decide)
  have hsz:h₅.objs.size=s.heap.objs.size:=z5.trans hs₁.1
  have hz₅:IsZip h₅ z TI TO .ellipsis:=k5 _ _ D.TOz.symm (fun p hp=>(D.it p hp).1.symm) hz₁
  have hk₅:∀ c o,c≠z→c≠TO→(∀ p∈L,c≠p.it)→s.heap.get? c=some o→h₅.get? c=some o:=fun c o c1 c2 c3 e=>k5 c o c2 c3 (hs₁.extBut _ _ c1 e)
  have hzlt:z < h₅.objs.size:=Heap.lt_size hz₅
  show wpAny _ _ (Builtin.SmallTypes.ownedTupleHandOut (.ref z) (.ref h₅.objs.size) >>= _) _ _ _
  refine wpAny_bind ?_
  unfold Builtin.SmallTypes.ownedTupleHandOut
  have hz₆:IsZip (h₅.push { cls:=.type "tuple",data:=.seq vs.toArray }) z TI TO .ellipsis:=Heap.get?_push_of_some _ hz₅
  refine wpAny_bind (wpAny_setField_rec hz₆ (by simp) fun h₇ hz₇ hs₇=>?_)
  replace hz₇:IsZip h₇ z TI TO (rawInt h₅.objs.size):=hz₇
  refine wpAny_setField_rec hz₇ (by simp) fun h₈ hz₈ hs₈=>?_
  replace hz₈:IsZip h₈ z TI TO (rawInt h₅.objs.size):=hz₈
  have up:∀ c o,c≠z→h₅.get? c=some o→h₈.get? c=some o:=fun c o c1 e=>hs₈.extBut _ _ c1 (hs₇.extBut _ _ c1 (Heap.get?_push_of_some _ e))
  have hT₈:av2 h₈ h₅.objs.size vs:=hs₈.extBut _ _ (Nat.ne_of_gt hzlt) (hs₇.extBut _ _ (Nat.ne_of_gt hzlt) (Heap.get?_push_size _ rfl))
  rw [hsz] at hz₈ hT₈
  refine wpAny_pure ⟨_,rfl,?_⟩
  show Q (.ref h₅.objs.size) _
  rw [hsz]
  exact hQ h₈ hz₈ (up _ _ D.TOz t5) (fun p hp=>(l5 p hp).at (fun o e=>up _ o (D.it p hp).1 e) (fun o e=>up _ o (D.ls p hp).1 e)) hT₈ fun c o c1 c2 c3 e=>up c o c1 (hk₅ c o c1 c2 c3 e)
theorem du4 {z TI TO:Addr} {i:Nat} {L:List ZL} {old:List Value} {Q:Fin→Shared→Prop} (hh:A.handled=none) (D:ZAp z TI TO L) (hn:0 < L.length)
    (hz:IsZip s.heap z TI TO .none) (hTI:av2 s.heap TI (L.map ZL.ref)) (hTO:av2 s.heap TO old) (hL:∀ p∈L,ZOn s.heap i p) (hend:∀ p∈L,p.xs[i]?=none)
    (hE:∀ h' e,(∀ c o,c≠z→c≠TO→(∀ p∈L,c≠p.it)→s.heap.get? c=some o→h'.get? c=some o)→(∃ o,h'.get? e=some o∧o.cls = .type "StopIteration")→E (.ref e) { s with heap:=h' }) :
    wpAny (model prog w) A (Builtin.«zip.__next__» ⟨[.ref z],[]⟩) Q E s:=by
  cases L with
  | nil=>exact absurd hn (Nat.lt_irrefl 0)
  | cons p L=>
  have hp:p∈p :: L:=List.mem_cons_self
  obtain ⟨h1,hl1⟩:=hL p hp
  have hpi:=D.it p hp
  show wpAny _ _ (field (.ref z) 2 >>= _) _ _ _
  refine wpAny_bind (wpAny_field hz rfl (x:=.bool false) rfl ?_)
  show wpAny _ _ (field (.ref z) 3 >>= _) _ _ _
  refine wpAny_bind (wpAny_field hz rfl (x:=.ref TI) rfl ?_)
  refine wpAny_bind (wpAny_seqItems hTI rfl ?_)
  show wpAny _ _ (Builtin.SmallTypes.ownedTupleIsFree (.ref z) >>= _) _ _ _
  refine wpAny_bind ?_
  unfold Builtin.SmallTypes.ownedTupleIsFree
  refine wpAny_bind (wpAny_field hz rfl (x:=.none) rfl (wpAny_pure ?_))
  simp only [if_true]
  refine wpAny_bind (wpAny_rule ?_)
  refine wpAny_bind (wpAny_field hz rfl (x:=.ref TO) rfl ?_)
  refine wpAny_bind (wpAny_setField_rec hz (by simp) fun h₁ hz₁ hs₁=>?_)
  replace hz₁:IsZip h₁ z TI TO .ellipsis:=hz₁
  refine wpAny_bind ?_
  show wpAny _ _ (forIn ((p.ref,0) :: (L.map ZL.ref).zipIdx 1) _ _) _ _ _
  rw [List.forIn_cons]
  refine wpAny_bind (wpAny_bind (wpAny_onRaise ?_))
  show wpAny _ _ (Builtin.SmallTypes.nextOf (.ref p.it) >>= _) _ _ _
  refine wpAny_bind (wpAny_nextOf_list_end hh (h1.extBut hs₁.extBut hpi.1) (hl1.extBut hs₁.extBut (D.ls p hp).1) (hend p hp) fun h₂ e hs₂ he=>?_)
  obtain ⟨oe,hoe,hce⟩:=he
  have hz₂:IsZip h₂ z TI TO .ellipsis:=hs₂ _ _ hpi.1.symm hz₁
  have hez:e≠z:=fun x=>by
    rw [x] at hoe
    have:=Option.some.inj (hoe.symm.trans hz₂)
    rw [this] at hce
    exact absurd (Value.type.inj hce) (by decide)
  exact wpAny_setField_rec hz₂ (by simp) fun h₃ _ hs₃=>hE h₃ e (fun c o c1 _ c3 x=>hs₃.extBut _ _ c1 (hs₂ _ _ (c3 p hp) (hs₁.extBut _ _ c1 x))) ⟨oe,hs₃.extBut _ _ hez hoe,hce⟩
inductive ZSt (z TI TO:Addr) (L:List ZL) (f0:Value) (i:Nat) (h:Heap):Prop
  | mk (old:List Value) (h1:IsZip h z TI TO f0) (h2:av2 h TI (L.map ZL.ref)) (h3:av2 h TO old) (h4:old.length=L.length) (h5:∀ p∈L,ZOn h i p):ZSt z TI TO L f0 i h
noncomputable def zWr (z TI TO:Addr) (L:List ZL):List Addr:=z :: TO :: TI :: L.map (·.it)
noncomputable def zFp (z TI TO:Addr) (L:List ZL):List Addr:=zWr z TI TO L ++ L.map (·.l)
theorem cw2 {z TI TO:Addr} {L:List ZL} {h h':Heap} (k:∀ c o,c≠z→c≠TO→(∀ p∈L,c≠p.it)→h.get? c=some o→h'.get? c=some o):∀ c o,c ∉ zWr z TI TO L→h.get? c=some o→h'.get? c=some o:=fun c o hc e=>
  k c o (fun x=>hc (x▸List.mem_cons_self)) (fun x=>hc (List.mem_cons_of_mem _ (x▸List.mem_cons_self))) (fun p hp x=>hc (List.mem_cons_of_mem _ (List.mem_cons_of_mem _ (List.mem_cons_of_mem _ (List.mem_map.mpr ⟨p,hp,x.symm⟩))))) e
theorem dj6 (hh:A.handled=none) {z TI TO:Addr} {L:List ZL} {n:Nat} (D:ZAp z TI TO L) (hn:0 < L.length) (hl:L.length≤15) (hsz:∀ p∈L,p.xs.size=n) :
    WalksT prog w A z (zFp z TI TO L) (zWr z TI TO L) n (fun i vals=>∃ vs,vals=vs.toArray∧ZAt i L vs) (ZSt z TI TO L .none) (fun i T h=>ZSt z TI TO L (rawInt T) (i+1) h∧T ∉ zWr z TI TO L) where
  sub:=fun c hc=>List.mem_append_left _ hc
  frame:=fun i h h' hst hk=>by
    obtain ⟨old,h1,h2,h3,h4,h5⟩:=hst
    have m1:∀ {c},c∈zWr z TI TO L→c∈zFp z TI TO L:=fun h=>List.mem_append_left _ h
    refine ⟨old,hk z (m1 List.mem_cons_self) _ h1,hk TI (m1 (List.mem_cons_of_mem _ (List.mem_cons_of_mem _ List.mem_cons_self))) _ h2,hk TO (m1 (List.mem_cons_of_mem _ List.mem_cons_self)) _ h3,h4,fun p hp=>(h5 p hp).at
      (fun o e=>hk _ (m1 (List.mem_cons_of_mem _ (List.mem_cons_of_mem _ (List.mem_cons_of_mem _ (List.mem_map.mpr ⟨p,hp,rfl⟩))))) o e) (fun o e=>hk _ (List.mem_append_right _ (List.mem_map.mpr ⟨p,hp,rfl⟩)) o e)⟩
  item:=fun i s Q E hi hst hQ=>by
    obtain ⟨old,h1,h2,h3,h4,h5⟩:=hst
    obtain ⟨vs,hv⟩:∃ vs,ZAt i L vs:=by
      clear h2 h4 h5 hQ hl D
      induction L with
      | nil=>exact ⟨[],.nil⟩
      | cons p L ih=>
        have hp:i < p.xs.size:=hsz p List.mem_cons_self▸hi
        cases L with
        | nil=>exact ⟨_,.cons (Array.getElem?_eq_getElem hp) .nil⟩
        | cons q L=>
          obtain ⟨vs,hv⟩:=ih (Nat.succ_pos _) fun q hq=>hsz q (List.mem_cons_of_mem _ hq)
          exact ⟨_,.cons (Array.getElem?_eq_getElem hp) hv⟩
    have hT:s.TypeIs (.ref z) "zip":=⟨_,h1,rfl⟩
    have hno:s.heap.objs.size ∉ zWr z TI TO L:=fun hc=>by
      have nn:s.heap.get? s.heap.objs.size=none:=i6 (Nat.le_refl _)
      rcases List.mem_cons.mp hc with q | hc
      · exact absurd ((q▸nn).symm.trans h1) nofun
      rcases List.mem_cons.mp hc with q | hc
      · exact absurd ((q▸nn).symm.trans h3) nofun
      rcases List.mem_cons.mp hc with q | hc
      · exact absurd ((q▸nn).symm.trans h2) nofun
      obtain ⟨p,hp,q⟩:=List.mem_map.mp hc
      obtain ⟨⟨o,e,_⟩,_⟩:=h5 p hp
      exact absurd ((q▸nn).symm.trans e) nofun
    unfold pyNext
    refine wpAny_bind (wpAny_attempt (wpAny_callSpecial?_slot (name:=Str.ofString "__next__") hT F.slot_zip_next
      (wpAny_call_entry F.slot_zip_next hT F.entry_zip_next
        (dp2 D hn hl h1 h2 h3 h4 h5 hv fun h' a1 a2 a3 a4 hk=>wpAny_pure (hQ s.heap.objs.size vs.toArray h' s.toks ⟨vs,rfl,hv⟩ (Nat.le_refl _) ⟨_,a4,rfl,_,rfl⟩ ⟨⟨vs,a1,hk _ _ D.TIz D.TITO (fun p hp=>(D.it p hp).2.2.symm) h2,a2,(aq3 hv).symm,a3⟩,hno⟩ (cw2 hk))) (F.args_zip_next_1 _))))
  go:=fun elts k pos i T s Q E hm hQ=>by
    obtain ⟨⟨old,h1,h2,h3,h4,h5⟩,_⟩:=hm
    exact wpAny_letOwnedTupleGo_zip h1 fun h' hz' hs'=>hQ h' ⟨old,hz',hs'.extBut _ _ D.TIz h2,hs'.extBut _ _ D.TOz h3,h4,fun p hp=>(h5 p hp).at (fun o e=>hs'.extBut _ _ (D.it p hp).1 e) (fun o e=>hs'.extBut _ _ (D.ls p hp).1 e)⟩
      fun c o hc e=>hs'.extBut _ _ (fun x=>hc (x▸List.mem_cons_self)) e
  apart:=fun i T h hm=>hm.2
  done:=fun s Q E hst hQ=>by
    obtain ⟨old,h1,h2,h3,h4,h5⟩:=hst
    have hT:s.TypeIs (.ref z) "zip":=⟨_,h1,rfl⟩
    unfold pyNext
    refine wpAny_bind (wpAny_attempt (wpAny_callSpecial?_slot (name:=Str.ofString "__next__") hT F.slot_zip_next
      (wpAny_call_entry F.slot_zip_next hT F.entry_zip_next (du4 hh D hn h1 h2 h3 h5 (fun p hp=>Array.getElem?_eq_none (Nat.le_of_eq (hsz p hp))) fun h' e hk he=>?_) (F.args_zip_next_1 _))))
    obtain ⟨o,ho,hc⟩:=he
    refine wpAny_bind (wpAny_isInstance (T:="StopIteration") (b:=true) ⟨o,ho,hc⟩ isSubtype_stop ?_)
    exact wpAny_pure (hQ _ s.toks (cw2 hk))
  self:=fun i s Q E hst hQ=>by
    obtain ⟨old,h1,_⟩:=hst
    exact wpAny_pyIter_zip h1 hQ
theorem br9 (a b c:Value):checkTypeCall "zip" ⟨[a,b,c],[]⟩=pure ():=by kernel_rfl
theorem bt7 (a b c:Value):checkBuiltinCall "zip.__new__" ⟨[.type "zip",a,b,c],[]⟩=pure ():=by kernel_rfl
theorem ck4 (a b c d:Value):argsOk "object.__init__" ⟨[a,b,c,d],[]⟩:=by
  unfold argsOk;rw [signature?_of (id:="object.__init__") (n:=['_','_','t','i','n','i','_','_']) (o:=['t','c','e','j','b','o']) (by kernel_rfl) F.owner_object];kernel_rfl
noncomputable def itO (l:Addr):Obj:={ cls:=.type "list_iterator",data:=.fields #[.ref l,.int 0 0] }
noncomputable def ec1 (vs:List Value):Obj:={ cls:=.type "tuple",data:=.seq vs.toArray }
noncomputable def et1 (TI TO:Addr):Obj:={ cls:=.type "zip",data:=.fields #[.none,.bool false,.bool false,.ref TI,.ref TO] }
noncomputable abbrev z3a (h:Heap) (a b c:Addr):Heap:=((h.push (itO a)).push (itO b)).push (itO c)
noncomputable abbrev z3b (h:Heap) (a b c:Addr):Heap:=(z3a h a b c).push (ec1 [.ref h.objs.size,.ref (h.push (itO a)).objs.size,.ref ((h.push (itO a)).push (itO b)).objs.size])
noncomputable abbrev z3c (h:Heap) (a b c:Addr):Heap:=(z3b h a b c).push (ec1 [.none,.none,.none])
noncomputable abbrev z3d (h:Heap) (a b c:Addr):Heap:=(z3c h a b c).push (et1 (z3a h a b c).objs.size (z3b h a b c).objs.size)
set_option maxHeartbeats 4000000 in
theorem bn3 (l1 l2 l3:Addr) (xs ys zs:Array Value) :
    Meets (Builtin.«zip.__new__» ⟨[.type "zip",.ref l1,.ref l2,.ref l3],[]⟩) (fun _ R s=>s.heap.IsList l1 xs∧s.heap.IsList l2 ys∧s.heap.IsList l3 zs∧
      R (.ok (.ret (.ref (z3c s.heap l1 l2 l3).objs.size))) { s with heap:=z3d s.heap l1 l2 l3 }):=
  .of_wp fun prog w A R s h=>by
    obtain ⟨hp,g,d,tk,os⟩:=s;obtain ⟨hl1,hl2,hl3,h⟩:=h
    have hsub:=sub_zip
    have hL1:Heap.IsList (Shared.heap ⟨hp,g,d,tk,os⟩) l1 xs:=hl1
    have hL2:Heap.IsList (Shared.heap ⟨hp.push { cls:=.type "list_iterator",data:=.fields #[.ref l1,.int 0 0] },g,d,tk,os⟩) l2 ys:=Heap.IsList.push hl2 _
    have hL3:Heap.IsList (Shared.heap ⟨(hp.push { cls:=.type "list_iterator",data:=.fields #[.ref l1,.int 0 0] }).push { cls:=.type "list_iterator",data:=.fields #[.ref l2,.int 0 0] },g,d,tk,os⟩) l3 zs:=Heap.IsList.push (Heap.IsList.push hl3 _) _
    wp_walk using wpAny_pyIter_list hL1,wpAny_pyIter_list hL2,wpAny_pyIter_list hL3
    exact ⟨_,rfl,h⟩
noncomputable def zmk:Addr→List (Addr×Array Value)→List ZL
  | _,[]=>[]
  | b,p :: r=>⟨b,p.1,p.2⟩ :: zmk (b+1) r
theorem ao0:∀ {b:Addr} {l:List (Addr×Array Value)} {q:ZL},q∈zmk b l→b≤q.it∧q.it < b+l.length∧(q.l,q.xs)∈l
  | b,p :: r,q,h=>by
    rcases List.mem_cons.mp h with rfl | h
    · exact ⟨Nat.le_refl _,Nat.lt_add_of_pos_right (Nat.succ_pos _),List.mem_cons_self⟩
    · obtain ⟨h1,h2,h3⟩:=ao0 h
      exact ⟨Nat.le_of_succ_le h1,by rw [List.length_cons];lia,List.mem_cons_of_mem _ h3⟩
theorem cc5:∀ {b:Addr} {l:List (Addr×Array Value)},(zmk b l).length=l.length
  | _,[]=>rfl
  | b,p :: r=>congrArg Nat.succ cc5
theorem dk0:∀ {b:Addr} {l:List (Addr×Array Value)},((zmk b l).map (·.it)).Nodup
  | _,[]=>.nil
  | b,p :: r=>List.nodup_cons.mpr ⟨fun h=>by
      obtain ⟨q,hq,e⟩:=List.mem_map.mp h
      have:=(ao0 hq).1
      rw [e] at this
      exact Nat.not_succ_le_self _ this,dk0⟩
theorem ek8 {h:Heap} {l:List (Addr×Array Value)} (hl:∀ p∈l,h.IsList p.1 p.2) {n:Nat} (hn:l.length=n):ZAp (h.objs.size+n+2) (h.objs.size+n) (h.objs.size+n+1) (zmk h.objs.size l) where
  TIz:=by lia
  TOz:=by lia
  TITO:=by lia
  it:=fun p hp=>by
    obtain ⟨h1,h2,h3⟩:=ao0 hp
    exact ⟨by lia,by lia,by lia⟩
  ls:=fun p hp=>by
    obtain ⟨_,_,h3⟩:=ao0 hp
    obtain ⟨o,e,_⟩:=hl _ h3
    have:p.l < h.objs.size:=Heap.lt_size e
    exact ⟨by lia,by lia,fun q hq=>by have:=(ao0 hq).1;lia⟩
  nd:=dk0
theorem dh7 {l:List (Addr×Array Value)} {n:Nat} {Q:Value→Shared→Prop} (hl:∀ p∈l,s.heap.IsList p.1 p.2) (hn:l.length=n) (h2:2≤n) (h3:n≤3)
    (hQ:∀ h',ZSt (s.heap.objs.size+n+2) (s.heap.objs.size+n) (s.heap.objs.size+n+1) (zmk s.heap.objs.size l) .none 0 h'→(∀ c o,s.heap.get? c=some o→h'.get? c=some o)→Q (.ref (s.heap.objs.size+n+2)) { s with heap:=h' }) :
    wpAny (model prog w) A (call (.type "zip") (l.map fun p=>.ref p.1)) Q E s:=by
  have three:n=2∨n=3:=by lia
  rcases three with rfl | rfl
  · refine an4 hn (fun p r hn hl hQ=>?_) hl hQ
    refine an4 hn (fun q r hn hl hQ=>?_) hl hQ
    refine bx8 (List.length_eq_zero_iff.mpr (List.length_eq_zero_iff.mp hn)) (fun hl hQ=>?_) hl hQ
    have a1:=hl p List.mem_cons_self
    have a2:=hl q (List.mem_cons_of_mem _ List.mem_cons_self)
    refine call_zip_2 a1 a2 fun h' b1 b2 b3 b4 b5 _ k=>hQ h' ⟨[.none,.none],b1,b2,b3,rfl,?_⟩ k
    intro x hx
    rcases List.mem_cons.mp hx with rfl | hx
    · exact ⟨b4,a1.at fun o e=>k _ o e⟩
    rw [List.mem_singleton.mp hx]
    exact ⟨b5,a2.at fun o e=>k _ o e⟩
  · refine an4 hn (fun p r hn hl hQ=>?_) hl hQ
    refine an4 hn (fun q r hn hl hQ=>?_) hl hQ
    refine an4 hn (fun t r hn hl hQ=>?_) hl hQ
    refine bx8 (List.length_eq_zero_iff.mpr (List.length_eq_zero_iff.mp hn)) (fun hl hQ=>?_) hl hQ
    have a1:=hl p List.mem_cons_self
    have a2:=hl q (List.mem_cons_of_mem _ List.mem_cons_self)
    have a3:=hl t (List.mem_cons_of_mem _ (List.mem_cons_of_mem _ List.mem_cons_self))
    refine callType_new F.called_zip (by decide) (br9 _ _ _) (bt7 _ _ _) (fun obj=>ck4 obj _ _ _) F.entry_zip_new (bn3 p.1 q.1 t.1 p.2 q.2 t.2) ⟨a1,a2,a3,?_⟩
    have k:∀ c o,s.heap.get? c=some o→(z3d s.heap p.1 q.1 t.1).get? c=some o:=fun c o x=>Heap.get?_push_of_some _ (Heap.get?_push_of_some _ (Heap.get?_push_of_some _ (Heap.get?_push_of_some _ (Heap.get?_push_of_some _ (Heap.get?_push_of_some _ x)))))
    have z1:(s.heap.push (itO p.1)).objs.size=s.heap.objs.size+1:=Heap.size_push ..
    have z2:((s.heap.push (itO p.1)).push (itO q.1)).objs.size=s.heap.objs.size+2:=by rw [Heap.size_push,z1]
    have z3:(z3a s.heap p.1 q.1 t.1).objs.size=s.heap.objs.size+3:=by rw [Heap.size_push,z2]
    have z4:(z3b s.heap p.1 q.1 t.1).objs.size=s.heap.objs.size+4:=by rw [Heap.size_push,z3]
    have z5:(z3c s.heap p.1 q.1 t.1).objs.size=s.heap.objs.size+5:=by rw [Heap.size_push,z4]
    have g5:(z3d s.heap p.1 q.1 t.1).get? (z3c s.heap p.1 q.1 t.1).objs.size=some _:=Heap.get?_push_size _ rfl
    have g4:(z3d s.heap p.1 q.1 t.1).get? (z3b s.heap p.1 q.1 t.1).objs.size=some _:=Heap.get?_push_of_some _ (Heap.get?_push_size _ rfl)
    have g3:(z3d s.heap p.1 q.1 t.1).get? (z3a s.heap p.1 q.1 t.1).objs.size=some _:=Heap.get?_push_of_some _ (Heap.get?_push_of_some _ (Heap.get?_push_size _ rfl))
    have g2:(z3d s.heap p.1 q.1 t.1).get? ((s.heap.push (itO p.1)).push (itO q.1)).objs.size=some _:=Heap.get?_push_of_some _ (Heap.get?_push_of_some _ (Heap.get?_push_of_some _ (Heap.get?_push_size _ rfl)))
    have g1:(z3d s.heap p.1 q.1 t.1).get? (s.heap.push (itO p.1)).objs.size=some _:=Heap.get?_push_of_some _ (Heap.get?_push_of_some _ (Heap.get?_push_of_some _ (Heap.get?_push_of_some _ (Heap.get?_push_size _ rfl))))
    have g0:(z3d s.heap p.1 q.1 t.1).get? s.heap.objs.size=some _:=Heap.get?_push_of_some _ (Heap.get?_push_of_some _ (Heap.get?_push_of_some _ (Heap.get?_push_of_some _ (Heap.get?_push_of_some _ (Heap.get?_push_size _ rfl)))))
    show _∧_
    rw [z3,z4,z5] at g5
    rw [z4] at g4
    rw [z1,z2,z3] at g3
    rw [z2] at g2
    rw [z1] at g1
    rw [z5]
    refine ⟨⟨_,g5,rfl⟩,hQ _ ⟨[.none,.none,.none],g5,g3,g4,rfl,?_⟩ k⟩
    intro x hx
    rcases List.mem_cons.mp hx with rfl | hx
    · exact ⟨⟨_,g0,rfl,rfl⟩,a1.at fun o e=>k _ o e⟩
    rcases List.mem_cons.mp hx with rfl | hx
    · exact ⟨⟨_,g1,rfl,rfl⟩,a2.at fun o e=>k _ o e⟩
    rw [List.mem_singleton.mp hx]
    exact ⟨⟨_,g2,rfl,rfl⟩,a3.at fun o e=>k _ o e⟩
inductive ZFr (w:World) (B:FM) (h:Heap) (l:List D) (p:Addr×Array Value):Prop
  | mk (h1:B p.1≠none) (h2:h.IsList p.1 p.2) (h3:RdL prog w B l p.2.toList):ZFr w B h l p
theorem cv2 {B:FM} {h:Heap} (kp:i9 B h):∀ {ds:List D} {vs:List Value} {ls:List (List D)},RdL prog w B ds vs→ds.mapM w6=some ls→∃ L,vs=L.map (fun p=>Value.ref p.1)∧a9 (ZFr w B h) ls L
  | [],vs,ls,r,h=>by
    cases (r:_=_)
    rw [List.mapM_nil] at h
    cases (Option.some.inj h)
    exact ⟨[],rfl,.nil⟩
  | d :: ds,vs,ls,r,h=>by
    obtain ⟨v,vs',rfl,r1,r2⟩:=r
    rw [List.mapM_cons] at h
    obtain ⟨l,h1,h⟩:=a6 h
    obtain ⟨ls',h2,h⟩:=a6 h
    cases (Option.some.inj h)
    obtain ⟨L,rfl,a⟩:=cv2 kp r2 h2
    obtain rfl:=l6 h1
    obtain ⟨a',o,ws,rfl,ho,x,rr⟩:=r1
    exact ⟨(a',ws.toArray) :: L,rfl,.cons ⟨by rw [ho];nofun,x.isList (kp _ _ ho),rr⟩ a⟩
theorem cx4 {B B':FM} {h:Heap} {i n:Nat} (hB:B.le B'):∀ {ls:List (List D)} {L:List (Addr×Array Value)} {b:Addr} {vs:List Value},a9 (ZFr w B h) ls L→ZAt i (zmk b L) vs→i < n→(∀ l∈ls,l.length=n)→RdL prog w B' (ls.filterMap (·[i]?)) vs
  | [],_,_,_,.nil,.nil,_,_=>RdL.nil
  | l :: ls,_,_,_,.cons z zs,.cons v vs,hi,hl=>by
    obtain ⟨_,_,r⟩:=z
    have hi':i < l.length:=by rw [hl l List.mem_cons_self];exact hi
    rw [List.filterMap_cons_some (f:=fun x:List D=>x[i]?) (List.getElem?_eq_getElem hi')]
    exact RdL.cons ((aj6 r (by rw [Array.getElem?_toList];exact v) (List.getElem?_eq_getElem hi')).mono hB) (cx4 hB zs vs hi fun m hm=>hl m (List.mem_cons_of_mem _ hm))
theorem ef6 {B:FM} {h:Heap} {i:Nat} {l:List D} {ls:List (List D)} {L:List (Addr×Array Value)} {b:Addr} {vs:List Value} (a:a9 (ZFr w B h) (l :: ls) L) (hv:ZAt i (zmk b L) vs):i < l.length:=by
  cases a with | @cons _ q _ L z zs=>
  cases (hv:a9 _ (⟨b,q.1,q.2⟩ :: zmk (b+1) L) vs) with | cons v _=>
  obtain ⟨_,_,r⟩:=z
  rw [← r.length,Array.length_toList]
  exact (Array.getElem?_eq_some_iff.mp v).1
theorem el7 {B:FM} {h:Heap} {n:Nat} {ls:List (List D)} {L:List (Addr×Array Value)} (a:a9 (ZFr w B h) ls L):(∀ l∈ls,l.length=n)→∀ p∈L,(B p.1≠none∧h.IsList p.1 p.2)∧p.2.size=n:=by
  induction a with
  | nil=>exact fun ξ=>nofun
  | @cons l q ls L z zs ih=>
    intro hl p hp
    rcases List.mem_cons.mp hp with rfl | hp
    · obtain ⟨z1,z2,r⟩:=z
      exact ⟨⟨z1,z2⟩,by rw [← hl l List.mem_cons_self,← r.length,Array.length_toList]⟩
    · exact ih (fun m hm=>hl m (List.mem_cons_of_mem _ hm)) p hp
variable {h₀:Heap} {mg mb:Str→Option Value} {k:Nat} {calls:String→List D→Option D} {sc:Scope}
theorem bx2 {x:Str} {es:List PySem.Expr} {irs:List IR} {p pos:Pos} {elts:List PySem.Expr} {kd:Nat} {tp:Pos} (G:Glb h₀ mg mb) (hx:i4 sc x=true) (hf:x="zip") (h:a9 (i8 w h₀ k calls sc) es irs) (hn:es.all m8=true) :
    al9 w h₀ k calls sc (.Call (.Name x p) es [] pos) (.zip irs) (.Tuple elts kd tp):=fun A E s env r B its ok hd=>by
  obtain ⟨ds,h1,hd⟩:=a6 hd
  obtain ⟨ls,h2,hd⟩:=a6 hd
  obtain ⟨hc,hd⟩:=g6 hd
  subst hf
  refine Call_ (t7 G ok hx (G.bi _ (.type "zip") (by simp)) ?_)
  cases es with
  | nil=>
    cases h
    cases (h1)
    cases (h2)
    cases (hd)
  | cons e rest=>
    have hn':=b8 hn
    refine callWith_type1 (bh0 h hn ok h1 fun vs s1 B1 g1 m1 r1 ok1=>?_) (c9 hn'.1) (at3 hn'.2)
    obtain ⟨L,rfl,a⟩:=cv2 ok1.keep r1 h2
    cases ls with
    | nil=>cases (hd)
    | cons l ls=>
    obtain ⟨hq,hd⟩:=g6 hd
    cases (hd)
    have hlen:∀ m∈l :: ls,m.length=l.length:=fun m hm=>by
      rcases List.mem_cons.mp hm with rfl | hm
      · rfl
      · exact eq_of_beq (am2 hq m hm)
    have hh:=ok.rm.handled
    have hLn:L.length=(l :: ls).length:=(aq3 a).symm
    have hL2:2≤L.length:=hLn▸of_decide_eq_true (b8 hc).1
    have hL3:L.length≤3:=hLn▸of_decide_eq_true (b8 hc).2
    have hon:=el7 a hlen
    refine dh7 (n:=L.length) (fun p hp=>(hon p hp).1.2) rfl hL2 hL3 fun h' st k'=>?_
    have D:=ek8 (h:=s1.heap) (l:=L) (fun p hp=>(hon p hp).1.2) rfl
    refine wpAny_pyIter_zip (TI:=s1.heap.objs.size+L.length) (TO:=s1.heap.objs.size+L.length+1) (f0:=.none) (by obtain ⟨old,z1,_⟩:=st;exact z1) ?_
    have W:=dj6 (A:=A) (w:=w) hh D (by rw [cc5];exact Nat.le_of_lt ‹_›) (by rw [cc5];exact Nat.le_trans ‹_› (Nat.le_of_ble_eq_true rfl)) (n:=l.length) (fun q hq=>(hon (q.l,q.xs) (ao0 hq).2.2).2)
    have T:=KTurns.ofWalksU (elts:=elts) (k:=kd) (pos:=tp) W.toU
    rw [show l.length=(List.map (fun i=>PyData.tuple (List.filterMap (fun x=>x[i]?) (l :: ls))) (List.range l.length)).length by rw [List.length_map,List.length_range]] at T
    refine ⟨_,_,_,_,_,_,B1,rfl,T,st,g1.trans (Gr.heap g1.keep k'),⟨m1.gens,m1.os,m1.toks⟩,?_,?_,fun b hb=>?_,?_,fun i s' Q E st hQ=>W.self i s' Q E st hQ⟩
    · intro i hx st b hb
      obtain ⟨old,z1,z2,z3,z4,z5⟩:=st
      rcases List.mem_append.mp hb with hb | hb
      · rcases List.mem_cons.mp hb with rfl | hb
        · exact ⟨_,z1,.fields rfl⟩
        rcases List.mem_cons.mp hb with rfl | hb
        · exact ⟨_,z3,.seq rfl⟩
        rcases List.mem_cons.mp hb with rfl | hb
        · exact ⟨_,z2,.seq rfl⟩
        obtain ⟨q,hq,rfl⟩:=List.mem_map.mp hb
        obtain ⟨⟨o,e,_,hd⟩,_⟩:=z5 q hq
        exact ⟨o,e,.fields hd⟩
      · obtain ⟨q,hq,rfl⟩:=List.mem_map.mp hb
        obtain ⟨_,⟨o,e,_,_,hd⟩⟩:=z5 q hq
        exact ⟨o,e,.seq hd⟩
    · intro b hb
      have hn1:s1.heap.get? b=none:=by
        refine i6 ?_
        rcases List.mem_cons.mp hb with rfl | hb
        · lia
        rcases List.mem_cons.mp hb with rfl | hb
        · lia
        rcases List.mem_cons.mp hb with rfl | hb
        · exact Nat.le_add_right ..
        obtain ⟨q,hq,rfl⟩:=List.mem_map.mp hb
        exact (ao0 hq).1
      exact ⟨g1.old.back hn1,r7 g1.keep hn1⟩
    · rcases List.mem_append.mp hb with hb | hb
      · exact .inl hb
      · obtain ⟨q,hq,rfl⟩:=List.mem_map.mp hb
        exact .inr (.inl (hon (q.l,q.xs) (ao0 hq).2.2).1.1)
    · rintro i v h' B' ⟨T,vals,rfl,⟨vs,rfl,hv⟩,hT⟩ hB hkp
      have hi:=ef6 a hv
      obtain ⟨o,h1,h2,n,h3⟩:=hT
      refine ⟨.tuple ((l :: ls).filterMap (·[i]?)),?_,bi4.mpr ⟨T,o,vs,rfl,h1,⟨h2,n,h3⟩,cx4 hB a hv hi hlen⟩,fun q=>(by cases q)⟩
      rw [List.getElem?_map,List.getElem?_range hi];rfl
end
end
section
open PySem.Calls PySem.SeqAt
theorem ad0:∀ (names:List (Str×NameKind)) (n:Nat) (acc:List (Str×Addr)),cellsFrom n names acc=cellsFrom n names [] ++ acc
  | [],_,acc=>rfl
  | (x,kd) :: r,n,acc=>by
    unfold cellsFrom
    split
    · rw [ad0 r (n+1) ((x,n) :: acc),ad0 r (n+1) [(x,n)],List.append_assoc];rfl
    · exact ad0 r n acc
theorem bc2 {α:Type} [BEq α] [LawfulBEq α] {β:Type} {x:α}:∀ {l1 l2:List (α×β)},(l1 ++ l2).lookup x=(l1.lookup x).or (l2.lookup x)
  | [],l2=>by simp
  | (y,b) :: r,l2=>by
    rw [List.cons_append,List.lookup_cons,List.lookup_cons]
    split
    · rfl
    · exact bc2
theorem ac8:∀ {names:List (Str×NameKind)} {n:Nat} {x:Str},(∃ c,(x,c)∈cellsFrom n names [])↔(x,.cell)∈names
  | [],n,x=>by simp [cellsFrom]
  | (y,kd) :: r,n,x=>by
    unfold cellsFrom
    split
    · rename_i hk
      have hk':kd = .cell:=by simpa using hk
      subst hk'
      rw [ad0]
      constructor
      · rintro ⟨c,hc⟩
        rcases List.mem_append.mp hc with h | h
        · exact .tail _ (ac8.mp ⟨c,h⟩)
        · have:=List.mem_singleton.mp h
          cases this
          exact .head _
      · intro h
        rcases List.mem_cons.mp h with e | h
        · cases e;exact ⟨n,by simp⟩
        · obtain ⟨c,hc⟩:=(ac8 (n:=n+1)).mpr h
          exact ⟨c,List.mem_append_left _ hc⟩
    · rename_i hk
      rw [ac8]
      constructor
      · exact fun h=>.tail _ h
      · intro h
        rcases List.mem_cons.mp h with e | h
        · cases e;simp at hk
        · exact h
theorem ag2 {α β:Type} [BEq α] [LawfulBEq α] {x:α} {b:β}:∀ {l:List (α×β)},(x,b)∈l→∃ c,l.lookup x=some c∧(x,c)∈l
  | (y,d) :: r,h=>by
    rw [List.lookup_cons]
    by_cases e:x=y
    · subst e;simp
    · have:(x == y)=false:=by simpa using e
      rw [this]
      rcases List.mem_cons.mp h with q | h
      · cases q;exact absurd rfl e
      · obtain ⟨c,h1,h2⟩:=ag2 h
        exact ⟨c,h1,.tail _ h2⟩
theorem aj1 {α β:Type} [BEq α] [LawfulBEq α] {x:α} {b:β}:∀ {l:List (α×β)},l.lookup x=some b→(x,b)∈l
  | (y,d) :: r,h=>by
    rw [List.lookup_cons] at h
    split at h
    · rename_i e
      cases h
      rw [eq_of_beq e];exact .head _
    · exact .tail _ (aj1 h)
theorem l8 {α β:Type} [BEq α] [LawfulBEq α] {x:α} {b:β}:∀ {l:List (α×β)},(l.map (·.1)).Nodup→(x,b)∈l→l.lookup x=some b
  | (y,d) :: r,hn,h=>by
    rw [List.lookup_cons]
    simp only [List.map_cons,List.nodup_cons] at hn
    rcases List.mem_cons.mp h with q | hm
    · cases q;simp
    · have:(x == y)=false:=by
        rw [beq_eq_false_iff_ne]
        rintro rfl
        exact hn.1 (List.mem_map.mpr ⟨(x,b),hm,rfl⟩)
      rw [this]
      exact l8 hn.2 hm
structure be6 (h:Heap) (lo:Nat) (names:List (Str×NameKind)) (cl cells:List (Str×Addr)):Prop where
  own:∀ x,names.lookup x=some .cell→∃ c,cells.lookup x=some c∧lo≤c∧h.IsCell c none
  sep:∀ x y c c',x≠y→names.lookup x=some .cell→names.lookup y=some .cell→cells.lookup x=some c→cells.lookup y=some c'→c≠c'
  old:∀ x,names.lookup x≠some .cell→cells.lookup x=cl.lookup x
theorem bj3 {names:List (Str×NameKind)} {h:Heap} {cl:List (Str×Addr)} (hn:(names.map (·.1)).Nodup):be6 (pushCells h names) h.objs.size names cl (cellsFrom h.objs.size names cl):=by
  have ok:=cellsFrom_ok names h h.objs.size [] ⟨fun ξ ξ hm=>(nomatch hm),List.Pairwise.nil⟩ (Nat.le_refl _)
  have get:∀ x,names.lookup x=some .cell→∃ c,(cellsFrom h.objs.size names []).lookup x=some c∧(x,c)∈cellsFrom h.objs.size names []:=fun x hx=>by
    obtain ⟨c,hc⟩:=(ac8 (n:=h.objs.size)).mpr (aj1 hx)
    exact ag2 hc
  have full:∀ x,names.lookup x=some .cell→(cellsFrom h.objs.size names cl).lookup x=(cellsFrom h.objs.size names []).lookup x:=fun x hx=>by
    obtain ⟨c,h1,_⟩:=get x hx
    rw [ad0,bc2,h1];rfl
  refine ⟨fun x hx=>?_,fun x y c c' hxy hx hy h1 h2 e=>?_,fun x hx=>?_⟩
  · obtain ⟨c,h1,h2⟩:=get x hx
    exact ⟨c,by rw [full x hx];exact h1,(ok.empty x c h2).2,(ok.empty x c h2).1⟩
  · rw [full x hx] at h1
    rw [full y hy] at h2
    subst e
    exact hxy (name_of_addr ok.apart (mem_of_lookup h1) (mem_of_lookup h2))
  · rw [ad0,bc2]
    cases e:(cellsFrom h.objs.size names []).lookup x with
    | none=>rfl
    | some c=>exact absurd (l8 hn (ac8.mp ⟨c,aj1 e⟩)) hx
section
variable {w:World} {A:Around} {E:Value→Shared→Prop} {s:Shared}
theorem cn1 {scope:Scope} {globals:Addr} {cl:List (Str×Addr)} {qual:Str} {outer:Env} {Q:Env→Shared→Prop} (hn:(scope.names.map (·.1)).Nodup)
    (h:∀ h' cells,be6 h' s.heap.objs.size scope.names cl cells→h'.Ns s.heap.objs.size (fun ξ=>none)→(∀ b o,s.heap.get? b=some o→h'.get? b=some o)→s.heap.objs.size < h'.objs.size→
      (∀ x,scope.names.lookup x=some .cell→cells.lookup x≠some s.heap.objs.size)→
      Q { scope,locals:=s.heap.objs.size,globals,cells,qual,func:=none,code:=outer.code,frame:=outer.frame,builtins:=outer.builtins } { s with heap:=h' }) :
    wpAny (model prog w) A (newFunctionEnv scope globals cl [] qual none .none (some outer)) Q E s:=by
  simp only [newFunctionEnv,Option.isSome_some,if_true]
  refine wpAny_bind (wpAny_alloc ?_)
  refine wpAny_bind (wpAny_layCells _ (fun name kind cells=>by cases hkc:kind == NameKind.cell <;> simp [hkc]) _ _ _ _ ?_)
  rw [List.forIn_nil]
  refine wpAny_bind (wpAny_pure (wpAny_pure ?_))
  have hsz:(s.heap.push { cls:=.type "dict",data:=.dict #[] }).objs.size=s.heap.objs.size+1:=Heap.size_push ..
  have c0:=bj3 (h:=s.heap.push { cls:=.type "dict",data:=.dict #[] }) (cl:=cl) hn
  have old:∀ b o,s.heap.get? b=some o→(pushCells (s.heap.push { cls:=.type "dict",data:=.dict #[] }) scope.names).get? b=some o:=fun b o e=>pushCells_keeps _ _ b o (Heap.get?_push_of_some _ e)
  have ns:=(Heap.Ns.new s.heap (.type "dict")).keeps (pushCells_keeps scope.names (s.heap.push { cls:=.type "dict",data:=.dict #[] }))
  refine h _ _ ⟨fun x hx=>?_,c0.sep,c0.old⟩ ns old ns.lt fun x hx e=>?_
  · obtain ⟨c,q1,q2,q3⟩:=c0.own x hx
    exact ⟨c,q1,by rw [hsz] at q2;exact Nat.le_of_lt ‹_›,q3⟩
  · obtain ⟨c,q1,q2,q3⟩:=c0.own x hx
    have e':some c=some s.heap.objs.size:=q1.symm.trans e
    cases e'
    rw [hsz] at q2
    exact Nat.lt_irrefl _ q2
noncomputable def ch2 (env:Env):List (Str×NameKind)→List (Str×Addr)→List (Str×Addr)
  | [],cs=>cs
  | (x,kd) :: r,cs=>ch2 env r (if kd == .free then (x,(env.cells.lookup x).getD 0) :: cs else cs)
theorem cp8 {scope:Scope} {env:Env} (h:∀ x,(x,.free)∈scope.names→∃ c,env.cells.lookup x=some c):closureFor scope env=pure (ch2 env scope.names []):=by
  have:∀ (names:List (Str×NameKind)) (cs:List (Str×Addr)),(∀ x,(x,.free)∈names→∃ c,env.cells.lookup x=some c)→
      (forIn names cs fun (p:Str×NameKind) (r:List (Str×Addr))=>(if p.2 == .free then (do let c ← cellOf env p.1;pure (ForInStep.yield ((p.1,c) :: r))) else pure (ForInStep.yield r):Sem _))=pure (ch2 env names cs):=by
    intro names
    induction names with
    | nil=>intro cs _;rfl
    | cons p r ih=>
      intro cs hx
      obtain ⟨x,kd⟩:=p
      have ih':=fun cs=>ih cs fun y hy=>hx y (.tail _ hy)
      rw [List.forIn_cons]
      unfold ch2
      by_cases hk:(kd == .free)=true
      · have hk':kd = .free:=by simpa using hk
        subst hk'
        obtain ⟨c,hc⟩:=hx x (.head _)
        simp only [hk,if_true,cellOf,hc,pure_bind,Option.getD_some]
        exact ih' _
      · have hk':(kd == .free)=false:=by simpa using hk
        simp only [hk',Bool.false_eq_true,if_false,pure_bind]
        exact ih' _
  unfold closureFor
  have:=this scope.names [] h
  simp only [bind_pure]
  refine Eq.trans ?_ this
  congr 1
theorem aw8 {env:Env} {x:Str}:∀ {names:List (Str×NameKind)} {cs:List (Str×Addr)},(names.map (·.1)).Nodup→(ch2 env names cs).lookup x=if (x,NameKind.free)∈names then some ((env.cells.lookup x).getD 0) else cs.lookup x
  | [],cs,_=>by simp [ch2]
  | (y,kd) :: r,cs,hn=>by
    simp only [List.map_cons,List.nodup_cons] at hn
    unfold ch2
    rw [aw8 hn.2]
    by_cases hr:(x,NameKind.free)∈r
    · rw [if_pos hr,if_pos (.tail _ hr)]
    · rw [if_neg hr]
      by_cases hk:kd = .free
      · subst hk
        by_cases e:x=y
        · subst e;simp
        · have:(x == y)=false:=by simpa using e
          simp [List.lookup_cons,this,hr,e]
      · have h2:(kd == NameKind.free)=false:=by simpa using hk
        rw [h2]
        have:¬ (x,NameKind.free)∈(y,kd) :: r:=by
          intro h
          rcases List.mem_cons.mp h with q | h
          · cases q;exact hk rfl
          · exact hr h
        rw [if_neg this];rfl
end
end
section
open PySem.Calls PySem.SeqAt
section
variable {M:Model} {A:Around} {E:Value→Shared→Prop} {s:Shared}
theorem dd3 {a:Addr} {m} {name:Str} {v:Value} {Q:Unit→Shared→Prop} (hn:s.heap.Ns a m)
    (h:∀ h',h'.Ns a (fun x=>if x=name then some v else m x)→Heap.SameBut a s.heap h'→(∀ o,s.heap.get? a=some o→∀ o',h'.get? a=some o'→o'.cls=o.cls)→Q () { s with heap:=h',toks:=s.toks+1 }) :
    wpAny M A (nsSet a name v) Q E s:=fun Γ p hΓ=>by
  have h1:=Sem.wp_nsSet M Γ (fun e ξ s'=>E e s') p s hn name v (fun ξ ξ s'=>s'.heap.Ns a (fun x=>if x=name then some v else m x)∧Heap.SameBut a s.heap s'.heap) (fun h' q1 q2=>⟨q1,q2⟩)
  obtain ⟨o,es,ep,ho,hd,hk,hm⟩:=id hn
  simp only [nsSet,strHash,Sem.wp_bind',Sem.wp_cmd_ask,Sem.wp_pure',Sem.wp_cmd_mkText] at h1⊢
  rw [Sem.wp_loadPart_of M Γ _ p { s with toks:=s.toks+1 } (o:=o) _ ho] at h1⊢
  have hany:es.any (·.refKey)=false:=by
    rw [Array.any_eq_false'];intro e he;obtain ⟨n,t,q⟩:=hk e he;simp [DictEntry.refKey,q]
  simp only [hd,aRefKeyMayBeTheName_eq,aRefKeyMayBeTheNameByArray,hany,Bool.and_false,Bool.false_eq_true,if_false,Sem.wp_cmd_updatePart] at h1⊢
  refine ⟨h1.1,h _ h1.2.1 h1.2.2 fun o1 e1 o2 e2=>?_⟩
  rw [ho] at e1;cases e1
  have key:∀ (h:Int) (kv:Value),(Obj.putName name h kv v o).cls=o.cls∧(Obj.putName name h kv v o).isFreed=false:=fun h kv=>by
    obtain ⟨c,d,dt,sl⟩:=o
    simp only at hd
    subst hd
    simp only [Obj.putName_eq,Obj.putNameByArray]
    cases hi:es.findIdx? (·.key.isStr name) <;> exact ⟨rfl,rfl⟩
  rw [Heap.get?_update_self _ ho (key _ _).2] at e2
  cases e2
  exact (key _ _).1
theorem cq6 {env:Env} {name:Str} {m} {v:Value} {Q:Unit→Shared→Prop} (hl:env.kindOf name=some .local) (hn:s.heap.Ns env.locals m)
    (h:∀ h',h'.Ns env.locals (fun x=>if x=name then some v else m x)→Heap.SameBut env.locals s.heap h'→(∀ o,s.heap.get? env.locals=some o→∀ o',h'.get? env.locals=some o'→o'.cls=o.cls)→Q () { s with heap:=h',toks:=s.toks+1 })
    (hp:(env.scope.kind == .class || (env.scope.kind == .module && env.locals != env.globals))=false):wpAny M A (storeName env name v) Q E s:=by
  rw [storeName_local hl hp];exact dd3 hn h
end
theorem bi0 {h:Heap} {a:Addr} {m m':Str→Option Value} (x:h.Ns a m) (y:h.Ns a m'):m=m':=by
  obtain ⟨o,es,ep,ho,hd,_,hf⟩:=x
  obtain ⟨o',es',ep',ho',hd',_,hf'⟩:=y
  rw [ho] at ho';cases ho'
  rw [hd] at hd';cases hd'
  funext n;rw [← hf n,hf' n]
theorem bt8 {h:Heap} {c:Addr} {v v':Option Value} (x:h.IsCell c v) (y:h.IsCell c v'):v=v':=by
  obtain ⟨o,ho,hd⟩:=x
  obtain ⟨o',ho',hd'⟩:=y
  rw [ho] at ho';cases ho'
  rw [hd] at hd';cases hd';rfl
theorem ba9 {h:Heap} {a c:Addr} {m:Str→Option Value} {v:Option Value} (x:h.Ns a m) (y:h.IsCell c v):a≠c:=by
  rintro rfl
  obtain ⟨o,es,ep,ho,hd,_⟩:=x
  obtain ⟨o',ho',hd'⟩:=y
  rw [ho] at ho';cases ho'
  rw [hd] at hd';cases hd'
theorem At.unique {env:Env} {h:Heap} {x:Str} {v v':Value} (a:At env h x v) (b:At env h x v'):v=v':=by
  cases a with
  | loc m e hn hv=>cases b with
    | loc m' e' hn' hv'=>rw [bi0 hn hn'] at hv;rw [hv] at hv';exact Option.some.inj hv'
    | cell c e' hc hv'=>rw [e] at e';rcases e' with q | q <;> cases q
  | cell c e hc hv=>cases b with
    | loc m' e' hn' hv'=>rw [e'] at e;rcases e with q | q <;> cases q
    | cell c' e' hc' hv'=>rw [hc] at hc';cases hc';exact Option.some.inj (bt8 hv hv')
noncomputable def isOwn (env:Env) (sc:Scope) (a:Addr):Prop:=a=env.locals∨∃ x,sc.names.lookup x=some .cell∧env.cells.lookup x=some a
structure Fmz (env:Env) (sc:Scope) (h:Heap):Prop where
  ns:∃ m,h.Ns env.locals m
  cell:∀ x,sc.names.lookup x=some .cell→env.kindOf x=some .cell∧∃ c v,env.cells.lookup x=some c∧h.IsCell c v
  sep:∀ x y c c',x≠y→sc.names.lookup x=some .cell→env.cells.lookup x=some c→env.cells.lookup y=some c'→c≠c'
  cellE:∀ x c,env.cells.lookup x=some c→∃ v,h.IsCell c v
  cls:env.frame=some env.locals→∀ o,h.get? env.locals=some o→o.cls≠.type "dict"
  frE:∀ f,env.frame=some f→h.get? f≠none
section
variable (prog:Program) (w:World)
inductive eo1 (h0:Heap) (B:FM) (h:Heap) (v:Value):Prop
  | mk (a:Addr) (e:v = .ref a) (e1:h0.get? a=none) (e2:B a=none) (e3:aa1 h a):eo1 h0 B h v
inductive es2 (prog:Program) (w:World) (h0:Heap) (env:Env) (sc:Scope) (B:FM) (Y:Addr→Prop) (h:Heap) (x:Str) (m:af4) (d:D):Prop
  | mk (v:Value) (a:At env h x v) (t:f6 prog w h B d v) (f:m = .fr→Rd prog w B d v) (n:∀ a,isOwn env sc a∨Y a→v≠.ref a) (o:m.ownish=true→eo1 h0 B h v):es2 prog w h0 env sc B Y h x m d
structure Sim (h0:Heap) (B0:FM) (env:Env) (sc:Scope) (r:Rho) (B:FM) (Y:Addr→Prop) (h:Heap):Prop where
  gr:Gr B0 h0 B h
  fm:Fmz env sc h
  own0:∀ a,isOwn env sc a→h0.get? a=none∧B a=none
  y0:∀ a,Y a→h0.get? a=none∧B a=none∧h.get? a≠none
  yown:∀ a,isOwn env sc a→¬ Y a
  ycell:∀ x c,env.cells.lookup x=some c→¬ Y c
  yfr:∀ f,env.frame=some f→¬ Y f
  vars:∀ x i m d,d6 sc x=some i→r.get i=some (m,d)→
    es2 prog w h0 env sc B Y h x m d
  uniq:∀ x y i j m1 m d d' a,d6 sc x=some i→d6 sc y=some j→i≠j→r.get i=some (m1,d)→m1.ownish=true→r.get j=some (m,d')→At env h x (.ref a)→¬ At env h y (.ref a)
end
section
variable {w:World} {h0:Heap} {B0:FM} {env:Env} {sc:Scope} {r:Rho} {B:FM} {Y:Addr→Prop} {h:Heap}
theorem Sim.rdr (S:Sim prog w h0 B0 env sc r B Y h):Rdr prog w env sc r B h where
  keep:=S.gr.keep
  vars:=fun x i m d hs hr=>by obtain ⟨v,a,t,f,_⟩:=S.vars x i m d hs hr;exact ⟨v,a,t,f⟩
theorem Sim.ownE (S:Sim prog w h0 B0 env sc r B Y h) {a:Addr} (q:isOwn env sc a):h.get? a≠none:=by
  rcases q with rfl | ⟨x,h1,h2⟩
  · obtain ⟨m,o,_,_,e,_⟩:=S.fm.ns;rw [e];simp
  · obtain ⟨_,c,v,e1,o,e2,_⟩:=S.fm.cell x h1
    rw [h2] at e1;cases e1
    rw [e2];simp
theorem Gr.none_of {B':FM} {h':Heap} (g:Gr B h B' h') {a:Addr} (hb:B a=none) (he:h.get? a≠none):B' a=none:=by
  cases e:B' a with
  | none=>rfl
  | some o=>
    rcases g.new a o e with q | q
    · rw [hb] at q;cases q
    · exact absurd q he
theorem Gr.exists {B':FM} {h':Heap} (g:Gr B h B' h') {a:Addr} (he:h.get? a≠none):h'.get? a≠none:=g.old.ex he
theorem z7 {d:D} {a:Addr} (t:f6 prog w h B d (.ref a)) (kp:i9 B h):h.get? a≠none:=by
  cases d with
  | none=>cases t
  | bool b=>cases t
  | int i=>obtain ⟨_,_,e⟩:=t;cases e
  | str x=>obtain ⟨_,_,e⟩:=t;cases e
  | list l=>obtain ⟨a',o,vs,e,ho,_⟩:=t;cases e;rw [ho];simp
  | tuple l=>obtain ⟨a',o,vs,e,ho,_⟩:=t;cases e;rw [ho];simp
  | dict l=>obtain ⟨a',o,vs,e,ho,_⟩:=t;cases e;rw [ho];simp
theorem Fmz.keeps {h':Heap} (F:Fmz env sc h) (k:Old h h'):Fmz env sc h' where
  ns:=let ⟨m,q⟩:=F.ns;⟨m,k.ns q⟩
  cell:=fun x hx=>let ⟨e,c,v,q1,q2⟩:=F.cell x hx;⟨e,c,v,q1,k.cell q2⟩
  sep:=F.sep
  cellE:=fun x c hx=>let ⟨v,q⟩:=F.cellE x c hx;⟨v,k.cell q⟩
  cls:=fun hf o e=>by
    obtain ⟨m,o0,_,_,e0,_⟩:=F.ns
    obtain ⟨o',p1,p2,_⟩:=(k _ o0 e0).ex
    rw [p1] at e;cases e
    rw [p2];exact F.cls hf _ e0
  frE:=fun f hf=>k.ex (F.frE f hf)
theorem dc1 {d:D} {a:Addr} {o:Obj} (t:f6 prog w h B d (.ref a)) (ho:h.get? a=some o):an9 o:=by
  cases d with
  | none=>cases t
  | bool b=>cases t
  | int i=>obtain ⟨_,_,e⟩:=t;cases e
  | str x=>obtain ⟨_,_,e⟩:=t;cases e
  | list l=>obtain ⟨a',o',vs,e,ho',x,_⟩:=t;cases e;rw [ho] at ho';cases ho';exact x.solid
  | tuple l=>obtain ⟨a',o',vs,e,ho',x,_⟩:=t;cases e;rw [ho] at ho';cases ho';exact x.solid
  | dict l=>obtain ⟨a',o',vs,e,ho',x,_⟩:=t;cases e;rw [ho] at ho';cases ho';exact ag3 x.1
theorem _root_.Mine.aa1.keeps {h h':Heap} {a:Addr} (p:aa1 h a) (k:Old h h') (e:∃ o,h.get? a=some o∧an9 o):aa1 h' a:=fun o q=>by
  obtain ⟨o',e1,hs⟩:=e
  rw [k.solid e1 hs] at q;cases q;exact p _ e1
theorem ck3 {d:D} {a:Addr} (t:f6 prog w h B d (.ref a)) (kp:i9 B h):∃ o,h.get? a=some o∧an9 o:=by
  cases e:h.get? a with
  | none=>exact absurd e (z7 t kp)
  | some o=>exact ⟨o,rfl,dc1 t e⟩
theorem _root_.Mine.aa1.off {h h':Heap} {a:Addr} {X:Addr→Prop} (p:aa1 h a) (k:∀ b o,¬ X b→h.get? b=some o→h'.get? b=some o) (hx:¬ X a) (e:h.get? a≠none):aa1 h' a:=fun o q=>by
  cases e1:h.get? a with
  | none=>exact absurd e1 e
  | some o'=>rw [k a o' hx e1] at q;cases q;exact p _ e1
theorem Sim.ev {B':FM} {h':Heap} (S:Sim prog w h0 B0 env sc r B Y h) (g:Gr B h B' h'):Sim prog w h0 B0 env sc r B' Y h' where
  gr:=S.gr.trans g
  fm:=S.fm.keeps g.old
  own0:=fun a q=>⟨(S.own0 a q).1,g.none_of (S.own0 a q).2 (S.ownE q)⟩
  y0:=fun a q=>⟨(S.y0 a q).1,g.none_of (S.y0 a q).2.1 (S.y0 a q).2.2,g.exists (S.y0 a q).2.2⟩
  yown:=S.yown
  ycell:=S.ycell
  yfr:=S.yfr
  vars:=fun x i m d hs hr=>by
    obtain ⟨v,a,t,f,n,o⟩:=S.vars x i m d hs hr
    refine ⟨v,a.keeps g.old,t.mono g.old g.le,fun q=>(f q).mono g.le,n,fun q=>?_⟩
    obtain ⟨b,rfl,e1,e2,e3⟩:=o q
    exact ⟨b,rfl,e1,g.none_of e2 (z7 t S.gr.keep),e3.keeps g.old (ck3 t S.gr.keep)⟩
  uniq:=fun x y i j m1 m d d' a hx hy hij hi hw hj a1 a2=>by
    obtain ⟨v,b1,_⟩:=S.vars x i _ d hx hi
    obtain ⟨u,b2,_⟩:=S.vars y j m d' hy hj
    have e1:=a1.unique (b1.keeps g.old)
    have e2:=a2.unique (b2.keeps g.old)
    subst e1 e2
    exact S.uniq x y i j m1 m d d' a hx hy hij hi hw hj b1 b2
theorem f6.off {h':Heap} {B':FM} {d:D} {v:Value} {X:Addr→Prop} (hk:∀ b o,¬ X b→h.get? b=some o→h'.get? b=some o) (hB:B.le B') (hv:∀ a,X a→v≠.ref a) (t:f6 prog w h B d v):f6 prog w h' B' d v:=by
  cases d with
  | none=>exact t
  | bool b=>exact t
  | int i=>exact t
  | str x=>exact t
  | list l=>obtain ⟨a,o,vs,rfl,ho,x,y⟩:=t;exact bq4.mpr ⟨a,o,vs,rfl,hk a o (fun q=>hv a q rfl) ho,x,y.mono hB⟩
  | tuple l=>obtain ⟨a,o,vs,rfl,ho,x,y⟩:=t;exact bi4.mpr ⟨a,o,vs,rfl,hk a o (fun q=>hv a q rfl) ho,x,y.mono hB⟩
  | dict l=>obtain ⟨a,o,vs,rfl,ho,x,y⟩:=t;exact ⟨a,o,vs,rfl,hk a o (fun q=>hv a q rfl) ho,x,y.mono hB⟩
theorem At.off {h':Heap} {X:Addr→Prop} {x:Str} {v:Value} (hk:∀ b o,¬ X b→h.get? b=some o→h'.get? b=some o) (hl:¬ X env.locals) (hc:∀ c,env.cells.lookup x=some c→¬ X c):At env h x v→At env h' x v
  | .loc m e hn hv=>.loc m e (hn.at' fun o q=>hk _ o hl q) hv
  | .cell c e he hv=>by
    obtain ⟨o,q1,q2⟩:=hv
    exact .cell c e he ⟨o,hk c o (hc c he) q1,q2⟩
theorem Gr.off {B1:FM} {h1 h':Heap} {X:Addr→Prop} (g:Gr B h B1 h1) (hk:∀ b o,¬ X b→h1.get? b=some o→h'.get? b=some o) (hX:∀ b,X b→h.get? b=none∧B1 b=none):Gr B h B1 h' where
  le:=g.le
  old:=fun a o e=>(g.old a o e).trans fun o' e'=>.inl (hk a o' (fun q=>by rw [(hX a q).1] at e;cases e) e')
  keep:=fun a o e=>hk a o (fun q=>by rw [(hX a q).2] at e;cases e) (g.keep a o e)
  new:=g.new
theorem Sim.off2 {h':Heap} {Y':Addr→Prop} (S:Sim prog w h0 B0 env sc r B Y h) (hk:∀ b o,¬ Y b→h.get? b=some o→h'.get? b=some o) (hs:∀ b,Y' b→Y b) (hY:∀ b,Y' b→h'.get? b≠none):Sim prog w h0 B0 env sc r B Y' h' where
  gr:=S.gr.off hk fun b q=>⟨(S.y0 b q).1,(S.y0 b q).2.1⟩
  fm:={
    ns:=let ⟨m,q⟩:=S.fm.ns;⟨m,q.at' fun o e=>hk _ o (S.yown _ (.inl rfl)) e⟩
    cell:=fun x hx=>let ⟨e,c,v,q1,o,q2,q3⟩:=S.fm.cell x hx;⟨e,c,v,q1,o,hk c o (S.ycell x c q1) q2,q3⟩
    sep:=S.fm.sep
    cellE:=fun x c hx=>let ⟨v,o,q2,q3⟩:=S.fm.cellE x c hx;⟨v,o,hk c o (S.ycell x c hx) q2,q3⟩
    cls:=fun hf o e=>by
      obtain ⟨m,o0,_,_,e0,_⟩:=S.fm.ns
      rw [hk _ o0 (S.yown _ (.inl rfl)) e0] at e;cases e
      exact S.fm.cls hf _ e0
    frE:=fun f hf=>by
      cases e:h.get? f with
      | none=>exact absurd e (S.fm.frE f hf)
      | some o=>rw [hk f o (S.yfr f hf) e];simp }
  own0:=S.own0
  y0:=fun a q=>⟨(S.y0 a (hs a q)).1,(S.y0 a (hs a q)).2.1,hY a q⟩
  yown:=fun a q q'=>S.yown a q (hs a q')
  ycell:=fun x c q q'=>S.ycell x c q (hs c q')
  yfr:=fun f hf q=>S.yfr f hf (hs f q)
  vars:=fun x i m d hx hr=>by
    obtain ⟨v,a,t,f,n,o⟩:=S.vars x i m d hx hr
    exact ⟨v,a.off hk (S.yown _ (.inl rfl)) (S.ycell x),t.off hk (.refl _) (fun b q=>n b (.inr q)),f,fun b q=>n b (q.imp id (hs b)),fun q=>by
      obtain ⟨b,rfl,e1,e2,e3⟩:=o q
      exact ⟨b,rfl,e1,e2,e3.off hk (fun p=>n b (.inr p) rfl) (z7 t S.gr.keep)⟩⟩
  uniq:=fun x y i j m1 m d d' a hx hy hij hi hw hj a1 a2=>by
    obtain ⟨v,b1,_⟩:=S.vars x i _ d hx hi
    obtain ⟨u,b2,_⟩:=S.vars y j m d' hy hj
    have e1:=a1.unique (b1.off hk (S.yown _ (.inl rfl)) (S.ycell x))
    have e2:=a2.unique (b2.off hk (S.yown _ (.inl rfl)) (S.ycell y))
    subst e1 e2
    exact S.uniq x y i j m1 m d d' a hx hy hij hi hw hj b1 b2
theorem Sim.off {h':Heap} (S:Sim prog w h0 B0 env sc r B Y h) (hk:∀ b o,¬ Y b→h.get? b=some o→h'.get? b=some o) (hY:∀ b,Y b→h'.get? b≠none):Sim prog w h0 B0 env sc r B Y h':=S.off2 hk (fun ξ q=>q) hY
theorem Sim.subY {Y':Addr→Prop} (S:Sim prog w h0 B0 env sc r B Y h) (q:∀ a,Y' a→Y a):Sim prog w h0 B0 env sc r B Y' h:=S.off2 (fun ξ ξ ξ e=>e) q fun b p=>(S.y0 b (q b p)).2.2
theorem Sim.part {r':Rho} (S:Sim prog w h0 B0 env sc r B Y h) (q:∀ i m d,r'.get i=some (m,d)→r.get i=some (m,d)):Sim prog w h0 B0 env sc r' B Y h where
  gr:=S.gr
  fm:=S.fm
  own0:=S.own0
  y0:=S.y0
  yown:=S.yown
  ycell:=S.ycell
  yfr:=S.yfr
  vars:=fun x i m d hs hr=>S.vars x i m d hs (q i _ _ hr)
  uniq:=fun x y i j m1 m d d' a hx hy hij hi hw hj a1 a2=>S.uniq x y i j m1 m d d' a hx hy hij (q i _ _ hi) hw (q j _ _ hj) a1 a2
theorem Sim.addY {Y':Addr→Prop} {B1:FM} {h1:Heap} (S:Sim prog w h0 B0 env sc r B Y h) (g:Gr B h B1 h1) (q:∀ a,Y' a→h.get? a=none∧B1 a=none∧h1.get? a≠none):Sim prog w h0 B0 env sc r B1 (fun a=>Y a∨Y' a) h1:=
  have S1:=S.ev g
  have h0n:∀ a,h.get? a=none→h0.get? a=none:=fun a e=>by
    exact S.gr.old.back e
  { gr:=S1.gr
    fm:=S1.fm
    own0:=S1.own0
    y0:=fun a p=>p.elim (S1.y0 a) fun p=>⟨h0n a (q a p).1,(q a p).2.1,(q a p).2.2⟩
    yown:=fun a p p'=>p'.elim (S1.yown a p) fun p'=>S.ownE p (q a p').1
    ycell:=fun x c p p'=>p'.elim (S1.ycell x c p) fun p'=>by
      obtain ⟨v,o,e,_⟩:=S.fm.cellE x c p
      rw [(q c p').1] at e;cases e
    yfr:=fun f hf p=>p.elim (S.yfr f hf) fun p=>S.fm.frE f hf (q f p).1
    vars:=fun x i m d hs hr=>by
      obtain ⟨v,a,t,f,n,o⟩:=S.vars x i m d hs hr
      obtain ⟨v',a',t',f',n',o'⟩:=S1.vars x i m d hs hr
      have e:=(a.keeps g.old).unique a'
      subst e
      refine ⟨v,a',t',f',fun b p e=>?_,o'⟩
      rcases p with p | p | p
      · exact n' b (.inl p) e
      · exact n' b (.inr p) e
      · subst e;exact z7 t S.gr.keep (q b p).1
    uniq:=S1.uniq }
end
section
variable {w:World} {h0:Heap} {B0:FM} {env:Env} {sc:Scope} {r:Rho} {B:FM} {Y:Addr→Prop} {s:Shared} {A:Around} {E:Value→Shared→Prop}
theorem bl5 {x:Str} {i:Nat} (h:d6 sc x=some i):∃ kd,sc.names[i]?=some (x,kd):=by
  unfold d6 at h
  have key:(if ax8 x=true then sc.names.findIdx? (·.1 == x) else none)=some i→∃ kd,sc.names[i]?=some (x,kd):=by
    intro h
    split at h
    · obtain ⟨h1,h2⟩:=List.findIdx?_eq_some_iff_getElem.mp h
      refine ⟨sc.names[i].2,?_⟩
      have e:sc.names[i].1=x:=by simpa using h2.1
      rw [List.getElem?_eq_getElem h1,← e]
    · cases h
  split at h <;> first | exact key h | cases h
theorem am7 {x y:Str} {i:Nat} (h1:d6 sc x=some i) (h2:d6 sc y=some i):x=y:=by
  obtain ⟨a,q1⟩:=bl5 h1
  obtain ⟨b,q2⟩:=bl5 h2
  rw [q1] at q2
  injection q2 with e;injection e
theorem j7 (r:Rho) (i j:Nat) (v:Slot):Rho.get (r.set i v) j=if i=j∧i < r.length then v else r.get j:=by
  unfold Rho.get
  rw [List.getElem?_set]
  by_cases h:i=j
  · subst h
    by_cases h2:i < r.length
    · simp [h2]
    · have:r[i]?=none:=List.getElem?_eq_none (by exact Nat.not_lt.mp ‹_›)
      simp [h2]
  · simp [h]
theorem bi2 {x y:Str} {i j:Nat} {m:af4} {d:D} (hs:d6 sc x=some i) (hy:d6 sc y=some j) (hr:r.get j=some (m,d)) (hc:¬ (i=j∧i < r.length)):y≠x:=by
  rintro rfl
  cases Option.some.inj (hs.symm.trans hy)
  have hlen:r.length≤i:=Nat.le_of_not_lt fun q=>hc ⟨rfl,q⟩
  unfold Rho.get at hr
  rw [List.getElem?_eq_none hlen] at hr
  cases hr
theorem bf6 {i:Nat} {v:af4×D} (h:r.get i=some v):i < r.length:=by
  unfold Rho.get at h
  exact Classical.byContradiction fun q=>by rw [List.getElem?_eq_none (Nat.le_of_not_lt q)] at h;cases h
theorem Sim.putG {x:Str} {i:Nat} {m0:af4} {d:D} {v:Value} {Q:Unit→Shared→Prop} (S:Sim prog w h0 B0 env sc r B Y s.heap) (ek:t9 env sc) (hs:d6 sc x=some i) (hx:sc.names.lookup x=some .local∨sc.names.lookup x=some .cell) (hv:f6 prog w s.heap B d v) (hf:m0 = .fr→Rd prog w B d v)
    (hvn:∀ a,isOwn env sc a∨Y a→v≠.ref a) (hvo:m0.ownish=true→∃ a,v = .ref a∧h0.get? a=none∧B a=none∧aa1 s.heap a)
    (hu1:∀ y j m1 d' b,d6 sc y=some j→j≠i→r.get j=some (m1,d')→m1.ownish=true→At env s.heap y (.ref b)→v≠.ref b)
    (hu2:m0.ownish=true→∀ y j m' d',d6 sc y=some j→j≠i→r.get j=some (m',d')→¬ At env s.heap y v)
    (h:∀ h' tk a,s.toks≤tk→(sc.names.lookup x=some .local→s.toks < tk)→isOwn env sc a→Heap.SameBut a s.heap h'→Sim prog w h0 B0 env sc (r.set i (some (m0,d))) B Y h'→(∀ y,y≠x→∀ u,At env s.heap y u→At env h' y u)→At env h' x v→Q () { s with heap:=h',toks:=tk }) :
    wpAny (model prog w) A (storeName env x v) Q E s:=by
  have fin:∀ (h':Heap) (tk:Nat) (a:Addr),s.toks≤tk→(sc.names.lookup x=some .local→s.toks < tk)→isOwn env sc a→Heap.SameBut a s.heap h'→h'.get? a≠none→Fmz env sc h'→At env h' x v→(∀ y,y≠x→∀ u,At env s.heap y u→At env h' y u)→Q () { s with heap:=h',toks:=tk }:=by
    intro h' tk a htk hlt ha hsb hae hfm hax hoth
    have hk:∀ b o,¬ b=a→s.heap.get? b=some o→h'.get? b=some o:=fun b o q e=>(hsb.2 b q).trans e
    refine h h' tk a htk hlt ha hsb ⟨S.gr.off hk (fun b q=>by subst q;exact S.own0 b ha),hfm,S.own0,fun b q=>⟨(S.y0 b q).1,(S.y0 b q).2.1,?_⟩,S.yown,S.ycell,S.yfr,?_,?_⟩ hoth hax
    · have hne:¬ b=a:=fun e=>S.yown a ha (e▸q)
      rw [hsb.2 b hne];exact (S.y0 b q).2.2
    · intro y j m d' hy hr
      rw [j7] at hr
      split at hr
      · rename_i hc
        cases hr
        have e:y=x:=am7 hy (hc.1▸hs)
        subst e
        exact ⟨v,hax,hv.off hk (.refl _) (fun b q=>by subst q;exact hvn b (.inl ha)),hf,hvn,fun q=>by
          obtain ⟨b,rfl,e1,e2,e3⟩:=hvo q
          exact ⟨b,rfl,e1,e2,e3.off hk (fun p=>hvn b (.inl (p▸ha)) rfl) (z7 hv S.gr.keep)⟩⟩
      · rename_i hc
        have hyx:y≠x:=by
          exact bi2 hs hy hr hc
        obtain ⟨u,a',t,f,n,o⟩:=S.vars y j m d' hy hr
        exact ⟨u,hoth y hyx u a',t.off hk (.refl _) (fun b q=>by subst q;exact n b (.inl ha)),f,n,fun q=>by
          obtain ⟨b,rfl,e1,e2,e3⟩:=o q
          exact ⟨b,rfl,e1,e2,e3.off hk (fun p=>n b (.inl (p▸ha)) rfl) (z7 t S.gr.keep)⟩⟩
    · intro y z j k m1 m d1 d2 b hy hz hjk hr1 hw hr2 a1 a2
      rw [j7] at hr1 hr2
      split at hr1
      · rename_i hc1
        cases hr1
        have e:y=x:=am7 hy (hc1.1▸hs)
        subst e
        have e1:=a1.unique hax
        subst e1
        have hc2:¬ (i=k∧i < r.length):=fun q=>hjk (hc1.1.symm.trans q.1)
        rw [if_neg hc2] at hr2
        have hzx:=bi2 hs hz hr2 hc2
        obtain ⟨u2,b2,_⟩:=S.vars z k m d2 hz hr2
        have e2:=a2.unique (hoth z hzx u2 b2)
        subst e2
        exact hu2 hw z k m d2 hz (fun q=>hjk (hc1.1.symm.trans q.symm)) hr2 b2
      · rename_i hc1
        have hyx:=bi2 hs hy hr1 hc1
        obtain ⟨u,b1,_,_,_,o⟩:=S.vars y j _ d1 hy hr1
        have e1:=a1.unique (hoth y hyx u b1)
        subst e1
        split at hr2
        · rename_i hc2
          cases hr2
          have e:z=x:=am7 hz (hc2.1▸hs)
          subst e
          have e2:=a2.unique hax
          exact hu1 y j m1 d1 b hy (fun q=>hjk (q.trans hc2.1)) hr1 hw b1 e2.symm
        · rename_i hc2
          have hzx:=bi2 hs hz hr2 hc2
          obtain ⟨u2,b2,_⟩:=S.vars z k m d2 hz hr2
          have e2:=a2.unique (hoth z hzx u2 b2)
          subst e2
          exact S.uniq y z j k m1 m d1 d2 b hy hz hjk hr1 hw hr2 b1 b2
  have hknd:env.scope.kind = .function:=ek.kind
  rcases hx with hx | hx
  · have hl:=ek.loc x hx
    obtain ⟨m,hn⟩:=S.fm.ns
    refine cq6 hl hn (fun h' hn' hsb hcls=>?_) (by rw [hknd];rfl)
    have hne:∀ c,(∃ y,env.cells.lookup y=some c)→c≠env.locals:=fun c ⟨y,q⟩ e=>by
      obtain ⟨v,hc⟩:=S.fm.cellE y c q
      exact ba9 hn hc e.symm
    refine fin h' _ env.locals (Nat.le_succ _) (fun ξ=>Nat.lt_succ_self _) (.inl rfl) hsb (by obtain ⟨o,_,_,e,_⟩:=hn';rw [e];simp) ⟨⟨_,hn'⟩,fun y hy=>?_,S.fm.sep,fun y c hy=>?_,fun hf o e=>by obtain ⟨o0,_,_,e0,_⟩:=hn;rw [hcls o0 e0 o e];exact S.fm.cls hf o0 e0,fun f hf=>by
      by_cases q:f=env.locals
      · rw [q];obtain ⟨o,_,_,e,_⟩:=hn';rw [e];simp
      · rw [hsb.2 f q];exact S.fm.frE f hf⟩ (.loc _ hl hn' (by simp)) fun y hyx u a=>?_
    · obtain ⟨e,c,u,q1,q2⟩:=S.fm.cell y hy
      exact ⟨e,c,u,q1,q2.sameBut hsb (hne c ⟨y,q1⟩)⟩
    · obtain ⟨u,q⟩:=S.fm.cellE y c hy
      exact ⟨u,q.sameBut hsb (hne c ⟨y,hy⟩)⟩
    · cases a with
      | loc m' e' hn2 hv'=>
        have:=bi0 hn hn2
        subst this
        exact .loc _ e' hn' (by simp [hyx,hv'])
      | cell c e' hc hv'=>exact .cell c e' hc (hv'.sameBut hsb (hne c ⟨y,hc⟩))
  · obtain ⟨hl,c,v0,hc,hcell⟩:=S.fm.cell x hx
    refine wpAny_storeName_cell hknd hl hc hcell fun h' hc' hsb=>?_
    obtain ⟨m,hn⟩:=S.fm.ns
    have hlc:env.locals≠c:=ba9 hn hcell
    refine fin h' s.toks c (Nat.le_refl _) (fun q=>by rw [hx] at q;cases q) (.inr ⟨x,hx,hc⟩) hsb (by obtain ⟨o,e,_⟩:=hc';rw [e];simp) ⟨⟨m,hn.sameBut hsb hlc⟩,fun y hy=>?_,S.fm.sep,fun y c' hy=>?_,fun hf o e=>S.fm.cls hf o ((hsb.2 _ hlc).symm.trans e),fun f hf=>by
      by_cases q:f=c
      · rw [q];obtain ⟨o,e,_⟩:=hc';rw [e];simp
      · rw [hsb.2 f q];exact S.fm.frE f hf⟩ (.cell c (.inl hl) hc hc') fun y hyx u a=>?_
    · obtain ⟨e,c',u,q1,q2⟩:=S.fm.cell y hy
      by_cases hyx:y=x
      · subst hyx
        rw [hc] at q1;cases q1
        exact ⟨e,c,_,hc,hc'⟩
      · exact ⟨e,c',u,q1,q2.sameBut hsb (Ne.symm (S.fm.sep x y c c' (Ne.symm hyx) hx hc q1))⟩
    · by_cases e:c'=c
      · subst e;exact ⟨_,hc'⟩
      · obtain ⟨u,q⟩:=S.fm.cellE y c' hy
        exact ⟨u,q.sameBut hsb e⟩
    · cases a with
      | loc m' e' hn2 hv'=>exact .loc m' e' (hn2.sameBut hsb hlc) hv'
      | cell c' e' hc2 hv'=>exact .cell c' e' hc2 (hv'.sameBut hsb (Ne.symm (S.fm.sep x y c c' (Ne.symm hyx) hx hc hc2)))
theorem Sim.put {x:Str} {i:Nat} {m0:af4} {d:D} {v:Value} {Q:Unit→Shared→Prop} (S:Sim prog w h0 B0 env sc r B Y s.heap) (ek:t9 env sc) (hs:d6 sc x=some i) (hx:sc.names.lookup x=some .local∨sc.names.lookup x=some .cell) (hv:f6 prog w s.heap B d v) (hf:m0 = .fr→Rd prog w B d v)
    (hvn:∀ a,isOwn env sc a∨Y a→v≠.ref a) (hvo:m0.ownish=true→∃ a,v = .ref a∧h0.get? a=none∧B a=none∧aa1 s.heap a)
    (hu1:∀ y j m1 d' b,d6 sc y=some j→j≠i→r.get j=some (m1,d')→m1.ownish=true→At env s.heap y (.ref b)→v≠.ref b)
    (hu2:m0.ownish=true→∀ y j m' d',d6 sc y=some j→j≠i→r.get j=some (m',d')→¬ At env s.heap y v)
    (h:∀ h' tk a,s.toks≤tk→isOwn env sc a→Heap.SameBut a s.heap h'→Sim prog w h0 B0 env sc (r.set i (some (m0,d))) B Y h'→(∀ y,y≠x→∀ u,At env s.heap y u→At env h' y u)→At env h' x v→Q () { s with heap:=h',toks:=tk }) :
    wpAny (model prog w) A (storeName env x v) Q E s:=S.putG ek hs hx hv hf hvn hvo hu1 hu2 fun h' tk a q ξ=>h h' tk a q
theorem Sim.storeG {x:Str} {i:Nat} {d:D} {v:Value} {Q:Unit→Shared→Prop} (S:Sim prog w h0 B0 env sc r B Y s.heap) (ek:t9 env sc) (hs:d6 sc x=some i) (hx:sc.names.lookup x=some .local∨sc.names.lookup x=some .cell) (hv:Rd prog w B d v)
    (h:∀ h' tk a,s.toks≤tk→(sc.names.lookup x=some .local→s.toks < tk)→isOwn env sc a→Heap.SameBut a s.heap h'→Sim prog w h0 B0 env sc (r.set i (some (.fr,d))) B Y h'→(∀ y,y≠x→∀ u,At env s.heap y u→At env h' y u)→Q () { s with heap:=h',toks:=tk }) :
    wpAny (model prog w) A (storeName env x v) Q E s:=by
  refine S.putG (m0:=.fr) ek hs hx (hv.top S.gr.keep) (fun ξ=>hv) (fun a q e=>?_) nofun (fun y j m1 d' b h1 h2 h3 h4 h5 e=>?_) nofun fun h' tk a h1 h2 h3 h4 h5 h6 ξ=>h h' tk a h1 h2 h3 h4 h5 h6
  · subst e
    exact cq1 hv (q.elim (fun q=>(S.own0 a q).2) fun q=>(S.y0 a q).2.1)
  · subst e
    obtain ⟨u,b1,_,_,_,o⟩:=S.vars y j _ d' h1 h3
    have e1:=h5.unique b1
    subst e1
    obtain ⟨c,e3,_,e4,_⟩:=o h4
    cases e3
    exact cq1 hv e4
theorem Sim.store {x:Str} {i:Nat} {d:D} {v:Value} {Q:Unit→Shared→Prop} (S:Sim prog w h0 B0 env sc r B Y s.heap) (ek:t9 env sc) (hs:d6 sc x=some i) (hx:sc.names.lookup x=some .local∨sc.names.lookup x=some .cell) (hv:Rd prog w B d v)
    (h:∀ h' tk a,s.toks≤tk→isOwn env sc a→Heap.SameBut a s.heap h'→Sim prog w h0 B0 env sc (r.set i (some (.fr,d))) B Y h'→(∀ y,y≠x→∀ u,At env s.heap y u→At env h' y u)→Q () { s with heap:=h',toks:=tk }) :
    wpAny (model prog w) A (storeName env x v) Q E s:=S.storeG ek hs hx hv fun h' tk a q ξ=>h h' tk a q
end
end
section
open PySem.Calls PySem.SeqAt
theorem e9 {sc:Scope} {x:Str} {i:Nat} (h:l7 sc x=some i):d6 sc x=some i∧(sc.names.lookup x=some .local∨sc.names.lookup x=some .cell):=by
  unfold l7 at h
  split at h
  · exact ⟨h,.inl (by assumption)⟩
  · exact ⟨h,.inr (by assumption)⟩
  · cases h
inductive dk1 (r r1:Rho) (is:List Nat) (d:D):Prop
  | one (i:Nat) (h1:is=[i]) (h2:r1=r.set i (some (.fr,d))):dk1 r r1 is d
  | tup (ds:List D) (h1:d = .tuple ds) (h2:ds.length=is.length) (h3:2≤is.length) (h4:r1=al4 r is ds):dk1 r r1 is d
theorem an8 {r r1:Rho} {is:List Nat} {d:D} (h:af0 r is d=some r1):dk1 r r1 is d:=by
  unfold af0 at h
  cases hq:is.length == 1 with
  | true=>
    rw [hq] at h
    obtain ⟨x,h1,h⟩:=a6 h
    cases h
    exact .one x (aj7 h1) rfl
  | false=>
    rw [hq] at h
    obtain ⟨ds,h1,h⟩:=a6 h
    obtain ⟨hc,h⟩:=g6 h
    cases h
    exact .tup ds (bk9 h1) (ad9 (b8 hc).2) (of_decide_eq_true (b8 hc).1) rfl
inductive ag6 (sc:Scope):PySem.Expr→List Nat→Prop
  | name {x:Str} {p:Pos} {i:Nat}:l7 sc x=some i→ag6 sc (.Name x p) [i]
  | tup {es:List PySem.Expr} {is:List Nat} {kd:Nat} {p:Pos}:a9 (fun e i=>∃ x p,e=PySem.Expr.Name x p∧l7 sc x=some i) es is→2≤es.length→ag6 sc (.Tuple es kd p) is
section
variable {w:World} {h0:Heap} {B0:FM} {env:Env} {sc:Scope} {r:Rho} {B:FM} {Y:Addr→Prop} {s:Shared} {A:Around} {E:Value→Shared→Prop}
theorem av0 {x:Str} {p:Pos} {es:List PySem.Expr}:assignEach (.Name x p :: es) env=(false,assign (.Name x p) env) :: assignEach es env:=rfl
theorem cu8 {es:List PySem.Expr} {is:List Nat} (h:a9 (fun e i=>∃ x p,e=PySem.Expr.Name x p∧l7 sc x=some i) es is):(assignEach es env).length=is.length∧(assignEach es env).findIdx? (·.1)=none:=by
  induction h with
  | nil=>exact ⟨rfl,rfl⟩
  | @cons e i es is he _ ih=>
    obtain ⟨x,p,rfl,_⟩:=he
    rw [av0]
    refine ⟨congrArg Nat.succ ih.1,?_⟩
    rw [List.findIdx?_cons,ih.2];rfl
theorem bt1 {es:List PySem.Expr} {is:List Nat} (h:a9 (fun e i=>∃ x p,e=PySem.Expr.Name x p∧l7 sc x=some i) es is) (ek:t9 env sc) :
    ∀ {r:Rho} {ds:List D} {vs:List Value} {s:Shared} {Q:Unit→Shared→Prop},Sim prog w h0 B0 env sc r B Y s.heap→RdL prog w B ds vs→ds.length=is.length→
      (∀ h' tk,s.toks≤tk→Sim prog w h0 B0 env sc (al4 r is ds) B Y h'→(∀ b o,¬ isOwn env sc b→s.heap.get? b=some o→h'.get? b=some o)→
        (∀ y j,d6 sc y=some j→j ∉ is→∀ u,At env s.heap y u→At env h' y u)→Q () { s with heap:=h',toks:=tk })→
      wpAny (model prog w) A (assignInOrder ((assignEach es env).map (·.2)) vs) Q E s:=by
  induction h with
  | nil=>
    intro r ds vs s Q S hr hl hQ
    have:ds=[]:=List.length_eq_zero_iff.mp hl
    subst this
    obtain rfl:=hr
    exact wpAny_assignInOrder_none (hQ s.heap s.toks (Nat.le_refl _) S (fun ξ ξ ξ e=>e) fun ξ ξ ξ ξ ξ a=>a)
  | @cons e i es is he hes ih=>
    intro r ds vs s Q S hr hl hQ
    obtain ⟨x,p,rfl,hw⟩:=he
    obtain ⟨hs,hx⟩:=e9 hw
    cases ds with
    | nil=>cases hl
    | cons d ds=>
      obtain ⟨v,vs',rfl,r1,r2⟩:=hr
      rw [av0,List.map_cons]
      refine wpAny_assignInOrder_more (wpAny_assign_Name (S.store ek hs hx r1 fun h' tk a htk ha hsb S' hoth=>?_))
      refine ih S' r2 (Nat.succ.inj hl) fun h'' tk' htk' S'' hk hAt=>?_
      refine hQ h'' tk' (Nat.le_trans htk htk') S'' (fun b o hb e=>hk b o hb ((hsb.2 b (fun q=>hb (q▸ha))).trans e)) fun y j hy hj u q=>?_
      refine hAt y j hy (fun q=>hj (.tail _ q)) u (hoth y ?_ u q)
      rintro rfl
      exact hj (Option.some.inj (hy.symm.trans hs)▸.head _)
theorem az2 {t:PySem.Expr} {is:List Nat} {d:D} {v:Value} {r1:Rho} {Q:Unit→Shared→Prop} (ht:ag6 sc t is) (hh:A.handled=none) (ek:t9 env sc) (S:Sim prog w h0 B0 env sc r B Y s.heap) (hv:f6 prog w s.heap B d v) (hf:bc7 t=true→Rd prog w B d v)
    (hb:af0 r is d=some r1)
    (hQ:∀ h' tk,s.toks≤tk→Sim prog w h0 B0 env sc r1 B Y h'→(∀ b o,¬ isOwn env sc b→s.heap.get? b=some o→h'.get? b=some o)→
        (∀ y j,d6 sc y=some j→j ∉ is→∀ u,At env s.heap y u→At env h' y u)→Q () { s with heap:=h',toks:=tk }) :
    wpAny (model prog w) A (assign t env v) Q E s:=by
  cases ht with
  | @name x p i hw=>
    obtain ⟨hs,hx⟩:=e9 hw
    rcases an8 hb with ⟨j,e,rfl⟩ | ⟨ds,_,_,h2,_⟩
    · cases e
      refine wpAny_assign_Name (S.store ek hs hx (hf rfl) fun h' tk a htk ha hsb S' hoth=>?_)
      refine hQ h' tk htk S' (fun b o hb e=>(hsb.2 b (fun q=>hb (q▸ha))).trans e) fun y j hy hj u q=>hoth y ?_ u q
      rintro rfl
      exact hj (Option.some.inj (hy.symm.trans hs)▸.head _)
    · exact absurd h2 (by decide:¬ 2≤1)
  | @tup es is kd p hes h2=>
    have hl:=aq3 hes
    rcases an8 hb with ⟨j,e,_⟩ | ⟨ds,rfl,h1,_,rfl⟩
    · rw [hl,e] at h2;exact absurd h2 (by decide:¬ 2≤1)
    · obtain ⟨a,o,vs,rfl,ho,x,rr⟩:=hv
      obtain ⟨el1,el2⟩:=cu8 (env:=env) hes
      refine wpAny_assign_Tuple hh (x.isTuple ho) (by rw [el1,← h1];simp [rr.length]) el2 fun h' hext=>?_
      have old:∀ b o,s.heap.get? b=some o→h'.get? b=some o:=fun b o e=>hext b o (Nat.ne_of_lt (Heap.lt_size e)) e
      have g:=Gr.heap S.gr.keep old
      refine bt1 hes ek (S.ev g) (by simpa using rr) h1 fun h'' tk htk S'' hk hAt=>?_
      exact hQ h'' tk htk S'' (fun b o hb e=>hk b o hb (old b o e)) fun y j hy hj u q=>hAt y j hy hj u (q.keeps (.of old))
end
end
section
open PySem.Calls PySem.SeqAt
noncomputable def bb0 (sc':Scope) (env:Env) (C:Addr) (cells:List (Str×Addr)):Env:=
  { scope:=relabel sc' env,locals:=C,globals:=env.globals,cells:=cells,qual:=env.qual,func:=none,code:=env.code,frame:=env.frame,builtins:=env.builtins }
theorem ay2 {env:Env}:∀ {names:List (Str×NameKind)} {x:Str},
    (names.map fun (n,k)=>if (k == NameKind.free && env.scope.kind == .function && env.kindOf n == some .cell) then (n,NameKind.cell) else (n,k)).lookup x =
      (names.lookup x).map fun k=>if (k == NameKind.free && env.scope.kind == .function && env.kindOf x == some .cell) then NameKind.cell else k
  | [],x=>rfl
  | (n,k) :: r,x=>by
    have ih:=@ay2 env r x
    rw [List.map_cons,List.lookup_cons]
    by_cases hx:x=n
    · subst hx
      rw [List.lookup_cons,show (x == x)=true from beq_self_eq_true x]
      by_cases hc:(k == NameKind.free && env.scope.kind == .function && env.kindOf x == some .cell)=true
      · simp only [hc,if_true,List.lookup_cons,show (x == x)=true from beq_self_eq_true x,Option.map_some]
      · have hc':(k == NameKind.free && env.scope.kind == .function && env.kindOf x == some .cell)=false:=by simpa using hc
        simp only [hc',Bool.false_eq_true,if_false,List.lookup_cons,show (x == x)=true from beq_self_eq_true x,Option.map_some]
    · have hx':(x == n)=false:=by simpa using hx
      by_cases hc:(k == NameKind.free && env.scope.kind == .function && env.kindOf n == some .cell)=true
      · simp only [hc,if_true,List.lookup_cons,hx'];exact ih
      · have hc':(k == NameKind.free && env.scope.kind == .function && env.kindOf n == some .cell)=false:=by simpa using hc
        simp only [hc',Bool.false_eq_true,if_false,List.lookup_cons,hx'];exact ih
theorem am0 {sc':Scope} {env:Env} {C:Addr} {cells:List (Str×Addr)} {x:Str}:(bb0 sc' env C cells).kindOf x=(sc'.names.lookup x).map fun k=>if (k == NameKind.free && env.scope.kind == .function && env.kindOf x == some .cell) then NameKind.cell else k:=ay2
structure au4 (sc' sc:Scope):Prop where
  kind:sc'.kind = .function
  nodup:(sc'.names.map (·.1)).Nodup
  free:∀ x,sc'.names.lookup x=some .free→sc.names.lookup x=some .cell∨sc.names.lookup x=some .free
theorem aq2 {sc' sc:Scope} {it:PySem.Expr} (h:bh4 sc' sc it=true):au4 sc' sc∧ai1 it=true:=by
  obtain ⟨h,h4⟩:=b8 h
  obtain ⟨h,h3⟩:=b8 h
  obtain ⟨h1,h2⟩:=b8 h
  refine ⟨⟨?_,of_decide_eq_true h2,fun x hx=>?_⟩,h3⟩
  · cases e:sc'.kind <;> rw [e] at h1 <;> first | rfl | cases h1
  · have q:((sc.names.lookup x == some .cell || sc.names.lookup x == some .free) && ax8 x)=true:=List.all_eq_true.mp h4 _ (aj1 hx)
    exact (Bool.or_eq_true_iff.mp (b8 q).1).imp ad9 ad9
theorem cr7 {sc sc':Scope} {env:Env} {C:Addr} {cells:List (Str×Addr)} (ek:t9 env sc) (cs:au4 sc' sc) (hc:∀ x,sc'.names.lookup x=some .cell→∃ c,cells.lookup x=some c)
    (hf:∀ x,sc'.names.lookup x=some .free→cells.lookup x=env.cells.lookup x):t9 (bb0 sc' env C cells) sc' where
  kind:=cs.kind
  globals:=ek.globals
  builtins:=ek.builtins
  loc:=fun x hx=>by rw [am0,hx];rfl
  cell:=fun x hx=>by
    rw [am0]
    rcases hx with hx | hx
    · rw [hx];exact .inl rfl
    · rw [hx]
      simp only [Option.map_some]
      split
      · exact .inl rfl
      · exact .inr rfl
  glob:=fun x hx=>by rw [am0,hx];rfl
  cells:=fun x hx=>by
    rcases hx with hx | hx
    · exact hc x hx
    · obtain ⟨c,e⟩:=ek.cells x (cs.free x hx)
      exact ⟨c,(hf x hx).trans e⟩
inductive eo0 (sc sc':Scope) (r:Rho) (i:Nat) (m:af4) (d:D):Prop
  | mk (x:Str) (hn:sc'.names[i]?=some (x,.free)) (j:Nat) (m0:af4) (hj:d6 sc x=some j) (hg:r.get j=some (m0,d)) (hf:m = .fr→m0 = .fr) (hw:m.ownish=false):eo0 sc sc' r i m d
theorem br7 {sc sc':Scope} {r:Rho} {i:Nat} {m:af4} {d:D} (h:Rho.get (ba1 r (ai4 sc' sc)) i=some (m,d)):eo0 sc sc' r i m d:=by
  unfold Rho.get ba1 ai4 at h
  rw [List.map_map,List.getElem?_map] at h
  cases e:sc'.names[i]? with
  | none=>rw [e] at h;cases h
  | some p=>
    obtain ⟨x,kd⟩:=p
    rw [e] at h
    have h':dv5 ((if kd == .free then d6 sc x else none).bind r.get)=some (m,d):=h
    cases hk:kd == NameKind.free with
    | false=>rw [hk] at h';cases h'
    | true=>
      cases ad9 hk
      cases hs:d6 sc x with
      | none=>rw [hk,hs] at h';cases h'
      | some j=>
        rw [hk,hs] at h'
        have h2:dv5 (r.get j)=some (m,d):=h'
        cases hg:r.get j with
        | none=>rw [hg] at h2;cases h2
        | some q=>
          obtain ⟨m0,d0⟩:=q
          rw [hg] at h2
          refine ⟨x,e,j,m0,hs,?_,?_,?_⟩ <;> cases m0 <;> cases h2 <;> first | rfl | exact hg | exact fun ξ=>rfl | (intro q;cases q)
section
variable {w:World} {h₀:Heap} {k:Nat} {A:Around} {env:Env} {sc sc':Scope} {r:Rho} {B:FM} {s:Shared}
theorem Sim.comp {B1:FM} {h1 h':Heap} {Y:Addr→Prop} {cells:List (Str×Addr)} {m:Str→Option Value} (ok:Ok prog w h₀ k A env sc r B s) (cs:au4 sc' sc) (g:Gr B s.heap B1 h1)
    (hy:∀ a,Y a→s.heap.get? a=none∧B1 a=none∧h1.get? a≠none) (ca:be6 h' h1.objs.size sc'.names (ch2 env sc'.names []) cells) (hns:h'.Ns h1.objs.size m) (old:∀ b o,h1.get? b=some o→h'.get? b=some o)
    (hloc:∀ x,sc'.names.lookup x=some .cell→cells.lookup x≠some h1.objs.size) :
    t9 (bb0 sc' env h1.objs.size cells) sc'∧Sim prog w s.heap B (bb0 sc' env h1.objs.size cells) sc' (ba1 r (ai4 sc' sc)) B1 Y h':=by
  have hfree:∀ x,sc'.names.lookup x=some .free→cells.lookup x=env.cells.lookup x:=fun x hx=>by
    rw [ca.old x (by rw [hx];simp),aw8 cs.nodup,if_pos (aj1 hx)]
    obtain ⟨c,e⟩:=ok.eok.cells x (cs.free x hx)
    rw [e];rfl
  have ek:=cr7 (C:=h1.objs.size) ok.eok cs (fun x hx=>let ⟨c,q,_⟩:=ca.own x hx;⟨c,q⟩) hfree
  have hother:∀ x c,sc'.names.lookup x≠some .cell→cells.lookup x=some c→env.cells.lookup x=some c:=fun x c hx e=>by
    rw [ca.old x hx,aw8 cs.nodup] at e
    split at e
    · rename_i hm
      obtain ⟨c',e'⟩:=ok.eok.cells x (cs.free x (l8 cs.nodup hm))
      rw [e'] at e⊢
      exact e
    · cases e
  have hge:∀ a,isOwn (bb0 sc' env h1.objs.size cells) sc' a→h1.objs.size≤a:=fun a q=>by
    rcases q with rfl | ⟨x,q1,q2⟩
    · exact Nat.le_refl _
    · obtain ⟨c,e1,e2,_⟩:=ca.own x q1
      have:some c=some a:=e1.symm.trans q2
      cases this;exact e2
  have hnone:∀ a,h1.objs.size≤a→s.heap.get? a=none∧B1 a=none:=fun a q=>by
    have e1:h1.get? a=none:=i6 q
    refine ⟨?_,r7 (s:=⟨h1,s.gens,s.drawn,s.toks,s.os⟩) g.keep e1⟩
    exact g.old.back e1
  refine ⟨ek,⟨g.trans (Gr.heap g.keep old),⟨⟨m,hns⟩,fun x hx=>?_,fun x y c c' hxy hx h2 h3=>?_,fun x c hx=>?_,fun hf=>absurd (hnone _ (Nat.le_refl _)).1 (ok.frE _ hf),fun f hf=>(g.old.trans (.of old)).ex (ok.frE f hf)⟩,fun a q=>hnone a (hge a q),fun a q=>⟨(hy a q).1,(hy a q).2.1,?_⟩,fun a q q'=>?_,fun x c hx q=>?_,fun f hf q=>ok.frE f hf (hy f q).1,?_,?_⟩⟩
  · obtain ⟨c,q1,q2,q3⟩:=ca.own x hx
    exact ⟨by rw [am0,hx];rfl,c,none,q1,q3⟩
  · by_cases hyc:sc'.names.lookup y=some .cell
    · exact ca.sep x y c c' hxy hx hyc h2 h3
    · obtain ⟨v,o,e,_⟩:=ok.cellE y c' (hother y c' hyc h3)
      rintro rfl
      obtain ⟨c2,e1,e2,_⟩:=ca.own x hx
      have:some c2=some c:=e1.symm.trans h2
      cases this
      rw [(hnone _ e2).1] at e;cases e
  · by_cases hyc:sc'.names.lookup x=some .cell
    · obtain ⟨c2,e1,e2,e3⟩:=ca.own x hyc
      have:some c2=some c:=e1.symm.trans hx
      cases this;exact ⟨_,e3⟩
    · obtain ⟨v,q⟩:=ok.cellE x c (hother x c hyc hx)
      exact ⟨v,(g.old.trans (.of old)).cell q⟩
  · cases e:h1.get? a with
    | none=>exact absurd e (hy a q).2.2
    | some o=>rw [old a o e];simp
  · have:=hge a q
    have e1:h1.get? a=none:=i6 this
    exact (hy a q').2.2 e1
  · by_cases hyc:sc'.names.lookup x=some .cell
    · obtain ⟨c2,e1,e2,e3⟩:=ca.own x hyc
      have:some c2=some c:=e1.symm.trans hx
      cases this
      exact (hy _ q).2.2 (i6 e2)
    · obtain ⟨v,o,e,_⟩:=ok.cellE x c (hother x c hyc hx)
      rw [(hy c q).1] at e;cases e
  · intro x i m d hs hr
    obtain ⟨kd,hn⟩:=bl5 hs
    obtain ⟨x',hn',j,m0,hj,hg,hmf,hmw⟩:=br7 hr
    rw [hn] at hn'
    cases hn'
    have hfr:sc'.names.lookup x=some .free:=l8 cs.nodup (List.mem_of_getElem? hn)
    obtain ⟨v,a,t,f⟩:=ok.rd.vars x j m0 d hj hg
    have hcell:=ok.eok.cell x (cs.free x hfr)
    refine ⟨v,?_,(t.mono g.old g.le).mono (.of old) (.refl _),fun q=>?_,fun b q e=>?_,fun q=>?_⟩
    · cases a with
      | loc m' e hn2 hv=>rw [e] at hcell;rcases hcell with q | q <;> cases q
      | cell c e hc hv=>exact .cell c (ek.cell x (.inr hfr)) (by show cells.lookup x=some c;rw [hfree x hfr,hc]) ((g.old.trans (.of old)).cell hv)
    · exact (f (hmf q)).mono g.le
    · subst e
      have:=z7 t ok.keep
      rcases q with q | q
      · exact this (hnone b (hge b q)).1
      · exact this (hy b q).1
    · rw [hmw] at q;cases q
  · intro x y i j m1 m d d' a hx hy' hij hi hw hj a1
    obtain ⟨_,_,_,m0,_,_,_,hmw⟩:=br7 hi
    rw [hmw] at hw;cases hw
theorem Sim.fewer {h0:Heap} {B0:FM} {r':Rho} {Y:Addr→Prop} {h:Heap} (S:Sim prog w h0 B0 env sc r B Y h) (q:∀ i v,r'.get i=some v→r.get i=some v):Sim prog w h0 B0 env sc r' B Y h:=S.part fun i m d=>q i _
inductive FrA (A:Around) (env:Env) (B0:FM) (h0:Heap):Prop
  | mk (h1:env.frame=some env.locals) (e0 l:_) (h2:A.frames=some (e0 :: l)) (h3:e0.scope.kind≠.module) (h4:e0.frame=some env.locals) (h5:bn8 B0 h0 l)
theorem FrA.stk {h0:Heap} {B0:FM} {Y:Addr→Prop} {h:Heap} (x:FrA A env B0 h0) (S:Sim prog w h0 B0 env sc r B Y h):Stk A B h:=by
  obtain ⟨hf,e0,l,e1,e2,e3,e4⟩:=x
  refine ⟨e0 :: l,e1,fun e he=>?_⟩
  rcases List.mem_cons.mp he with rfl | he
  · obtain ⟨m,o,es,ep,q1,q2,_⟩:=S.fm.ns
    exact ⟨e2,env.locals,o,es,ep,e3,q1,q2,S.fm.cls hf o q1,(S.own0 _ (.inl rfl)).2⟩
  · exact e4.step S.gr e he
theorem Sim.okS {h0:Heap} {B0:FM} {Y:Addr→Prop} (S:Sim prog w h0 B0 env sc r B Y s.heap) (rm:Rm k A) (ek:t9 env sc) (hb:∀ a o,h₀.get? a=some o→B0 a=some o) (ht:0 < s.toks) (st:Stk A B s.heap):Ok prog w h₀ k A env sc r B s:=
  ⟨rm,ek,S.rdr,fun a o e=>S.gr.le a o (hb a o e),ht,fun x c e=>S.fm.cellE x c e,st,S.fm.frE⟩
theorem Sim.ok {h0:Heap} {B0:FM} {Y:Addr→Prop} (S:Sim prog w h0 B0 env sc r B Y s.heap) (rm:Rm k A) (ek:t9 env sc) (hb:∀ a o,h₀.get? a=some o→B0 a=some o) (ht:0 < s.toks) (fr:FrA A env B0 h0):Ok prog w h₀ k A env sc r B s:=S.okS rm ek hb ht (fr.stk S)
theorem Sim.okC {h0:Heap} {B0:FM} {Y:Addr→Prop} (S:Sim prog w h0 B0 env sc r B Y s.heap) (rm:Rm k A) (ek:t9 env sc) (hb:∀ a o,h₀.get? a=some o→B0 a=some o) (ht:0 < s.toks) (st:Stk A B0 h0):Ok prog w h₀ k A env sc r B s:=S.okS rm ek hb ht (st.step S.gr)
end
end
section
open PySem.Calls PySem.SeqAt
section
variable {w:World} {h₀:Heap} {mg mb:Str→Option Value} {k:Nat} {calls:String→List D→Option D} {sc:Scope}
theorem bj8 {env:Env} {A:Around} {E:Value→Shared→Prop} {Q:Bool→Shared→Prop} {s:Shared} (h:Q false s):∀ (ifs:List PySem.Expr),
    wpAny (model prog w) A (forIn ifs false fun c r=>if r=true then do let ok ← isTrue c env (PySem.eval c env);pure (ForInStep.yield ok) else pure (ForInStep.yield r)) Q E s
  | []=>wpAny_pure h
  | c :: r=>by
    rw [List.forIn_cons]
    simp only [Bool.false_eq_true,if_false]
    exact wpAny_bind (wpAny_pure (bj8 h r))
theorem dg4 {ifs:List PySem.Expr} {irs:List IR} {A:Around} {E:Value→Shared→Prop} {env:Env} {r:Rho} (h:a9 (ap7 w h₀ k calls sc) ifs irs) :
    ∀ {s:Shared} {B:FM} {b:Bool} {Q:Bool→Shared→Prop},Ok prog w h₀ k A env sc r B s→aq0 calls irs r=some b→(∀ s' B',Gr B s.heap B' s'.heap→n7 s s'→Ok prog w h₀ k A env sc r B' s'→Q b s')→
      wpAny (model prog w) A (forIn ifs true fun c r=>if r=true then do let ok ← isTrue c env (PySem.eval c env);pure (ForInStep.yield ok) else pure (ForInStep.yield r)) Q E s:=by
  induction h with
  | nil=>
    intro s B b Q ok hb hQ
    cases hb
    exact wpAny_pure (hQ s B (Gr.refl ok.keep) (.refl s) ok)
  | @cons c ir cs irs hc hcs ih=>
    intro s B b Q ok hb hQ
    obtain ⟨t,ht,hb⟩:=a6 hb
    rw [List.forIn_cons]
    simp only [if_true]
    refine wpAny_bind (wpAny_bind (wpAny_mono (hc ok ht) (fun v s' q=>?_) fun ξ ξ e=>e))
    obtain ⟨rfl,B',g,m⟩:=q
    refine wpAny_pure ?_
    cases v
    · cases hb
      exact bj8 (hQ s' B' g m (ok.step g m)) cs
    · exact ih (ok.step g m) hb fun s2 B2 g2 m2 ok2=>hQ s2 B2 (g.trans g2) (m.trans m2) ok2
theorem bb9:∀ (is:List Nat) (ds:List D) (r:Rho) (j:Nat) (v:af4×D),j ∉ is→r.get j=some v→(al4 r is ds).get j=some v
  | [],ds,r,j,v,_,h=>h
  | i :: is,[],r,j,v,_,h=>h
  | i :: is,d :: ds,r,j,v,hj,h=>by
    simp only [List.mem_cons,not_or] at hj
    refine bb9 is ds _ j v hj.2 ?_
    rw [j7,if_neg (fun q=>hj.1 q.1.symm)]
    exact h
theorem bw2 {r r1:Rho} {is:List Nat} {d:D} (hb:af0 r is d=some r1) {j:Nat} {v:af4×D} (hj:j ∉ is) (h:r.get j=some v):r1.get j=some v:=by
  rcases an8 hb with ⟨i,rfl,rfl⟩ | ⟨ds,rfl,_,_,rfl⟩
  · have:j≠i:=by simpa using hj
    rw [j7,if_neg (fun q=>this q.1.symm)]
    exact h
  · exact bb9 is ds r j v hj h
noncomputable def en3 (calls:String→List D→Option D) (r':Rho) (tgt:List Nat) (irs:List IR) (ir:IR) (d:D):Option (Option D):=do
  let r1 ← af0 r' tgt d
  bif ← aq0 calls irs r1 then (eval calls ir r1).map some else some none
theorem aq9 {α β:Type} {f:α→Option β}:∀ {l:List α} {out:List β},l.mapM f=some out→out.length=l.length∧∀ (i:Nat) (x:α),l[i]?=some x→∃ y,f x=some y∧out[i]?=some y
  | [],out,h=>by simp at h;subst h;simp
  | a :: l,out,h=>by
    rw [List.mapM_cons] at h
    obtain ⟨y,h1,h⟩:=a6 h
    obtain ⟨ys,h2,h⟩:=a6 h
    cases h
    obtain ⟨e1,e2⟩:=aq9 h2
    refine ⟨by simp [e1],fun i x hx=>?_⟩
    cases i with
    | zero=>simp at hx;subst hx;exact ⟨y,h1,rfl⟩
    | succ i=>simpa using e2 i x (by simpa using hx)
theorem by5 {outs:List (Option D)} {i:Nat} {y:Option D} (h:outs[i]?=some y):(outs.take (i+1)).filterMap id=(outs.take i).filterMap id ++ y.toList:=by
  rw [List.take_add_one,h,List.filterMap_append]
  cases y <;> simp
theorem eb3 {A:Around} {target:PySem.Expr} {I:Addr} {fp wr:List Addr} {n:Nat} {P Md:Nat→Value→Heap→Prop} {St:Nat→Heap→Prop} (W:KTurns prog w A target I fp wr n P Md St) (hex:∀ i h,St i h→∀ b∈fp,az1 h b) {i:Nat} {h h':Heap} (st:St i h) (O:Old h h'):St i h':=
  W.frame i h h' st fun b q o e=>by
    obtain ⟨o',e',s⟩:=hex i h st b q
    rw [e] at e';cases e'
    exact O.solid e s
end
end
section
open PySem.Calls PySem.SeqAt
section
variable {w:World} {h₀:Heap} {mg mb:Str→Option Value} {k:Nat} {calls:String→List D→Option D} {sc:Scope}
theorem bz2 {iter:PySem.Expr} {env:Env} (h:ai1 iter=true):∀ x,foldedSetIterable iter env x=pure x:=by
  intro x
  cases iter <;> first | rfl | cases h
theorem ds2 {sc':Scope} {t:PySem.Expr} {tgt:List Nat} {i:Nat} (h:ag6 sc' t tgt) (hi:i∈tgt):∃ y,l7 sc' y=some i:=by
  cases h with
  | name hw=>rw [List.mem_singleton.mp hi];exact ⟨_,hw⟩
  | tup hes h2=>
    clear h2
    induction hes with
    | nil=>cases hi
    | cons he _ ih=>
      obtain ⟨x,p,_,hw⟩:=he
      rcases List.mem_cons.mp hi with rfl | hi
      · exact ⟨x,hw⟩
      · exact ih hi
theorem dm0 {sc sc':Scope} {t:PySem.Expr} {tgt:List Nat} {r:Rho} (cs:au4 sc' sc) (h:ag6 sc' t tgt) {i:Nat} {v:af4×D} (hv:Rho.get (ba1 r (ai4 sc' sc)) i=some v):i ∉ tgt:=by
  intro hi
  obtain ⟨y,hw⟩:=ds2 h hi
  obtain ⟨m,d⟩:=v
  obtain ⟨x,hx,_⟩:=br7 hv
  obtain ⟨hs,hk⟩:=e9 hw
  obtain ⟨kd,hn⟩:=bl5 hs
  rw [hx] at hn
  cases hn
  have:=l8 cs.nodup (List.mem_of_getElem? hx)
  rcases hk with q | q <;> (rw [this] at q;cases q)
inductive EmP (AP:Nat→FM→Obj→Prop) (Dd:Addr) (i:Nat) (B:FM) (s s':Shared):Prop
  | mk (B5 h5 o':_) (h1:Gr B s.heap B5 h5) (h2:Heap.SameBut Dd h5 s'.heap) (h3:s'.heap.get? Dd=some o') (h4:AP (i+1) B5 o') (h5:n7 s s')
inductive et4 (w:World) (s:Shared) (B B1:FM) (cenv:Env) (sc':Scope) (r':Rho) (Y:Addr→Prop) (L:Nat) (St:Nat→Heap→Prop) (Dd:Addr) (AP:Nat→FM→Obj→Prop) (n:Nat) (s':Shared):Prop
  | mk (i:Nat) (Bi:FM) (o:Obj) (h1:i≤L) (h2:n=L+1 - i) (h3:Sim prog w s.heap B cenv sc' r' Bi Y s'.heap) (h4:B1.le Bi) (h5:n7 s s') (h6:St i s'.heap) (h7:s'.heap.get? Dd=some o) (h8:AP i Bi o)
theorem dl0 {e:PySem.Expr} {target iter:PySem.Expr} {ifs:List PySem.Expr} {sc':Scope} {I Dd:Addr} {cenv:Env} {emit:Sem Unit} {tgt:List Nat} {irs:List IR} {A:Around} {R:Result→Shared→Prop} {s s1:Shared} {B B1:FM} {Y:Addr→Prop} {r':Rho}
    {fp wr:List Addr} {P Md:Nat→Value→Heap→Prop} {St:Nat→Heap→Prop} {its:List D} {o0:Obj} {AP:Nat→FM→Obj→Prop}
    (hturn:compTurn e 0 (.ref I) (.ref Dd) cenv=(do
      standAt iter.pos
      match ← pyNext (.ref I) with
      | none=>pure (.done .next)
      | some v=>
        letOwnedTupleGo target (.ref I) v
        assign target cenv v
        let mut ok:=true
        for c in ifs do
          if ok then ok ← isTrue c cenv (PySem.eval c cenv)
        if ok then
          emit
        again (.compLoop e 0 (.ref I) (.ref Dd) cenv)))
    (hloop:∀ (Inv:Nat→Shared→Prop),(∀ n s,Inv n s→wpAny (model prog w) A (compTurn e 0 (.ref I) (.ref Dd) cenv) (fun fin s'=>match fin with | .done f=>R (.ok f) s' | .again c'=>c' = .compLoop e 0 (.ref I) (.ref Dd) cenv∧∃ m,m < n∧Inv m s')
      (notedBy (model prog w) A cenv fun x s'=>R (.error x) s') s)→∀ n s,Inv n s→codeAny (model prog w) A (.compLoop e 0 (.ref I) (.ref Dd) cenv) R s)
    (tg:ag6 sc' target tgt) (ht:a9 (ap7 w h₀ k calls sc') ifs irs) (rm:Rm k A) (ek:t9 cenv sc') (hb:∀ a o,h₀.get? a=some o→B a=some o) (stk:Stk A B s.heap)
    (W:KTurns prog w A target I fp wr its.length P Md St) (hex:∀ i h,St i h→∀ b∈fp,az1 h b)
    (hrd:∀ i v h B',P i v h→B1.le B'→i9 B' h→∃ d,its[i]?=some d∧f6 prog w h B' d v∧(bc7 target=true→Rd prog w B' d v))
    (hfo:∀ b∈fp,¬ isOwn cenv sc' b∧b≠Dd) (hY:∀ b,Y b↔b=Dd∨b∈wr)
    (hdef:∀ (i:Nat) (d:D),its[i]?=some d→∃ r1 t,af0 r' tgt d=some r1∧aq0 calls irs r1=some t)
    (hsol:∀ (i:Nat) (B:FM) (o:Obj),AP i B o→an9 o) (hmono:∀ (i:Nat) (B B':FM) (o:Obj),B.le B'→AP i B o→AP i B' o) (hskip:∀ (i:Nat) (d:D) (r1:Rho) (B:FM) (o:Obj),its[i]?=some d→af0 r' tgt d=some r1→aq0 calls irs r1=some false→AP i B o→AP (i+1) B o)
    (hemit:∀ {s:Shared} {B:FM} {r1:Rho} {i:Nat} {d:D} {o:Obj} {E:Value→Shared→Prop},Ok prog w h₀ k A cenv sc' r1 B s→its[i]?=some d→af0 r' tgt d=some r1→aq0 calls irs r1=some true→s.heap.get? Dd=some o→AP i B o→wpAny (model prog w) A emit (fun ξ s'=>EmP AP Dd i B s s') E s)
    (hno:∀ i v,r'.get i=some v→i ∉ tgt)
    (S1:Sim prog w s.heap B cenv sc' r' B1 Y s1.heap) (m1:n7 s s1) (ht0:0 < s.toks) (st1:St 0 s1.heap) (hD:s1.heap.get? Dd=some o0) (hA0:AP 0 B1 o0)
    (fin:∀ s' Bn o,Gr B s.heap Bn s'.heap→n7 s s'→Bn Dd=none→s'.heap.get? Dd=some o→AP its.length Bn o→(∃ m,s'.heap.Ns cenv.locals m)→Bn cenv.locals=none→R (.ok .next) s') :
    codeAny (model prog w) A (.compLoop e 0 (.ref I) (.ref Dd) cenv) R s1:=by
  refine hloop (et4 w s B B1 cenv sc' r' Y its.length St Dd AP) ?_ (its.length+1) _
    ⟨0,B1,o0,Nat.zero_le _,rfl,S1,.refl _,m1,st1,hD,hA0⟩
  rintro n s' ⟨i,Bi,o,hi,rfl,S,hB1,m,st,ho,hA⟩
  rw [hturn]
  refine wpAny_bind (wpAny_standAt (wpAny_bind ?_))
  refine wpAny_with_toks (n:=s'.toks) (Nat.le_refl _) ?_
  have hDw:Dd ∉ wr:=fun q=>(hfo Dd (W.sub _ q)).2 rfl
  have hCw:cenv.locals ∉ wr:=fun q=>(hfo _ (W.sub _ q)).1 (.inl rfl)
  have hYD:Y Dd:=(hY Dd).mpr (.inl rfl)
  have wrY:∀ b∈wr,Y b:=fun b q=>(hY b).mpr (.inr q)
  have wrn:∀ b∈wr,s.heap.get? b=none∧Bi b=none:=fun b q=>⟨(S.y0 b (wrY b q)).1,(S.y0 b (wrY b q)).2.1⟩
  by_cases hlt:i < its.length
  · refine W.item i _ _ _ hlt st fun v h' tk hmd hk htk=>?_
    refine wpAny_bind (W.go i v { s' with heap:=h',toks:=tk } _ _ hmd fun h2 hP st2 hk2=>?_)
    have hoff:∀ b o,b ∉ wr→s'.heap.get? b=some o→h2.get? b=some o:=fun b o q e=>hk2 b o q (hk b o q e)
    have SY:Sim prog w s.heap B cenv sc' r' Bi Y h2:=S.off (fun b o q e=>hoff b o (fun q'=>q (wrY b q')) e) fun b q=>by
      rcases (hY b).mp q with rfl | q
      · rw [hoff _ _ hDw ho];simp
      · exact (hex _ _ st2 b (W.sub _ q)).ne
    obtain ⟨d,hd,hv,hf⟩:=hrd i v h2 Bi hP hB1 SY.gr.keep
    obtain ⟨r1,t,hr1,htt⟩:=hdef i d hd
    have hno':∀ j v,r'.get j=some v→r1.get j=some v:=fun j v q=>bw2 hr1 (hno j v q) q
    refine wpAny_bind (az2 (s:={ s' with heap:=h2,toks:=tk }) tg rm.handled ek SY hv hf hr1 fun h3 tk3 htk3 S3 hk3 ξ=>?_)
    have hDown:¬ isOwn cenv sc' Dd:=fun q=>S3.yown _ q hYD
    have m3:n7 s { s' with heap:=h3,toks:=tk3 }:=⟨m.gens,m.os,Nat.le_trans m.toks (Nat.le_trans htk htk3)⟩
    have hD3:h3.get? Dd=some o:=hk3 _ _ hDown (hoff _ _ hDw ho)
    have st3:St (i+1) h3:=W.frame _ _ _ st2 fun b q o e=>hk3 b o (hfo b q).1 e
    have ok3:Ok prog w h₀ k A cenv sc' r1 Bi { s' with heap:=h3,toks:=tk3 }:=S3.okC (s:={ s' with heap:=h3,toks:=tk3 }) rm ek hb (Nat.lt_of_lt_of_le ht0 m3.toks) stk
    refine wpAny_bind (dg4 ht ok3 htt fun s4 B4 g4 m4 ok4=>?_)
    have S4:=S3.ev g4
    have hD4:=g4.old.solid hD3 (hsol _ _ _ hA)
    have hA4:=hmono i _ _ _ g4.le hA
    cases t
    · simp only [Bool.false_eq_true,if_false]
      exact wpAny_bind (wpAny_pure (wpAny_pure ⟨rfl,its.length+1 - (i+1),Nat.sub_lt_sub_left (Nat.lt_succ_of_lt hlt) (Nat.lt_succ_self i),i+1,B4,o,hlt,rfl,S4.fewer hno',hB1.trans g4.le,m3.trans m4,eb3 W hex st3 g4.old,hD4,hskip i d r1 _ _ hd hr1 htt hA4⟩))
    · simp only [if_true]
      refine wpAny_bind (wpAny_mono (hemit ok4 hd hr1 htt hD4 hA4) (fun ξ s6 q=>?_) fun ξ ξ e=>e)
      obtain ⟨B5,h5,o',g5,hsb,ho',hA',m5⟩:=q
      have S5:=S4.ev g5
      have S6:Sim prog w s.heap B cenv sc' r1 B5 Y s6.heap:=S5.off (fun b o q e=>(hsb.2 b (fun q'=>q (by rw [q'];exact hYD))).trans e) fun b q=>by
        by_cases e:b=Dd
        · subst e;rw [ho'];simp
        · rw [hsb.2 b e];exact (S5.y0 b q).2.2
      refine wpAny_pure ⟨rfl,its.length+1 - (i+1),Nat.sub_lt_sub_left (Nat.lt_succ_of_lt hlt) (Nat.lt_succ_self i),i+1,B5,o',hlt,rfl,S6.fewer hno',hB1.trans (g4.le.trans g5.le),(m3.trans m4).trans m5,?_,ho',hA'⟩
      exact W.frame _ _ _ (eb3 W hex st3 (g4.old.trans g5.old)) fun b q o e=>(hsb.2 b (hfo b q).2).trans e
  · have hin:i=its.length:=by exact Nat.le_antisymm ‹_› (Nat.not_lt.mp ‹_›)
    subst hin
    refine W.done _ _ _ st fun h' tk hk htk=>?_
    refine wpAny_pure ?_
    obtain ⟨mm,hns⟩:=S.fm.ns
    exact fin _ Bi o (S.gr.off hk wrn) ⟨m.gens,m.os,Nat.le_trans m.toks htk⟩ (S.y0 Dd hYD).2.1 (hk _ _ hDw ho) hA ⟨mm,hns.at' fun o e=>hk _ o hCw e⟩ (S.own0 _ (.inl rfl)).2
theorem bn1 {e:PySem.Expr} {target iter:PySem.Expr} {ifs:List PySem.Expr} {sc':Scope} {p:Pos} {emit:Addr→Env→Sem Unit} {newAcc:Sem Value} {tgt:List Nat} {isrc:IR} {irs:List IR} {A:Around} {E:Value→Shared→Prop} {env:Env} {r:Rho} {B:FM} {s:Shared} {its:List D} {use:Option (Value→Sem Unit)} {Q:Value→Shared→Prop} {AP:Nat→FM→Obj→Prop}
    (hcl:clausesOf e=[⟨target,iter,ifs,0⟩])
    (hnew:∀ (s2:Shared) (Q:Value→Shared→Prop) (E:Value→Shared→Prop),(∀ o,o.isFreed=false→(∀ B,AP 0 B o)→Q (.ref s2.heap.objs.size) { s2 with heap:=s2.heap.push o })→wpAny (model prog w) A newAcc Q E s2)
    (hturn:∀ I Dd cenv,compTurn e 0 (.ref I) (.ref Dd) cenv=(do
      standAt iter.pos
      match ← pyNext (.ref I) with
      | none=>pure (.done .next)
      | some v=>
        letOwnedTupleGo target (.ref I) v
        assign target cenv v
        let mut ok:=true
        for c in ifs do
          if ok then ok ← isTrue c cenv (PySem.eval c cenv)
        if ok then
          emit Dd cenv
        again (.compLoop e 0 (.ref I) (.ref Dd) cenv)))
    (hloop:∀ I Dd cenv R (Inv:Nat→Shared→Prop),(∀ n s,Inv n s→wpAny (model prog w) A (compTurn e 0 (.ref I) (.ref Dd) cenv) (fun fin s'=>match fin with | .done f=>R (.ok f) s' | .again c'=>c' = .compLoop e 0 (.ref I) (.ref Dd) cenv∧∃ m,m < n∧Inv m s')
      (notedBy (model prog w) A cenv fun x s'=>R (.error x) s') s)→∀ n s,Inv n s→codeAny (model prog w) A (.compLoop e 0 (.ref I) (.ref Dd) cenv) R s)
    (hstart:∀ I Dd cenv R s,codeAny (model prog w) A (.compLoop e 0 (.ref I) (.ref Dd) cenv) R s→(∀ (Q E:Value→Shared→Prop),Q (.ref I) s→wpAny (model prog w) A (pyIter (.ref I)) Q E s)→codeAny (model prog w) A (.compStart e 0 (.ref I) (.ref Dd) cenv) R s)
    (cs:au4 sc' sc) (hset:ai1 iter=true) (tg:ag6 sc' target tgt) (hsrc:al9 w h₀ k calls sc iter isrc target) (ht:a9 (ap7 w h₀ k calls sc') ifs irs)
    (ok:Ok prog w h₀ k A env sc r B s) (hits:d7 calls isrc r=some its)
    (hdef:∀ (i:Nat) (d:D),its[i]?=some d→∃ r1 t,af0 (ba1 r (ai4 sc' sc)) tgt d=some r1∧aq0 calls irs r1=some t)
    (hsol:∀ (i:Nat) (B:FM) (o:Obj),AP i B o→an9 o) (hmono:∀ (i:Nat) (B B':FM) (o:Obj),B.le B'→AP i B o→AP i B' o) (hskip:∀ (i:Nat) (d:D) (r1:Rho) (B:FM) (o:Obj),its[i]?=some d→af0 (ba1 r (ai4 sc' sc)) tgt d=some r1→aq0 calls irs r1=some false→AP i B o→AP (i+1) B o)
    (hemit:∀ {s:Shared} {B:FM} {r1:Rho} {i:Nat} {d:D} {o:Obj} {cenv:Env} {Dd:Addr} {E:Value→Shared→Prop},Ok prog w h₀ k A cenv sc' r1 B s→its[i]?=some d→af0 (ba1 r (ai4 sc' sc)) tgt d=some r1→aq0 calls irs r1=some true→s.heap.get? Dd=some o→AP i B o→
      wpAny (model prog w) A (emit Dd cenv) (fun ξ s'=>EmP AP Dd i B s s') E s)
    (fin:∀ Dd C s' Bn o,Gr B s.heap Bn s'.heap→n7 s s'→s.heap.get? Dd=none→s.heap.get? C=none→Dd≠C→(∀ a,s.heap.get? a≠none→a < Dd)→Bn Dd=none→Bn C=none→s'.heap.get? Dd=some o→AP its.length Bn o→
      (∃ m,s'.heap.Ns C m)→compPost (model prog w) A E use Q (.ref Dd) C (.ok .next) s') :
    wpAny (model prog w) A (comprehension e sc' env p newAcc false (PySem.eval iter env) use) Q E s:=by
  refine wpAny_comprehension_free (g:=⟨target,iter,ifs,0⟩) hcl (bz2 hset) (cp8 (fun x hx=>ok.eok.cells x (cs.free x (l8 cs.nodup hx)))) cs.kind (fun x hx hl=>hl▸l8 cs.nodup hx) ?_
  refine wpAny_mono (hsrc ok hits) (fun x s1 h1=>wpAny_mono h1 (fun it s2 h2=>?_) fun ξ ξ e=>e) fun ξ ξ e=>e
  obtain ⟨I,fp,wr,P,Md,St,B2,rfl,W,st2,g2,m2,hex,hwr,_,hrd,self⟩:=h2
  refine hnew s2 _ _ fun o0 hof hA0=>?_
  have hDn:s2.heap.get? s2.heap.objs.size=none:=i6 (Nat.le_refl _)
  have none0:∀ a,s2.heap.get? a=none→s.heap.get? a=none:=fun a e=>by
    exact g2.old.back e
  have hlow:∀ a,s.heap.get? a≠none→a < s2.heap.objs.size:=fun a e=>by
    cases e2:s2.heap.get? a with
    | none=>exact absurd (none0 a e2) e
    | some o=>exact Heap.lt_size e2
  refine cn1 cs.nodup fun h' cells ca hns old hlt hloc=>?_
  generalize hL:s2.heap.push o0=L at ca hns old hlt hloc⊢
  have hLs:L.objs.size=s2.heap.objs.size+1:=by rw [← hL];exact Heap.size_push ..
  have hLD:L.get? s2.heap.objs.size=some o0:=by rw [← hL];exact Heap.get?_push_size _ hof
  have hLo:∀ b o,s2.heap.get? b=some o→L.get? b=some o:=fun b o e=>by rw [← hL];exact Heap.get?_push_of_some _ e
  have g3:Gr B s.heap B2 L:=g2.trans (Gr.heap g2.keep hLo)
  have hy:∀ a,(a=s2.heap.objs.size∨a∈wr)→s.heap.get? a=none∧B2 a=none∧L.get? a≠none:=by
    rintro a (rfl | q)
    · exact ⟨none0 _ hDn,r7 (s:=s2) g2.keep hDn,by rw [hLD];simp⟩
    · refine ⟨(hwr a q).1,(hwr a q).2,fun e=>?_⟩
      cases e2:s2.heap.get? a with
      | none=>exact (hex 0 _ st2 a (W.sub a q)).ne e2
      | some o=>rw [hLo a o e2] at e;cases e
  obtain ⟨ek,S⟩:=Sim.comp (Y:=fun a=>a=s2.heap.objs.size∨a∈wr) ok cs g3 hy ca hns old hloc
  have hCn:s.heap.get? L.objs.size=none∧B2 L.objs.size=none:=S.own0 _ (.inl rfl)
  have hlo:∀ a,isOwn (bb0 sc' env L.objs.size cells) sc' a→L.objs.size≤a:=by
    rintro a (rfl | ⟨x,q1,q2⟩)
    · exact Nat.le_refl _
    · obtain ⟨c,e1,e2,_⟩:=ca.own x q1
      have:some c=some a:=e1.symm.trans q2
      cases this;exact e2
  have hfo:∀ b∈fp,¬ isOwn (bb0 sc' env L.objs.size cells) sc' b∧b≠s2.heap.objs.size:=by
    intro b hb
    have hbl:b < s2.heap.objs.size:=by
      cases e:s2.heap.get? b with
      | none=>exact absurd e (hex 0 _ st2 b hb).ne
      | some o=>exact Heap.lt_size e
    refine ⟨fun q=>?_,Nat.ne_of_lt hbl⟩
    have:=hlo b q
    rw [hLs] at this
    exact absurd hbl (Nat.not_lt.mpr (Nat.le_trans (Nat.le_succ _) this))
  have st4:St 0 h':=W.frame _ _ _ st2 fun b ξ o e=>old b o (hLo b o e)
  have ms:n7 s { s2 with heap:=h' }:=⟨m2.gens,m2.os,m2.toks⟩
  refine hstart I s2.heap.objs.size _ _ _ (dl0 (k:=k) (h₀:=h₀) (calls:=calls) (s1:={ s2 with heap:=h' }) (AP:=AP) (hturn _ _ _) (hloop _ _ _ _) tg ht ok.rm ek ok.base ok.stk W hex (fun i v h B' hP hB hk=>hrd i v h B' hP hB hk) hfo (fun b=>Iff.rfl) hdef hsol hmono hskip
    (fun ok' q1 q2 q3 q4 q5=>hemit ok' q1 q2 q3 q4 q5) (fun i v q=>dm0 cs tg q) S ms ok.toks st4 (old _ _ hLD) (hA0 _) ?_) (fun Q E q=>self 0 _ _ _ st4 q)
  intro s' Bn o g m hb hD' hA' hns' hCB
  exact fin _ L.objs.size s' Bn o g m (none0 _ hDn) hCn.1 (by rw [hLs];exact Nat.ne_of_lt (Nat.lt_succ_self _)) hlow hb hCB hD' hA' hns'
inductive CpP (w:World) (B:FM) (s:Shared) (d:D) (Dd C:Addr) (s':Shared):Prop
  | mk (Bn:FM) (o:Obj) (g:Gr B s.heap Bn s'.heap) (m:n7 s s') (hD:s.heap.get? Dd=none) (hC:s.heap.get? C=none) (hne:Dd≠C) (hBD:Bn Dd=none) (hBC:Bn C=none) (hDo:s'.heap.get? Dd=some o) (hpl:o.dict=none∧o.slots=#[])
    (t:f6 prog w s'.heap Bn d (.ref Dd)) (hz:∀ B',Bn.le B'→B' Dd=some o→Rd prog w B' d (.ref Dd)) (hns:∃ m,s'.heap.Ns C m):CpP w B s d Dd C s'
variable (w h₀ k calls) in
noncomputable def dn8 (sc sc':Scope) (val iter:PySem.Expr) (newAcc:Sem Value) (ir:IR):Prop:=
  ∀ ⦃A E s env r B d p use Q⦄,Ok prog w h₀ k A env sc r B s→eval calls ir r=some d→(∀ Dd C s',CpP w B s d Dd C s'→compPost (model prog w) A E use Q (.ref Dd) C (.ok .next) s')→
    wpAny (model prog w) A (comprehension val sc' env p newAcc false (PySem.eval iter env) use) Q E s
theorem bz8 {elt target iter:PySem.Expr} {ifs:List PySem.Expr} {sc':Scope} {pos:Pos} {tgt:List Nat} {isrc:IR} {irs:List IR} {ir:IR}
    (cs:au4 sc' sc) (hset:ai1 iter=true) (tg:ag6 sc' target tgt) (hsrc:al9 w h₀ k calls sc iter isrc target) (ht:a9 (ap7 w h₀ k calls sc') ifs irs) (he:i8 w h₀ k calls sc' elt ir) :
    dn8 w h₀ k calls sc sc' (.ListComp elt [⟨target,iter,ifs,0⟩] sc' pos) iter (newList []) (.comp (ai4 sc' sc) tgt isrc irs ir):=fun A E s env r B d p use Q ok hd fin=>by
  obtain ⟨its,hits,hd⟩:=a6 hd
  obtain ⟨outs,hmap,hd⟩:=a6 hd
  obtain ⟨hsz,hd⟩:=g6 hd
  cases hd
  have hmap':its.mapM (en3 calls (ba1 r (ai4 sc' sc)) tgt irs ir)=some outs:=hmap
  obtain ⟨hlen,hget⟩:=aq9 hmap'
  refine bn1 (k:=k) (h₀:=h₀) (calls:=calls) (sc:=sc) (emit:=fun Dd cenv=>(do let _ ← call (.builtin "list.append") [.ref Dd,← PySem.eval elt cenv])) (AP:=fun n B o=>∃ vs,ba0 "list" vs o∧(o.dict=none∧o.slots=#[])∧RdL prog w B ((outs.take n).filterMap id) vs) rfl
    (fun s2 Q E hQ=>wpAny_newObj_type (hQ _ rfl fun B=>⟨[],⟨rfl,0,rfl⟩,⟨rfl,rfl⟩,RdL.nil⟩)) (fun I Dd cenv=>compTurn_list ..) (fun I Dd cenv R Inv h n s hI=>codeAny_loop rfl Inv (fun n s' hI'=>wpAny_noted (h n s' hI')) n hI) (fun I Dd cenv R s h1 h2=>codeAny_compStart_list h1 (h2 _ _ h1))
    cs hset tg hsrc ht ok hits (fun i d hi=>?_) (fun _ _ o ⟨_,q,_⟩=>q.solid) (fun _ _ _ _ hB ⟨vs,q1,q2,q3⟩=>⟨vs,q1,q2,q3.mono hB⟩) (fun i d r1 B o hi hr1 htt hA=>?_) (fun {s B r1 i d o cenv Dd E} ok' hi hr1 htt hD hA=>?_) fun Dd C s' Bn o g m hD hC hne hlow hBD hBC hDo hA hn=>?_
  · obtain ⟨y,hy,_⟩:=hget i d hi
    obtain ⟨r1,hr1,hy⟩:=a6 hy
    obtain ⟨t,htt,_⟩:=a6 hy
    exact ⟨r1,t,hr1,htt⟩
  · obtain ⟨y,hy,hyo⟩:=hget i d hi
    obtain ⟨r1',hr1',hy⟩:=a6 hy
    obtain ⟨t,htt',hy⟩:=a6 hy
    rw [hr1] at hr1';cases hr1'
    rw [htt] at htt';cases htt'
    cases hy
    obtain ⟨vs,q1,q2,q3⟩:=hA
    refine ⟨vs,q1,q2,?_⟩
    rw [by5 hyo,Option.toList_none,List.append_nil]
    exact q3
  · obtain ⟨y,hy,hyo⟩:=hget i d hi
    obtain ⟨r1',hr1',hy⟩:=a6 hy
    obtain ⟨t,htt',hy⟩:=a6 hy
    rw [hr1] at hr1';cases hr1'
    rw [htt] at htt';cases htt'
    obtain ⟨e,hee,rfl⟩:=ab5 hy
    obtain ⟨vs,hs,hpl,hr⟩:=hA
    refine wpAny_bind (ak4 he ok' hee fun u s5 B5 g5 m5 r5 ok5=>?_)
    have hD5:=g5.old.solid hD hs.solid
    have hpl5:s5.heap.PlainList Dd vs.toArray:=by
      obtain ⟨c1,n1,c2⟩:=hs
      obtain ⟨cls,dct,dt,sl⟩:=o
      simp only at c1 c2 hpl
      obtain ⟨rfl,rfl⟩:=hpl
      subst c1 c2
      exact ⟨n1,hD5⟩
    refine wpAny_bind (wpAny_list_append_plain hpl5 (fun h6 hl6 hsb=>?_) (by rw [List.size_toArray,hr.length];exact Nat.le_trans (List.Sublist.filterMap id (List.take_sublist i outs)).length_le (ai5 hsz)))
    obtain ⟨n6,ho6⟩:=hl6
    refine wpAny_pure ⟨B5,s5.heap,_,g5,hsb,ho6,⟨vs ++ [u],⟨rfl,n6,by rw [List.push_toArray]⟩,⟨rfl,rfl⟩,?_⟩,⟨m5.gens,m5.os,m5.toks⟩⟩
    rw [by5 hyo]
    exact (hr.mono g5.le).append (RdL.cons r5 RdL.nil)
  · obtain ⟨vs,hs,hpl,hr⟩:=hA
    rw [hlen.symm,List.take_length] at hr
    exact fin Dd C s' ⟨Bn,o,g,m,hD,hC,hne,hBD,hBC,hDo,hpl,show f6 prog w _ _ (.list _) _ from ⟨Dd,o,vs,rfl,hDo,hs,hr⟩,fun B' hB e=>cy1.mpr ⟨Dd,o,vs,rfl,e,hs,hr.mono hB⟩,hn⟩
theorem eb5 {sc':Scope} {val iter:PySem.Expr} {newAcc:Sem Value} {ir:IR} (h:dn8 w h₀ k calls sc sc' val iter newAcc ir) (he:∀ env,∃ p,PySem.eval val env=comprehension val sc' env p newAcc false (PySem.eval iter env) none) {A:Around} {E:Value→Shared→Prop} {env:Env} {r:Rho} {B:FM} {s:Shared} {d:D}
    (ok:Ok prog w h₀ k A env sc r B s) (hd:eval calls ir r=some d):wpAny (model prog w) A (PySem.eval val env) (FrP prog w B s d) E s:=by
  obtain ⟨p,e⟩:=he env
  rw [e]
  refine h ok hd fun Dd C s' q=>?_
  obtain ⟨Bn,o,g,m,hD,hC,hne,hBD,hBC,hDo,hpl,t,hz,⟨mm,hns⟩⟩:=q
  refine ⟨mm,hns,fun h' hsb=>?_⟩
  have hk:∀ b o,¬ b=C→s'.heap.get? b=some o→h'.get? b=some o:=fun b o q e=>(hsb.2 b q).trans e
  exact ⟨Bn,Dd,rfl,g.off hk (fun b q=>by subst q;exact ⟨hC,hBC⟩),hD,hBD,t.off hk (.refl _) (fun b q e=>by subst q;cases e;exact hne rfl),⟨m.gens,m.os,m.toks⟩,fun o' e=>by rw [hk _ _ hne hDo] at e;cases e;exact hpl⟩
theorem ep8 {sc':Scope} {val iter:PySem.Expr} {newAcc:Sem Value} {ir:IR} (h:dn8 w h₀ k calls sc sc' val iter newAcc ir) (he:∀ env,∃ p,PySem.eval val env=comprehension val sc' env p newAcc false (PySem.eval iter env) none):i8 w h₀ k calls sc val ir:=fun A E s env r B d ok hd=>
  wpAny_mono (eb5 h he ok hd) (fun ξ ξ q=>q.ev) fun ξ ξ e=>e
theorem dw3 {elt target iter:PySem.Expr} {ifs:List PySem.Expr} {sc':Scope} {pos:Pos} {tgt:List Nat} {isrc:IR} {irs:List IR} {ir:IR}
    (cs:au4 sc' sc) (hset:ai1 iter=true) (tg:ag6 sc' target tgt) (hsrc:al9 w h₀ k calls sc iter isrc target) (ht:a9 (ap7 w h₀ k calls sc') ifs irs) (he:i8 w h₀ k calls sc' elt ir) :
    i8 w h₀ k calls sc (.ListComp elt [⟨target,iter,ifs,0⟩] sc' pos) (.comp (ai4 sc' sc) tgt isrc irs ir):=ep8 (bz8 cs hset tg hsrc ht he) fun env=>⟨_,rfl⟩
theorem da1 {key elt target iter:PySem.Expr} {sc':Scope} {pos:Pos} {tgt:List Nat} {isrc:IR} {ik ir:IR} (G:Glb h₀ mg mb)
    (cs:au4 sc' sc) (hset:ai1 iter=true) (tg:ag6 sc' target tgt) (hsrc:al9 w h₀ k calls sc iter isrc target) (hk:i8 w h₀ k calls sc' key ik) (he:i8 w h₀ k calls sc' elt ir) :
    dn8 w h₀ k calls sc sc' (.DictComp key elt [⟨target,iter,[],0⟩] sc' pos) iter newDict (.dcomp (ai4 sc' sc) tgt isrc [] ik ir):=fun A E s env r B d p use Q ok hd fin=>by
  obtain ⟨its,hits,hd⟩:=a6 hd
  obtain ⟨outs,hmap,hd⟩:=a6 hd
  obtain ⟨hc,hd⟩:=g6 hd
  cases hd
  obtain ⟨hkeys,hc⟩:=b8 hc
  have h60:=of_decide_eq_true (b8 hc).2
  obtain ⟨hlen,hget⟩:=aq9 hmap
  refine bn1 (k:=k) (h₀:=h₀) (calls:=calls) (sc:=sc) (irs:=[]) (emit:=fun Dd cenv=>(do
      let kv ← PySem.eval key cenv
      let vv ← holding [kv] (PySem.eval elt cenv)
      standAt { key.pos with endLine:=elt.pos.endLine,endCol:=elt.pos.endCol }
      holding [kv,vv] (dictSet Dd kv vv))) (AP:=fun n B o=>∃ ps,o.IsDictOf (kk prog w) ps∧RdK prog w B ((outs.take n).foldl (fun m e=>ax5 m e.1 e.2) []) ps∧ps.length≤n) rfl
    (fun s2 Q E hQ=>wpAny_newObj_type (hQ _ rfl fun B=>⟨[],⟨#[],0,⟨rfl,rfl,rfl⟩,rfl,fun _ he=>by simp at he,Pairs.nil,List.nodup_nil⟩,rfl,Nat.le_refl _⟩)) (fun I Dd cenv=>compTurn_dict ..) (fun I Dd cenv R Inv h n s hI=>codeAny_loop rfl Inv (fun n s' hI'=>wpAny_noted (h n s' hI')) n hI) (fun I Dd cenv R s h1 h2=>codeAny_compStart_dict h1 (h2 _ _ h1))
    cs hset tg hsrc .nil ok hits (fun i d hi=>?_) (fun _ _ o ⟨_,q,_⟩=>ag3 q) (fun _ _ _ _ hB ⟨ps,q1,q2,q3⟩=>⟨ps,q1,q2.mono hB,q3⟩) (fun i d r1 B o hi hr1 htt hA=>by cases htt) (fun {s B r1 i d o cenv Dd E} ok' hi hr1 htt hD hA=>?_) fun Dd C s' Bn o g m hD hC hne hlow hBD hBC hDo hA hn=>?_
  · obtain ⟨y,hy,_⟩:=hget i d hi
    obtain ⟨r1,hr1,hy⟩:=a6 hy
    exact ⟨r1,true,hr1,rfl⟩
  · obtain ⟨y,hy,hyo⟩:=hget i d hi
    obtain ⟨r1',hr1',hy⟩:=a6 hy
    rw [hr1] at hr1';cases hr1'
    obtain ⟨kd,hkd,hy⟩:=a6 hy
    obtain ⟨vd,hvd,hy⟩:=a6 hy
    cases hy
    obtain ⟨ps,hs,hr,hn⟩:=hA
    obtain ⟨kx,rfl⟩:=as0 (am2 hkeys (kd,vd) (List.mem_of_getElem? hyo))
    refine wpAny_bind (ak4 hk ok' hkd fun u s4 B4 g4 m4 r4 ok4=>?_)
    refine wpAny_bind (wpAny_holding (ak4 he ok4 hvd fun v s5 B5 g5 m5 r5 ok5=>wpAny_bind (wpAny_standAt (wpAny_holding ?_))))
    have hD5:=(g4.old.trans g5.old).solid hD (ag3 hs)
    have hi60:i < outs.length:=(List.getElem?_eq_some_iff.mp hyo).1
    refine wpAny_dictSet_pairs (Rd.keyis r4) (ab0 hD5 hs) (fun h6 hd6 hsb=>?_) (Nat.le_trans hn (Nat.le_trans (Nat.le_of_lt hi60) (Nat.le_trans h60 (by decide))))
    obtain ⟨o6,ho6,hio⟩:=Heap.dictOf_iff.mp hd6
    refine ⟨B5,s5.heap,_,g4.trans g5,hsb,ho6,⟨_,hio,?_,Nat.le_trans (PySem.stored_length_le ps kx v) (Nat.succ_le_succ hn)⟩,(m4.trans m5).trans ⟨rfl,rfl,Nat.le_succ _⟩⟩
    rw [List.take_add_one,hyo,List.foldl_append]
    exact RdK.stored r5 (hr.mono (g4.le.trans g5.le))
  · obtain ⟨ps,hs,hr,_⟩:=hA
    rw [hlen.symm,List.take_length] at hr
    have hbig:Dd≠sysModules:=fun e=>by
      obtain ⟨o,_,_,ho,_⟩:=G.g
      have h1:mainGlobals < Dd:=hlow mainGlobals (by rw [ok.old _ _ ho];nofun)
      have h3:mainGlobals=3:=rfl
      have h2:Dd=1:=e
      lia
    exact fin Dd C s' ⟨Bn,o,g,m,hD,hC,hne,hBD,hBC,hDo,(by obtain ⟨_,_,hx,_⟩:=hs;exact hx.2),show f6 prog w _ _ (.dict _) _ from ⟨Dd,o,ps,rfl,hDo,⟨hs,hbig⟩,hr⟩,fun B' hB e=>show Rd prog w _ (.dict _) _ from ⟨Dd,o,ps,rfl,e,⟨hs,hbig⟩,hr.mono hB⟩,hn⟩
end
end
section
open PySem.Calls PySem.SeqAt
section
variable {w:World} {h0:Heap} {B0:FM} {env:Env} {sc:Scope} {r:Rho} {B:FM} {Y:Addr→Prop} {s:Shared} {A:Around} {E:Value→Shared→Prop}
theorem cj2 {h:Heap} {B:FM} {d:D} {a:Addr} (t:f6 prog w h B d (.ref a)) (hb:B a=none):h.get? a≠none:=by
  cases d with
  | none=>cases t
  | bool b=>cases t
  | int i=>obtain ⟨_,_,e⟩:=t;cases e
  | str x=>obtain ⟨_,_,e⟩:=t;cases e
  | list l=>obtain ⟨a',o,vs,e,ho,_⟩:=t;cases e;rw [ho];simp
  | tuple l=>obtain ⟨a',o,vs,e,ho,_⟩:=t;cases e;rw [ho];simp
  | dict l=>obtain ⟨a',o,vs,e,ho,_⟩:=t;cases e;rw [ho];simp
theorem Sim.mut {h h':Heap} {x:Str} {i:Nat} {d d':D} {a:Addr} (S:Sim prog w h0 B0 env sc r B Y h) (hs:d6 sc x=some i) (hr:r.get i=some (.own,d)) (ha:At env h x (.ref a)) (hsb:Heap.SameBut a h h')
    (ht:f6 prog w h' B d' (.ref a)) (hpl:aa1 h' a):Sim prog w h0 B0 env sc (r.set i (some (.own,d'))) B Y h':=by
  obtain ⟨v,a0,t0,_,n0,o0⟩:=S.vars x i _ d hs hr
  have e:=ha.unique a0
  subst e
  obtain ⟨b0,e,hz,hb,_⟩:=o0 rfl
  cases e
  have hk:∀ b o,¬ b=a→h.get? b=some o→h'.get? b=some o:=fun b o q e=>(hsb.2 b q).trans e
  have hl:¬ env.locals=a:=fun q=>n0 a (.inl (.inl q.symm)) rfl
  have hcell:∀ y c,env.cells.lookup y=some c→¬ c=a:=by
    rintro y c hc rfl
    obtain ⟨v,o,e1,e2⟩:=S.fm.cellE y c hc
    have:∃ o,h.get? c=some o∧(∀ v,o.data≠.cell v):=by
      cases d with
      | none=>cases t0
      | bool b=>cases t0
      | int i=>obtain ⟨_,_,e⟩:=t0;cases e
      | str x=>obtain ⟨_,_,e⟩:=t0;cases e
      | list l=>obtain ⟨a',o,vs,e,ho,⟨_,n,hd⟩,_⟩:=t0;cases e;exact ⟨o,ho,fun v q=>by rw [hd] at q;cases q⟩
      | tuple l=>obtain ⟨a',o,vs,e,ho,⟨_,n,hd⟩,_⟩:=t0;cases e;exact ⟨o,ho,fun v q=>by rw [hd] at q;cases q⟩
      | dict l=>obtain ⟨a',o,vs,e,ho,⟨⟨es,ep,_,hd,_⟩,_⟩,_⟩:=t0;cases e;exact ⟨o,ho,fun v q=>by rw [hd] at q;cases q⟩
    obtain ⟨o',e3,e4⟩:=this
    rw [e1] at e3;cases e3
    exact e4 _ e2
  have hAt:∀ y u,At env h y u→At env h' y u:=fun y u q=>q.off hk hl (hcell y)
  refine ⟨S.gr.off hk (fun b q=>by subst q;exact ⟨hz,hb⟩),⟨?_,fun y hy=>?_,S.fm.sep,fun y c hy=>?_,fun hf o e=>S.fm.cls hf o ((hsb.2 _ hl).symm.trans e),fun f hf=>by
    by_cases q:f=a
    · subst q;exact cj2 ht hb
    · rw [hsb.2 f q];exact S.fm.frE f hf⟩,S.own0,fun b q=>⟨(S.y0 b q).1,(S.y0 b q).2.1,?_⟩,S.yown,S.ycell,S.yfr,?_,?_⟩
  · obtain ⟨m,q⟩:=S.fm.ns
    exact ⟨m,q.at' fun o e=>hk _ o hl e⟩
  · obtain ⟨e,c,u,q1,o,q2,q3⟩:=S.fm.cell y hy
    exact ⟨e,c,u,q1,o,hk c o (hcell y c q1) q2,q3⟩
  · obtain ⟨u,o,q2,q3⟩:=S.fm.cellE y c hy
    exact ⟨u,o,hk c o (hcell y c hy) q2,q3⟩
  · by_cases q':b=a
    · subst q';exact absurd rfl (n0 b (.inr q))
    · rw [hsb.2 b q'];exact (S.y0 b q).2.2
  · intro y j m d2 hy hr2
    rw [j7] at hr2
    split at hr2
    · rename_i hc
      cases hr2
      have e:y=x:=am7 hy (hc.1▸hs)
      subst e
      exact ⟨.ref a,hAt _ _ a0,ht,fun q=>(by cases q),n0,fun ξ=>⟨a,rfl,hz,hb,hpl⟩⟩
    · rename_i hc
      obtain ⟨u,a',t,f,n,o⟩:=S.vars y j m d2 hy hr2
      have hij:i≠j:=by
        rintro rfl
        exact absurd ⟨rfl,bf6 hr⟩ hc
      exact ⟨u,hAt _ _ a',t.off hk (.refl _) (fun b q e=>by subst q;subst e;exact S.uniq x y i j .own m d d2 b hs hy hij hr rfl hr2 a0 a'),f,n,fun q=>by
        obtain ⟨b,rfl,e1,e2,e3⟩:=o q
        exact ⟨b,rfl,e1,e2,e3.off hk (fun p=>by subst p;exact S.uniq x y i j .own m d d2 b hs hy hij hr rfl hr2 a0 a') (z7 t S.gr.keep)⟩⟩
  · intro y z j k m1 m d1 d2 b hy hz2 hjk hr1 hw hr2 a1 a2
    have own:∀ {y j m d2},d6 sc y=some j→Rho.get (r.set i (some (.own,d'))) j=some (m,d2)→∃ d3,r.get j=some (m,d3):=by
      intro y j m d2 hy hr2
      rw [j7] at hr2
      split at hr2
      · rename_i hc;cases hr2;exact ⟨d,hc.1▸hr⟩
      · exact ⟨_,hr2⟩
    obtain ⟨d3,h3⟩:=own hy hr1
    obtain ⟨d4,h4⟩:=own hz2 hr2
    obtain ⟨u,b1,_⟩:=S.vars y j _ d3 hy h3
    obtain ⟨u2,b2,_⟩:=S.vars z k m d4 hz2 h4
    have e1:=a1.unique (hAt _ _ b1)
    have e2:=a2.unique (hAt _ _ b2)
    subst e1 e2
    exact S.uniq y z j k m1 m d3 d4 b hy hz2 hjk h3 hw h4 b1 b2
theorem Sim.frz {h:Heap} {x:Str} {i:Nat} {d:D} (S:Sim prog w h0 B0 env sc r B Y h) (hs:d6 sc x=some i) (hr:r.get i=some (.own,d)) :
    ∃ B',B.le B'∧Sim prog w h0 B0 env sc (r.set i (some (.fr,d))) B' Y h:=by
  obtain ⟨v,a0,t0,_,n0,o0⟩:=S.vars x i _ d hs hr
  obtain ⟨a,rfl,hz,hb,_⟩:=o0 rfl
  obtain ⟨o,ho,hfz⟩:∃ o,h.get? a=some o∧∀ B',B.le B'→B' a=some o→Rd prog w B' d (.ref a):=by
    cases d with
    | none=>cases t0
    | bool b=>cases t0
    | int i=>obtain ⟨_,_,e⟩:=t0;cases e
    | str x=>obtain ⟨_,_,e⟩:=t0;cases e
    | list l=>obtain ⟨a',o,vs,e,ho,x,y⟩:=t0;cases e;exact ⟨o,ho,fun B' hB e=>cy1.mpr ⟨a,o,vs,rfl,e,x,y.mono hB⟩⟩
    | tuple l=>obtain ⟨a',o,vs,e,ho,x,y⟩:=t0;cases e;exact ⟨o,ho,fun B' hB e=>dn0.mpr ⟨a,o,vs,rfl,e,x,y.mono hB⟩⟩
    | dict l=>obtain ⟨a',o,vs,e,ho,x,y⟩:=t0;cases e;exact ⟨o,ho,fun B' hB e=>show Rd prog w _ (.dict _) _ from ⟨a,o,vs,rfl,e,x,y.mono hB⟩⟩
  have hle:B.le (B.add a o):=FM.le_add fun o' e=>by rw [hb] at e;cases e
  have ne:∀ b,b≠a→B.add a o b=B b:=fun b q=>by simp [FM.add,q]
  refine ⟨B.add a o,hle,⟨S.gr.freeze hz ho,S.fm,fun b q=>⟨(S.own0 b q).1,?_⟩,fun b q=>⟨(S.y0 b q).1,?_,(S.y0 b q).2.2⟩,S.yown,S.ycell,S.yfr,?_,?_⟩⟩
  · rw [ne b (fun e=>n0 b (.inl q) (by rw [e]))];exact (S.own0 b q).2
  · rw [ne b (fun e=>n0 b (.inr q) (by rw [e]))];exact (S.y0 b q).2.1
  · intro y j m d2 hy hr2
    rw [j7] at hr2
    split at hr2
    · rename_i hc
      cases hr2
      have e:y=x:=am7 hy (hc.1▸hs)
      subst e
      exact ⟨.ref a,a0,t0.mono (.refl _) hle,fun ξ=>hfz _ hle (FM.add_self ..),n0,fun q=>(by cases q)⟩
    · rename_i hc
      obtain ⟨u,a',t,f,n,o'⟩:=S.vars y j m d2 hy hr2
      have hij:i≠j:=by
        rintro rfl
        exact absurd ⟨rfl,bf6 hr⟩ hc
      refine ⟨u,a',t.mono (.refl _) hle,fun q=>(f q).mono hle,n,fun q=>?_⟩
      obtain ⟨b,rfl,e1,e2,e3⟩:=o' q
      refine ⟨b,rfl,e1,?_,e3⟩
      rw [ne b (fun e=>by subst e;exact S.uniq x y i j .own m d d2 b hs hy hij hr rfl hr2 a0 a')];exact e2
  · intro y z j k m1 m d1 d2 b hy hz2 hjk hr1 hw hr2 a1 a2
    rw [j7] at hr1 hr2
    split at hr1
    · cases hr1;cases hw
    · split at hr2
      · rename_i hc;cases hr2
        have e:z=x:=am7 hz2 (hc.1▸hs)
        subst e
        exact S.uniq y z j k m1 .own d1 d b hy hz2 hjk hr1 hw (hc.1▸hr) a1 a2
      · exact S.uniq y z j k m1 m d1 d2 b hy hz2 hjk hr1 hw hr2 a1 a2
end
end
section
open PySem.Calls PySem.SeqAt
structure Nx (env:Env) (sc:Scope) (r:Rho) (h:Heap) (r':Rho) (h':Heap):Prop where
  fr:∀ b o,h.get? b=some o→¬ isOwn env sc b→(∀ x i d,d6 sc x=some i→r.get i=some (.own,d)→¬ At env h x (.ref b))→Up o (h'.get? b)
  own:∀ x i d a,d6 sc x=some i→r'.get i=some (.own,d)→At env h' x (.ref a)→h.get? a=none∨∃ y j d2,d6 sc y=some j∧r.get j=some (.own,d2)∧At env h y (.ref a)
  ownE:∀ a,isOwn env sc a→h'.get? a≠none
  lock:∀ x i d,d6 sc x=some i→r.get i=some (.lock,d)→r'.get i=some (.lock,d)∧∀ u,At env h x u→At env h' x u
section
variable {w:World} {h0:Heap} {B0:FM} {env:Env} {sc:Scope} {r r' r'':Rho} {B B':FM} {Y:Addr→Prop} {h h' h'':Heap} {s:Shared} {A:Around} {E:Value→Shared→Prop}
theorem Nx.trans (x:Nx env sc r h r' h') (y:Nx env sc r' h' r'' h''):Nx env sc r h r'' h'' where
  fr:=fun b o e hn hs=>(x.fr b o e hn hs).trans fun o' e'=>y.fr b o' e' hn fun z i d hz hr ha=>by
    rcases x.own z i d b hz hr ha with q | ⟨z',j,d2,q1,q2,q3⟩
    · rw [q] at e;cases e
    · exact hs z' j d2 q1 q2 q3
  own:=fun z i d a hz hr ha=>by
    rcases y.own z i d a hz hr ha with q | ⟨z',j,d2,q1,q2,q3⟩
    · cases e:h.get? a with
      | none=>exact .inl rfl
      | some o=>
        refine .inr (Classical.byContradiction fun hc=>?_)
        have hn:¬ isOwn env sc a:=fun p=>x.ownE a p q
        have:=x.fr a o e hn fun z i d p1 p2 p3=>hc ⟨z,i,d,p1,p2,p3⟩
        obtain ⟨o',e',_⟩:=this.ex
        rw [q] at e';cases e'
    · exact x.own z' j d2 a q1 q2 q3
  ownE:=y.ownE
  lock:=fun z i d hz hr=>by
    obtain ⟨q1,q2⟩:=x.lock z i d hz hr
    obtain ⟨q3,q4⟩:=y.lock z i d hz q1
    exact ⟨q3,fun u a=>q4 u (q2 u a)⟩
theorem Sim.nx (S:Sim prog w h0 B0 env sc r B Y h):Nx env sc r h r h:=⟨fun ξ ξ e ξ ξ=>.inl e,fun x i d a q1 q2 q3=>.inr ⟨x,i,d,q1,q2,q3⟩,fun a q=>S.ownE q,fun ξ ξ ξ ξ q=>⟨q,fun ξ a=>a⟩⟩
theorem Sim.nx_ev (S:Sim prog w h0 B0 env sc r B Y h) (g:Gr B h B' h'):Nx env sc r h r h' where
  fr:=fun b o e ξ ξ=>g.old b o e
  own:=fun x i d a q1 q2 q3=>by
    obtain ⟨v,a0,_⟩:=S.vars x i _ d q1 q2
    have:=(a0.keeps g.old).unique q3
    subst this
    exact .inr ⟨x,i,d,q1,q2,a0⟩
  ownE:=fun a q=>(S.ev g).ownE q
  lock:=fun x i d q1 q2=>⟨q2,fun u a=>a.keeps g.old⟩
theorem ar0 {i j:Nat} {d d':D} {m:af4} (h:Rho.get (r.set i (some (.fr,d))) j=some (m,d')) (hm:m≠.fr):r.get j=some (m,d')∧¬ (i=j∧i < r.length):=by
  rw [j7] at h
  split at h
  · cases h;exact absurd rfl hm
  · rename_i hc;exact ⟨h,hc⟩
theorem Sim.frz_nx {x:Str} {i:Nat} {d:D} (S:Sim prog w h0 B0 env sc r B Y h) (hs:d6 sc x=some i) (hr:r.get i=some (.own,d)):Nx env sc r h (r.set i (some (.fr,d))) h where
  fr:=fun ξ ξ e ξ ξ=>.inl e
  own:=fun y j d2 a q1 q2 q3=>.inr ⟨y,j,d2,q1,(ar0 q2 (by simp)).1,q3⟩
  ownE:=fun a q=>S.ownE q
  lock:=fun y j d2 q1 q2=>by
    refine ⟨?_,fun ξ a=>a⟩
    rw [j7,if_neg]
    · exact q2
    · rintro ⟨rfl,_⟩
      rw [hr] at q2;cases q2
set_option tactic.hygienic true in
theorem Sim.frz1 {i:Nat} (S:Sim prog w h0 B0 env sc r B Y h) (hi:∀ d,r.get i=some (.own,d)→∃ x,d6 sc x=some i):∃ B',B.le B'∧Sim prog w h0 B0 env sc (r.frz i) B' Y h∧Nx env sc r h (r.frz i) h:=by
  unfold Rho.frz
  split
  · rename_i d hr
    obtain ⟨x,hx⟩:=hi d hr
    obtain ⟨B',h1,h2⟩:=S.frz hx hr
    exact ⟨B',h1,h2,S.frz_nx hx hr⟩
  · exact ⟨B,.refl _,S,S.nx⟩
noncomputable def y6 (sc:Scope) (r:Rho):Prop:=∀ i d,r.get i=some (.own,d)→∃ x,d6 sc x=some i
theorem y6.frz {i:Nat} (n:y6 sc r):y6 sc (r.frz i):=by
  intro j d hj
  unfold Rho.frz at hj
  split at hj
  · exact n j d (ar0 hj (by simp)).1
  · exact n j d hj
theorem Sim.frzFrom (n:Nat):∀ {r:Rho} {B:FM},y6 sc r→Sim prog w h0 B0 env sc r B Y h→∃ B',B.le B'∧Sim prog w h0 B0 env sc (frzFrom r n) B' Y h∧Nx env sc r h (frzFrom r n) h:=by
  induction n with
  | zero=>intro r B _ S;exact ⟨B,.refl _,S,S.nx⟩
  | succ n ih=>
    intro r B hn S
    obtain ⟨B1,l1,S1,n1⟩:=S.frz1 (i:=n) (hn n)
    obtain ⟨B2,l2,S2,n2⟩:=ih hn.frz S1
    exact ⟨B2,l1.trans l2,S2,n1.trans n2⟩
theorem Sim.val {ir:IR} (hn:y6 sc r) (S:Sim prog w h0 B0 env sc r B Y h):∃ B',B.le B'∧Sim prog w h0 B0 env sc (an7 r ir) B' Y h∧Nx env sc r h (an7 r ir) h∧y6 sc (an7 r ir):=by
  unfold an7
  split
  · obtain ⟨B1,l1,S1,n1⟩:=S.frz1 (hn _)
    exact ⟨B1,l1,S1,n1,hn.frz⟩
  · exact ⟨B,.refl _,S,S.nx,hn⟩
inductive ev3 (prog:Program) (w:World) (h0:Heap) (B':FM) (h:Heap) (d:D) (v:Value):Prop
  | mk (a:Addr) (h1:v = .ref a) (h2:h0.get? a=none) (h3:B' a=none) (h4:f6 prog w h B' d v) (h5:aa1 h a)
noncomputable def et7 (prog:Program) (w:World) (h0:Heap) (B':FM) (h:Heap) (d:D) (v:Value):Bool→Prop
  | true=>ev3 prog w h0 B' h d v
  | false=>Rd prog w B' d v
variable (w h0 B0 env sc Y) in
inductive ef4 (fresh:Bool) (d:D) (v:Value) (s s':Shared):Prop
  | mk (B':FM) (h1:Gr B0 h0 B' s'.heap) (h2:n7 s s') (h3:et7 prog w h0 B' s'.heap d v fresh)
variable (w h0 B0 env sc Y) in
inductive NxP (r:Rho) (B:FM) (s:Shared) (r':Rho) (s':Shared):Prop
  | mk (B':_) (h1:B.le B') (h2:Sim prog w h0 B0 env sc r' B' Y s'.heap) (h3:n7 s s') (h4:Nx env sc r s.heap r' s'.heap) (h5:y6 sc r')
variable (w h0 B0 env sc Y) in
noncomputable def FlP (r:Rho) (B:FM) (s:Shared) (res:Fl×Rho) (f:Flow) (s':Shared):Prop:=
  match res.1,f with
  | .next,.next=>NxP w h0 B0 env sc Y r B s res.2 s'
  | .brk,.brk=>NxP w h0 B0 env sc Y r B s res.2 s'
  | .ret fresh d,.ret v=>ef4 w h0 B0 fresh d v s s'
  | _,_=>False
end
section
variable (prog:Program) (w:World) (h₀:Heap) (k:Nat) (calls:String→List D→Option D) (fresh:String→Bool)
noncomputable def ck5 (sc:Scope) (run:Env→Sem Flow) (f:Rho→Option (Fl×Rho)):Prop:=
  ∀ ⦃A E env r B s h0 B0 Y res⦄,Rm k A→t9 env sc→(∀ a o,h₀.get? a=some o→B0 a=some o)→0 < s.toks→FrA A env B0 h0→y6 sc r→Sim prog w h0 B0 env sc r B Y s.heap→f r=some res→
    wpAny (model prog w) A (run env) (FlP w h0 B0 env sc Y r B s res) E s
noncomputable def al7 (sc:Scope) (st:Stmt) (si:SI):Prop:=ck5 prog w h₀ k sc (PySem.exec st) (exec calls fresh si)
noncomputable def aa4 (sc:Scope) (st:List Stmt) (si:List SI):Prop:=ck5 prog w h₀ k sc (PySem.execs st) (execs calls fresh si)
end
section
variable {w:World} {h₀:Heap} {mg mb:Str→Option Value} {k:Nat} {calls:String→List D→Option D} {fresh:String→Bool} {sc:Scope}
theorem FlP.after {h0:Heap} {B0:FM} {env:Env} {Y:Addr→Prop} {r r1:Rho} {B B1:FM} {s s1 s':Shared} {res:Fl×Rho} {f:Flow} (hB:B.le B1) (m:n7 s s1) (n:Nx env sc r s.heap r1 s1.heap) (h:FlP w h0 B0 env sc Y r1 B1 s1 res f s'):FlP w h0 B0 env sc Y r B s res f s':=by
  obtain ⟨fl,r2⟩:=res
  unfold FlP at h⊢
  cases fl <;> cases f <;> simp only at h⊢
  · obtain ⟨B',q1,q2,q3,q4,q5⟩:=h;exact ⟨B',hB.trans q1,q2,m.trans q3,n.trans q4,q5⟩
  · obtain ⟨B',q1,q2,q3,q4,q5⟩:=h;exact ⟨B',hB.trans q1,q2,m.trans q3,n.trans q4,q5⟩
  · obtain ⟨B',q1,q2,q3⟩:=h;exact ⟨B',q1,m.trans q2,q3⟩
theorem b9:aa4 prog w h₀ k calls fresh sc [] []:=fun A E env r B s h0 B0 Y res rm ek hb ht fa hn S h=>by
  cases h
  exact wpAny_execs_nil ⟨B,.refl _,S,.refl s,S.nx,hn⟩
theorem a7 {st:Stmt} {sts:List Stmt} {si:SI} {sis:List SI} (h1:al7 prog w h₀ k calls fresh sc st si) (h2:aa4 prog w h₀ k calls fresh sc sts sis):aa4 prog w h₀ k calls fresh sc (st :: sts) (si :: sis):=
  fun A E env r B s h0 B0 Y res rm ek hb ht fa hn S h=>by
  obtain ⟨⟨fl,r1⟩,q1,h⟩:=a6 h
  refine wpAny_execs_cons (wpAny_mono (h1 rm ek hb ht fa hn S q1) (fun f s' q=>?_) fun ξ ξ e=>e)
  unfold FlP at q
  cases fl <;> cases f <;> simp only at q h⊢
  · obtain ⟨B',p1,p2,p3,p4,p5⟩:=q
    exact wpAny_mono (h2 rm ek hb (Nat.lt_of_lt_of_le ht p3.toks) fa p5 p2 h) (fun f s2 q=>q.after p1 p3 p4) fun ξ ξ e=>e
  · cases h;exact q
  · cases h;exact q
theorem el0 {pos:Pos}:al7 prog w h₀ k calls fresh sc (.Break pos) .brk:=fun A E env r B s h0 B0 Y res rm ek hb ht fa hn S h=>by
  cases h
  exact wpAny_Break ⟨B,.refl _,S,.refl s,S.nx,hn⟩
theorem t6 {t:PySem.Expr} {c:IR} {a b:List Stmt} {ia ib:List SI} {pos:Pos} (hc:ap7 w h₀ k calls sc t c) (ha:aa4 prog w h₀ k calls fresh sc a ia) (hb':aa4 prog w h₀ k calls fresh sc b ib) :
    al7 prog w h₀ k calls fresh sc (.If t a b pos) (.if_ c ia ib):=fun A E env r B s h0 B0 Y res rm ek hb ht fa hn S h=>by
  obtain ⟨t,q1,h⟩:=a6 h
  refine wpAny_If (wpAny_mono (hc (Sim.ok S rm ek hb ht fa) q1) (fun v s1 q=>?_) fun ξ ξ e=>e)
  obtain ⟨rfl,B1,g,m⟩:=q
  have ht1:=Nat.lt_of_lt_of_le ht m.toks
  cases v
  · simp only [Bool.false_eq_true,if_false]
    exact wpAny_mono (hb' rm ek hb ht1 fa hn (S.ev g) h) (fun f s2 q=>q.after g.le m (S.nx_ev g)) fun ξ ξ e=>e
  · simp only [if_true]
    exact wpAny_mono (ha rm ek hb ht1 fa hn (S.ev g) h) (fun f s2 q=>q.after g.le m (S.nx_ev g)) fun ξ ξ e=>e
end
end
section
open PySem.Calls PySem.SeqAt
section
variable {w:World} {h0:Heap} {B0:FM} {env:Env} {sc:Scope} {r r' r'':Rho} {B B':FM} {Y:Addr→Prop} {h h' h'':Heap} {s:Shared} {A:Around} {E:Value→Shared→Prop}
theorem Sim.relabel {i:Nat} {m m':af4} {d:D} (S:Sim prog w h0 B0 env sc r B Y h) (hr:r.get i=some (m,d)) (hm:m.ownish=true) (hm':m'.ownish=true):Sim prog w h0 B0 env sc (r.set i (some (m',d))) B Y h where
  gr:=S.gr
  fm:=S.fm
  own0:=S.own0
  y0:=S.y0
  yown:=S.yown
  ycell:=S.ycell
  yfr:=S.yfr
  vars:=fun x j q d2 hs hr2=>by
    rw [j7] at hr2
    split at hr2
    · rename_i hc
      cases hr2
      obtain ⟨v,a,t,f,n,o⟩:=S.vars x j m d hs (hc.1▸hr)
      exact ⟨v,a,t,fun e=>(by rw [e] at hm';cases hm'),n,fun ξ=>o hm⟩
    · exact S.vars x j q d2 hs hr2
  uniq:=fun x y j k m1 m2 d1 d2 a hx hy hjk hr1 hw hr2 a1 a2=>by
    have back:∀ {j:Nat} {q:af4} {d2:D},Rho.get (r.set i (some (m',d))) j=some (q,d2)→∃ q',r.get j=some (q',d2)∧(q.ownish=true→q'.ownish=true):=by
      intro j q d2 hr2
      rw [j7] at hr2
      split at hr2
      · rename_i hc;cases hr2
        exact ⟨m,hc.1▸hr,fun ξ=>hm⟩
      · exact ⟨q,hr2,id⟩
    obtain ⟨q1,e1,o1⟩:=back hr1
    obtain ⟨q2,e2,_⟩:=back hr2
    exact S.uniq x y j k q1 q2 d1 d2 a hx hy hjk e1 (o1 hw) e2 a1 a2
inductive cw4 (r:Rho) (src:IR):Prop
  | no (e:af3 r src=r) (h:∀ i d,src.v=some i→r.get i≠some (.own,d)):cw4 r src
  | yes (i:Nat) (d:D) (hv:src.v=some i) (hr:r.get i=some (.own,d)) (e:af3 r src=r.set i (some (.lock,d))):cw4 r src
theorem ag7 (r:Rho) (src:IR):cw4 r src:=by
  cases hv:src.v with
  | none=>exact .no (by unfold af3;rw [hv]) (fun i d q=>by rw [hv] at q;cases q)
  | some i=>
    have e:af3 r src=bs8 r i:=by unfold af3;rw [hv]
    have key:∀ s,r.get i=s→cw4 r src:=fun s hs=>by
      match s,hs with
      | some (.own,d),hs=>exact .yes i d hv hs (by rw [e];unfold bs8;rw [hs])
      | none,hs=>exact .no (by rw [e];unfold bs8;rw [hs]) (fun j d q=>by rw [hv] at q;cases q;rw [hs];exact nofun)
      | some (.fr,_),hs=>exact .no (by rw [e];unfold bs8;rw [hs]) (fun j d q=>by rw [hv] at q;cases q;rw [hs];exact nofun)
      | some (.lock,_),hs=>exact .no (by rw [e];unfold bs8;rw [hs]) (fun j d q=>by rw [hv] at q;cases q;rw [hs];exact nofun)
      | some (.cap,_),hs=>exact .no (by rw [e];unfold bs8;rw [hs]) (fun j d q=>by rw [hv] at q;cases q;rw [hs];exact nofun)
    exact key _ rfl
inductive ej9 (r0 r:Rho) (src:IR):Prop
  | no (e:ag8 r0 r src=r):ej9 r0 r src
  | yes (i:Nat) (d0 d:D) (hv:src.v=some i) (h0:r0.get i=some (.own,d0)) (hr:r.get i=some (.lock,d)) (e:ag8 r0 r src=r.set i (some (.own,d))):ej9 r0 r src
set_option tactic.hygienic true in
theorem ak1 (r0 r:Rho) (src:IR):ej9 r0 r src:=by
  cases hv:src.v with
  | none=>exact .no (by unfold ag8;rw [hv])
  | some i=>
    have e:ag8 r0 r src=cb3 r0 r i:=by unfold ag8;rw [hv]
    unfold cb3 at e
    split at e
    · split at e
      · rename_i h0 _ _ hr;exact .yes i _ _ hv h0 hr e
      · exact .no e
    · exact .no e
theorem Sim.lockS {src:IR} (S:Sim prog w h0 B0 env sc r B Y h):Sim prog w h0 B0 env sc (af3 r src) B Y h:=by
  rcases ag7 r src with ⟨e,_⟩ | ⟨i,d,_,hr,e⟩
  · rw [e];exact S
  · rw [e];exact S.relabel hr rfl rfl
theorem y6.lockS {src:IR} (n:y6 sc r):y6 sc (af3 r src):=by
  rcases ag7 r src with ⟨e,_⟩ | ⟨i,d,_,hr,e⟩
  · rw [e];exact n
  · rw [e];intro j d' hj
    rw [j7] at hj
    split at hj
    · cases hj
    · exact n j d' hj
theorem bg4 {src:IR} {j:Nat} {d:D} (hj:(af3 r src).get j=some (.own,d)):r.get j=some (.own,d):=by
  rcases ag7 r src with ⟨e,_⟩ | ⟨i,d',_,hr,e⟩
  · rw [e] at hj;exact hj
  · rw [e,j7] at hj
    split at hj
    · cases hj
    · exact hj
theorem Sim.unlockS {src:IR} {r0:Rho} (S:Sim prog w h0 B0 env sc r B Y h):Sim prog w h0 B0 env sc (ag8 r0 r src) B Y h:=by
  rcases ak1 r0 r src with e | ⟨i,d0,d,_,_,hr,e⟩
  · rw [e];exact S
  · rw [e];exact S.relabel hr rfl rfl
theorem y6.unlockS {src:IR} {r0:Rho} (n:y6 sc r) (n0:y6 sc r0):y6 sc (ag8 r0 r src):=by
  rcases ak1 r0 r src with e | ⟨i,d0,d,_,h0,hr,e⟩
  · rw [e];exact n
  · rw [e]
    intro j d' hj
    rw [j7] at hj
    split at hj
    · rename_i hc;exact hc.1▸n0 _ _ h0
    · exact n j d' hj
theorem Nx.unlock {src:IR} (S0:Sim prog w h0 B0 env sc r B Y h) (N:Nx env sc (af3 r src) h r' h') (n0:y6 sc r):Nx env sc r h (ag8 r r' src) h':=by
  have lk:∀ i d,r.get i=some (.lock,d)→(af3 r src).get i=some (.lock,d):=fun i d q=>by
    rcases ag7 r src with ⟨e,_⟩ | ⟨j,d',_,hr,e⟩
    · rw [e];exact q
    · rw [e,j7,if_neg]
      · exact q
      · rintro ⟨rfl,_⟩;rw [hr] at q;cases q
  have old:∀ x i d a,d6 sc x=some i→r'.get i=some (.own,d)→At env h' x (.ref a)→h.get? a=none∨∃ y j d2,d6 sc y=some j∧r.get j=some (.own,d2)∧At env h y (.ref a):=fun x i d a q1 q q3=>by
    rcases N.own x i d a q1 q q3 with q | ⟨y,j,d2,p1,p2,p3⟩
    · exact .inl q
    · exact .inr ⟨y,j,d2,p1,bg4 p2,p3⟩
  refine ⟨fun b o e hn hs=>N.fr b o e hn fun x i d q1 q2=>hs x i d q1 (bg4 q2),?_,N.ownE,?_⟩
  · rcases ak1 r r' src with e | ⟨k,d0,d1,hv,h0,hr,e⟩
    · rw [e];exact old
    · rw [e]
      intro x i d a q1 q2 q3
      rw [j7] at q2
      split at q2
      · rename_i hc
        obtain ⟨rfl,hlt⟩:=hc
        obtain ⟨v,a0,_⟩:=S0.vars x k _ d0 q1 h0
        have hl:(af3 r src).get k=some (.lock,d0):=by
          rcases ag7 r src with ⟨_,q⟩ | ⟨j,d',hv',hr',e'⟩
          · exact absurd h0 (q k d0 hv)
          · rw [hv] at hv';cases hv'
            rw [h0] at hr';cases hr'
            rw [e',j7,if_pos ⟨rfl,bf6 h0⟩]
        have a1:=(N.lock x k d0 q1 hl).2 v a0
        have:=a1.unique q3
        subst this
        exact .inr ⟨x,k,d0,q1,h0,a0⟩
      · exact old x i d a q1 q2 q3
  · intro x i d q1 q2
    obtain ⟨p1,p2⟩:=N.lock x i d q1 (lk i d q2)
    refine ⟨?_,p2⟩
    rcases ak1 r r' src with e | ⟨k,d0,d1,hv,h0,hr,e⟩
    · rw [e];exact p1
    · rw [e,j7,if_neg]
      · exact p1
      · rintro ⟨rfl,_⟩
        rw [q2] at h0;cases h0
end
end
section
open PySem.Calls PySem.SeqAt
section
variable {w:World} {h0:Heap} {B0:FM} {env:Env} {sc:Scope} {r r' r'':Rho} {B B':FM} {Y Y':Addr→Prop} {h h' h'':Heap} {s:Shared} {A:Around} {E:Value→Shared→Prop}
theorem Nx.off {h1 h2:Heap} {X:Addr→Prop} (N:Nx env sc r h r' h1) (S:Sim prog w h0 B0 env sc r' B Y h1) (hX:∀ b,X b→Y b∧h.get? b=none) (hk:∀ b o,¬ X b→h1.get? b=some o→h2.get? b=some o):Nx env sc r h r' h2 where
  fr:=fun b o e hn hs=>(N.fr b o e hn hs).trans fun o' e'=>.inl (hk b o' (fun q=>by rw [(hX b q).2] at e;cases e) e')
  own:=fun x i d a q1 q2 q3=>by
    obtain ⟨v,a0,_⟩:=S.vars x i _ d q1 q2
    have:=(a0.off hk (fun q=>S.yown _ (.inl rfl) (hX _ q).1) (fun c e q=>S.ycell x c e (hX _ q).1)).unique q3
    subst this
    exact N.own x i d a q1 q2 a0
  ownE:=fun a q e=>by
    cases e1:h1.get? a with
    | none=>exact N.ownE a q e1
    | some o=>rw [hk a o (fun p=>S.yown a q (hX a p).1) e1] at e;cases e
  lock:=fun x i d q1 q2=>by
    obtain ⟨p1,p2⟩:=N.lock x i d q1 q2
    exact ⟨p1,fun u a=>(p2 u a).off hk (fun q=>S.yown _ (.inl rfl) (hX _ q).1) (fun c e q=>S.ycell x c e (hX _ q).1)⟩
theorem aj3:∀ (is:List Nat) (ds:List D) (r:Rho) (j:Nat) (m:af4) (d:D),ds.length=is.length→(al4 r is ds).get j=some (m,d)→m≠.fr→r.get j=some (m,d)∧j ∉ is
  | [],ds,r,j,m,d,_,h,_=>⟨h,by simp⟩
  | i :: is,[],r,j,m,d,hl,h,_=>by cases hl
  | i :: is,e :: ds,r,j,m,d,hl,h,hm=>by
    obtain ⟨h1,h2⟩:=aj3 is ds _ j m d (Nat.succ.inj hl) h hm
    obtain ⟨h3,h4⟩:=ar0 h1 hm
    refine ⟨h3,fun q=>?_⟩
    rcases List.mem_cons.mp q with rfl | q
    · exact h4 ⟨rfl,bf6 h3⟩
    · exact h2 q
set_option tactic.hygienic true in
theorem by1 {r1:Rho} {is:List Nat} {d:D} (hb:af0 r is d=some r1) {j:Nat} {m:af4} {d':D} (h:r1.get j=some (m,d')) (hm:m≠.fr):r.get j=some (m,d')∧j ∉ is:=by
  rcases an8 hb with ⟨i,rfl,rfl⟩ | ⟨ds,rfl,h1,_,rfl⟩
  · exact aj3 [i] [d] r j m d' rfl h hm
  · exact aj3 is ds r j m d' h1 h hm
set_option tactic.hygienic true in
theorem ae9 {r1:Rho} {x:Nat} {m:af4} {d:D} (h:r.put x m d=some r1):r1=r.set x (some (m,d))∧x < r.length∧∀ d',r.get x≠some (.lock,d'):=by
  unfold Rho.put at h
  split at h
  · cases h
  · rename_i hne
    split at h
    · rename_i hl
      cases h
      exact ⟨rfl,by simpa using hl,fun d' q=>hne d' q⟩
    · cases h
theorem dt5 {x:Nat} {m:af4} {d d':D} (h:r.get x=some (.own,d')):r.put x m d=some (r.set x (some (m,d))):=by
  unfold Rho.put
  rw [h]
  exact if_pos (decide_eq_true (bf6 h))
theorem dr8 {r r1:Rho} {x:Nat} {d:D} (h:r.put x .fr d=some r1) (i:Nat) (d':D) (hn:r1.get i≠some (.lock,d')):r.get i≠some (.lock,d'):=by
  intro q
  obtain ⟨rfl,_,hx⟩:=ae9 h
  rw [j7] at hn
  split at hn
  · rename_i hc;exact hx d' (hc.1▸q)
  · exact hn q
theorem bf7:∀ {is:List Nat} {ds:List D} {r r1:Rho},as8 r is ds=some r1→ds.length=is.length∧r1=al4 r is ds∧∀ i∈is,∀ d',r.get i≠some (.lock,d')
  | [],[],r,r1,h=>by cases h;exact ⟨rfl,rfl,nofun⟩
  | [],_ :: _,r,r1,h=>by cases h
  | i :: is,[],r,r1,h=>by cases h
  | i :: is,d :: ds,r,r1,h=>by
    obtain ⟨ra,h1,h⟩:=a6 h
    obtain ⟨e1,e2,e3⟩:=bf7 h
    obtain ⟨e4,_,hx⟩:=ae9 h1
    refine ⟨congrArg Nat.succ e1,by rw [e2,e4];rfl,fun j hj d'=>?_⟩
    rcases List.mem_cons.mp hj with rfl | hj
    · exact hx d'
    · exact dr8 h1 _ d' (e3 j hj d')
theorem bd3 {r1:Rho} {is:List Nat} {d:D} (h:ai6 r is d=some r1):af0 r is d=some r1∧∀ i∈is,∀ d',r.get i≠some (.lock,d'):=by
  unfold ai6 at h
  unfold af0
  cases hq:is.length == 1 with
  | true=>
    rw [hq] at h
    obtain ⟨x,h1,h⟩:=a6 h
    obtain rfl:=aj7 h1
    obtain ⟨rfl,_,hx⟩:=ae9 h
    exact ⟨rfl,fun i hi=>by rw [List.mem_singleton.mp hi];exact hx⟩
  | false=>
    rw [hq] at h
    obtain ⟨ds,h1,h⟩:=a6 h
    obtain ⟨hc,h⟩:=g6 h
    obtain ⟨e1,rfl,e3⟩:=bf7 h
    refine ⟨?_,e3⟩
    show (bp0 d >>= _)=_
    rw [h1]
    show gd (decide (2≤is.length) && ds.length == is.length) _=_
    rw [hc];rfl
theorem y3 {r1:Rho} {i:Nat} {d:D} (h:r.put i .fr d=some r1):ai6 r [i] d=some r1:=h
theorem Nx.bind {tgt:List Nat} {d:D} {r1:Rho} (S:Sim prog w h0 B0 env sc r B Y h) (S1:Sim prog w h0 B0 env sc r1 B Y h') (hb:ai6 r tgt d=some r1) (hk:∀ b o,¬ isOwn env sc b→h.get? b=some o→h'.get? b=some o)
    (hAt:∀ y j,d6 sc y=some j→j ∉ tgt→∀ u,At env h y u→At env h' y u):Nx env sc r h r1 h':=by
  obtain ⟨hbt,hnl⟩:=bd3 hb
  refine ⟨fun b o e hn ξ=>.inl (hk b o hn e),fun x i d a q1 q2 q3=>?_,fun a q=>S1.ownE q,fun x i d q1 q2=>?_⟩
  · obtain ⟨e1,e2⟩:=by1 hbt q2 (by simp)
    obtain ⟨v,a0,_⟩:=S.vars x i _ d q1 e1
    have:=(hAt x i q1 e2 v a0).unique q3
    subst this
    exact .inr ⟨x,i,d,q1,e1,a0⟩
  · have hni:i ∉ tgt:=fun q=>hnl i q d q2
    exact ⟨bw2 hbt hni q2,hAt x i q1 hni⟩
theorem y6.bind {tgt:List Nat} {d:D} {r1:Rho} (n:y6 sc r) (hb:ai6 r tgt d=some r1):y6 sc r1:=fun i d' q=>n i d' (by1 (bd3 hb).1 q (by simp)).1
end
section
variable {w:World} {h₀:Heap} {mg mb:Str→Option Value} {k:Nat} {calls:String→List D→Option D} {fresh:String→Bool} {sc:Scope}
theorem dd0 {s:Slot} {m:af4} {d:D} (h:dj0 s=some (m,d)):s=some (m,d)∧m≠.own:=by
  match s,h with
  | some (.fr,_),h=>cases h;exact ⟨rfl,nofun⟩
  | some (.lock,_),h=>cases h;exact ⟨rfl,nofun⟩
  | some (.cap,_),h=>cases h;exact ⟨rfl,nofun⟩
theorem ci3 {r:Rho} {src:IR} {i:Nat} {m:af4} {d:D} (h:(di7 r src).get i=some (m,d)):r.get i=some (m,d)∧(src.al=false∨m≠.own):=by
  unfold di7 at h
  cases e:src.al with
  | false=>rw [e] at h;exact ⟨h,.inl rfl⟩
  | true=>
    rw [e] at h
    have h':((r.map dj0)[i]?).getD none=some (m,d):=h
    rw [List.getElem?_map] at h'
    unfold Rho.get
    cases e:r[i]? with
    | none=>rw [e] at h';cases h'
    | some q=>
      rw [e] at h'
      obtain ⟨h1,h2⟩:=dd0 h'
      exact ⟨h1,.inr h2⟩
end
end
section
open PySem.Calls PySem.SeqAt
section
variable {w:World} {h₀:Heap} {mg mb:Str→Option Value} {k:Nat} {calls:String→List D→Option D} {fresh:String→Bool} {sc:Scope}
inductive ev4 (w:World) (h0:Heap) (B0 B2:FM) (env:Env) (sc:Scope) (Y:Addr→Prop) (wr:List Addr) (its:List D) (s:Shared) (St:Nat→Heap→Prop) (rl:Rho) (F:D→Rho→Option (Fl×Rho)) (out:Fl×Rho) (n:Nat) (s':Shared):Prop
  | mk (i:Nat) (Bi:FM) (ri:Rho) (h1:i≤its.length) (h2:n=its.length+1 - i) (h3:Sim prog w h0 B0 env sc ri Bi (fun a=>Y a∨a∈wr) s'.heap) (h4:B2.le Bi) (h5:n7 s s') (h6:St i s'.heap) (h7:Nx env sc rl s.heap ri s'.heap) (h8:y6 sc ri) (h9:y4 F (its.drop i) ri=some out)
theorem ag1 {t it:PySem.Expr} {b:List Stmt} {tgt:List Nat} {src:IR} {body:List SI} {pos:Pos} (tg:ag6 sc t tgt) (hset:ai1 it=true) (hsrc:al9 w h₀ k calls sc it src t) (hbody:aa4 prog w h₀ k calls fresh sc b body) :
    al7 prog w h₀ k calls fresh sc (.For t it b [] pos) (.for_ tgt src body):=fun A E env r B s h0 B0 Y res rm ek hb ht fa hn S h=>by
  obtain ⟨its,hits,h⟩:=a6 h
  obtain ⟨⟨fl,rE⟩,hloop,h⟩:=a6 h
  cases h
  have Ssrc:Sim prog w h0 B0 env sc (di7 r src) B Y s.heap:=S.part fun i m d q=>(ci3 q).1
  refine wpAny_For (wpAny_mono (hsrc (Sim.ok Ssrc rm ek hb ht fa) hits) (fun x s1 h1=>wpAny_mono h1 (fun itv s2 h2=>?_) fun ξ ξ e=>e) fun ξ ξ e=>e) (bz2 hset)
  obtain ⟨I,fp,wr,P,Md,St,B2,rfl,W,st2,g2,m2,hex,hwr,hV,hrd,_⟩:=h2
  have SL:=S.lockS (src:=src)
  have hwn:∀ a,a∈wr→s.heap.get? a=none∧B2 a=none∧s2.heap.get? a≠none:=fun a q=>by
    refine ⟨?_,(hwr a q).2,(hex 0 _ st2 a (W.sub a q)).ne⟩
    exact (hwr a q).1
  have S2:Sim prog w h0 B0 env sc (af3 r src) B2 (fun a=>Y a∨a∈wr) s2.heap:=SL.addY g2 hwn
  have N2:Nx env sc (af3 r src) s.heap (af3 r src) s2.heap:=SL.nx_ev g2
  generalize hF:(fun d r=>do execs calls fresh body (← ai6 r tgt d):D→Rho→Option (Fl×Rho))=F at hloop
  refine codeAny_forLoop_any (R:=fun r' s'=>match r' with | .ok f=>FlP w h0 B0 env sc Y r B s (fl,ag8 r rE src) f s' | .error e=>cameBackBy (model prog w) A env E e s')
    (ev4 w h0 B0 B2 env sc Y wr its s St (af3 r src) F (fl,rE))
    ?_ (its.length+1) ⟨0,B2,af3 r src,Nat.zero_le _,rfl,S2,.refl _,m2,st2,N2,hn.lockS,hloop⟩
  rintro n s' ⟨i,Bi,ri,hi,rfl,Si,hBi,mi,sti,Ni,ni,hfl⟩
  refine wpAny_with_toks (n:=s'.toks) (Nat.le_refl _) ?_
  have hXw:∀ b,b∈wr→(Y b∨b∈wr)∧s.heap.get? b=none:=fun b q=>⟨.inr q,(hwr b q).1⟩
  by_cases hlt:i < its.length
  · refine W.item i _ _ _ hlt sti fun v h' tk hmd hk htk=>?_
    simp only
    refine W.go i v { s' with heap:=h',toks:=tk } _ _ hmd fun h2 hP st2' hk2=>?_
    have hoff:∀ b o,¬ b∈wr→s'.heap.get? b=some o→h2.get? b=some o:=fun b o q e=>hk2 b o q (hk b o q e)
    have hYe:∀ b,(Y b∨b∈wr)→h2.get? b≠none:=fun b q=>by
      by_cases e:b∈wr
      · exact (hex _ _ st2' b (W.sub _ e)).ne
      · cases e1:s'.heap.get? b with
        | none=>exact absurd e1 (Si.y0 b q).2.2
        | some o=>rw [hoff b o e e1];simp
    have SY:=Si.off2 (Y':=fun a=>Y a∨a∈wr) (h':=h2) (fun b o q e=>hoff b o (fun q'=>q (.inr q')) e) (fun ξ q=>q) hYe
    have NY:Nx env sc (af3 r src) s.heap ri h2:=Ni.off Si hXw hoff
    obtain ⟨d,hd,hv,hf⟩:=hrd i v h2 Bi hP hBi SY.gr.keep
    have hdrop:its.drop i=d :: its.drop (i+1):=by
      rw [List.drop_eq_getElem_cons hlt]
      rw [List.getElem?_eq_getElem hlt] at hd
      cases hd;rfl
    rw [hdrop] at hfl
    unfold y4 at hfl
    obtain ⟨⟨f1,rb⟩,hfb,hfl⟩:=a6 hfl
    have hfb':(do execs calls fresh body (← ai6 ri tgt d))=some (f1,rb):=by rw [← hF] at hfb;exact hfb
    obtain ⟨r1,hbp,hex1⟩:=a6 hfb'
    refine az2 (s:={ s' with heap:=h2,toks:=tk }) tg rm.handled ek SY hv hf (bd3 hbp).1 fun h3 tk3 htk3 S3 hk3 hAt=>?_
    have m3:n7 s { s' with heap:=h3,toks:=tk3 }:=⟨mi.gens,mi.os,Nat.le_trans mi.toks (Nat.le_trans htk htk3)⟩
    have N3:Nx env sc (af3 r src) s.heap r1 h3:=NY.trans (Nx.bind SY S3 hbp hk3 hAt)
    have n3:=ni.bind hbp
    refine wpAny_mono (hbody rm ek hb (Nat.lt_of_lt_of_le ht m3.toks) fa n3 S3 hex1) (fun f s4 q=>?_) fun ξ ξ e=>e
    have hfpo:∀ b∈fp,¬ isOwn env sc b:=fun b hbf q=>by
      rcases hV b hbf with e | e | ⟨x0,j,m0,d0,e1,e2,e4,_⟩
      · exact S3.yown b q (.inr e)
      · have:=(S2.own0 b q).2
        exact e this
      · obtain ⟨v0,a0,_,_,nn,_⟩:=Ssrc.vars x0 j m0 d0 e1 e2
        exact nn b (.inl q) (a0.unique e4)
    have hfps:∀ b∈fp,∀ x i' d',d6 sc x=some i'→r1.get i'=some (.own,d')→¬ At env h3 x (.ref b):=fun b hbf x i' d' q1 q2 q3=>by
      obtain ⟨v0,a0,_,_,nn,oo⟩:=S3.vars x i' _ d' q1 q2
      have ev:=a0.unique q3
      subst ev
      rcases hV b hbf with e | e | ⟨x0,j,m0,d0,e1,e2,e4,e5,e8⟩
      · exact nn b (.inr (.inr e)) rfl
      · obtain ⟨b',eb,_,e0,_⟩:=oo rfl
        cases eb
        cases e6:B2 b with
        | none=>exact e e6
        | some o=>rw [hBi b o e6] at e0;cases e0
      · obtain ⟨e6,e7⟩:=ci3 e2
        have hbE:s.heap.get? b≠none:=by
          obtain ⟨v1,a1,t1,_⟩:=S.vars x0 j m0 d0 e1 e6
          have:=a1.unique e4
          subst this
          exact z7 t1 S.gr.keep
        rcases N3.own x i' d' b q1 q2 q3 with q | ⟨y,jy,dy,p1,p2,p3⟩
        · exact hbE q
        · have p2':=bg4 p2
          by_cases hj:jy=j
          · subst hj
            rw [e6] at p2'
            cases p2'
            rcases e8 with e8 | ⟨j',e8⟩
            · rcases e7 with e7 | e7
              · rw [e7] at e8;cases e8
              · exact e7 rfl
            · have:=e5 j' e8
              subst this
              rcases ag7 r src with ⟨_,q⟩ | ⟨j2,d2,hv2,_,q⟩
              · exact q jy d0 e8 e6
              · rw [e8] at hv2;cases hv2
                rw [q,j7,if_pos ⟨rfl,bf6 e6⟩] at p2
                cases p2
          · exact S.uniq y x0 jy j .own m0 dy d0 b p1 e1 hj p2' rfl e6 p3 e4
    have stay:∀ b∈fp,∀ o,h2.get? b=some o→(∀ h4,Nx env sc r1 h3 rb h4→h4.get? b=some o):=fun b hbf o e h4 N=>(N.fr b o (hk3 b o (hfpo b hbf) e) (hfpo b hbf) (hfps b hbf)).solid (by obtain ⟨o',e',hs⟩:=hex _ _ st2' b hbf;rw [e] at e';cases e';exact hs)
    unfold FlP at q
    cases f1 <;> cases f <;> first | exact q.elim | skip
    · obtain ⟨B4,l4,S4,m4,N4,n4⟩:=q
      exact ⟨its.length+1 - (i+1),by lia,i+1,B4,rb,hlt,rfl,S4,hBi.trans l4,m3.trans m4,W.frame _ _ _ st2' (fun b hbf o e=>stay b hbf o e _ N4),N3.trans N4,n4,hfl⟩
    · obtain ⟨B4,l4,S4,m4,N4,n4⟩:=q
      cases hfl
      have hle:B.le B4:=(g2.le.trans hBi).trans l4
      exact ⟨B4,hle,(S4.unlockS (src:=src) (r0:=r)).subY fun a q=>.inl q,m3.trans m4,Nx.unlock S (N3.trans N4) hn,n4.unlockS hn⟩
    · cases hfl
      obtain ⟨B4,q1,q2,q3⟩:=q
      exact ⟨B4,q1,m3.trans q2,q3⟩
  · have hin:i=its.length:=by exact Nat.le_antisymm ‹_› (Nat.not_lt.mp ‹_›)
    subst hin
    refine W.done _ _ _ sti fun h' tk hk htk=>?_
    simp only
    refine wpAny_execs_nil ?_
    rw [List.drop_of_length_le (Nat.le_refl _)] at hfl
    unfold y4 at hfl
    cases hfl
    have Sd:Sim prog w h0 B0 env sc rE Bi Y h':=Si.off2 (fun b o q e=>hk b o (fun q'=>q (.inr q')) e) (fun ξ q=>.inl q) fun b q=>by
      by_cases e:b∈wr
      · exfalso
        exact (hwn b e).1 |> fun e1=>by
          have:=(S.y0 b q).2.2
          exact this e1
      · cases e1:s'.heap.get? b with
        | none=>exact absurd e1 (Si.y0 b (.inl q)).2.2
        | some o=>rw [hk b o e e1];simp
    have Nd:Nx env sc (af3 r src) s.heap rE h':=Ni.off Si hXw hk
    exact ⟨Bi,g2.le.trans hBi,Sd.unlockS,⟨mi.gens,mi.os,Nat.le_trans mi.toks htk⟩,Nx.unlock S Nd hn,ni.unlockS hn⟩
end
end
section
open PySem.Calls PySem.SeqAt
noncomputable def bl3 (e:PySem.Expr):Bool:=e.ctorIdx != 8 && (e.ctorIdx != 9 && e.ctorIdx != 10)
section
variable {w:World} {h₀:Heap} {mg mb:Str→Option Value} {k:Nat} {calls:String→List D→Option D} {fresh:String→Bool} {sc:Scope}
variable (w h₀ k calls) in
noncomputable def dw2 (sc:Scope) (e:PySem.Expr) (ir:IR):Prop:=
  ∀ ⦃A E s env r B d⦄,Ok prog w h₀ k A env sc r B s→eval calls ir r=some d→wpAny (model prog w) A (PySem.eval e env) (FrP prog w B s d) E s
theorem ao5 {x:Str} {p pos:Pos} {e:PySem.Expr} {A:Around} {E:Value→Shared→Prop} {s:Shared} {env:Env} {Q:Flow→Shared→Prop} (hc:bl3 e=true)
    (h:wpAny (model prog w) A (PySem.eval e env) (fun v s1=>wpAny (model prog w) A (assign (.Name x p) env v) (fun ξ=>Q .next) E s1) E s):wpAny (model prog w) A (PySem.exec (.Assign [.Name x p] e pos) env) Q E s:=by
  refine wpAny_Assign_stores h ?_ ?_
  · cases e <;> first | rfl | cases hc
  · cases e <;> rfl
theorem by8 {h0:Heap} {B0:FM} {Y:Addr→Prop} {A:Around} {E:Value→Shared→Prop} {s0 s:Shared} {env:Env} {r0 r r2:Rho} {Bs B:FM} {x:Str} {p:Pos} {i:Nat} {d:D} {v:Value} (hw:l7 sc x=some i) (hh:A.handled=none) (ek:t9 env sc)
    (S:Sim prog w h0 B0 env sc r B Y s.heap) (n:y6 sc r) (hB:Bs.le B) (m:n7 s0 s) (N:Nx env sc r0 s0.heap r s.heap) (hv:Rd prog w B d v) (hp:r.put i .fr d=some r2) :
    wpAny (model prog w) A (assign (.Name x p) env v) (fun ξ s'=>NxP w h0 B0 env sc Y r0 Bs s0 r2 s'∧∀ c o,¬ isOwn env sc c→s.heap.get? c=some o→s'.heap.get? c=some o) E s:=by
  have hb:=y3 hp
  refine az2 (ag6.name hw) hh ek S (hv.top S.gr.keep) (fun ξ=>hv) (bd3 hb).1 fun h' tk htk S' hk hAt=>?_
  exact ⟨⟨B,hB,S',⟨m.gens,m.os,Nat.le_trans m.toks htk⟩,N.trans (Nx.bind S S' hb hk hAt),n.bind hb⟩,hk⟩
theorem cn0 {h0:Heap} {B0:FM} {Y:Addr→Prop} {A:Around} {E:Value→Shared→Prop} {s0 s:Shared} {env:Env} {r0 r r2:Rho} {Bs B:FM} {x:Str} {p:Pos} {i:Nat} {d:D} {v:Value} (hw:l7 sc x=some i) (hh:A.handled=none) (ek:t9 env sc)
    (S:Sim prog w h0 B0 env sc r B Y s.heap) (n:y6 sc r) (hB:Bs.le B) (m:n7 s0 s) (N:Nx env sc r0 s0.heap r s.heap) (hv:Rd prog w B d v) (hp:r.put i .fr d=some r2) :
    wpAny (model prog w) A (assign (.Name x p) env v) (fun ξ s'=>NxP w h0 B0 env sc Y r0 Bs s0 r2 s') E s:=
  wpAny_mono (by8 hw hh ek S n hB m N hv hp) (fun ξ ξ q=>q.1) fun ξ ξ e=>e
theorem c5 {x:Str} {i:Nat} {own:Bool} {p pos:Pos} {e:PySem.Expr} {ir:IR} (hw:l7 sc x=some i) (hc:bl3 e=true) (he:i8 w h₀ k calls sc e ir) (hm:(own && be8 fresh ir)=false) :
    al7 prog w h₀ k calls fresh sc (.Assign [.Name x p] e pos) (.assign i own ir):=fun A E env r B s h0 B0 Y res rm ek hb ht fa hn S h=>by
  obtain ⟨d,hd,h⟩:=a6 h
  obtain ⟨r2,hp,h⟩:=a6 h
  cases h
  rw [hm] at hp
  obtain ⟨B1,l1,S1,N1,n1⟩:=S.val (ir:=ir) hn
  refine ao5 hc (ak4 he (Sim.ok S1 rm ek hb ht fa) hd fun v s2 B2 g2 m2 r2' ok2=>?_)
  exact cn0 hw rm.handled ek (S1.ev g2) n1 (l1.trans g2.le) m2 (N1.trans (S1.nx_ev g2)) r2' hp
theorem bo3 {h0:Heap} {B0:FM} {Y:Addr→Prop} {A:Around} {E:Value→Shared→Prop} {s0 s:Shared} {env:Env} {r0 r r2:Rho} {Bs B:FM} {x:Str} {p:Pos} {i:Nat} {d:D} {a:Addr} (hw:l7 sc x=some i) (ek:t9 env sc)
    (S:Sim prog w h0 B0 env sc r B Y s.heap) (n:y6 sc r) (hB:Bs.le B) (m:n7 s0 s) (N:Nx env sc r0 s0.heap r s.heap) (t:f6 prog w s.heap B d (.ref a)) (hz:h0.get? a=none) (hBa:B a=none) (hpl:aa1 s.heap a)
    (hna:∀ b,isOwn env sc b∨Y b→a≠b) (hno:∀ y j m d',d6 sc y=some j→r.get j=some (m,d')→¬ At env s.heap y (.ref a)) (hor:s0.heap.get? a=none∨∃ y j d2,d6 sc y=some j∧r0.get j=some (.own,d2)∧At env s0.heap y (.ref a))
    (hp:r.put i .own d=some r2):wpAny (model prog w) A (assign (.Name x p) env (.ref a)) (fun ξ s'=>NxP w h0 B0 env sc Y r0 Bs s0 r2 s'∧∀ c o,¬ isOwn env sc c→s.heap.get? c=some o→s'.heap.get? c=some o) E s:=by
  obtain ⟨hs,hx⟩:=e9 hw
  obtain ⟨e2,hlt,hlk⟩:=ae9 hp
  subst e2
  refine wpAny_assign_Name (S.put (m0:=.own) ek hs hx t nofun (fun b q e=>hna b q (Value.ref.inj e)) (fun ξ=>⟨a,rfl,hz,hBa,hpl⟩) (fun y j m1 d' b q1 ξ q3 ξ q5 e=>hno y j m1 d' q1 q3 (e▸q5)) (fun ξ y j m' d' q1 ξ q3 q5=>hno y j m' d' q1 q3 q5) fun h' tk b htk hob hsb S3 hoth hax=>?_)
  have hk:∀ c o,¬ isOwn env sc c→s.heap.get? c=some o→h'.get? c=some o:=fun c o q e=>(hsb.2 c (fun q'=>q (q'▸hob))).trans e
  refine ⟨⟨B,hB,S3,⟨m.gens,m.os,Nat.le_trans m.toks htk⟩,⟨fun c o e hnc hno2=>(N.fr c o e hnc hno2).trans fun o' e'=>.inl (hk c o' hnc e'),fun y j d' c q1 q2 q3=>?_,fun c q=>S3.ownE q,fun y j d' q1 q2=>?_⟩,fun j d' q=>?_⟩,hk⟩
  · rw [j7] at q2
    split at q2
    · rename_i hc
      cases am7 q1 (hc.1▸hs)
      cases hax.unique q3
      exact hor
    · rename_i hc
      obtain ⟨v0,a0,_⟩:=S.vars y j _ d' q1 q2
      cases (hoth y (bi2 hs q1 q2 hc) v0 a0).unique q3
      exact N.own y j d' c q1 q2 a0
  · obtain ⟨p1,p2⟩:=N.lock y j d' q1 q2
    have hij:i≠j:=fun e=>hlk d' (e▸p1)
    exact ⟨by rw [j7,if_neg (fun q=>hij q.1)];exact p1,fun u au=>hoth y (bi2 hs q1 p1 fun q=>hij q.1) u (p2 u au)⟩
  · rw [j7] at q
    split at q
    · rename_i hc;exact ⟨x,hc.1▸hs⟩
    · exact n j d' q
theorem db0 {h0:Heap} {B0:FM} {Y:Addr→Prop} {A:Around} {E:Value→Shared→Prop} {s0 s:Shared} {env:Env} {r0 r r2:Rho} {Bs B:FM} {x:Str} {p:Pos} {i:Nat} {d:D} {a:Addr} (hw:l7 sc x=some i) (ek:t9 env sc)
    (S:Sim prog w h0 B0 env sc r B Y s.heap) (n:y6 sc r) (hB:Bs.le B) (m:n7 s0 s) (N:Nx env sc r0 s0.heap r s.heap) (t:f6 prog w s.heap B d (.ref a)) (hz:h0.get? a=none) (hBa:B a=none) (hpl:aa1 s.heap a)
    (hna:∀ b,isOwn env sc b∨Y b→a≠b) (hno:∀ y j m d',d6 sc y=some j→r.get j=some (m,d')→¬ At env s.heap y (.ref a)) (hor:s0.heap.get? a=none∨∃ y j d2,d6 sc y=some j∧r0.get j=some (.own,d2)∧At env s0.heap y (.ref a))
    (hp:r.put i .own d=some r2):wpAny (model prog w) A (assign (.Name x p) env (.ref a)) (fun ξ s'=>NxP w h0 B0 env sc Y r0 Bs s0 r2 s') E s:=
  wpAny_mono (bo3 hw ek S n hB m N t hz hBa hpl hna hno hor hp) (fun ξ ξ q=>q.1) fun ξ ξ e=>e
theorem bx5 {h0:Heap} {B0:FM} {Y:Addr→Prop} {A:Around} {E:Value→Shared→Prop} {s0 s s2:Shared} {env:Env} {r0 r r2:Rho} {Bs B:FM} {x:Str} {p:Pos} {i:Nat} {d:D} {v:Value} {ow:Bool} (hw:l7 sc x=some i) (hh:A.handled=none) (ek:t9 env sc)
    (S:Sim prog w h0 B0 env sc r B Y s.heap) (n:y6 sc r) (hB:Bs.le B) (m:n7 s0 s) (N:Nx env sc r0 s0.heap r s.heap) (q:FrP prog w B s d v s2) (hor:∀ a,s.heap.get? a=none→s0.heap.get? a=none) (hp:r.put i (bif ow then .own else .fr) d=some r2) :
    wpAny (model prog w) A (assign (.Name x p) env v) (fun ξ s'=>NxP w h0 B0 env sc Y r0 Bs s0 r2 s') E s2:=by
  cases ow with
  | false=>
    obtain ⟨B2,g2,t2,m2⟩:=q.ev
    exact cn0 hw hh ek (S.ev g2) n (hB.trans g2.le) (m.trans m2) (N.trans (S.nx_ev g2)) t2 hp
  | true=>
    obtain ⟨B2,a,rfl,g2,hna,hBa,tt,m2,hpl⟩:=q
    refine db0 hw ek (S.ev g2) n (hB.trans g2.le) (m.trans m2) (N.trans (S.nx_ev g2)) tt (S.gr.old.back hna) hBa hpl (fun b q e=>?_) (fun y j m d' q1 q2 q3=>?_) (.inl (hor a hna)) hp
    · subst e
      exact q.elim (fun q=>S.ownE q hna) fun q=>(S.y0 a q).2.2 hna
    · obtain ⟨v0,a0,t0,_⟩:=S.vars y j m d' q1 q2
      cases (a0.keeps g2.old).unique q3
      exact z7 t0 S.gr.keep hna
theorem j4 {x:Str} {i:Nat} {p pos:Pos} {e:PySem.Expr} {ir:IR} (hw:l7 sc x=some i) (hc:bl3 e=true) (he:dw2 w h₀ k calls sc e ir) (hf:be8 fresh ir=true) :
    al7 prog w h₀ k calls fresh sc (.Assign [.Name x p] e pos) (.assign i true ir):=fun A E env r B s h0 B0 Y res rm ek hb ht fa hn S h=>by
  obtain ⟨d,hd,h⟩:=a6 h
  obtain ⟨r2,hp,h⟩:=a6 h
  cases h
  rw [hf] at hp
  obtain ⟨B1,l1,S1,N1,n1⟩:=S.val (ir:=ir) hn
  exact ao5 hc (wpAny_mono (he (Sim.ok S1 rm ek hb ht fa) hd) (fun v s2 q=>bx5 (ow:=true) hw rm.handled ek S1 n1 l1 (.refl s) N1 q (fun ξ e=>e) hp) fun ξ ξ e=>e)
end
end
section
open PySem.Calls PySem.SeqAt
section
variable {w:World} {h₀:Heap} {mg mb:Str→Option Value} {k:Nat} {calls:String→List D→Option D} {fresh:String→Bool} {sc:Scope}
theorem bv7 {x:Str} {i:Nat} {own:Bool} {p pos:Pos} {sc':Scope} {val iter:PySem.Expr} {newAcc:Sem Value} {ir:IR} (hw:l7 sc x=some i) (hcp:dn8 w h₀ k calls sc sc' val iter newAcc ir) (hv:ir.v=none)
    (hev:∀ env,∃ p,PySem.eval val env=comprehension val sc' env p newAcc false (PySem.eval iter env) none) (hev2:∀ env u,∃ p,evalThenUse val env u=(do let _ ← comprehension val sc' env p newAcc false (PySem.eval iter env) (some u)))
    (hsw:∀ env,∃ b,swapsWith val (some (.Name x p)) pos.line env=pure b) (hst:∀ env,swappedStores [.Name x p] val env=pure none) :
    al7 prog w h₀ k calls fresh sc (.Assign [.Name x p] val pos) (.assign i own ir):=fun A E env r B s h0 B0 Y res rm ek hb htk fa hn S h=>by
  obtain ⟨d,hd,h⟩:=a6 h
  obtain ⟨r2,hp,h⟩:=a6 h
  cases h
  have hval:an7 r ir=r:=by unfold an7;rw [hv]
  rw [hval] at hp hd
  have ok:=Sim.ok S rm ek hb htk fa
  obtain ⟨b,hsw⟩:=hsw env
  cases b
  · refine wpAny_Assign_stores (wpAny_mono (eb5 hcp hev ok hd) (fun v s1 q=>?_) fun ξ ξ e=>e) hsw (hst env)
    exact bx5 hw rm.handled ek S hn (.refl _) (.refl s) S.nx q (fun ξ e=>e) hp
  · rw [exec_Assign_Name_used _ _ _ _ hsw]
    refine wpAny_bind (wpAny_standAt (wpAny_bind ?_))
    obtain ⟨pp,he2⟩:=hev2 env (assign (.Name x p) env)
    rw [he2]
    refine wpAny_bind (wpAny_mono (hcp (use:=some (assign (.Name x p) env)) (Q:=fun ξ s'=>NxP w h0 B0 env sc Y r B s r2 s') ok hd fun Dd C s' q=>?_) (fun ξ s' q=>wpAny_pure (wpAny_pure q)) fun ξ ξ e=>e)
    obtain ⟨Bn,o,g,m,hD,hC,hne,hBD,hBC,hDo,hpl,t,hz,⟨mm,hns⟩⟩:=q
    have hCe:s'.heap.get? C≠none:=by obtain ⟨oc,_,_,e,_⟩:=hns;rw [e];simp
    have hCo:¬ isOwn env sc C:=fun q=>S.ownE q hC
    have add:∀ {B':FM},Gr B s.heap B' s'.heap→B' C=none→Sim prog w h0 B0 env sc r B' (fun a=>Y a∨a=C) s'.heap:=fun g e=>S.addY g fun a q=>by subst q;exact ⟨hC,e,hCe⟩
    have fin:∀ {B':FM},Gr B s.heap B' s'.heap→∀ s2,NxP w h0 B0 env sc (fun a=>Y a∨a=C) r B s r2 s2∧(∀ c o,¬ isOwn env sc c→s'.heap.get? c=some o→s2.heap.get? c=some o)→
        ∃ m,s2.heap.Ns C m∧∀ h3,Heap.SameBut C s2.heap h3→NxP w h0 B0 env sc Y r B s r2 { s2 with heap:=h3 }:=fun g' s2 q=>by
      obtain ⟨⟨B2,l2,S2,m2,N2,n2⟩,hk⟩:=q
      refine ⟨mm,hns.at' fun o e=>hk C o hCo e,fun h3 hsb=>?_⟩
      have hk3:∀ b o,¬ b=C→s2.heap.get? b=some o→h3.get? b=some o:=fun b o q e=>(hsb.2 b q).trans e
      refine ⟨B2,l2,S2.off2 (fun b o q e=>hk3 b o (fun q'=>q (.inr q')) e) (fun ξ q=>.inl q) (fun b q=>?_),⟨m2.gens,m2.os,m2.toks⟩,N2.off (X:=fun a=>a=C) S2 (fun b q=>⟨.inr q,q▸hC⟩) hk3,n2⟩
      have hbC:b≠C:=fun e=>by subst e;exact (S.y0 b q).2.2 hC
      rw [hsb.2 b hbC];exact (S2.y0 b (.inl q)).2.2
    show wpAny _ A (assign (.Name x p) env (.ref Dd)) _ _ s'
    cases hm:(own && be8 fresh ir) with
    | false=>
      rw [hm] at hp
      have g':=g.freeze hD hDo
      have S1:=add g' (by simp [FM.add,Ne.symm hne,hBC])
      exact wpAny_mono (by8 hw rm.handled ek S1 hn g'.le m (S.nx_ev g') (hz _ (FM.le_add fun o' e=>by rw [hBD] at e;cases e) (FM.add_self ..)) hp) (fun ξ s2 q=>fin g' s2 q) fun ξ ξ e=>e
    | true=>
      rw [hm] at hp
      have S1:=add g hBC
      refine wpAny_mono (bo3 hw ek S1 hn g.le m (S.nx_ev g) t (S.gr.old.back hD) hBD (fun o' e=>by rw [hDo] at e;cases e;exact hpl) (fun b q e=>?_) (fun y j m d' q1 q2 q3=>?_) (.inl hD) hp) (fun ξ s2 q=>fin g s2 q) fun ξ ξ e=>e
      · subst e
        exact q.elim (fun q=>S.ownE q hD) fun q=>q.elim (fun q=>(S.y0 _ q).2.2 hD) hne
      · obtain ⟨v0,a0,t0,_⟩:=S.vars y j m d' q1 q2
        cases (a0.keeps g.old).unique q3
        exact z7 t0 S.gr.keep hD
theorem bt0 {x:Str} {i:Nat} {own:Bool} {p pos:Pos} {elt target iter:PySem.Expr} {ifs:List PySem.Expr} {sc':Scope} {cpos:Pos} {tgt:List Nat} {isrc:IR} {irs:List IR} {ir:IR} (hw:l7 sc x=some i)
    (cs:au4 sc' sc) (hset:ai1 iter=true) (tg:ag6 sc' target tgt) (hsrc:al9 w h₀ k calls sc iter isrc target) (ht:a9 (ap7 w h₀ k calls sc') ifs irs) (he:i8 w h₀ k calls sc' elt ir) :
    al7 prog w h₀ k calls fresh sc (.Assign [.Name x p] (.ListComp elt [⟨target,iter,ifs,0⟩] sc' cpos) pos) (.assign i own (.comp (ai4 sc' sc) tgt isrc irs ir)):=
  bv7 hw (bz8 cs hset tg hsrc ht he) rfl (fun env=>⟨_,rfl⟩) (fun env u=>⟨_,rfl⟩) (fun env=>⟨_,rfl⟩) fun env=>rfl
theorem bk6 {x:Str} {i:Nat} {own:Bool} {p pos:Pos} {key elt target iter:PySem.Expr} {sc':Scope} {cpos:Pos} {tgt:List Nat} {isrc:IR} {ik ir:IR} (G:Glb h₀ mg mb) (hw:l7 sc x=some i)
    (cs:au4 sc' sc) (hset:ai1 iter=true) (tg:ag6 sc' target tgt) (hsrc:al9 w h₀ k calls sc iter isrc target) (hk:i8 w h₀ k calls sc' key ik) (he:i8 w h₀ k calls sc' elt ir) :
    al7 prog w h₀ k calls fresh sc (.Assign [.Name x p] (.DictComp key elt [⟨target,iter,[],0⟩] sc' cpos) pos) (.assign i own (.dcomp (ai4 sc' sc) tgt isrc [] ik ir)):=
  bv7 hw (da1 G cs hset tg hsrc hk he) rfl (fun env=>⟨_,rfl⟩) (fun env u=>⟨_,rfl⟩) (fun env=>⟨_,rfl⟩) fun env=>rfl
end
end
section
open PySem.Calls PySem.SeqAt
section
variable {w:World} {h₀:Heap} {mg mb:Str→Option Value} {k:Nat} {calls:String→List D→Option D} {fresh:String→Bool} {sc:Scope}
theorem ab2 {x:Str} {i:Nat} {p pos:Pos} (hs:d6 sc x=some i):al7 prog w h₀ k calls fresh sc (.Return (some (.Name x p)) pos) (.ret (.var i)):=fun A E env r B s h0 B0 Y res rm ek hb ht fa hn S h=>by
  obtain ⟨⟨m,d⟩,hr,h⟩:=a6 h
  cases m with
  | own=>
    cases h
    obtain ⟨v,a,t,_,_,o⟩:=S.vars x i _ d hs hr
    obtain ⟨b,rfl,e1,e2,e3⟩:=o rfl
    exact wpAny_Return_some (a.load ek.kind (j3 hs) ⟨B,S.gr,.refl s,b,rfl,e1,e2,t,e3⟩)
  | fr=>
    cases h
    obtain ⟨v,a,t,f,_⟩:=S.vars x i _ d hs hr
    exact wpAny_Return_some (a.load ek.kind (j3 hs) ⟨B,S.gr,.refl s,f rfl⟩)
  | _=>cases h
theorem eg8 {e:PySem.Expr} {ir:IR} {pos:Pos} (he:i8 w h₀ k calls sc e ir) (hv:ir.v=none):al7 prog w h₀ k calls fresh sc (.Return (some e) pos) (.ret ir):=fun A E env r B s h0 B0 Y res rm ek hb ht fa hn S h=>by
  unfold exec SI.ret at h
  rw [hv] at h
  obtain ⟨d,hd,h⟩:=a6 h
  cases h
  obtain ⟨B1,l1,S1,N1⟩:=S.frzFrom r.length hn
  refine wpAny_Return_some (ak4 he (Sim.ok S1 rm ek hb ht fa) hd fun v s2 B2 g2 m2 r2 ok2=>?_)
  exact ⟨B2,S1.gr.trans g2,m2,r2⟩
theorem av8 {b:List Stmt} {body:List SI} {h1:ExceptHandler} {hs:List ExceptHandler} {pos:Pos} (hbody:aa4 prog w h₀ k calls fresh sc b body):al7 prog w h₀ k calls fresh sc (.Try b (h1 :: hs) [] [] pos) (.try_ body):=fun A E env r B s h0 B0 Y res rm ek hb ht fa hn S h=>by
  refine wpAny_Try_except (wpAny_mono (hbody rm ek hb ht fa hn S h) (fun f s1 q=>?_) fun ξ ξ e=>e)
  obtain ⟨fl,r1⟩:=res
  unfold FlP at q⊢
  cases fl <;> cases f <;> first | exact q.elim | skip
  · exact wpAny_execs_nil q
  · exact q
  · exact q
noncomputable def cw8 (e:PySem.Expr):Bool:=e.ctorIdx != 25 && bl3 e
theorem df1 {ts:List PySem.Expr} {is:List Nat} {kd:Nat} {p pos:Pos} {e:PySem.Expr} {ir:IR} (hts:a9 (fun e i=>∃ x p,e=PySem.Expr.Name x p∧l7 sc x=some i) ts is) (hc:cw8 e=true) (he:i8 w h₀ k calls sc e ir) :
    al7 prog w h₀ k calls fresh sc (.Assign [.Tuple ts kd p] e pos) (.unpack is ir):=fun A E env r B s h0 B0 Y res rm ek hb ht fa hn S h=>by
  obtain ⟨d,hd,h⟩:=a6 h
  obtain ⟨ds,hds,h⟩:=a6 h
  obtain ⟨r2,hu,h⟩:=a6 h
  cases h
  obtain rfl:=bk9 hds
  obtain ⟨q1,q2,q3⟩:=bf7 hu
  subst q2
  have sw:swapsWithSole [.Tuple ts kd p] e pos.line env=pure false:=by cases e <;> first | rfl | cases hc
  have ss:swappedStores [.Tuple ts kd p] e env=pure none:=by cases e <;> first | rfl | cases hc
  refine wpAny_Assign_stores (ak4 he (Sim.ok S rm ek hb ht fa) hd fun v s2 B2 g2 m2 rr ok2=>?_) sw ss
  obtain ⟨a,o,vs,rfl,hbo,x,rl⟩:=rr
  have S2:=S.ev g2
  obtain ⟨el1,el2⟩:=cu8 (env:=env) hts
  show wpAny _ A (assign (.Tuple ts kd p) env (.ref a)) _ _ s2
  refine wpAny_assign_Tuple rm.handled (x.isTuple (g2.keep _ _ hbo)) (by rw [el1,← q1];simp [rl.length]) el2 fun h' hext=>?_
  have old:∀ b o,s2.heap.get? b=some o→h'.get? b=some o:=fun b o e=>hext b o (Nat.ne_of_lt (Heap.lt_size e)) e
  have g3:=Gr.heap S2.gr.keep old
  refine bt1 hts ek (S2.ev g3) (by simpa using rl) q1 fun h'' tk htk S'' hk hAt=>?_
  have N1:=(S.nx_ev g2).trans (S2.nx_ev g3)
  refine ⟨B2,g2.le,S'',⟨m2.gens,m2.os,Nat.le_trans m2.toks htk⟩,N1.trans ?_,fun i d' q=>hn i d' (aj3 is ds r i _ d' q1 q (by simp)).1⟩
  refine ⟨fun b o e hn' ξ=>.inl (hk b o hn' e),fun x i d a q q2 q4=>?_,fun a q=>S''.ownE q,fun x i d q q2=>?_⟩
  · obtain ⟨e1,e2⟩:=aj3 is ds r i _ d q1 q2 (by simp)
    obtain ⟨v,a0,_⟩:=(S2.ev g3).vars x i _ d q e1
    have:=(hAt x i q e2 v a0).unique q4
    subst this
    exact .inr ⟨x,i,d,q,e1,a0⟩
  · have hni:i ∉ is:=fun q'=>q3 i q' d q2
    exact ⟨bb9 is ds r i _ hni q2,hAt x i q hni⟩
end
end
section
open PySem.Calls PySem.SeqAt
section
variable {w:World} {h₀:Heap} {mg mb:Str→Option Value} {k:Nat} {calls:String→List D→Option D} {fresh:String→Bool} {sc:Scope}
theorem bd5 {h0:Heap} {B0:FM} {Y:Addr→Prop} {env:Env} {r:Rho} {B:FM} {h:Heap} {x:Str} {i:Nat} {d:D} {a:Addr} (S:Sim prog w h0 B0 env sc r B Y h) (hs:d6 sc x=some i) (hr:r.get i=some (.own,d)) (ha:At env h x (.ref a)) :
    ¬ env.locals=a∧∀ y c,env.cells.lookup y=some c→¬ c=a:=by
  obtain ⟨v,a0,t0,_,n0,_⟩:=S.vars x i _ d hs hr
  have e:=ha.unique a0
  subst e
  refine ⟨fun q=>n0 a (.inl (.inl q.symm)) rfl,?_⟩
  rintro y c hc rfl
  obtain ⟨v,o,e1,e2⟩:=S.fm.cellE y c hc
  have:∃ o,h.get? c=some o∧(∀ v,o.data≠.cell v):=by
    cases d with
    | none=>cases t0
    | bool b=>cases t0
    | int i=>obtain ⟨_,_,e⟩:=t0;cases e
    | str x=>obtain ⟨_,_,e⟩:=t0;cases e
    | list l=>obtain ⟨a',o,vs,e,ho,⟨_,n,hd⟩,_⟩:=t0;cases e;exact ⟨o,ho,fun v q=>by rw [hd] at q;cases q⟩
    | tuple l=>obtain ⟨a',o,vs,e,ho,⟨_,n,hd⟩,_⟩:=t0;cases e;exact ⟨o,ho,fun v q=>by rw [hd] at q;cases q⟩
    | dict l=>obtain ⟨a',o,vs,e,ho,⟨⟨es,ep,_,hd,_⟩,_⟩,_⟩:=t0;cases e;exact ⟨o,ho,fun v q=>by rw [hd] at q;cases q⟩
  obtain ⟨o',e3,e4⟩:=this
  rw [e1] at e3;cases e3
  exact e4 _ e2
theorem Sim.mut_nx {h0:Heap} {B0:FM} {Y:Addr→Prop} {env:Env} {r:Rho} {B:FM} {h h':Heap} {x:Str} {i:Nat} {d d':D} {a:Addr} (S:Sim prog w h0 B0 env sc r B Y h) (S':Sim prog w h0 B0 env sc (r.set i (some (.own,d'))) B Y h') (hs:d6 sc x=some i)
    (hr:r.get i=some (.own,d)) (ha:At env h x (.ref a)) (hsb:Heap.SameBut a h h'):Nx env sc r h (r.set i (some (.own,d'))) h':=by
  obtain ⟨hl,hc⟩:=bd5 S hs hr ha
  have hk:∀ b o,¬ b=a→h.get? b=some o→h'.get? b=some o:=fun b o q e=>(hsb.2 b q).trans e
  have hAt:∀ y u,At env h y u→At env h' y u:=fun y u q=>q.off hk hl (hc y)
  refine ⟨fun b o e ξ hn=>.inl (hk b o (fun q=>hn x i d hs hr (q▸ha)) e),fun y j d2 c q1 q2 q3=>?_,fun c q=>S'.ownE q,fun y j d2 q1 q2=>⟨?_,hAt y⟩⟩
  · obtain ⟨d3,h3⟩:∃ d3,r.get j=some (.own,d3):=by
      rw [j7] at q2
      split at q2
      · rename_i hc;exact ⟨d,hc.1▸hr⟩
      · exact ⟨_,q2⟩
    obtain ⟨v,a0,_⟩:=S.vars y j _ d3 q1 h3
    have:=(hAt y v a0).unique q3
    subst this
    exact .inr ⟨y,j,d3,q1,h3,a0⟩
  · rw [j7,if_neg]
    · exact q2
    · rintro ⟨rfl,_⟩
      rw [hr] at q2;cases q2
theorem y6.set_own {r:Rho} {i:Nat} {x:Str} {d':D} (n:y6 sc r) (hs:d6 sc x=some i):y6 sc (r.set i (some (.own,d'))):=by
  intro j d2 q
  rw [j7] at q
  split at q
  · rename_i hc;exact ⟨x,hc.1▸hs⟩
  · exact n j d2 q
theorem ar5 {h0:Heap} {B0:FM} {Y:Addr→Prop} {env:Env} {r:Rho} {B:FM} {h:Heap} {x:Str} {i:Nat} {l:List D} (S:Sim prog w h0 B0 env sc r B Y h) (hs:d6 sc x=some i) (hr:r.get i=some (.own,.list l)) :
    ∃ a vs n,At env h x (.ref a)∧h.get? a=some { cls:=.type "list",data:=.seq vs.toArray n }∧RdL prog w B l vs:=by
  obtain ⟨v,a0,t0,_,n0,o0⟩:=S.vars x i _ _ hs hr
  obtain ⟨a,rfl,_,_,hp⟩:=o0 rfl
  obtain ⟨a',o,vs,e,ho,⟨c1,n,c2⟩,rl⟩:=t0
  cases e
  obtain ⟨p1,p2⟩:=hp o ho
  obtain ⟨cls,dct,dt,sl⟩:=o
  simp only at c1 c2 p1 p2
  subst c1 c2 p1 p2
  exact ⟨a,vs,n,a0,ho,rl⟩
theorem av5 {env:Env} (ek:t9 env sc):interactive env=false:=by
  unfold interactive
  rw [ek.kind];rfl
theorem bw0 {x:Str} {i:Nat} {np ap cp ep:Pos} {e:PySem.Expr} {ir:IR} (hs:d6 sc x=some i) (hp:(ap.endLine == cp.line)=true) (hne:m8 e=true) (he:i8 w h₀ k calls sc e ir) :
    al7 prog w h₀ k calls fresh sc (.Expr (.Call (.Attribute (.Name x np) "append" ap) [e] [] cp) ep) (.append i ir):=fun A E env r B s h0 B0 Y res rm ek hb ht fa hn S h=>by
  obtain ⟨d,hd,h⟩:=a6 h
  obtain ⟨B1,l1,S1,N1,n1⟩:=S.val (ir:=ir) hn
  obtain ⟨d0,hr,h⟩:=a6 h
  obtain ⟨l,hl,h⟩:=a6 h
  obtain ⟨hz,h⟩:=g6 h
  obtain ⟨r2,hput,h⟩:=a6 h
  cases h
  obtain rfl:=l6 hl
  have hr:=ar8 hr
  obtain ⟨e2,hlt,_⟩:=ae9 hput
  subst e2
  obtain ⟨a,vs,n,ha,ho,rl⟩:=ar5 S1 hs hr
  refine wpAny_Expr (wpAny_Call_method (at7 rfl) (bc3 (f7 hne rfl) (by show 1 < 20;decide)) hp F.plainAttrs_list slot_list_append type_list_append ?_) (av5 ek) rfl
  refine ha.load ek.kind (j3 hs) ⟨⟨_,ho,rfl⟩,fun b q=>(by cases q;exact ⟨_,ho,rfl⟩),?_⟩
  refine callWith_method1 (bh0 (.cons he .nil) (f7 hne rfl) (Sim.ok S1 rm ek hb ht fa) (show (do let d ← eval calls ir (an7 r ir);some [d])=some [d] by rw [hd];rfl) fun us s2 B2 g2 m2 rr ok2=>?_) (c9 hne) rfl
  obtain ⟨u,us',rfl,ru,rr⟩:=rr
  obtain rfl:=rr
  have S2:=S1.ev g2
  have hlen:=rl.length
  refine wpAny_list_append_plain ⟨n,g2.old.solid ho (.seq rfl)⟩ (fun h6 hl6 hsb=>?_) (by rw [List.size_toArray,hlen];exact Nat.le_of_succ_le (ai5 hz))
  obtain ⟨n6,ho6⟩:=hl6
  have tt:f6 prog w h6 B2 (.list (l ++ [d])) (.ref a):=show f6 prog w _ _ (.list _) _ from ⟨a,_,vs ++ [u],rfl,ho6,⟨rfl,n6,by simp⟩,(rl.mono g2.le).append (RdL.cons ru RdL.nil)⟩
  have hpl:aa1 h6 a:=fun o q=>by rw [ho6] at q;cases q;exact ⟨rfl,rfl⟩
  have a2:=ha.keeps g2.old
  have S3:=S2.mut hs hr a2 hsb tt hpl
  exact ⟨B2,l1.trans g2.le,S3,⟨m2.gens,m2.os,m2.toks⟩,N1.trans ((S1.nx_ev g2).trans (S2.mut_nx S3 hs hr a2 hsb)),n1.set_own hs⟩
end
end
section
open PySem.Calls PySem.SeqAt
section
variable {w:World} {A:Around} {E:Value→Shared→Prop} {s:Shared}

theorem bu7 {l:Addr} {xs:Array Value} {n:Nat} {k:Int} {t:Tok} {v:Value} {Q:Unit→Shared→Prop} (ho:s.heap.get? l=some (seqObj "list" xs n)) (h0:0≤k) (hfit:k < 2 ^ 63) (hn:k < xs.size)
    (hQ:∀ h' n',h'.get? l=some (seqObj "list" (xs.setIfInBounds k.toNat v) n')→Heap.SameBut l s.heap h'→Q () { s with heap:=h' }):wpAny (model prog w) A (setItem (.ref l) (.int k t) v) Q E s:=by
  have hl:s.heap.IsList l xs:=⟨_,ho,rfl,n,rfl⟩
  unfold setItem
  try with_reducible refine wpAny_holding ?_
  first | refine wpAny_bind (wpAny_pure ?_) | skip
  refine wpAny_bind (wpAny_sequenceKey hl.typeIs (by decide) ?_)
  refine wpAny_bind (wpAny_callSpecial?_slot (name:=Str.ofString "__setitem__") hl.typeIs slot_list_setitem
    (wpAny_call_entry slot_list_setitem hl.typeIs entry_list_setitem ?_ (args_list_setitem _ _ _)))
  show wpAny _ _ (Builtin.List.listSubscript? (.int k t) >>= _) _ _ s
  refine wpAny_bind (wpAny_listSubscript_int (fitsIndex_of h0 hfit) ?_)
  clear hfit
  obtain ⟨j,rfl⟩:=Int.eq_ofNat_of_zero_le h0
  have hj:j < xs.size:=by lia
  have hx':xs[j]?=some xs[j]:=Array.getElem?_eq_getElem hj
  show wpAny _ _ ((seqItemAt l j >>= fun r=>pure (r.map (j,·))) >>= _) _ _ s
  refine wpAny_bind (wpAny_bind (wpAny_seqItemAt ho rfl (wpAny_pure ?_)))
  rw [hx']
  show wpAny _ _ (setSeqItemAt l j v >>= _) _ _ s
  have fin:=hQ _ _ (get?_update_seq ho (·.setIfInBounds j v)) (Heap.SameBut.update ..)
  refine wpAny_bind (wpAny_setSeqItemAt ho rfl ?_)
  first
    | exact wpAny_bind (wpAny_pure (wpAny_pure ⟨.none,rfl,wpAny_pure fin⟩))
    | exact wpAny_pure ⟨.none,rfl,wpAny_pure fin⟩
end
section
variable {w:World} {h₀:Heap} {mg mb:Str→Option Value} {k:Nat} {calls:String→List D→Option D} {fresh:String→Bool} {sc:Scope}
theorem cx8 {B:FM} {d:D} {v:Value} (hv:Rd prog w B d v):∀ {ds:List D} {vs:List Value} (j:Nat),RdL prog w B ds vs→RdL prog w B (ds.set j d) (vs.set j v)
  | [],vs,j,h=>by obtain rfl:=h;simpa using RdL.nil
  | e :: ds,vs,0,h=>by
    obtain ⟨u,us,rfl,h1,h2⟩:=h
    exact RdL.cons hv h2
  | e :: ds,vs,j+1,h=>by
    obtain ⟨u,us,rfl,h1,h2⟩:=h
    exact RdL.cons h1 (cx8 hv j h2)
theorem dm5 {da db d:D} {a b:Value} {A:Around} {E:Value→Shared→Prop} {s:Shared} {B:FM} (kp:i9 B s.heap) (ha:f6 prog w s.heap B da a) (hb:f6 prog w s.heap B db b) (h:dc4 da db=some d) :
    wpAny (model prog w) A (inplaceOp .Add a b) (EvP prog w B s d) E s:=by
  rcases ai9 h with h | h
  · obtain ⟨x,y,t,u,rfl,rfl,h⟩:=aj8 ha hb h
    cases h
    exact wpAny_iadd_int (EvP.int kp trivial (Nat.le_succ _))
  · obtain ⟨x,y,rfl,rfl,h⟩:=aq8 h
    obtain ⟨t,ht,rfl⟩:=ha
    obtain ⟨u,hu,rfl⟩:=hb
    obtain ⟨hz,h⟩:=g6 h
    cases h
    exact ak0 (PyProof.Rows.iadd_str (fun t' tk htk=>EvP.str kp trivial htk) (ai5 hz))
theorem At.loadName {M:Model} {A:Around} {E:Value→Shared→Prop} {s:Shared} {env:Env} {x:Str} {v:Value} {Q:Value→Shared→Prop} (hk:env.scope.kind = .function) (hx:ax8 x=true) (a:At env s.heap x v) (h:Q v s):wpAny M A (PySem.loadName env x) Q E s:=by
  have h2:(x == ("__classdict__":Str))=false:=by
    exact (Bool.not_eq_true' _).mp (b8 hx).2
  cases a with
  | loc m e hn hv=>exact wpAny_loadName_local hk e hn hv h
  | cell c e hc hv=>
    rcases e with e | e
    · exact wpAny_loadName_cell hk e hc hv h
    · exact wpAny_loadName_free hk e hc hv h h2
theorem ct0 {x:Str} {i:Nat} {np pos:Pos} {e:PySem.Expr} {ir:IR} (hw:l7 sc x=some i) (he:ac2 w h₀ k calls sc e ir) :
    al7 prog w h₀ k calls fresh sc (.AugAssign (.Name x np) .Add e pos) (.aug i .Add ir):=fun A E env r B s h0 B0 Y res rm ek hb ht fa hn S h=>by
  obtain ⟨hs,hx⟩:=e9 hw
  obtain ⟨d2,hd,h⟩:=a6 h
  obtain ⟨da,hr,h⟩:=a6 h
  obtain ⟨v,hv,h⟩:=a6 h
  obtain ⟨r2,hp,h⟩:=a6 h
  cases h
  have hr:=ay3 hr
  obtain ⟨u,a0,t0,f0,_⟩:=S.vars x i _ _ hs hr
  have ok:=Sim.ok S rm ek hb ht fa
  refine wpAny_AugAssign_Name (a0.loadName ek.kind (j3 hs) (k8 he ok hd fun u2 s2 B2 g2 m2 t2 ok2=>?_))
  refine wpAny_mono (dm5 ok2.keep (t0.mono g2.old g2.le) t2 hv) (fun v3 s3 q=>?_) fun ξ ξ e=>e
  obtain ⟨B3,g3,r3,m3⟩:=q
  have g:=g2.trans g3
  have S3:=S.ev g
  have hb':=y3 hp
  refine S3.store ek hs hx r3 fun h' tk a htk hob hsb S4 hoth=>?_
  obtain ⟨e2,_,_⟩:=ae9 hp
  subst e2
  have hk:∀ b o,¬ isOwn env sc b→s3.heap.get? b=some o→h'.get? b=some o:=fun b o q e=>(hsb.2 b (fun p=>q (p▸hob))).trans e
  refine ⟨B3,g.le,S4,⟨(m2.trans m3).gens,(m2.trans m3).os,Nat.le_trans (m2.trans m3).toks htk⟩,(S.nx_ev g).trans (Nx.bind S3 S4 hb' hk fun y j q1 q2 w q=>hoth y (fun e=>?_) w q),hn.bind hb'⟩
  subst e
  exact q2 (Option.some.inj (q1.symm.trans hs)▸.head _)
end
end
section
open PySem.Calls PySem.SeqAt
noncomputable def dd4 (e:PySem.Expr):Bool:=e.ctorIdx != 26
section
variable {w:World} {h₀:Heap} {mg mb:Str→Option Value} {k:Nat} {calls:String→List D→Option D} {fresh:String→Bool} {sc:Scope}
theorem du9 {h0:Heap} {B0:FM} {Y:Addr→Prop} {A:Around} {E:Value→Shared→Prop} {s0 s:Shared} {env:Env} {r0 r r2:Rho} {Bs B:FM} {x:Str} {i:Nat} {d:D} {l:List D} {j:Int} {t:Tok} {a:Addr} {v:Value} (hs:d6 sc x=some i)
    (S:Sim prog w h0 B0 env sc r B Y s.heap) (n:y6 sc r) (hB:Bs.le B) (m:n7 s0 s) (N:Nx env sc r0 s0.heap r s.heap) (hr:r.get i=some (.own,.list l)) (ha:At env s.heap x (.ref a)) (hv:Rd prog w B d v)
    (hj:0≤j) (hlt:j.toNat < l.length) (hfit:j < 1152921504606846976) (hp:r.put i .own (.list (l.set j.toNat d))=some r2) :
    wpAny (model prog w) A (setItem (.ref a) (.int j t) v) (fun ξ s'=>NxP w h0 B0 env sc Y r0 Bs s0 r2 s') E s:=by
  obtain ⟨a',vs,nn,ha',ho,rl⟩:=ar5 S hs hr
  have:=ha'.unique ha
  cases (this)
  have hlen:=rl.length
  refine bu7 (n:=nn) ho hj (by lia) (by simp only [List.size_toArray];lia) fun h' n' hg hsb=>?_
  obtain ⟨e2,_,_⟩:=ae9 hp
  subst e2
  have ev:(vs.toArray.setIfInBounds j.toNat v)=(vs.set j.toNat v).toArray:=by simp
  rw [ev] at hg
  have tt:f6 prog w h' B (.list (l.set j.toNat d)) (.ref a):=show f6 prog w _ _ (.list _) _ from ⟨a,_,vs.set j.toNat v,rfl,hg,⟨rfl,n',rfl⟩,cx8 hv j.toNat rl⟩
  have hpl:aa1 h' a:=fun o q=>by rw [hg] at q;cases q;exact ⟨rfl,rfl⟩
  have S3:=S.mut hs hr ha hsb tt hpl
  exact ⟨B,hB,S3,⟨m.gens,m.os,m.toks⟩,N.trans (S.mut_nx S3 hs hr ha hsb),n.set_own hs⟩
theorem cs9 {x:Str} {i:Nat} {np ip pos:Pos} {ie e:PySem.Expr} {ii ir:IR} (hs:d6 sc x=some i) (hsl:dd4 ie=true) (hi:ac2 w h₀ k calls sc ie ii) (he:ac2 w h₀ k calls sc e ir) :
    al7 prog w h₀ k calls fresh sc (.AugAssign (.Subscript (.Name x np) ie ip) .Add e pos) (.augItem i ii .Add ir):=fun A E env r B s h0 B0 Y res rm ek hb ht fa hn S h=>by
  obtain ⟨kd,hk,h⟩:=a6 h
  obtain ⟨d,hd,h⟩:=a6 h
  obtain ⟨d0,hr,h⟩:=a6 h
  obtain ⟨l,hl,h⟩:=a6 h
  obtain ⟨j,hjd,h⟩:=a6 h
  obtain ⟨hc,h⟩:=g6 h
  have hj:=of_decide_eq_true (b8 hc).1
  have hf:=of_decide_eq_true (b8 hc).2
  obtain ⟨old,hold,h⟩:=a6 h
  obtain ⟨v,hv,h⟩:=a6 h
  obtain ⟨r2,hp,h⟩:=a6 h
  cases h
  obtain rfl:=l6 hl
  obtain rfl:=af9 hjd
  have hr:=ar8 hr
  have hv:dc4 old d=some (.int v):=by
    obtain ⟨x,y,rfl,rfl,hv⟩:=bm3 hv
    cases hv;rfl
  obtain ⟨a,vs,nn,ha,ho,rl⟩:=ar5 S hs hr
  have ok:=Sim.ok S rm ek hb ht fa
  have t0:f6 prog w s.heap B (.list l) (.ref a):=show f6 prog w _ _ (.list _) _ from ⟨a,_,vs,rfl,ho,⟨rfl,nn,rfl⟩,rl⟩
  refine wpAny_AugAssign_Subscript_any ?_ (fun ov iv new=>by cases ie <;> first | rfl | cases hsl)
  refine ha.load ek.kind (j3 hs) (k8 hi ok hk fun u2 s2 B2 g2 m2 t2 ok2=>?_)
  obtain ⟨tj,_,rfl⟩:=t2
  obtain ⟨u3,e3,hv3⟩:=rl.get hold
  refine wpAny_getItem_list (ba0.isList (g2.old.solid ho (.seq rfl)) ⟨rfl,nn,rfl⟩) hj (ed5 hf) (vs.getElem?_toArray▸e3) ?_
  have g3:Gr B2 s2.heap B2 s2.heap:=Gr.refl ok2.keep
  have m3:n7 s2 s2:=.refl s2
  have r3:Rd prog w B2 old u3:=hv3.mono g2.le
  have g23:=g2.trans g3
  have ok3:=ok2.step g3 m3
  refine k8 he ok3 hd fun u4 s4 B4 g4 m4 t4 ok4=>?_
  refine wpAny_mono (dm5 ok4.keep ((r3.mono g4.le).top ok4.keep) t4 hv) (fun u5 s5 q=>?_) fun ξ ξ e=>e
  obtain ⟨B5,g5,r5,m5⟩:=q
  have g:=g23.trans (g4.trans g5)
  have m:=(m2.trans m3).trans (m4.trans m5)
  exact du9 hs (S.ev g) hn g.le m (S.nx_ev g) hr (ha.keeps g.old) r5 hj (by obtain ⟨q,_⟩:=List.getElem?_eq_some_iff.mp hold;exact q) hf hp
end
end
section
open PySem.Calls PySem.SeqAt
section
variable {w:World} {h₀:Heap} {mg mb:Str→Option Value} {k:Nat} {calls:String→List D→Option D} {fresh:String→Bool} {sc:Scope}
theorem bp3 {x:Str} {i:Nat} {np ip pos:Pos} {ke e:PySem.Expr} {ik ir:IR} (hs:d6 sc x=some i) (hk:ac2 w h₀ k calls sc ke ik) (he:i8 w h₀ k calls sc e ir) :
    al7 prog w h₀ k calls fresh sc (.Assign [.Subscript (.Name x np) ke ip] e pos) (.setItem i ik ir):=fun A E env r B s h0 B0 Y res rm ek hb ht fa hn S h=>by
  obtain ⟨v,hv,h⟩:=a6 h
  obtain ⟨y,hy,h⟩:=a6 h
  obtain ⟨d0,hr,h⟩:=a6 h
  obtain ⟨l,hl,h⟩:=a6 h
  obtain ⟨hc,h⟩:=g6 h
  obtain ⟨r2,hput,h⟩:=a6 h
  cases h
  obtain rfl:=ax6 hl
  have hr:=ar8 hr
  obtain ⟨e2,hlt,_⟩:=ae9 hput
  subst e2
  obtain ⟨kx,rfl⟩:=as0 (b8 hc).1
  have h60:=of_decide_eq_true (b8 (b8 hc).2).2
  obtain ⟨v0,a0,t0,_,n0,o0⟩:=S.vars x i _ _ hs hr
  obtain ⟨a,rfl,hza,hba,hpa⟩:=o0 rfl
  obtain ⟨a',o,ps,ea,ho,⟨hd,hsm⟩,rl⟩:=t0
  cases ea
  have ok:=Sim.ok S rm ek hb ht fa
  refine wpAny_Assign_stores (ak4 he ok hv fun u s1 B1 g1 m1 r1 ok1=>?_) (by cases e <;> rfl) (by cases e <;> rfl)
  show wpAny _ _ (assign (.Subscript (.Name x np) ke ip) env u) _ _ _
  refine kas_sub ((a0.keeps g1.old).load ek.kind (j3 hs) (k8 hk ok1 hy fun kv s2 B2 g2 m2 t2 ok2=>?_))
  have g:=g1.trans g2
  have S2:=S.ev g
  have hk2:(kk prog w).is kx kv=true:=Rd.keyis (C:=B2) t2
  refine wpAny_setItem_pairs hk2 (ab0 (g.old.solid ho (ag3 hd)) hd) (fun h6 hd6 hsb=>?_) (by rw [← bf3 rl];exact Nat.le_trans h60 (by decide))
  obtain ⟨o6,ho6,hio⟩:=Heap.dictOf_iff.mp hd6
  have tt:f6 prog w h6 B2 (.dict (ax5 l (.str kx) v)) (.ref a):=show f6 prog w _ _ (.dict _) _ from ⟨a,o6,_,rfl,ho6,⟨hio,hsm⟩,RdK.stored (r1.mono g2.le) (rl.mono g.le)⟩
  have hpl:aa1 h6 a:=fun o q=>by rw [ho6] at q;cases q;obtain ⟨_,_,hx,_⟩:=hio;exact hx.2
  have a2:=a0.keeps g.old
  have S3:=S2.mut hs hr a2 hsb tt hpl
  exact ⟨B2,g.le,S3,(m1.trans m2).trans ⟨rfl,rfl,Nat.le_succ _⟩,(S.nx_ev g).trans (S2.mut_nx S3 hs hr a2 hsb),hn.set_own hs⟩
theorem by4 {B:FM}:∀ {ds:List D} {vs:List Value} (j:Nat),RdL prog w B ds vs→RdL prog w B (ds.eraseIdx j) (vs.eraseIdx j)
  | [],_,j,h=>by cases (h:_=_);exact RdL.nil
  | d :: ds,_,j,h=>by
    obtain ⟨v,vs,rfl,h1,h2⟩:=h
    cases j with
    | zero=>exact h2
    | succ j=>exact RdL.cons h1 (by4 j h2)
theorem dc6 {us:List Value} {j:Nat} (h:j < us.length):us.toArray.eraseIdxIfInBounds j=(us.eraseIdx j).toArray:=by
  have h:j < us.toArray.size:=by rw [List.size_toArray];exact h
  unfold Array.eraseIdxIfInBounds
  rw [dif_pos h]
  apply Array.toList_inj.mp
  rw [Array.toList_eraseIdx]
theorem ce6 {x y nm1 nm2:Str} {i j:Nat} {np ap cp ep yp bp dp:Pos} {ie:PySem.Expr} {ii:IR} (hn1:nm1="append") (hn2:nm2="pop") (hs:d6 sc x=some i) (hs2:d6 sc y=some j) (hp:(ap.endLine == cp.line)=true) (hp2:(bp.endLine == dp.line)=true) (hne:m8 ie=true) (hi:ac2 w h₀ k calls sc ie ii) :
    al7 prog w h₀ k calls fresh sc (.Expr (.Call (.Attribute (.Name x np) nm1 ap) [.Call (.Attribute (.Name y yp) nm2 bp) [ie] [] dp] [] cp) ep) (.appendPop i j ii):=fun A E env r B s h0 B0 Y res rm ek hb ht fa hn S h=>by
  subst hn1 hn2
  obtain ⟨jd,hj,h⟩:=a6 h
  obtain ⟨q,hq,h⟩:=a6 h
  obtain ⟨dx,hrx,h⟩:=a6 h
  obtain ⟨l,hl,h⟩:=a6 h
  obtain ⟨dy,hry,h⟩:=a6 h
  obtain ⟨m,hm,h⟩:=a6 h
  obtain ⟨hc,h⟩:=g6 h
  obtain ⟨d,hd,h⟩:=a6 h
  obtain ⟨r1,hp1,h⟩:=a6 h
  obtain ⟨r2,hput,h⟩:=a6 h
  cases h
  obtain rfl:=l6 hl
  obtain rfl:=l6 hm
  obtain rfl:=af9 hq
  have hrx:=ar8 hrx
  have hry:=ar8 hry
  obtain ⟨hc1,hc2⟩:=b8 hc
  have hij:i≠j:=ne_of_beq_false (by simpa using (b8 hc1).1)
  have hzl:=(b8 hc1).2
  have hq0:=of_decide_eq_true (b8 hc2).1
  have hzm:=(b8 hc2).2
  obtain ⟨e1,_,_⟩:=ae9 hp1
  obtain ⟨e2,_,_⟩:=ae9 hput
  subst e1 e2
  obtain ⟨a,vs,n,ha,ho,rl⟩:=ar5 S hs hrx
  obtain ⟨b,us,n2,hb2,ho2,rl2⟩:=ar5 S hs2 hry
  refine wpAny_Expr (wpAny_Call_method (at7 rfl) (bc3 rfl (by show 1 < 20;decide)) hp F.plainAttrs_list slot_list_append type_list_append ?_) (av5 ek) rfl
  refine ha.load ek.kind (j3 hs) ⟨⟨_,ho,rfl⟩,fun b q=>(by cases q;exact ⟨_,ho,rfl⟩),?_⟩
  refine callWith_method1 ?_ (c9 rfl) rfl
  rw [c9 rfl,j6]
  refine spliced_cons ?_
  refine wpAny_Call_method (at7 rfl) (bc3 (f7 hne rfl) (by show 1 < 20;decide)) hp2 F.plainAttrs_list F.slot_list_pop F.type_list_pop ?_
  refine hb2.load ek.kind (j3 hs2) ⟨⟨_,ho2,rfl⟩,fun b q=>(by cases q;exact ⟨_,ho2,rfl⟩),?_⟩
  refine callWith_method1 ?_ (c9 hne) rfl
  rw [c9 hne,j6]
  refine spliced_cons (k8 hi (Sim.ok S rm ek hb ht fa) hj fun u s2 B2 g2 m2 t2 ok2=>spliced_nil ?_)
  obtain ⟨tk,_,rfl⟩:=t2
  have S2:=S.ev g2
  have hle:q.toNat < m.length:=(List.getElem?_eq_some_iff.mp hd).1
  have hmz:m.length≤16777216:=ai5 hzm
  obtain ⟨yv,hy,ry⟩:=rl2.get hd
  have hsz:us.toArray.size=m.length:=by rw [List.size_toArray,rl2.length]
  have hqm:q < m.length:=by lia
  have ho22:=g2.old.solid ho2 (.seq rfl)
  refine call_meets F.slot_list_pop ⟨_,ho22,rfl⟩ F.entry_list_pop (F.args_list_pop_2 _ _) (MeetsSeq.list_pop_at b us.toArray n2 q tk q.toNat yv (fitsIndex_of hq0 (by lia)) ?_ (us.getElem?_toArray▸hy) (by rw [hsz];exact hmz)) ⟨ho22,?_⟩
  · unfold seqIndex?
    rw [if_neg (Int.not_lt.mpr hq0),hsz,if_pos (f7 (decide_eq_true hq0) (decide_eq_true hqm))]
  have hb3:=get?_update_seq ho22 (·.eraseIdxIfInBounds q.toNat)
  rw [dc6 (by rw [rl2.length];exact hle)] at hb3
  refine spliced_nil ?_
  generalize hH:s2.heap.update b (Obj.mapSeq fun xs=>xs.eraseIdxIfInBounds q.toNat)=h3 at hb3⊢
  have hsb:Heap.SameBut b s2.heap h3:=hH▸Heap.SameBut.update ..
  have tt:f6 prog w h3 B2 (.list (m.eraseIdx q.toNat)) (.ref b):=show f6 prog w _ _ (.list _) _ from ⟨b,_,us.eraseIdx q.toNat,rfl,hb3,⟨rfl,_,rfl⟩,by4 _ (rl2.mono g2.le)⟩
  have hpl:aa1 h3 b:=fun o q=>by rw [hb3] at q;cases q;exact ⟨rfl,rfl⟩
  have b2:=hb2.keeps g2.old
  have S3:=S2.mut hs2 hry b2 hsb tt hpl
  have N3:=S2.mut_nx S3 hs2 hry b2 hsb
  have hrx3:Rho.get (r.set j (some (.own,.list (m.eraseIdx q.toNat)))) i=some (.own,.list l):=by
    rw [j7,if_neg (fun q=>hij q.1.symm)];exact hrx
  have hab:a≠b:=fun e=>S.uniq x y i j .own .own _ _ a hs hs2 hij hrx rfl hry ha (e▸hb2)
  have ha3:=(hsb.2 a hab).trans (g2.old.solid ho (.seq rfl))
  refine wpAny_list_append_plain ⟨n,ha3⟩ (fun h6 hl6 hsb6=>?_) (by rw [List.size_toArray,rl.length];exact Nat.le_of_succ_le (ai5 hzl))
  obtain ⟨n6,ho6⟩:=hl6
  have tt6:f6 prog w h6 B2 (.list (l ++ [d])) (.ref a):=show f6 prog w _ _ (.list _) _ from ⟨a,_,vs ++ [yv],rfl,ho6,⟨rfl,n6,by simp⟩,(rl.mono g2.le).append (RdL.cons (ry.mono g2.le) RdL.nil)⟩
  have hpl6:aa1 h6 a:=fun o q=>by rw [ho6] at q;cases q;exact ⟨rfl,rfl⟩
  obtain ⟨hl,hcell⟩:=bd5 S2 hs2 hry b2
  have a3:At env h3 x (.ref a):=(ha.keeps g2.old).off (X:=fun c=>c=b) (fun c o q e=>(hsb.2 c q).trans e) hl (hcell x)
  have S6:=S3.mut hs hrx3 a3 hsb6 tt6 hpl6
  exact ⟨B2,g2.le,S6,⟨m2.gens,m2.os,m2.toks⟩,(S.nx_ev g2).trans (N3.trans (S3.mut_nx S6 hs hrx3 a3 hsb6)),(hn.set_own hs2).set_own hs⟩
theorem dn2 {α β:Type} {f:α→Option β} {g:α→β}:∀ {l:List α},(∀ x∈l,f x=some (g x))→l.filterMap f=l.map g
  | [],_=>rfl
  | x :: l,h=>by
    rw [List.filterMap_cons_some (h x List.mem_cons_self),dn2 fun y hy=>h y (List.mem_cons_of_mem _ hy)]
    rfl
theorem dl8 (vs:List Value):slicePick vs.toArray none none (some (-1))=vs.reverse.toArray:=by
  unfold slicePick
  have hb:sliceBounds none none (some (-1)) vs.toArray.size=((vs.length:Int) - 1,-1,-1):=by rw [List.size_toArray];rfl
  rw [hb]
  have hr:sliceRange ((vs.length:Int) - 1) (-1) (-1)=(List.range vs.length).map fun k=>vs.length - 1 - k:=by
    unfold sliceRange
    have hc:(if (-1:Int) > 0 then (if (vs.length:Int) - 1 < -1 then (-1 - ((vs.length:Int) - 1) + -1 - 1) / -1 else 0) else (if (vs.length:Int) - 1 > -1 then ((vs.length:Int) - 1 - -1 - -1 - 1) / (- -1) else 0))=(vs.length:Int):=by
      rw [if_neg (by decide)]
      split <;> lia
    dsimp only
    rw [hc,Int.toNat_natCast]
    refine List.map_congr_left fun k hk=>?_
    have h1:1≤vs.length:=Nat.lt_of_le_of_lt (Nat.zero_le k) (List.mem_range.mp hk)
    rw [Int.neg_mul,Int.one_mul,show ((vs.length:Int) - 1)=((vs.length - 1:Nat):Int) from (Int.ofNat_sub h1).symm]
    exact Int.toNat_sub _ k
  rw [hr,List.filterMap_map]
  congr 1
  have:∀ k∈List.range vs.length,(((fun x=>vs.toArray[x]?) ∘ fun k=>vs.length - 1 - k) k)=some ((vs.reverse[k]?).getD .none):=fun k hk=>by
    have hk:=List.mem_range.mp hk
    show vs.toArray[vs.length - 1 - k]?=_
    rw [List.getElem?_toArray,← List.getElem?_reverse hk]
    rw [List.getElem?_eq_getElem (by rw [List.length_reverse];exact hk)];rfl
  rw [dn2 this]
  refine List.ext_getElem (by rw [List.length_map,List.length_range,List.length_reverse]) fun k h1 h2=>?_
  rw [List.getElem_map,List.getElem_range,List.getElem?_eq_getElem h2];rfl
theorem ei7 {v:PySem.Expr} {a:IR} {kd:Nat} {p1 p2 p3 pos:Pos} (hv:ac2 w h₀ k calls sc v a):i8 w h₀ k calls sc (.Subscript v (.Slice none none (some (.UnaryOp .USub (.Constant (.int 1) kd p1) p2)) p3) pos) (.rev a):=fun A E s env r B d ok hd=>by
  obtain ⟨x,hx,hd⟩:=a6 hd
  obtain ⟨l,hl,hd⟩:=a6 hd
  obtain ⟨hz,hd⟩:=g6 hd
  cases hd
  obtain rfl:=l6 hl
  refine Subscript_ (k8 hv ok hx fun va s1 B1 g1 m1 t1 ok1=>?_)
  show wpAny _ _ (do let l ← (pure .none:Sem Value);let u ← holding [l] (pure .none:Sem Value);let st ← holding [l,u] (PySem.eval (.UnaryOp .USub (.Constant (.int 1) kd p1) p2) env);newFields "slice" [l,u,st]) _ _ _
  refine wpAny_bind (wpAny_pure (wpAny_bind (wpAny_holding (wpAny_pure (wpAny_bind (wpAny_holding (ak4 (cg1 (k:=k) (h₀:=h₀) (calls:=calls) (sc:=sc)) ok1 (show eval calls (.int (-1)) r=some (.int (-1)) from rfl) fun vb s2 B2 g2 m2 t2 ok2=>af7 ?_)))))))
  obtain ⟨t,_,rfl⟩:=t2
  obtain ⟨la,o,vs,rfl,ho,hsq,hr⟩:=t1.mono g2.old g2.le
  obtain ⟨g,m⟩:=ay6 ok2.keep .none .none (.int (-1) t) (Nat.le_refl s2.toks)
  have hl:=(hsq.isList ho).push { cls:=.type "slice",data:=.fields #[.none,.none,.int (-1) t] }
  refine aj9 (Heap.IsList.typeIs (s:={ s2 with heap:=s2.heap.push _ }) hl) slot_list_getitem.lookup ?_
  refine wpAny_getItem_list_slice hl (Heap.IsSliceOf.new ..) .none .none (.int (-1) t) (by decide) ?_ (by rw [List.size_toArray,hr.length];exact ai5 hz)
  rw [dl8]
  exact EvP.after (g1.trans (g2.trans g)) ((m1.trans m2).trans m) (FrP.ev (FrP.list g.keep (Nat.le_refl _) hr.reverse))
end
end
section
open PySem.Calls PySem.SeqAt
noncomputable def al6 (sc:Scope):Rho:=sc.names.map fun ξ=>none
structure FnS (sc:Scope):Prop where
  kind:sc.kind = .function
  nodup:(sc.names.map (·.1)).Nodup
  free:∀ x,sc.names.lookup x≠some .free
section
variable {w:World} {h₀:Heap} {mg mb:Str→Option Value} {k:Nat} {calls:String→List D→Option D} {fresh:String→Bool} {sc:Scope}
theorem ci0 {L:Addr} {n:Nat} {qual:Str} {fa:Option Addr} {code:Value} (fs:FnS sc):t9 (newEnv sc L mainGlobals (cellsFrom n sc.names []) qual fa code none builtinsNs) sc where
  kind:=fs.kind
  globals:=rfl
  builtins:=rfl
  loc:=fun x h=>h
  cell:=fun x h=>h
  glob:=fun x h=>h
  cells:=fun x h=>by
    rcases h with h | h
    · obtain ⟨c,hc⟩:=(ac8 (n:=n)).mpr (aj1 h)
      obtain ⟨c',h1,_⟩:=ag2 hc
      exact ⟨c',h1⟩
    · exact absurd h (fs.free x)
theorem cz9 {A:Around} {E:Value→Shared→Prop} {s:Shared} {scope:Scope} {qual:Str} {fa:Option Addr} {code:Value} {binds:List (Str×Value)} {Q:Env→Shared→Prop} (hn:(scope.names.map (·.1)).Nodup)
    (h:∀ h' cells,cells=cellsFrom (s.heap.objs.size+1) scope.names []→be6 h' s.heap.objs.size scope.names [] cells→h'.Ns s.heap.objs.size (fun ξ=>none)→(∀ o,h'.get? s.heap.objs.size=some o→o.cls≠.type "dict")→(∀ b o,s.heap.get? b=some o→h'.get? b=some o)→
      (∀ x,scope.names.lookup x=some .cell→cells.lookup x≠some s.heap.objs.size)→
      wpAny (model prog w) A (forIn binds PUnit.unit fun (p:Str×Value) u=>(do storeName (newEnv scope s.heap.objs.size mainGlobals cells qual fa code none builtinsNs) p.1 p.2;pure (ForInStep.yield PUnit.unit):Sem _))
        (fun ξ s'=>Q (newEnv scope s.heap.objs.size mainGlobals cells qual fa code none builtinsNs) s') E { s with heap:=h' }) :
    wpAny (model prog w) A (newFunctionEnv scope mainGlobals [] binds qual fa code none builtinsNs) Q E s:=by
  simp only [newFunctionEnv,Option.isSome_none,Bool.false_eq_true,if_false]
  refine wpAny_bind (wpAny_alloc ?_)
  refine wpAny_bind (wpAny_layCells _ (fun name kind cells=>by cases hkc:kind == NameKind.cell <;> simp [hkc]) _ _ _ _ ?_)
  have hsz:(s.heap.push { cls:=.type "frame",data:=.dict #[] }).objs.size=s.heap.objs.size+1:=Heap.size_push ..
  have c0:=bj3 (h:=s.heap.push { cls:=.type "frame",data:=.dict #[] }) (cl:=[]) hn
  have old:∀ b o,s.heap.get? b=some o→(pushCells (s.heap.push { cls:=.type "frame",data:=.dict #[] }) scope.names).get? b=some o:=fun b o e=>pushCells_keeps _ _ b o (Heap.get?_push_of_some _ e)
  have ns:=(Heap.Ns.new s.heap (.type "frame")).keeps (pushCells_keeps scope.names (s.heap.push { cls:=.type "frame",data:=.dict #[] }))
  refine wpAny_bind (wpAny_mono (h _ _ (by rw [← hsz]) ⟨fun x hx=>?_,c0.sep,c0.old⟩ ns (fun o e=>by rw [pushCells_keeps _ _ _ _ (Heap.get?_push_size s.heap rfl)] at e;cases e;decide) old fun x hx e=>?_) (fun ξ s' q=>wpAny_pure q) fun ξ ξ e=>e)
  · obtain ⟨c,q1,q2,q3⟩:=c0.own x hx
    exact ⟨c,q1,by rw [hsz] at q2;exact Nat.le_of_lt ‹_›,q3⟩
  · obtain ⟨c,q1,q2,q3⟩:=c0.own x hx
    have e':some c=some s.heap.objs.size:=q1.symm.trans e
    cases e'
    rw [hsz] at q2
    exact Nat.lt_irrefl _ q2
theorem as4 {i:Nat}:Rho.get (al6 sc) i=none:=by
  unfold Rho.get al6
  rw [List.getElem?_map]
  cases sc.names[i]? <;> rfl
theorem Sim.fn0 {h0 h1 h':Heap} {B0 B:FM} {cells:List (Str×Addr)} {qual:Str} {fa:Option Addr} {code:Value} {m:Str→Option Value} (g:Gr B0 h0 B h1) (fs:FnS sc) (ca:be6 h' h1.objs.size sc.names [] cells) (hns:h'.Ns h1.objs.size m) (hcls:∀ o,h'.get? h1.objs.size=some o→o.cls≠.type "dict")
    (old:∀ b o,h1.get? b=some o→h'.get? b=some o):Sim prog w h0 B0 (newEnv sc h1.objs.size mainGlobals cells qual fa code none builtinsNs) sc (al6 sc) B (fun ξ=>False) h':=by
  have hge:∀ a,isOwn (newEnv sc h1.objs.size mainGlobals cells qual fa code none builtinsNs) sc a→h1.objs.size≤a:=by
    rintro a (rfl | ⟨x,q1,q2⟩)
    · exact Nat.le_refl _
    · obtain ⟨c,e1,e2,_⟩:=ca.own x q1
      have:some c=some a:=e1.symm.trans q2
      cases this;exact e2
  have hcell:∀ x c,cells.lookup x=some c→sc.names.lookup x=some .cell:=fun x c hx=>by
    by_cases hyc:sc.names.lookup x=some .cell
    · exact hyc
    · rw [ca.old x hyc] at hx;cases hx
  refine ⟨g.trans (Gr.heap g.keep old),⟨⟨m,hns⟩,fun x hx=>?_,fun x y c c' hxy hx h2 h3=>ca.sep x y c c' hxy hx (hcell y c' h3) h2 h3,fun x c hx=>?_,fun ξ=>hcls,fun f hf=>by cases hf;obtain ⟨o,_,_,e,_⟩:=hns;rw [e];simp⟩,fun a q=>?_,fun a q=>q.elim,fun a ξ q=>q.elim,fun ξ ξ ξ q=>q.elim,fun ξ ξ q=>q.elim,fun x i m d ξ hr=>?_,fun x y i j m1 m d d' a ξ ξ ξ hi=>?_⟩
  · obtain ⟨c,q1,q2,q3⟩:=ca.own x hx
    exact ⟨hx,c,none,q1,q3⟩
  · obtain ⟨c2,e1,e2,e3⟩:=ca.own x (hcell x c hx)
    have:some c2=some c:=e1.symm.trans hx
    cases this;exact ⟨_,e3⟩
  · have e1:h1.get? a=none:=i6 (hge a q)
    refine ⟨?_,?_⟩
    · exact g.old.back e1
    · cases e:B a with
      | none=>rfl
      | some o=>rw [g.keep a o e] at e1;cases e1
  · rw [as4] at hr;cases hr
  · rw [as4] at hi;cases hi
end
end
section
open PySem.Calls PySem.SeqAt
section
variable {w:World} {h₀:Heap} {mg mb:Str→Option Value} {k:Nat} {calls:String→List D→Option D} {fresh:String→Bool} {sc:Scope}
theorem cz7 {h0:Heap} {B0 B:FM} {Y:Addr→Prop} {env:Env} {A:Around} {E:Value→Shared→Prop} {xs:List Str} {is:List Nat} (h:a9 (fun x i=>l7 sc x=some i) xs is) (ek:t9 env sc) {rest:List (Str×Value)} :
    ∀ {r:Rho} {ds:List D} {vs:List Value} {s:Shared} {Q:PUnit→Shared→Prop},Sim prog w h0 B0 env sc r B Y s.heap→RdL prog w B ds vs→ds.length=is.length→
      (∀ h' tk,s.toks≤tk→Sim prog w h0 B0 env sc (al4 r is ds) B Y h'→wpAny (model prog w) A (forIn rest PUnit.unit fun (p:Str×Value) u=>(do storeName env p.1 p.2;pure (ForInStep.yield PUnit.unit):Sem _)) Q E { s with heap:=h',toks:=tk })→
      wpAny (model prog w) A (forIn (xs.zip vs ++ rest) PUnit.unit fun (p:Str×Value) u=>(do storeName env p.1 p.2;pure (ForInStep.yield PUnit.unit):Sem _)) Q E s:=by
  induction h with
  | nil=>
    intro r ds vs s Q S hr hl hQ
    have:ds=[]:=List.length_eq_zero_iff.mp hl
    subst this
    obtain rfl:=hr
    exact hQ s.heap s.toks (Nat.le_refl _) S
  | @cons x i xs is he hes ih=>
    intro r ds vs s Q S hr hl hQ
    obtain ⟨hs,hx⟩:=e9 he
    cases ds with
    | nil=>cases hl
    | cons d ds=>
      obtain ⟨v,vs',rfl,r1,r2⟩:=hr
      rw [List.zip_cons_cons,List.cons_append,List.forIn_cons]
      refine wpAny_bind (wpAny_bind (S.store ek hs hx r1 fun h' tk a htk ha hsb S' hoth=>wpAny_pure ?_))
      refine ih S' r2 (by simpa using hl) fun h'' tk' htk' S''=>?_
      exact hQ h'' tk' (Nat.le_trans htk htk') S''
end
end
section
open PySem.Calls PySem.SeqAt
end
section
open PySem.Calls PySem.SeqAt
theorem ba4:Manifest.owners.lookup (String.ofList ['r','o','t','a','r','e','t','i','_','t','e','s'].reverse)=some Manifest.sig_set_iterator:=by kernel_rfl
theorem i7:PySem.Slot "set_iterator" "__next__" "set_iterator.__next__":=
  .of (owner:="set_iterator") (n:="__next__") (by rw [typeLookup_type,builtinLookup_eq_fast];kernel_rfl) (by decide +kernel) (by decide +kernel) (by decide +kernel)
    (by first | exact .inl (by decide +kernel) | exact .inr (by decide +kernel)) (by rw [isSubtype_type];kernel_rfl)
theorem ac6:entryFor table "set_iterator.__next__"=some Builtin.«set_iterator.__next__»:=entryFor_of_tree (by kernel_rfl)
theorem ad5 (a:Value):argsOk "set_iterator.__next__" ⟨[a],[]⟩:=by
  unfold argsOk;rw [signature?_of (id:="set_iterator.__next__") (n:=['_','_','t','x','e','n','_','_']) (o:=['r','o','t','a','r','e','t','i','_','t','e','s']) (by kernel_rfl) ba4];kernel_rfl
theorem au8:entryFor table "set.__iter__"=some Builtin.«frozenset.__iter__»:=
  entryFor_alias (id':="frozenset.__iter__") (by rw [fastTable_eq_tree]; kernel_rfl) rfl (by kernel_rfl) (by rw [fastTable_eq_tree]; kernel_rfl)
noncomputable def ak9 (b:Bool):Nat:=if b then 1 else 0
noncomputable def bc0 (b led:Bool):SetTable:={ mask:=7,place:=#[ak9 b],dummies:=#[],finger:=0,led:=led,moves:=0,plain:=true }
noncomputable def bo1 (b led:Bool) (ep:Nat):Obj:={ cls:=.type "set",dict:=none,data:=.set #[((ak9 b:Int),.bool b)] ep (bc0 b led) }
noncomputable def ds6 (led:Bool):Obj:={ cls:=.type "set",dict:=none,data:=.set #[] 0 (.fresh 0 0 led) }
noncomputable def j8 (w:World):Bool:=!(w.params.followText "set-order")
theorem ep6 (b led:Bool):layNew (.fresh 0 0 led) #[] (ak9 b:Int) (.bool b)=(#[((ak9 b:Int),.bool b)],bc0 b led,false,false):=by
  cases b <;> cases led <;> rfl
theorem aa6 {α:Type} {M:Model} {A:Around} {E:Value→Shared→Prop} {s:Shared} {Q:α→Shared→Prop} {c:Prop} [Decidable c] {x y:Sem α} (hc:¬ c) (h:wpAny M A y Q E s):wpAny M A (if c then x else y) Q E s:=by rw [if_neg hc];exact h
theorem ay0 {α:Type} {M:Model} {A:Around} {E:Value→Shared→Prop} {s:Shared} {Q:α→Shared→Prop} {c:Prop} [Decidable c] {x y:Sem α} (hc:c) (h:wpAny M A x Q E s):wpAny M A (if c then x else y) Q E s:=by rw [if_pos hc];exact h
section
variable {w:World} {A:Around} {E:Value→Shared→Prop} {s:Shared}
theorem dl9 {Q:Value→Shared→Prop} (h:Q (.ref s.heap.objs.size) { s with heap:=s.heap.push (ds6 (j8 w)) }):wpAny (model prog w) A (newSet (.type "set")) Q E s:=by
  unfold newSet setsByText
  refine wpAny_bind (wpAny_bind (wpAny_askSetting (wpAny_pure ?_)))
  dsimp only
  simp only [newObj]
  exact wpAny_bind (wpAny_alloc (wpAny_pure h))
theorem dr9 {b:Bool} {Q:Int→Shared→Prop} (h:Q (ak9 b:Int) { s with toks:=s.toks+1 }):wpAny (model prog w) A (pyHash (.bool b)) Q E s:=by
  show wpAny _ _ (pyHashByItsType (.bool b)) _ _ _
  refine pyHash_slot (T:="bool") rfl F.slot_bool_hash entry_int_hash (args_int_hash _) (beq_builtin_none _) (.inl rfl) ?_
  cases b
  · exact (show wpAny _ _ (do ret (← mkInt 0)) _ _ s from wpAny_bind (wpAny_mkInt (wpAny_pure ⟨_,_,rfl,h⟩)))
  · exact (show wpAny _ _ (do ret (← mkInt 1)) _ _ s from wpAny_bind (wpAny_mkInt (wpAny_pure ⟨_,_,rfl,h⟩)))
theorem dm6 {b:Bool} {Q:Bool→Shared→Prop} (h:Q true s):wpAny (model prog w) A (eqBool (.bool b) (.bool b)) Q E s:=by
  unfold eqBool
  show wpAny _ _ (if (Value.bool b == Value.bool b)=true then _ else _) Q E s
  rw [if_pos (by simp)]
  exact wpAny_bind (wpAny_rule (wpAny_pure h))
theorem de2 {a:Addr} {b led:Bool} {Q:Bool→Shared→Prop} (ho:s.heap.get? a=some (ds6 led))
    (h:∀ h',h'.get? a=some (bo1 b led 1)→Heap.SameBut a s.heap h'→Q true { s with heap:=h',toks:=s.toks+1 }):wpAny (model prog w) A (setAdd a (.bool b)) Q E s:=by
  unfold setAdd
  refine wpAny_holding (wpAny_bind (dr9 ?_))
  unfold setAddHashed setAddHashedIn
  refine wpAny_holding (wpAny_bind (wpAny_setState_of ho rfl rfl ?_))
  dsimp only
  rw [show byScan (.bool b) #[]=true by simp [byScan,Value.scannable,scanBound]]
  simp only [if_true]
  unfold setAddByScan
  refine wpAny_bind (wpAny_bind (wpAny_rule ?_))
  refine wpAny_bind ?_
  unfold setScan setScanFrom
  refine wpAny_pure ?_
  dsimp only
  rw [ep6]
  dsimp only
  refine wpAny_bind (wpAny_pure ?_)
  rw [show (bc0 b led).plain=true from rfl]
  simp only [if_true]
  rw [show hashByValue 8 (.bool b)=pure true from rfl]
  refine wpAny_bind (wpAny_pure ?_)
  simp only [if_true]
  refine wpAny_bind (wpAny_storeSet_of ho rfl ?_ (by show 1≤sizeLine;rw [sizeLine_eq];exact Nat.le_add_left ..))
  rw [show (!false && (bc0 b led).tooFull)=false by cases b <;> cases led <;> rfl]
  simp only [Bool.false_eq_true,if_false]
  refine wpAny_pure (wpAny_pure ?_)
  refine h _ ?_ (Heap.SameBut.update ..)
  have:=Heap.get?_update_self (Obj.putSet #[((ak9 b:Int),.bool b)] (bc0 b led)) ho rfl
  exact this
theorem db4 {a:Addr} {b led:Bool} {ep:Nat} {Q:Bool→Shared→Prop} (ho:s.heap.get? a=some (bo1 b led ep)) (h:Q false { s with toks:=s.toks+1 }):wpAny (model prog w) A (setAdd a (.bool b)) Q E s:=by
  unfold setAdd
  refine wpAny_holding (wpAny_bind (dr9 ?_))
  unfold setAddHashed setAddHashedIn
  have hf:(bc0 b led).fits 1=true:=by cases b <;> cases led <;> rfl
  refine wpAny_holding (wpAny_bind (wpAny_setState_of (es:=#[((ak9 b:Int),.bool b)]) ho rfl hf ?_))
  dsimp only
  rw [show byScan (.bool b) #[((ak9 b:Int),.bool b)]=true by simp [byScan,Value.scannable,scanBound]]
  simp only [if_true]
  unfold setAddByScan
  refine wpAny_bind (wpAny_bind (wpAny_rule ?_))
  refine wpAny_bind ?_
  unfold setScan setScanFrom
  dsimp only
  rw [if_pos (by simp)]
  refine wpAny_bind (wpAny_setEpoch_of ho rfl hf ?_)
  refine wpAny_bind (dm6 ?_)
  simp only [Bool.and_self,if_true]
  refine wpAny_pure ?_
  dsimp only
  exact wpAny_pure (wpAny_pure h)
theorem bi7 {a:Addr} {b led:Bool} {ep:Nat} (ho:s.heap.get? a=some (bo1 b led ep)):s.TypeIs (.ref a) "set":=⟨_,ho,rfl⟩
theorem bm2 {a:Addr} {b:Bool} {o:Obj} {Q:Value→Shared→Prop} (ho:s.heap.get? a=some o) (hc:o.cls = .type "set") (h:wpAny (model prog w) A.in1 (setAdd a (.bool b)) (fun ξ s'=>Q .none s') E s) :
    wpAny (model prog w) A (call (.builtin "set.add") [.ref a,.bool b]) Q E s:=by
  have hT:s.TypeIs (.ref a) "set":=⟨_,ho,hc⟩
  refine wpAny_call_entry F.slot_set_add hT F.entry_set_add ?_ (F.args_set_add_2 _ _)
  unfold Builtin.«set.add» Builtin.Frozenset.oneOther
  simp only [List.isEmpty_nil,bind_assoc]
  unfold Builtin.Frozenset.addrOf
  refine wpAny_bind (wpAny_pure ?_)
  try dsimp only
  refine wpAny_bind (wpAny_pure ?_)
  try dsimp only
  refine wpAny_bind (wpAny_mono h (fun ξ s' q=>?_) fun ξ ξ e=>e)
  exact wpAny_pure ⟨_,rfl,q⟩
noncomputable def bp1 (a:Addr) (slot i:Int) (ep:Nat):Obj:={ cls:=.type "set_iterator",data:=.fields #[rawInt slot,rawInt i,.ref a,rawInt 1,rawInt ep] }
theorem eh2 {a:Addr} {b led:Bool} {ep:Nat} {Q:Value→Shared→Prop} (ho:s.heap.get? a=some (bo1 b led ep)) (h:Q (.ref s.heap.objs.size) { s with heap:=s.heap.push (bp1 a 0 0 ep) }):wpAny (model prog w) A (pyIter (.ref a)) Q E s:=by
  have hf:(bc0 b led).fits 1=true:=by cases b <;> cases led <;> rfl
  refine wpAny_pyIter_slot (bi7 ho) F.slot_set_iter (wpAny_call_entry F.slot_set_iter (bi7 ho) au8 ?_ (F.args_set_iter_1 _))
  unfold Builtin.«frozenset.__iter__»
  refine wpAny_bind ?_
  show wpAny _ _ (pure a) _ _ _
  refine wpAny_pure ?_
  unfold Builtin.Frozenset.sizeOf
  refine wpAny_bind (wpAny_bind (wpAny_setEntries_of (es:=#[((ak9 b:Int),.bool b)]) ho rfl hf (wpAny_pure ?_)))
  unfold setDrawn setsByText
  refine wpAny_bind (wpAny_bind (wpAny_setState_of (es:=#[((ak9 b:Int),.bool b)]) ho rfl hf ?_))
  dsimp only
  refine wpAny_bind (wpAny_bind (wpAny_askSetting (wpAny_pure ?_)))
  refine wpAny_pure ?_
  refine aa6 (fun q=>Bool.noConfusion (show false=true from (Bool.and_eq_true_iff.mp q).2)) ?_
  refine wpAny_bind (wpAny_pure (wpAny_bind (wpAny_setEpoch_of ho rfl hf ?_)))
  refine wpAny_bind ?_
  refine wpAny_newObj_type (wpAny_pure ⟨_,rfl,"set_iterator",_,⟨_,Heap.get?_push_size _ rfl,rfl⟩,i7.lookup,?_⟩)
  exact h
theorem dn6 {a:Addr} {b led:Bool} {ep:Nat} {Q:Array (Int×Value)→Shared→Prop} (ho:s.heap.get? a=some (bo1 b led ep)) (ht:w.params.followText "set-order"=true) (h:Q #[((ak9 b:Int),.bool b)] s):wpAny (model prog w) A (setWalk a) Q E s:=by
  have hf:(bc0 b led).fits 1=true:=by cases b <;> cases led <;> rfl
  unfold setWalk setsByText
  refine wpAny_bind (wpAny_setState_of (es:=#[((ak9 b:Int),.bool b)]) ho rfl hf ?_)
  dsimp only
  refine wpAny_bind (wpAny_bind (wpAny_askSetting (wpAny_pure ?_)))
  refine ay0 ht ?_
  refine wpAny_bind (wpAny_askSetting (wpAny_pure ?_))
  have:∀ f:Nat→Nat,pickOrder f #[((ak9 b:Int),Value.bool b)]=#[((ak9 b:Int),.bool b)]:=fun f=>by
    simp [pickOrder,pickOrder.go,Nat.mod_one]
  rw [this]
  exact h
theorem cq5 {a:Addr} {b:Bool} {ep:Nat} {Q:Option (Value×Nat)→Shared→Prop} (ho:s.heap.get? a=some (bo1 b (j8 w) ep)) (h:∀ n,(w.params.followText "set-order"=false→n=ak9 b+1)→Q (some (.bool b,n)) s) :
    wpAny (model prog w) A (setNext a 0 0 ep) Q E s:=by
  have hf:(bc0 b (j8 w)).fits 1=true:=by cases b <;> cases j8 w <;> rfl
  unfold setNext
  refine wpAny_bind (wpAny_setState_of (es:=#[((ak9 b:Int),.bool b)]) ho rfl hf ?_)
  dsimp only
  unfold setsByText
  refine wpAny_bind (wpAny_bind (wpAny_askSetting (wpAny_pure ?_)))
  cases ht:w.params.followText "set-order"
  · refine aa6 (fun q=>by rw [show ((model prog w).w.params.followText "set-order")=w.params.followText "set-order" from rfl,ht] at q;cases q) ?_
    refine aa6 (fun q=>Bool.noConfusion (show false=true from q)) ?_
    have hl:j8 w=true:=by unfold j8;rw [ht];rfl
    refine wpAny_bind (aa6 (c:=(!(j8 w) && !(#[((ak9 b:Int),Value.bool b)]:Array (Int×Value)).isEmpty)=true) (by rw [hl];simp) (wpAny_pure ?_))
    refine wpAny_pure ?_
    have:SetTable.below (bc0 b (j8 w)).place 0=0:=by cases b <;> rfl
    rw [this]
    exact h _ (fun ξ=>rfl)
  · refine ay0 ht ?_
    refine aa6 (by simp) ?_
    refine wpAny_bind (dn6 ho ht ?_)
    exact wpAny_pure (h _ (fun q=>by rw [ht] at q;cases q))
theorem co1 {a:Addr} {b:Bool} {ep n:Nat} {Q:Option (Value×Nat)→Shared→Prop} (ho:s.heap.get? a=some (bo1 b (j8 w) ep)) (hn:w.params.followText "set-order"=false→n=ak9 b+1) (h:Q none s) :
    wpAny (model prog w) A (setNext a n 1 ep) Q E s:=by
  have hf:(bc0 b (j8 w)).fits 1=true:=by cases b <;> cases j8 w <;> rfl
  unfold setNext
  refine wpAny_bind (wpAny_setState_of (es:=#[((ak9 b:Int),.bool b)]) ho rfl hf ?_)
  dsimp only
  unfold setsByText
  refine wpAny_bind (wpAny_bind (wpAny_askSetting (wpAny_pure ?_)))
  cases ht:w.params.followText "set-order"
  · refine aa6 (fun q=>by rw [show ((model prog w).w.params.followText "set-order")=w.params.followText "set-order" from rfl,ht] at q;cases q) ?_
    refine aa6 (fun q=>Bool.noConfusion (show false=true from q)) ?_
    have hl:j8 w=true:=by unfold j8;rw [ht];rfl
    refine wpAny_bind (aa6 (c:=(!(j8 w) && !(#[((ak9 b:Int),Value.bool b)]:Array (Int×Value)).isEmpty)=true) (by rw [hl];simp) (wpAny_pure ?_))
    refine wpAny_pure ?_
    rw [hn ht]
    have:SetTable.below (bc0 b (j8 w)).place (ak9 b+1)=1:=by cases b <;> simp [bc0,ak9,SetTable.below,SetTable.below.go]
    rw [this]
    exact h
  · refine ay0 ht ?_
    refine aa6 (by simp) ?_
    refine wpAny_bind (dn6 ho ht ?_)
    exact wpAny_pure h
theorem dv3 {it a:Addr} {b:Bool} {ep:Nat} {Q:Option Value→Shared→Prop} (hi:s.heap.get? it=some (bp1 a 0 0 ep)) (ho:s.heap.get? a=some (bo1 b (j8 w) ep))
    (h:∀ h' (n:Nat),h'.get? it=some (bp1 a n 1 ep)→(w.params.followText "set-order"=false→n=ak9 b+1)→Heap.SameBut it s.heap h'→Q (some (.bool b)) { s with heap:=h' }):wpAny (model prog w) A (pyNext (.ref it)) Q E s:=by
  have hf:(bc0 b (j8 w)).fits 1=true:=by cases b <;> cases j8 w <;> rfl
  have hT:s.TypeIs (.ref it) "set_iterator":=⟨_,hi,rfl⟩
  unfold pyNext
  refine wpAny_bind (wpAny_attempt (wpAny_callSpecial?_slot (name:=Str.ofString "__next__") hT i7
    (wpAny_call_entry i7 hT ac6 ?_ (ad5 _))))
  unfold Builtin.«set_iterator.__next__»
  refine wpAny_bind ?_
  refine wpAny_pure ?_
  refine wpAny_bind (wpAny_fieldsOf hi rfl ?_)
  show wpAny _ _ (setEntries a >>= _) _ _ _
  refine wpAny_bind (wpAny_setEntries_of (es:=#[((ak9 b:Int),.bool b)]) ho rfl hf ?_)
  refine aa6 (by simp) ?_
  show wpAny _ _ (setNext a (0:Int).toNat (0:Int).toNat (ep:Int).toNat >>= _) _ _ _
  rw [Int.toNat_natCast]
  refine wpAny_bind (cq5 (w:=w) ho fun n hn=>?_)
  show wpAny _ _ (setField (.ref it) 0 (rawInt n) >>= _) _ _ _
  refine wpAny_bind (wpAny_setField hi rfl (by simp) ?_)
  have hi1:=Heap.get?_update_self (Obj.mapFields (·.setIfInBounds 0 (rawInt n))) hi rfl
  show wpAny _ _ (setField (.ref it) 1 (rawInt (0+1)) >>= _) _ _ _
  refine wpAny_bind (wpAny_setField hi1 rfl (by simp) ?_)
  refine wpAny_pure ⟨_,rfl,wpAny_pure ?_⟩
  have hi2:=Heap.get?_update_self (Obj.mapFields (·.setIfInBounds 1 (rawInt (0+1)))) hi1 rfl
  exact h _ n hi2 hn ((Heap.SameBut.update ..).trans (Heap.SameBut.update ..))
theorem dy9 {it a:Addr} {b:Bool} {ep n:Nat} {Q:Option Value→Shared→Prop} (hh:A.handled=none) (hi:s.heap.get? it=some (bp1 a n 1 ep)) (ho:s.heap.get? a=some (bo1 b (j8 w) ep))
    (hn:w.params.followText "set-order"=false→n=ak9 b+1) (h:∀ h',Heap.ExtBut it s.heap h'→Q none { s with heap:=h' }):wpAny (model prog w) A (pyNext (.ref it)) Q E s:=by
  have hf:(bc0 b (j8 w)).fits 1=true:=by cases b <;> cases j8 w <;> rfl
  have hT:s.TypeIs (.ref it) "set_iterator":=⟨_,hi,rfl⟩
  unfold pyNext
  refine wpAny_bind (wpAny_attempt (wpAny_callSpecial?_slot (name:=Str.ofString "__next__") hT i7
    (wpAny_call_entry i7 hT ac6 ?_ (ad5 _))))
  unfold Builtin.«set_iterator.__next__»
  refine wpAny_bind ?_
  refine wpAny_pure ?_
  refine wpAny_bind (wpAny_fieldsOf hi rfl ?_)
  show wpAny _ _ (setEntries a >>= _) _ _ _
  refine wpAny_bind (wpAny_setEntries_of (es:=#[((ak9 b:Int),.bool b)]) ho rfl hf ?_)
  refine aa6 (by simp) ?_
  show wpAny _ _ (setNext a (n:Int).toNat (1:Int).toNat (ep:Int).toNat >>= _) _ _ _
  rw [Int.toNat_natCast,Int.toNat_natCast]
  refine wpAny_bind (co1 (w:=w) ho hn ?_)
  show wpAny _ _ (setField (.ref it) 2 .none >>= _) _ _ _
  refine wpAny_bind (wpAny_setField hi rfl (by simp) ?_)
  show wpAny _ _ (newExc (.type "StopIteration") [] >>= _) _ _ _
  refine wpAny_bind ?_
  simp only [newExc,newTuple]
  refine wpAny_bind (wpAny_newObj_type ?_ (by size_fits))
  refine wpAny_bind (m:=firstArgMember _ _) (wpAny_of_eq (a:=Value.none) (by first | rfl | (simp only [firstArgMember];rfl)) ?_)
  refine wpAny_newObj_type ?_ (by size_fits)
  simp only [raiseNew]
  refine wpAny_bind (wpAny_handled ?_)
  rw [show A.in1.handled=none from hh]
  refine wpAny_bind (wpAny_pure (wpAny_throw ?_))
  refine wpAny_bind (wpAny_isInstance (T:="StopIteration") (b:=true) ⟨_,Heap.get?_push_size _ rfl,rfl⟩ isSubtype_stop ?_)
  exact wpAny_pure (h _ (((Heap.SameBut.update ..).extBut.push _).push _))
theorem dn4 {a:Addr} {b:Bool} {ep:Nat} {Q:List Value→Shared→Prop} (hh:A.handled=none) (ho:s.heap.get? a=some (bo1 b (j8 w) ep))
    (h:∀ h',(∀ b o,s.heap.get? b=some o→h'.get? b=some o)→Q [.bool b] { s with heap:=h' }):wpAny (model prog w) A (unpackItems (.ref a) 1 none) Q E s:=by
  unfold unpackItems
  refine wpAny_bind ?_
  unfold notIterableAtAll
  refine wpAny_bind (wpAny_specialOf (bi7 ho) F.slot_set_iter.lookup ?_)
  refine ay0 rfl (wpAny_pure ?_)
  refine aa6 Bool.false_ne_true ?_
  refine wpAny_bind (wpAny_holding (eh2 ho ?_))
  have hne:a≠s.heap.objs.size:=Nat.ne_of_lt (Heap.lt_size ho)
  have hi:(s.heap.push (bp1 a 0 0 ep)).get? s.heap.objs.size=some (bp1 a 0 0 ep):=Heap.get?_push_size _ rfl
  refine wpAny_bind (wpAny_holding ?_)
  unfold draw
  refine wpAny_bind (dv3 (s:={ s with heap:=s.heap.push (bp1 a 0 0 ep) }) hi (Heap.get?_push_of_some _ ho) fun h1 n hi1 hn hs1=>?_)
  refine wpAny_bind (wpAny_holding (wpAny_pure (wpAny_pure ?_)))
  refine aa6 (by simp) ?_
  refine wpAny_bind (wpAny_holding (dy9 (s:={ s with heap:=h1 }) hh hi1 ((hs1.2 a hne).trans (Heap.get?_push_of_some _ ho)) hn fun h2 hs2=>?_))
  refine aa6 (by simp) (wpAny_pure (h h2 fun c o e=>?_))
  have hc:c≠s.heap.objs.size:=Nat.ne_of_lt (Heap.lt_size e)
  exact hs2 c o hc ((hs1.2 c hc).trans (Heap.get?_push_of_some _ e))
end
end
section
open PySem.Calls PySem.SeqAt
theorem ca9 (elt target iter:PySem.Expr) (ifs:List PySem.Expr) (scope:Scope) (pos:Pos) (it acc:Value) (env:Env) :
    compTurn (.SetComp elt [⟨target,iter,ifs,0⟩] scope pos) 0 it acc env=(do
      standAt iter.pos
      match ← pyNext it with
      | none=>pure (.done .next)
      | some v=>
        letOwnedTupleGo target it v
        assign target env v
        let mut ok:=true
        for c in ifs do
          if ok then ok ← isTrue c env (PySem.eval c env)
        if ok then
          (do let v ← PySem.eval elt env;standAt elt.pos;let _ ← call (.builtin "set.add") [acc,v])
        again (.compLoop (.SetComp elt [⟨target,iter,ifs,0⟩] scope pos) 0 it acc env)):=by rfl
section
variable {w:World} {A:Around} {R:Result→Shared→Prop} {s:Shared}
theorem da8 {elt target iter:PySem.Expr} {ifs:List PySem.Expr} {scope:Scope} {pos:Pos} {it acc:Value} {env:Env}
    (h0:codeAny (model prog w) A (.compLoop (.SetComp elt [⟨target,iter,ifs,0⟩] scope pos) 0 it acc env) R s)
    (h:∀ (Q E:Value→Shared→Prop),Q it s→wpAny (model prog w) A (pyIter it) Q E s) :
    codeAny (model prog w) A (.compStart (.SetComp elt [⟨target,iter,ifs,0⟩] scope pos) 0 it acc env) R s:=by
  refine codeAny_of_tree ?_
  show wpAny _ _ ((compStart (.SetComp elt [⟨target,iter,ifs,0⟩] scope pos) 0 it acc env).onRaise (fun x=>do noteFrame x env;standAt theWindowsPlace)) _ _ s
  refine wpAny_notedAt ?_
  unfold compStart
  show wpAny _ _ (ask >>= _) _ _ s
  refine wpAny_bind (wpAny_askSetting (wpAny_ite ?_))
  split
  · first
      | exact wpAny_bind (wpAny_pure (wpAny_pure (And.intro rfl h0)))
      | exact wpAny_pure (And.intro rfl h0)
  · first
      | exact wpAny_bind (wpAny_rule (wpAny_bind (wpAny_standAt (wpAny_bind (h _ _ (wpAny_pure (And.intro rfl h0)))))))
      | (refine wpAny_bind (wpAny_rule ?_);show wpAny _ _ (standAt iter.pos >>= _) _ _ s;exact wpAny_bind (wpAny_standAt (wpAny_bind (h _ _ (wpAny_pure (And.intro rfl h0))))))
theorem dq9 {elt target iter:PySem.Expr} {ifs:List PySem.Expr} {scope:Scope} {pos:Pos} {it acc:Value} {env:Env} (Inv:Nat→Shared→Prop)
    (h:∀ n s,Inv n s→wpAny (model prog w) A (compTurn (.SetComp elt [⟨target,iter,ifs,0⟩] scope pos) 0 it acc env) (fun fin s'=>match fin with | .done f=>R (.ok f) s' | .again c'=>c' = .compLoop (.SetComp elt [⟨target,iter,ifs,0⟩] scope pos) 0 it acc env∧∃ m,m < n∧Inv m s')
      (notedBy (model prog w) A env fun x s'=>R (.error x) s') s) (n:Nat) (s:Shared) (hI:Inv n s):codeAny (model prog w) A (.compLoop (.SetComp elt [⟨target,iter,ifs,0⟩] scope pos) 0 it acc env) R s:=by
  refine codeAny_loop rfl Inv (fun n s' hI'=>?_) n hI
  show wpAny _ A ((compTurn (.SetComp elt [⟨target,iter,ifs,0⟩] scope pos) 0 it acc env).onRaise (fun x=>do noteFrame x env;theTreesLotGoes x)) _ _ s'
  exact wpAny_noted (h n s' hI')
end
section
variable {w:World} {h₀:Heap} {mg mb:Str→Option Value} {k:Nat} {calls:String→List D→Option D} {fresh:String→Bool} {sc:Scope}
theorem bu4 {x:Str} {i:Nat} {np tp pos cpos:Pos} {kd:Nat} {elt target iter:PySem.Expr} {sc':Scope} {tgt:List Nat} {isrc ir:IR} (G:Glb h₀ mg mb) (hw:l7 sc x=some i)
    (cs:au4 sc' sc) (hset:ai1 iter=true) (tg:ag6 sc' target tgt) (hsrc:al9 w h₀ k calls sc iter isrc target) (he:i8 w h₀ k calls sc' elt ir) :
    al7 prog w h₀ k calls fresh sc (.Assign [.Tuple [.Name x np] kd tp] (.SetComp elt [⟨target,iter,[],0⟩] sc' cpos) pos) (.unpackS i (ai4 sc' sc) tgt isrc ir):=fun A E env r B s h0 B0 Y res rm ek hb ht fa hn S h=>by
  have ok:=Sim.ok S rm ek hb ht fa
  obtain ⟨its,hits,h⟩:=a6 h
  obtain ⟨ds,hys,h⟩:=a6 h
  obtain ⟨d0,hd0,h⟩:=a6 h
  obtain ⟨b,hb0,h⟩:=a6 h
  obtain ⟨hall,h⟩:=g6 h
  obtain ⟨r2,hp,h⟩:=a6 h
  cases h
  obtain ⟨hlen,hget⟩:=aq9 hys
  refine wpAny_Assign_stores ?_ rfl rfl
  rw [arm_eval_SetComp]
  show wpAny _ _ (comprehension (.SetComp elt [⟨target,iter,[],0⟩] sc' cpos) sc' env _ (newSet (.type "set")) false (PySem.eval iter env)) _ _ s
  refine bn1 (k:=k) (h₀:=h₀) (calls:=calls) (sc:=sc) (irs:=[]) (use:=none) (emit:=fun Dd cenv=>(do let v ← PySem.eval elt cenv;standAt elt.pos;let _ ← call (.builtin "set.add") [.ref Dd,v]))
    (AP:=fun n ξ o=>(n=0→o=ds6 (j8 w))∧(0 < n→∃ ep,o=bo1 b (j8 w) ep)) rfl
    (fun s2 Q E hQ=>dl9 (hQ _ rfl fun ξ=>⟨fun ξ=>rfl,fun q=>absurd q (Nat.lt_irrefl _)⟩)) (fun I Dd cenv=>ca9 _ _ _ _ _ _ _ _ _) (fun I Dd cenv R Inv h n s hI=>dq9 Inv h n s hI) (fun I Dd cenv R s h1 h2=>da8 h1 h2)
    cs hset tg hsrc .nil ok hits (fun j d hj=>?_) (fun j ξ o q=>by
      by_cases hj:j=0
      · rw [q.1 hj];exact .inl fun ξ ξ e=>by cases e
      · obtain ⟨ep,e⟩:=q.2 (Nat.pos_of_ne_zero hj);rw [e];exact .inl fun ξ ξ e=>by cases e) (fun ξ ξ ξ ξ ξ q=>q) (fun j d r1 B o ξ ξ q=>by cases q) (fun {s B r1 j d o cenv Dd E} ok' hj hr1 _ hD hA=>?_) ?_
  · obtain ⟨y,hy,_⟩:=hget j d hj
    obtain ⟨r1,hr1,_⟩:=a6 hy
    exact ⟨r1,true,hr1,rfl⟩
  · obtain ⟨y,hy,hyo⟩:=hget j d hj
    obtain ⟨r1',hr1',hev⟩:=a6 hy
    rw [hr1] at hr1';cases hr1'
    obtain rfl:=dw9 (List.all_eq_true.mp hall y (List.mem_of_getElem? hyo))
    refine wpAny_bind (ak4 he ok' hev fun u s2 B2 g2 m2 r2' ok2=>wpAny_bind (wpAny_standAt ?_))
    obtain rfl:=r2'
    have hD2:=g2.old.solid hD (by
      by_cases hj:j=0
      · rw [hA.1 hj];exact .inl fun ξ ξ e=>by cases e
      · obtain ⟨ep,e⟩:=hA.2 (Nat.pos_of_ne_zero hj);rw [e];exact .inl fun ξ ξ e=>by cases e)
    by_cases hj0:j=0
    · subst hj0
      have:=hA.1 rfl
      subst this
      refine wpAny_bind (bm2 hD2 rfl (de2 hD2 fun h' hg hsb=>wpAny_pure ?_))
      exact ⟨B2,s2.heap,_,g2,hsb,hg,⟨fun q=>by simp at q,fun ξ=>⟨1,rfl⟩⟩,⟨m2.gens,m2.os,Nat.le_trans m2.toks (Nat.le_succ _)⟩⟩
    · obtain ⟨ep,rfl⟩:=hA.2 (Nat.pos_of_ne_zero hj0)
      refine wpAny_bind (bm2 hD2 rfl (db4 hD2 (wpAny_pure ?_)))
      exact ⟨B2,s2.heap,_,g2,.refl ..,hD2,⟨fun q=>by simp at q,fun ξ=>⟨ep,rfl⟩⟩,⟨m2.gens,m2.os,Nat.le_trans m2.toks (Nat.le_succ _)⟩⟩
  · intro Dd C s' Bn o g m hD hC hne _ hBD hBC hDo hA hnC
    obtain ⟨mm,hnC⟩:=hnC
    obtain ⟨ep,rfl⟩:=hA.2 (by rw [← hlen];cases ds with
      | nil=>cases hd0
      | cons _ _=>exact Nat.succ_pos _)
    refine ⟨mm,hnC,fun h' hsb=>?_⟩
    have hk:∀ b o,¬ b=C→s'.heap.get? b=some o→h'.get? b=some o:=fun b o q e=>(hsb.2 b q).trans e
    have g':Gr B s.heap Bn h':=g.off hk (fun b q=>by subst q;exact ⟨hC,hBC⟩)
    have S1:=S.ev g'
    refine wpAny_bind (wpAny_standAt ?_)
    unfold unpack
    refine wpAny_bind (wpAny_holding ?_)
    refine dn4 (s:={ s' with heap:=h' }) rm.handled (hk _ _ hne hDo) fun h2 hk2=>?_
    have g2:=Gr.heap g'.keep hk2
    have S2:=S1.ev g2
    obtain ⟨hs,hx⟩:=e9 hw
    have hb':=y3 hp
    show wpAny _ _ (assignInOrder [assign (.Name x np) env] [.bool b]) _ _ _
    refine assignInOrder_cons ?_
    refine az2 (s:={ s' with heap:=h2 }) (ag6.name hw) rm.handled ek S2 (dl7.mpr rfl) (fun ξ=>cx1.mpr rfl) (bd3 hb').1 fun h3 tk htk S3 hk3 hAt=>?_
    refine assignInOrder_nil ?_
    exact ⟨Bn,g'.le,S3,⟨m.gens,m.os,Nat.le_trans m.toks htk⟩,(S.nx_ev (g'.trans g2)).trans (Nx.bind S2 S3 hb' hk3 hAt),hn.bind hb'⟩
end
end
section
open PySem.Calls PySem.SeqAt
open AutoSeq1 (wpAny_loadPart')
theorem bu1:PySem.Slot "map" "__init__" "object.__init__":=
  .of (owner:="object") (n:="__init__") (by rw [typeLookup_type,builtinLookup_eq_fast];kernel_rfl) (by decide +kernel) (by decide +kernel) (by decide +kernel)
    (by first | exact .inl (by decide +kernel) | exact .inr (by decide +kernel)) (by rw [isSubtype_type];kernel_rfl)
theorem cz3:mroOf (.type "map")=pure [.type "map",.type "object"]:=by rw [mroOf_type];kernel_rfl
theorem bo5:typeLookup (.type "map") "__new__"=pure (some (.builtin "map.__new__")):=by rw [typeLookup_type,builtinLookup_eq_fast];kernel_rfl
theorem ct2:TypeCalled "map" "map.__new__" "object.__init__":=
  ⟨by decide +kernel,by decide +kernel,⟨_,_,cz3⟩,madeBy_type cz3 bo5 (by decide +kernel),by decide +kernel,by rw [isSubtype_type];kernel_rfl,bu1⟩
theorem bp9 (a b:Value):checkTypeCall "map" ⟨[a,b],[]⟩=pure ():=by kernel_rfl
theorem bu8 (a b:Value):checkBuiltinCall "map.__new__" ⟨[.type "map",a,b],[]⟩=pure ():=by kernel_rfl
theorem bv0:entryFor table "map.__new__"=some Builtin.«map.__new__»:=entryFor_of_tree (by kernel_rfl)
theorem dx3:isSubtype (.type "map") (.type "map")=pure true:=by rw [isSubtype_type];kernel_rfl
noncomputable def bg2 (t:Addr) (f:Value):Obj:={ cls:=.type "map",data:=.fields #[.ref t,f] }
noncomputable def bb1 (I:Addr):Obj:={ cls:=.type "tuple",data:=.seq #[.ref I] }
noncomputable def az9 (l:Addr) (i:Nat):Obj:={ cls:=.type "list_iterator",data:=.fields #[.ref l,.int i 0] }
theorem bu3 (f:Addr) (l:Addr) (d7:Array Value) (n:Nat) (dct:Option Addr) (sl:Array (Option Value)) :
    Meets (Builtin.«map.__new__» ⟨[.type "map",.ref f,.ref l],[]⟩) (fun ξ R s=>s.heap.get? l=some { cls:=.type "list",dict:=dct,data:=.seq d7 n,slots:=sl }∧
      R (.ok (.ret (.ref ((s.heap.push (az9 l 0)).push (bb1 s.heap.objs.size)).objs.size)))
        { s with heap:=((s.heap.push (az9 l 0)).push (bb1 s.heap.objs.size)).push (bg2 (s.heap.push (az9 l 0)).objs.size (.ref f)) }):=
  .of_wp fun prog w A R s h=>by
    obtain ⟨hp,g,d,tk,os⟩:=s;obtain ⟨hl,h⟩:=h
    have hsub:=dx3
    have hL:Heap.IsList (Shared.heap ⟨hp,g,d,tk,os⟩) l d7:=⟨_,hl,rfl,n,rfl⟩
    wp_walk using wpAny_loadPart' hl,wpAny_pyIter_list hL
    exact ⟨_,rfl,h⟩
theorem ba7:PySem.Slot "map" "__iter__" "map.__iter__":=
  .of (owner:="map") (n:="__iter__") (by rw [typeLookup_type,builtinLookup_eq_fast];kernel_rfl) (by decide +kernel) (by decide +kernel) (by decide +kernel)
    (by first | exact .inl (by decide +kernel) | exact .inr (by decide +kernel)) (by rw [isSubtype_type];kernel_rfl)
theorem af2:PySem.Slot "map" "__next__" "map.__next__":=
  .of (owner:="map") (n:="__next__") (by rw [typeLookup_type,builtinLookup_eq_fast];kernel_rfl) (by decide +kernel) (by decide +kernel) (by decide +kernel)
    (by first | exact .inl (by decide +kernel) | exact .inr (by decide +kernel)) (by rw [isSubtype_type];kernel_rfl)
theorem bz1:Manifest.owners.lookup (String.ofList ['p','a','m'].reverse)=some Manifest.sig_map:=by kernel_rfl
theorem aw0:entryFor table "map.__next__"=some Builtin.«map.__next__»:=entryFor_of_tree (by kernel_rfl)
theorem bm8:entryFor table "map.__iter__"=some Builtin.«dict_keyiterator.__iter__»:=
  entryFor_alias (id':="dict_keyiterator.__iter__") (by rw [fastTable_eq_tree]; kernel_rfl) rfl (by kernel_rfl) (by rw [fastTable_eq_tree]; kernel_rfl)
theorem ba5 (a:Value):argsOk "map.__next__" ⟨[a],[]⟩:=by
  unfold argsOk;rw [signature?_of (id:="map.__next__") (n:=['_','_','t','x','e','n','_','_']) (o:=['p','a','m']) (by kernel_rfl) bz1];kernel_rfl
theorem bu5 (a:Value):argsOk "map.__iter__" ⟨[a],[]⟩:=by
  unfold argsOk;rw [signature?_of (id:="map.__iter__") (n:=['_','_','r','e','t','i','_','_']) (o:=['p','a','m']) (by kernel_rfl) bz1];kernel_rfl
theorem cp0:typeLookup (.type "map") "__len__"=pure none:=by rw [typeLookup_type,builtinLookup_eq_fast];kernel_rfl
theorem co0:typeLookup (.type "map") "__length_hint__"=pure none:=by rw [typeLookup_type,builtinLookup_eq_fast];kernel_rfl
theorem Stk.fr {A A':Around} {B:FM} {h:Heap} (x:Stk A B h) (e:A'.frames=A.frames):Stk A' B h:=let ⟨l,h1,h2⟩:=x;⟨l,e.trans h1,h2⟩
section
variable {w:World} {A:Around} {E:Value→Shared→Prop} {s:Shared}
theorem dh6 {f l:Addr} {d7:Array Value} {Q:Value→Shared→Prop} (hL:s.heap.IsList l d7)
    (h:Q (.ref ((s.heap.push (az9 l 0)).push (bb1 s.heap.objs.size)).objs.size) { s with heap:=((s.heap.push (az9 l 0)).push (bb1 s.heap.objs.size)).push (bg2 (s.heap.push (az9 l 0)).objs.size (.ref f)) }) :
    wpAny (model prog w) A (call (.type "map") [.ref f,.ref l]) Q E s:=by
  obtain ⟨⟨c,dct,dt,sl⟩,hl,hc,n,hd⟩:=hL
  replace hc:c = .type "list":=hc
  replace hd:dt = .seq d7 n:=hd
  subst hc hd
  refine callType_new ct2 (by decide) (bp9 _ _) (bu8 _ _) (fun obj=>F.args_object_init_3 obj _ _) bv0 (bu3 f l d7 n dct sl) ⟨hl,?_,h⟩
  exact ⟨_,Heap.get?_push_size _ rfl,rfl⟩
theorem dg5 {M T:Addr} {f:Value} {Q:Value→Shared→Prop} (hM:s.heap.get? M=some (bg2 T f)) (h:Q (.ref M) s):wpAny (model prog w) A (pyIter (.ref M)) Q E s:=by
  have hT:s.TypeIs (.ref M) "map":=⟨_,hM,rfl⟩
  refine wpAny_pyIter_slot hT ba7 (wpAny_call_entry ba7 hT bm8 ?_ (bu5 _))
  show wpAny _ _ (ret (.ref M)) _ _ s
  exact wpAny_pure ⟨_,rfl,"map",_,hT,af2.lookup,h⟩
theorem dp8 {M T I l fa:Addr} {i:Nat} {d7:Array Value} {x:Value} {Q:Option Value→Shared→Prop} (hM:s.heap.get? M=some (bg2 T (.ref fa))) (hT:s.heap.get? T=some (bb1 I)) (hit:s.heap.IsListIter I l i) (hl:s.heap.IsList l d7) (hx:d7[i]?=some x) (hMI:M≠I)
    (hcall:∀ h1 E',h1.IsListIter I l (i+1)→Heap.SameBut I s.heap h1→wpAny (model prog w) A.in1 (call (.ref fa) [x]) (fun v s'=>Q (some v) s') E' { s with heap:=h1 }) :
    wpAny (model prog w) A (pyNext (.ref M)) Q E s:=by
  have hTy:s.TypeIs (.ref M) "map":=⟨_,hM,rfl⟩
  unfold pyNext
  refine wpAny_bind (wpAny_attempt (wpAny_callSpecial?_slot (name:=Str.ofString "__next__") hTy af2 (wpAny_call_entry af2 hTy aw0 ?_ (ba5 _))))
  unfold Builtin.«map.__next__»
  refine wpAny_bind (wpAny_pure ?_)
  refine wpAny_bind (wpAny_field hM rfl (x:=.ref T) rfl ?_)
  refine wpAny_bind (wpAny_seqItems hT rfl ?_)
  dsimp only
  rw [← Array.forIn_toList]
  show wpAny _ _ (forIn [Value.ref I] _ _ >>= _) _ _ _
  rw [List.forIn_cons]
  refine wpAny_bind (wpAny_bind (wpAny_bind (wpAny_holding (wpAny_nextOf_list_item hit hl hx fun h1 hit1 hs1=>?_))))
  refine wpAny_pure ?_
  dsimp only
  rw [List.forIn_nil]
  refine wpAny_pure ?_
  have hM1:=(hs1.2 M hMI).trans hM
  refine wpAny_bind (wpAny_field hM1 rfl (x:=.ref fa) rfl ?_)
  refine wpAny_bind (wpAny_holding (wpAny_mono (hcall h1 _ hit1 hs1) (fun v s' q=>?_) fun ξ ξ e=>e))
  refine wpAny_bind (wpAny_letGo ?_)
  exact wpAny_pure ⟨v,rfl,wpAny_pure q⟩
theorem dv8 {M T I l fa:Addr} {i:Nat} {d7:Array Value} {Q:Option Value→Shared→Prop} (hh:A.handled=none) (hM:s.heap.get? M=some (bg2 T (.ref fa))) (hT:s.heap.get? T=some (bb1 I)) (hit:s.heap.IsListIter I l i) (hl:s.heap.IsList l d7) (hx:d7[i]?=none)
    (h:∀ h',Heap.ExtBut I s.heap h'→Q none { s with heap:=h' }) :
    wpAny (model prog w) A (pyNext (.ref M)) Q E s:=by
  have hTy:s.TypeIs (.ref M) "map":=⟨_,hM,rfl⟩
  unfold pyNext
  refine wpAny_bind (wpAny_attempt (wpAny_callSpecial?_slot (name:=Str.ofString "__next__") hTy af2 (wpAny_call_entry af2 hTy aw0 ?_ (ba5 _))))
  unfold Builtin.«map.__next__»
  refine wpAny_bind (wpAny_pure ?_)
  refine wpAny_bind (wpAny_field hM rfl (x:=.ref T) rfl ?_)
  refine wpAny_bind (wpAny_seqItems hT rfl ?_)
  dsimp only
  rw [← Array.forIn_toList]
  show wpAny _ _ (forIn [Value.ref I] _ _ >>= _) _ _ _
  rw [List.forIn_cons]
  refine wpAny_bind (wpAny_bind (wpAny_bind (wpAny_holding (wpAny_nextOf_list_end hh hit hl hx fun h1 e hs1 ho=>?_))))
  obtain ⟨o,ho,hc⟩:=ho
  refine wpAny_bind (wpAny_isInstance (T:="StopIteration") (b:=true) ⟨o,ho,hc⟩ isSubtype_stop ?_)
  exact wpAny_pure (h _ hs1)
end
section
variable {w:World} {h₀:Heap} {mg mb:Str→Option Value} {A:Around} {E:Value→Shared→Prop}
theorem di6 {f:String} {j:Nat} {sp:List D→Option D} {M T I S l fa:Addr} {vs:List Value} {ds outs:List D} {B0:FM} {s0:Shared} {R:Result→Shared→Prop} {res:Value}
    (hf:mg (Str.ofString f)=some (.ref fa)) (hF:ac3 w h₀ mg j f sp) (rm:Rm j A.in1.in1) (stk:Stk A B0 s0.heap) (hb:∀ a o,h₀.get? a=some o→B0 a=some o) (ht0:0 < s0.toks)
    (hMI:M≠I) (hMS:M≠S) (hTI:T≠I) (hTS:T≠S) (hSI:S≠I) (hlI:l≠I) (hlS:l≠S) (hSn:s0.heap.get? S=none) (hIn:s0.heap.get? I=none)
    (houts:ds.mapM (fun d=>sp [d])=some outs) (hsz:ds.length≤sizeLine) :
    ∀ (k i:Nat) (s:Shared) (B:FM) (acc:List Value) (c:Nat),ds.length - i=k→i≤ds.length→Gr B0 s0.heap B s.heap→n7 s0 s→B S=none→B I=none→s.heap.get? M=some (bg2 T (.ref fa))→s.heap.get? T=some (bb1 I)→s.heap.IsListIter I l i→s.heap.IsList l vs.toArray→RdL prog w B ds vs→
      s.heap.get? S=some { cls:=.type "list",dict:=none,data:=.seq acc.toArray c,slots:=#[] }→RdL prog w B (outs.take i) acc→
      (∀ s' B' acc' c',Gr B0 s0.heap B' s'.heap→n7 s0 s'→s'.heap.get? S=some { cls:=.type "list",dict:=none,data:=.seq (List.toArray acc') c',slots:=#[] }→RdL prog w B' outs acc'→R (.ok (.ret res)) s')→
      codeAny (model prog w) A (.builtin "list.extend.loop" ⟨[.ref S,.ref M,res],[]⟩) R s:=by
  obtain ⟨hol,hget⟩:=aq9 houts
  intro k
  induction k with
  | zero=>
    intro i s B acc c hk hi g m hBS hBI hM hT hit hl hr hS hacc hR
    have hin:i=ds.length:=by lia
    subst hin
    refine codeAny_builtin F.entry_extend_loop ?_
    rw [Around.under_plainId F.plain_extend_loop _]
    show wpAny _ A.in1 (pyNext (.ref M) >>= _) _ _ s
    have hx:vs.toArray[ds.length]?=none:=by simp [hr.length]
    refine wpAny_bind (dv8 (show A.in1.handled=none from rm.handled) hM hT hit hl hx fun h' he=>?_)
    have hoff:∀ b o,¬ b=I→s.heap.get? b=some o→h'.get? b=some o:=fun b o q e=>he b o q e
    refine wpAny_pure (hR { s with heap:=h' } B acc c (g.off hoff fun b q=>by subst q;exact ⟨hIn,hBI⟩) ⟨m.gens,m.os,m.toks⟩ (hoff S _ hSI hS) ?_)
    rw [← hol,List.take_length] at hacc
    exact hacc
  | succ k ih=>
    intro i s B acc c hk hi g m hBS hBI hM hT hit hl hr hS hacc hR
    have hlt:i < ds.length:=by exact bd7 ‹_›
    refine codeAny_builtin F.entry_extend_loop ?_
    rw [Around.under_plainId F.plain_extend_loop _]
    show wpAny _ A.in1 (pyNext (.ref M) >>= _) _ _ s
    have hlv:i < vs.length:=by rw [hr.length];exact hlt
    have hx:vs.toArray[i]?=some vs[i]:=by simp [hlv]
    refine wpAny_bind (dp8 hM hT hit hl hx hMI fun h1 E' hit1 hs1=>?_)
    have hoff:∀ b o,¬ b=I→s.heap.get? b=some o→h1.get? b=some o:=fun b o q e=>(hs1.2 b q).trans e
    have g1:Gr B0 s0.heap B h1:=g.off hoff fun b q=>by subst q;exact ⟨hIn,hBI⟩
    obtain ⟨fa',o,fd,hf',ho,hfd,hc⟩:=hF
    rw [hf] at hf'
    cases hf'
    obtain ⟨y,hy,hyo⟩:=hget i ds[i] (List.getElem?_eq_getElem hlt)
    have hrd:Rd prog w B ds[i] vs[i]:=aj6 hr (List.getElem?_eq_getElem hlv) (List.getElem?_eq_getElem hlt)
    refine wpAny_call (codeAny_mono (hc (s:={ s with heap:=h1 }) rm ((stk.step g1).fr rfl) g1.keep (fun a o e=>g1.le a o (hb a o e)) (Nat.lt_of_lt_of_le ht0 m.toks) (RdL.cons hrd RdL.nil) hy) fun r' s2 q=>?_)
    obtain ⟨v,rfl,B2,g2,r2,m2⟩:=q
    dsimp only
    have hBS2:B2 S=none:=g2.none_of hBS (by rw [hoff S _ hSI hS];simp)
    have hIe:h1.get? I≠none:=by obtain ⟨o,e,_⟩:=hit1;rw [e];simp
    have hBI2:B2 I=none:=g2.none_of hBI hIe
    have hS2:=g2.old.solid (hoff S _ hSI hS) (.seq rfl)
    show wpAny _ A.in1 (updateSeq S (·.push v) >>= _) _ _ _
    have hlen:=hacc.length
    have htl:(outs.take i).length=i:=by rw [List.length_take,hol];lia
    refine wpAny_bind (wpAny_updateSeq hS2 rfl (wpAny_pure ⟨plainId_quiet F.plain_extend_loop _,?_⟩) (by simp only [List.size_toArray];lia) (by show (acc.toArray.push v).size≤sizeLine+1;simp only [Array.size_push,List.size_toArray];lia))
    have hoff2:∀ b o,¬ b=S→s2.heap.get? b=some o→(s2.heap.update S (Obj.mapSeq (·.push v))).get? b=some o:=fun b o q e=>(Heap.get?_update_other _ _ (fun h=>q h.symm)).trans e
    have g3:Gr B0 s0.heap B2 (s2.heap.update S (Obj.mapSeq (·.push v))):=(g1.trans g2).off hoff2 fun b q=>by subst q;exact ⟨hSn,hBS2⟩
    have hS3:=Heap.get?_update_self (Obj.mapSeq (·.push v)) hS2 rfl
    have hit2:s2.heap.IsListIter I l (i+1):=by obtain ⟨o,e,q1,q2⟩:=hit1;exact ⟨o,g2.old.solid e (.fields q2),q1,q2⟩
    refine ih (i+1) { s2 with heap:=s2.heap.update S (Obj.mapSeq (·.push v)) } B2 (acc ++ [v]) _ (by exact ar7 ‹_›) hlt g3 ⟨(m.trans ⟨m2.gens,m2.os,m2.toks⟩).gens,(m.trans ⟨m2.gens,m2.os,m2.toks⟩).os,(m.trans ⟨m2.gens,m2.os,m2.toks⟩).toks⟩ hBS2 hBI2 (hoff2 M _ hMS (g2.old.solid (hoff M _ hMI hM) (.fields rfl))) (hoff2 T _ hTS (g2.old.solid (hoff T _ hTI hT) (.seq rfl)))
      (by obtain ⟨o,e,q⟩:=hit2;exact ⟨o,hoff2 I _ (fun e=>hSI e.symm) e,q⟩) ((g2.old.list (hl.at fun o e=>hoff l o hlI e)).at fun o e=>hoff2 l o hlS e) (hr.mono g2.le) (by rw [hS3];simp [Obj.mapSeq];rfl) ?_ hR
    rw [List.take_add_one,hyo]
    exact (hacc.mono g2.le).append (RdL.cons r2 RdL.nil)
end
end
section
open PySem.Calls PySem.SeqAt
open AutoSeq1 (wpAny_loadPart')
section
variable {w:World} {h₀:Heap} {mg mb:Str→Option Value} {A:Around} {E:Value→Shared→Prop} {s:Shared}
theorem cl2 {f:String} {j:Nat} {sp:List D→Option D} {M T I l fa:Addr} {vs:List Value} {ds outs:List D} {B0 B:FM} {s0:Shared} {Q:List Value→Shared→Prop}
    (hf:mg (Str.ofString f)=some (.ref fa)) (hF:ac3 w h₀ mg j f sp) (rm:Rm j A.in1.in1) (stk:Stk A B0 s0.heap) (hb:∀ a o,h₀.get? a=some o→B0 a=some o) (ht0:0 < s0.toks)
    (hMI:M≠I) (hTI:T≠I) (hlI:l≠I) (hIn:s0.heap.get? I=none) (houts:ds.mapM (fun d=>sp [d])=some outs) (hsz:ds.length≤sizeLine)
    (g:Gr B0 s0.heap B s.heap) (m:n7 s0 s) (hBI:B I=none) (hM:s.heap.get? M=some (bg2 T (.ref fa))) (hT:s.heap.get? T=some (bb1 I)) (hit:s.heap.IsListIter I l 0) (hl:s.heap.IsList l vs.toArray) (hr:RdL prog w B ds vs)
    (hQ:∀ s' B' acc,Gr B0 s0.heap B' s'.heap→n7 s0 s'→RdL prog w B' outs acc→Q acc s'):wpAny (model prog w) A (collect (.ref M)) Q E s:=by
  have hTy:s.TypeIs (.ref M) "map":=⟨_,hM,rfl⟩
  unfold collect
  refine wpAny_bind (wpAny_runValue (codeAny_builtin F.entry_proto_collect ?_))
  rw [Around.under_plainId F.plain_proto_collect _]
  show wpAny _ A.in1 (newList [] >>= fun l=>again (.builtin "list.__iadd__" ⟨[l,.ref M],[]⟩)) _ _ s
  refine wpAny_bind (wpAny_newObj_type ?_)
  refine wpAny_pure ⟨plainId_quiet F.plain_list_iadd _,codeAny_builtin F.entry_list_iadd ?_⟩
  rw [Around.under_plainId F.plain_list_iadd _]
  have hSn:s.heap.get? s.heap.objs.size=none:=i6 (Nat.le_refl _)
  have hk1:∀ b o,s.heap.get? b=some o→(s.heap.push { cls:=.type "list",data:=.seq ([]:List Value).toArray }).get? b=some o:=fun b o e=>Heap.get?_push_of_some _ e
  have hS₁:(s.heap.push { cls:=.type "list",data:=.seq ([]:List Value).toArray }).get? s.heap.objs.size=some { cls:=.type "list",data:=.seq ([]:List Value).toArray }:=Heap.get?_push_size _ rfl
  have neS:∀ b,s.heap.get? b≠none→b≠s.heap.objs.size:=fun b q e=>by subst e;exact q hSn
  have hMS:M≠s.heap.objs.size:=neS M (by rw [hM];simp)
  have hTS:T≠s.heap.objs.size:=neS T (by rw [hT];simp)
  have hIS:I≠s.heap.objs.size:=neS I (by obtain ⟨o,e,_⟩:=hit;rw [e];simp)
  have hlS:l≠s.heap.objs.size:=neS l (by obtain ⟨o,e,_⟩:=hl;rw [e];simp)
  have hTy1:Shared.TypeIs ({ s with heap:=s.heap.push { cls:=.type "list",data:=.seq ([]:List Value).toArray } }:Shared) (.ref M) "map":=⟨_,hk1 _ _ hM,rfl⟩
  show wpAny _ A.in1 (Builtin.List.listExtendWith (.ref s.heap.objs.size) (.ref M) (.ref s.heap.objs.size)) _ _ _
  unfold Builtin.List.listExtendWith
  refine wpAny_bind (wpAny_typeOf hTy1 ?_)
  have h1:Builtin.List.listSameRef (.ref s.heap.objs.size) (.ref M)=false:=by simp [Builtin.List.listSameRef,Ne.symm hMS]
  have h2:(Value.type "map" == Value.type "list")=false:=by decide
  have h3:(Value.type "map" == Value.type "tuple")=false:=by decide
  simp only [h1,h2,h3,Bool.or_false,Bool.false_eq_true,if_false]
  refine wpAny_bind (dg5 (s:={ s with heap:=s.heap.push { cls:=.type "list",data:=.seq ([]:List Value).toArray } }) (hk1 _ _ hM) ?_)
  refine wpAny_bind (wpAny_holding ?_)
  unfold Builtin.List.listLengthHint
  refine wpAny_bind (wpAny_specialOf hTy1 cp0 ?_)
  show wpAny _ A.in1 (specialOf (Value.ref M) (Str.ofString "__length_hint__") >>= _) _ _ _
  refine wpAny_bind (wpAny_specialOf hTy1 co0 ?_)
  refine wpAny_pure ?_
  show wpAny _ A.in1 (rule "list.extend.makes-room" >>= fun ξ=>Builtin.List.listTouch (.ref s.heap.objs.size) >>= fun ξ=>
    again (.builtin "list.extend.loop" ⟨[.ref s.heap.objs.size,.ref M,.ref s.heap.objs.size],[]⟩)) _ _ _
  refine wpAny_bind (wpAny_rule ?_)
  refine wpAny_bind ?_
  show wpAny _ A.in1 (updateSeq s.heap.objs.size (·.push .none) >>= fun ξ=>updateSeq s.heap.objs.size (·.pop)) _ _ _
  refine wpAny_bind (wpAny_updateSeq hS₁ rfl ?_)
  have hS₂:=Heap.get?_update_self (Obj.mapSeq (·.push Value.none)) hS₁ rfl
  refine wpAny_updateSeq hS₂ rfl ?_
  have hS₃:=Heap.get?_update_self (Obj.mapSeq (·.pop)) hS₂ rfl
  have oth:∀ b o,s.heap.get? b=some o→
      (((s.heap.push { cls:=.type "list",data:=.seq ([]:List Value).toArray }).update s.heap.objs.size (Obj.mapSeq (·.push Value.none))).update s.heap.objs.size (Obj.mapSeq (·.pop))).get? b=some o:=
    fun b o e=>(Heap.get?_update_other _ _ (fun q=>neS b (by rw [e];simp) q.symm)).trans ((Heap.get?_update_other _ _ (fun q=>neS b (by rw [e];simp) q.symm)).trans (hk1 b o e))
  have hBS:B s.heap.objs.size=none:=r7 (s:=s) g.keep hSn
  have hS0:s0.heap.get? s.heap.objs.size=none:=by
    exact g.old.back hSn
  refine wpAny_pure ⟨plainId_quiet F.plain_extend_loop _,di6 (h₀:=h₀) (mg:=mg) (j:=j) (sp:=sp) (f:=f) (M:=M) (T:=T) (I:=I) (S:=s.heap.objs.size) (l:=l) (fa:=fa) (vs:=vs) (ds:=ds) (outs:=outs) (B0:=B0) (s0:=s0) hf hF rm stk hb ht0 hMI hMS hTI hTS (Ne.symm hIS) hlI hlS hS0 hIn houts hsz ds.length 0 _ B [] _ rfl (Nat.zero_le _)
    (g.trans (Gr.heap g.keep oth)) ⟨m.gens,m.os,m.toks⟩ hBS hBI (oth _ _ hM) (oth _ _ hT) (by obtain ⟨o,e,q⟩:=hit;exact ⟨o,oth _ _ e,q⟩) (hl.at fun o e=>oth _ _ e) hr hS₃ (by simpa using RdL.nil) fun s' B' acc c' g' m' hS' hr'=>?_⟩
  show wpAny _ A (load s.heap.objs.size >>= _) _ _ s'
  refine wpAny_bind (wpAny_load hS' ?_)
  refine wpAny_pure ?_
  simpa using hQ s' B' acc g' m' hr'
theorem db6 {f:String} {j:Nat} {sp:List D→Option D} {fa:Addr} {ds outs:List D} {B0:FM} {v:Value}
    (hf:mg (Str.ofString f)=some (.ref fa)) (hF:ac3 w h₀ mg j f sp) (rm:Rm j A.in1.in1.in1.in1) (stk:Stk A B0 s.heap) (hb:∀ a o,h₀.get? a=some o→B0 a=some o) (ht0:0 < s.toks) (kp:i9 B0 s.heap)
    (houts:ds.mapM (fun d=>sp [d])=some outs) (hsz:ds.length≤sizeLine) (t:f6 prog w s.heap B0 (.list ds) v) :
    wpAny (model prog w) A (call (.type "map") [.ref fa,v]) (fun u s1=>wpAny (model prog w) A (call (.type "tuple") [u]) (FrP prog w B0 s (.tuple outs)) E s1) E s:=by
  obtain ⟨l,o,vs,rfl,ho,x,rr⟩:=t
  refine dh6 (x.isList ho) ?_
  have z1:(s.heap.push (az9 l 0)).objs.size=s.heap.objs.size+1:=Heap.size_push ..
  have z2:((s.heap.push (az9 l 0)).push (bb1 s.heap.objs.size)).objs.size=s.heap.objs.size+2:=by rw [Heap.size_push,z1]
  have e1:(s.heap.push (az9 l 0)).get? s.heap.objs.size=some (az9 l 0):=Heap.get?_push_size _ rfl
  have e2:((s.heap.push (az9 l 0)).push (bb1 s.heap.objs.size)).get? (s.heap.objs.size+1)=some (bb1 s.heap.objs.size):=by rw [← z1];exact Heap.get?_push_size _ rfl
  have e3:(((s.heap.push (az9 l 0)).push (bb1 s.heap.objs.size)).push (bg2 (s.heap.push (az9 l 0)).objs.size (.ref fa))).get? (s.heap.objs.size+2)=some (bg2 (s.heap.push (az9 l 0)).objs.size (.ref fa)):=by rw [← z2];exact Heap.get?_push_size _ rfl
  rw [z2]
  rw [z1] at e3⊢
  have old:∀ b o,s.heap.get? b=some o→(((s.heap.push (az9 l 0)).push (bb1 s.heap.objs.size)).push (bg2 (s.heap.objs.size+1) (.ref fa))).get? b=some o:=fun b o e=>Heap.get?_push_of_some _ (Heap.get?_push_of_some _ (Heap.get?_push_of_some _ e))
  have e2':=Heap.get?_push_of_some (bg2 (s.heap.objs.size+1) (.ref fa)) e2
  have e1':=Heap.get?_push_of_some (bg2 (s.heap.objs.size+1) (.ref fa)) (Heap.get?_push_of_some (bb1 s.heap.objs.size) e1)
  generalize ((s.heap.push (az9 l 0)).push (bb1 s.heap.objs.size)).push (bg2 (s.heap.objs.size+1) (.ref fa))=H at e1' e2' e3 old
  have hlt:l < s.heap.objs.size:=Heap.lt_size ho
  refine callType_codes (Q₁:=fun obj s₁=>s₁.TypeIs obj "tuple"∧FrP prog w B0 s (.tuple outs) obj s₁) F.called_tuple (F.typeCall_tuple_1 _) F.entry_object_init ?_ fun obj s₁ h₁=>?_
  · refine codeAny_of_tree ?_
    show wpAny _ A.in1.in1 (do checkBuiltinCall "tuple.__new__" ⟨[.type "tuple",.ref (s.heap.objs.size+2)],[]⟩;again (.builtin "tuple.__new__" ⟨[.type "tuple",.ref (s.heap.objs.size+2)],[]⟩)) _ _ _
    refine wpAny_bind (wpAny_of_eq (F.newCall_tuple_1 _) (wpAny_pure ⟨plainId_quiet F.plain_tuple_new _,codeAny_builtin F.entry_tuple_new ?_⟩))
    rw [Around.under_plainId F.plain_tuple_new _]
    have hsub:=sub_tuple_self
    have hinit:=init_tuple_lookup
    have hmh:=madeHere_tuple
    have hTI:Shared.TypeIs ({ s with heap:=H }:Shared) (.ref (s.heap.objs.size+2)) "map":=⟨_,e3,rfl⟩
    have hcol:=fun (Q:List Value→Shared→Prop) (E:Value→Shared→Prop) hQ=>cl2 (A:=A.in1.in1) (E:=E) (Q:=Q) (s:={ s with heap:=H }) (s0:=s) (B0:=B0) (B:=B0) (I:=s.heap.objs.size) (T:=s.heap.objs.size+1) (M:=s.heap.objs.size+2) (l:=l) hf hF rm (stk.fr rfl) hb ht0
      (Nat.ne_of_gt (Nat.lt_succ_of_lt (Nat.lt_succ_self _))) (Nat.succ_ne_self _) (Nat.ne_of_lt hlt) (i6 (Nat.le_refl _)) houts hsz (Gr.heap kp old) ⟨rfl,rfl,Nat.le_refl _⟩ (r7 (s:=s) kp (i6 (Nat.le_refl _))) e3 e2' ⟨_,e1',rfl,rfl⟩ ((x.isList ho).at fun o e=>old _ o e) rr hQ
    wp_walk using wpAny_typeOf hTI,hcol
    intro s' B' acc g' m' hr'
    refine wpAny_bind (wpAny_pure ?_)
    show wpAny _ _ (Builtin.Tuple.tupleExact acc.toArray >>= fun v=>ret v) _ _ _
    unfold Builtin.Tuple.tupleExact
    have hol:=(aq9 houts).1
    refine wpAny_bind (wpAny_newObj_type ?_ (by show acc.toArray.size≤sizeLine;simp only [List.size_toArray];rw [hr'.length,hol];exact hsz))
    refine wpAny_pure ?_
    refine ⟨⟨_,Heap.get?_push_size _ rfl,rfl⟩,?_⟩
    exact FrP.after (s1:=s') g' m' (FrP.tuple (k:=s'.toks) g'.keep (Nat.le_refl _) hr')
  · exact ⟨h₁.1,F.args_object_init_2 obj _,object_init_meets F.called_tuple.init.lookup F.called_tuple.made (by decide) prog w A.in1 _ s₁ ⟨h₁.1,rfl,h₁.2⟩⟩
end
section
variable {w:World} {h₀:Heap} {mg mb:Str→Option Value} {k:Nat} {calls:String→List D→Option D} {sc:Scope}
theorem de8 {x y g:Str} {f:String} {e:PySem.Expr} {a:IR} {p1 p2 p3 p4 pos:Pos} {j:Nat} (G:Glb h₀ mg mb) (hx:i4 sc x=true) (hxe:x="tuple") (hy:i4 sc y=true) (hye:y="map") (hg:i4 sc g=true) (hf:Str.ofString f=g) (hj:j+1≤k)
    (hF:ac3 w h₀ mg j f (calls f)) (he:ac2 w h₀ k calls sc e a) (hn:m8 e=true) :
    i8 w h₀ k calls sc (.Call (.Name x p1) [.Call (.Name y p2) [.Name g p3,e] [] p4] [] pos) (.tupmap f a):=fun A E s env r B d ok hd=>by
  obtain ⟨d0,h1,hd⟩:=a6 hd
  obtain ⟨l,hl,hd⟩:=a6 hd
  obtain ⟨hz,hd⟩:=g6 hd
  obtain ⟨outs,houts,hd⟩:=a6 hd
  cases hd
  obtain rfl:=l6 hl
  subst hxe hye
  have hF':=hF
  obtain ⟨fa,o,fd,hm,ho,hfd,_⟩:=hF'
  have rm4:Rm j A.in1.in1.in1.in1:=⟨ok.rm.handled,by have:=ok.rm.depth;show A.depth+j≤900;lia,by have:=ok.rm.units;show A.units+1+1+1+1+10 * j+200≤cLine;lia⟩
  refine Call_ (t7 G ok hx (G.bi _ (.type "tuple") (by simp)) ?_)
  refine callWith_type1 ?_ (c9 rfl) rfl
  rw [c9 rfl,j6]
  refine spliced_cons (Call_ (t7 G ok hy (G.bi _ (.type "map") (by simp)) ?_))
  refine callWith_type1 ?_ (c9 rfl) (by rw [c9 hn,j6];rfl)
  rw [c9 rfl,c9 hn,j6,j6]
  refine spliced_cons (bj5 G ok hg (hf▸hm) ?_)
  refine spliced_cons (k8 he ok h1 fun v s1 B1 g1 m1 t1 ok1=>spliced_nil ?_)
  refine wpAny_mono (db6 hm hF rm4 ok1.stk ok1.base ok1.toks ok1.keep houts (ai5 hz) t1) (fun u s2 q=>spliced_nil (wpAny_mono q (fun w s3 q=>(FrP.after g1 m1 q).ev) fun ξ ξ e=>e)) fun ξ ξ e=>e
end
end
section
open PySem.Calls PySem.SeqAt
section
variable {w:World} {h₀:Heap} {mg mb:Str→Option Value} {k:Nat} {calls:String→List D→Option D} {fresh:String→Bool} {sc:Scope}
noncomputable def dy8 (prog:Program) (w:World) (h0:Heap) (B0:FM) (sc:Scope) (binds:List (Str×Value)) (r1:Rho) (B1:FM) (s1:Shared):Prop:=
  ∀ ⦃env:Env⦄ ⦃A:Around⦄ ⦃E:Value→Shared→Prop⦄ ⦃s2:Shared⦄ ⦃Q:PUnit→Shared→Prop⦄,t9 env sc→Sim prog w h0 B0 env sc (al6 sc) B1 (fun ξ=>False) s2.heap→(∀ a o,s1.heap.get? a=some o→s2.heap.get? a=some o)→(∀ a,isOwn env sc a→s1.heap.get? a=none)→s1.toks≤s2.toks→
    (∀ h' tk,s2.toks≤tk→0 < tk→Sim prog w h0 B0 env sc r1 B1 (fun ξ=>False) h'→Q PUnit.unit { s2 with heap:=h',toks:=tk })→
    wpAny (model prog w) A (forIn binds PUnit.unit fun (p:Str×Value) u=>(do storeName env p.1 p.2;pure (ForInStep.yield PUnit.unit):Sem _)) Q E s2
set_option tactic.hygienic true in
theorem ce4 {name:Str} {params:Arguments} {body:List Stmt} {pm cd doc:Value} {fa:Addr} {o:Obj} {h0:Heap} {B0 B:FM} {A:Around} {s:Shared} {vs:List Value} {F:Rho→Option (Fl×Rho)} {bb:Bool} {d:D} {r1 r':Rho} {R:Result→Shared→Prop} (G:Glb h₀ mg mb)
    (ho:h₀.get? fa=some o) (hd:o.data = .func (docDef name params body sc pm cd doc)) (hcr:h₀.CodeRec cd name) (fs:FnS sc) (hco:sc.isCoroutine=false) (hgen:sc.isGenerator=false)
    (rm:Rm (k+1) A) (hb:∀ a o,h₀.get? a=some o→B0 a=some o) (g:Gr B0 h0 B s.heap) (stk:Stk A B0 h0)
    (hbind:∀ (Q:List (Str×Value)→Shared→Prop) (E:Value→Shared→Prop),(∀ binds s1 B1,Gr B0 h0 B1 s1.heap→n7 s s1→dy8 prog w h0 B0 sc binds r1 B1 s1→Q binds s1)→wpAny (model prog w) A.in1 (bindArgs (docDef name params body sc pm cd doc) ⟨vs,[]⟩) Q E s)
    (nm:y6 sc r1) (hbody:ck5 prog w h₀ k sc (PySem.execs body) F) (hF:F r1=some (.ret bb d,r'))
    (hR:∀ v s',ef4 w h0 B0 bb d v s s'→R (.ok (.ret v)) s') :
    codeAny (model prog w) A (.call (.ref fa) ⟨vs,[]⟩) R s:=by
  have old0:∀ a o,h₀.get? a=some o→s.heap.get? a=some o:=fun a o e=>g.keep a o (g.le a o (hb a o e))
  refine codeAny_call_function (o:=o) (fd:=docDef name params body sc pm cd doc) (body:=body) ?_ (old0 _ _ ho) hd hco hgen rfl ?_ ?_
  · have:=rm.depth
    show A.depth < 1000
    lia
  · exact hcr.keeps old0
  · refine hbind _ _ fun binds s1 B1 g1 m1 hst=>?_
    refine cz9 fs.nodup fun h' cells hce ca hns hcls old hloc=>?_
    subst hce
    have S0:=Sim.fn0 (w:=w) (sc:=sc) (qual:=name ++ ".<locals>.") (fa:=some fa) (code:=cd) g1 fs ca hns hcls old
    refine hst (ci0 (qual:=name ++ ".<locals>.") (fa:=some fa) (code:=cd) fs) (s2:={ s1 with heap:=h' }) S0 old (fun a q=>(Sim.fn0 (w:=w) (sc:=sc) (qual:=name ++ ".<locals>.") (fa:=some fa) (code:=cd) (Gr.refl g1.keep) fs ca hns hcls old).own0 a q |>.1) (Nat.le_refl _) fun h2 tk htk ht0 S1=>?_
    have old1:∀ a o,h₀.get? a=some o→h2.get? a=some o:=fun a o e=>S1.gr.keep a o (S1.gr.le a o (hb a o e))
    refine ⟨G.nolimit.keeps fun a o e=>old1 a o e,?_⟩
    have rm':Rm k (A.deeper (newEnv sc s1.heap.objs.size mainGlobals (cellsFrom (s1.heap.objs.size+1) sc.names []) (name ++ ".<locals>.") (some fa) cd none builtinsNs)):=by
      refine ⟨rm.handled,?_,?_⟩
      · have:=rm.depth
        show A.depth+1+k≤900
        lia
      · have:=rm.units
        show A.units+3+10 * k+200≤cLine
        lia
    have htk':s.toks≤tk:=Nat.le_trans m1.toks htk
    have fa':FrA (A.deeper (newEnv sc s1.heap.objs.size mainGlobals (cellsFrom (s1.heap.objs.size+1) sc.names []) (name ++ ".<locals>.") (some fa) cd none builtinsNs)) (newEnv sc s1.heap.objs.size mainGlobals (cellsFrom (s1.heap.objs.size+1) sc.names []) (name ++ ".<locals>.") (some fa) cd none builtinsNs) B0 h0:=by
      obtain ⟨l,e1,e2⟩:=stk
      refine ⟨rfl,newEnv sc s1.heap.objs.size mainGlobals (cellsFrom (s1.heap.objs.size+1) sc.names []) (name ++ ".<locals>.") (some fa) cd none builtinsNs,l,?_,?_,rfl,e2⟩
      · show A.frames.map _=_
        rw [e1];rfl
      · show sc.kind≠.module
        rw [fs.kind];decide
    refine codeAny_func (wpAny_mono (hbody rm' (ci0 fs) hb ht0 fa' nm S1 hF) (fun fl s3 q=>?_) fun ξ ξ e=>e)
    unfold FlP at q
    cases fl <;> first | exact q.elim | skip
    rename_i v
    obtain ⟨B',g',m,q⟩:=q
    exact hR v s3 ⟨B',g',⟨m.gens.trans m1.gens,m.os.trans m1.os,Nat.le_trans htk' m.toks⟩,q⟩
theorem cq8 {B:FM} {b:Bool} {d:D} {v:Value} {s s':Shared} (h:ef4 w s.heap B b d v s s'):EvP prog w B s d v s':=by
  obtain ⟨B',g,m,q⟩:=h
  cases b
  · exact ⟨B',g,q,m⟩
  · obtain ⟨a,rfl,e1,e2,t,hpl⟩:=q
    exact (FrP.ev ⟨B',a,rfl,g,e1,e2,t,m,hpl⟩)
theorem bx3 {is:List Nat} {ds:List D} (hl:ds.length=is.length):y6 sc (al4 (al6 sc) is ds):=fun i d' q=>by
  have:=(aj3 is ds (al6 sc) i _ d' hl q (by simp)).1
  rw [as4] at this;cases this
theorem ej2 {f:String} {sp:List D→Option D} {name:Str} {params:Arguments} {body:List Stmt} {pm cd doc:Value} {fa:Addr} {o:Obj} {xs:List Str} {is:List Nat} {F:Rho→Option (Fl×Rho)} (G:Glb h₀ mg mb)
    (hm:mg (Str.ofString f)=some (.ref fa)) (ho:h₀.get? fa=some o) (hd:o.data = .func (docDef name params body sc pm cd doc)) (hcr:h₀.CodeRec cd name) (fs:FnS sc) (hco:sc.isCoroutine=false) (hgen:sc.isGenerator=false)
    (hbind:∀ vs:List Value,vs.length=xs.length→bindArgs (docDef name params body sc pm cd doc) ⟨vs,[]⟩=pure (xs.zip vs)) (hp:a9 (fun x i=>l7 sc x=some i) xs is) (hbody:ck5 prog w h₀ k sc (PySem.execs body) F)
    (hsp:∀ ds d,sp ds=some d→ds.length=is.length∧∃ b r',F (al4 (al6 sc) is ds)=some (.ret b d,r')):ac3 w h₀ mg (k+1) f sp:=by
  refine ⟨fa,o,_,hm,ho,hd,fun A s B vs ds d rm stk kp hb ht r h=>?_⟩
  obtain ⟨hl,bb,r',hex⟩:=hsp ds d h
  refine ce4 G ho hd hcr fs hco hgen rm hb (Gr.refl kp) stk (fun Q E hQ=>?_) (bx3 hl) hbody hex fun v s' q=>⟨v,rfl,cq8 q⟩
  rw [hbind vs (by rw [r.length,hl,aq3 hp])]
  refine wpAny_pure (hQ _ s B (Gr.refl kp) (.refl s) fun env A E s2 Q ek S old ξ hle hQ2=>?_)
  rw [← List.append_nil (xs.zip vs)]
  refine cz7 (rest:=[]) hp ek S r hl fun h2 tk htk S1=>?_
  rw [List.forIn_nil]
  exact wpAny_pure (hQ2 h2 tk htk (Nat.lt_of_lt_of_le ht (Nat.le_trans hle htk)) S1)
end
end
section
open PySem.Calls PySem.SeqAt
section
variable {w:World} {A:Around} {E:Value→Shared→Prop} {s:Shared}
theorem cd2:isSubtype (.type "str") (.type "str")=pure true:=by rw [isSubtype_type];kernel_rfl
theorem cl9:builtinKind "issubclass.nested"=none:=by decide +kernel
theorem cb0:plainId "issubclass.nested"=true:=by decide +kernel
theorem ci8 (a b c:Value):argsOk "issubclass.nested" ⟨[a,b,c],[]⟩:=by unfold argsOk;kernel_rfl
theorem cp3 {prog:Program} {k:Value} {dep:Int} {tk:Tok} {Q:Fin→Shared→Prop} (hk:k = .int dep tk) (hq:Q (.done (.ret (.bool true))) s) :
    wpAny (model prog w) A (Builtin.«issubclass.nested» ⟨[.type "str",.type "str",k],[]⟩) Q E s:=by
  subst hk
  have hself:=cd2
  wp_walk
  exact hq
theorem cp1 {prog:Program} {a:Addr} {k:Value} {dep:Int} {tk:Tok} {Q:Fin→Shared→Prop} (hk:k = .int dep tk) (hd:dep=0) (ht:s.heap.IsTuple a #[.type "str",.type "bytes"]) (hq:Q (.done (.ret (.bool true))) s) :
    wpAny (model prog w) A (Builtin.«issubclass.nested» ⟨[.type "str",.ref a,k],[]⟩) Q E s:=by
  subst hk hd
  have hT:s.TypeIs (.ref a) "tuple":=by obtain ⟨o,h1,h2,_⟩:=ht;exact ⟨o,h1,h2⟩
  have hsub:=sub_tuple_self
  unfold Builtin.«issubclass.nested»
  wp_walk using wpAny_typeOf hT
  obtain ⟨o,ho,hc,n,hd⟩:=ht
  refine wpAny_load ho ?_
  rw [hd]
  refine wpAny_pure ?_
  dsimp only [Option.getD_some]
  rw [← Array.forIn_toList]
  show wpAny _ _ (forIn [Value.type "str",Value.type "bytes"] _ _ >>= _) _ _ _
  rw [List.forIn_cons]
  refine wpAny_bind (wpAny_bind (wpAny_bind (call_function_entry cl9 cb0 F.entry_issubclass_nested (ci8 _ _ _) (cp3 rfl ⟨_,rfl,?_⟩))))
  refine wpAny_bind (wpAny_truthy_bool ?_)
  simp only [if_true]
  refine wpAny_bind (wpAny_pure (wpAny_pure ?_))
  dsimp only
  refine wpAny_pure ?_
  dsimp only
  exact wpAny_pure hq
theorem cr9 {a:Addr} {Q:Value→Shared→Prop} (ht:s.heap.IsTuple a #[.type "str",.type "bytes"]) (hq:Q (.bool true) s):wpAny (model prog w) A (call (.builtin "issubclass") [.type "str",.ref a]) Q E s:=
  call_issubclass (S:=fun ξ R s=>s.heap.IsTuple a #[.type "str",.type "bytes"]∧R (.ok (.ret (.bool true))) s) (fun prog w A R s hs=>issubclass_outer (cp1 rfl rfl hs.1 hs.2)) ⟨ht,hq⟩
end
section
variable {w:World} {h₀:Heap} {mg mb:Str→Option Value} {k:Nat} {calls:String→List D→Option D} {fresh:String→Bool} {sc:Scope}
theorem cm7 {i j:Nat} {x y ti is st bt:Str} {p1 p2 p3 p4 p5 p6 p7 p8 p9 p10 p11 p12 p13 p14:Pos} {kd:Nat} {els rest:List Stmt} (G:Glb h₀ mg mb)
    (hx:d6 sc x=some i) (hy:l7 sc y=some j) (hyl:sc.names.lookup y=some .local) (hij:x≠y) (hti:i4 sc ti=true) (tie:ti="type") (his:i4 sc is=true) (ise:is="issubclass") (hst:i4 sc st=true) (ste:st="str") (hbt:i4 sc bt=true) (bte:bt="bytes") :
    ck5 prog w h₀ k sc (PySem.execs (.Assign [.Name y p1] (.Call (.Name ti p2) [.Name x p3] [] p4) p5 :: .If (.Call (.Name is p6) [.Name y p7,.Tuple [.Name st p8,.Name bt p9] kd p10] [] p11) [.Return (some (.Name x p12)) p13] els p14 :: rest))
      (fun r=>do let d ← bt6 (r.get i);let u ← aa8 d;some (.ret false (.str u),r)):=fun A E env r B s h0 B0 Y res rm ek hb ht fa hn S h=>by
  obtain ⟨d,hr,h⟩:=a6 h
  obtain ⟨u,hu,h⟩:=a6 h
  cases h
  obtain rfl:=n9 hu
  have hr:=ay3 hr
  subst tie ise ste bte
  have ok:=Sim.ok S rm ek hb ht fa
  obtain ⟨v,a0,t0,_⟩:=S.vars x i _ _ hx hr
  obtain ⟨t,_,rfl⟩:=t0
  obtain ⟨hyw,_⟩:=e9 hy
  have hl:=ek.loc y hyl
  obtain ⟨m,hns⟩:=S.fm.ns
  refine wpAny_execs_cons (ao5 rfl (Call_ (t7 G ok hti (G.bi _ (.type "type") (by simp)) ?_)))
  refine callWith_type1 ?_ (c9 rfl) rfl
  rw [c9 rfl,j6]
  refine spliced_cons (a0.load ek.kind (j3 hx) (spliced_nil ?_))
  refine call_type_of (Tx:="str") rfl (by decide) ?_
  refine wpAny_assign_Name (wpAny_storeName_local hl hns (fun h' hns' hsb=>?_) (by rw [ek.kind];rfl))
  have hk:∀ b o,¬ b=env.locals→s.heap.get? b=some o→h'.get? b=some o:=fun b o q e=>(hsb.2 b q).trans e
  have old0:∀ a o,h₀.get? a=some o→h'.get? a=some o:=fun a o e=>hk a o (fun q=>by subst q;have:=(S.own0 _ (.inl rfl)).2;rw [S.gr.le _ _ (hb _ _ e)] at this;cases this) (ok.old a o e)
  have hax:At env h' x (.str u t):=by
    cases a0 with
    | loc m' e hn' hv=>
      have:=bi0 hns hn'
      subst this
      exact .loc _ e hns' (by simp [hij,hv])
    | cell c e hc hv=>exact .cell c e hc (hv.sameBut hsb (fun q=>ba9 hns hv q.symm))
  have hay:At env h' y (.type "str"):=.loc _ hl hns' (by simp)
  refine wpAny_execs_cons (wpAny_If ?_)
  refine ap3 rfl ?_
  have gl:∀ {nm:Str} {vv:Value} {pp:Pos} {A:Around} {E:Value→Shared→Prop} {s2:Shared} {Q:Value→Shared→Prop},i4 sc nm=true→(mg nm=none∧mb nm=some vv)→(∀ a o,h₀.get? a=some o→s2.heap.get? a=some o)→Q vv s2→wpAny (model prog w) A (PySem.eval (.Name nm pp) env) Q E s2:=by
    intro nm vv pp A E s2 Q hx hm ho hq
    obtain ⟨h1,h2⟩:=Bool.and_eq_true_iff.mp hx
    have h3:(nm == ("__debug__":Str))=false:=by
      have:=(Bool.and_eq_true_iff.mp h2).1
      simpa [bne] using this
    exact Name_function_global ek.kind (ek.glob nm (by simpa using h1)) (loadGlobal_builtin (by rw [ek.globals];exact G.g.keeps ho) hm.1 (by rw [ek.builtins];exact G.b.keeps ho) hm.2 hq) h3
  refine Call_ (gl his (G.bi _ (.builtin "issubclass") (by simp)) old0 ?_)
  refine callWith_builtin1 ?_ (c9 rfl) rfl
  rw [c9 rfl,c9 rfl,j6,j6]
  refine spliced_cons (hay.load ek.kind (j3 hyw) ?_)
  refine spliced_cons (Tuple_ ?_)
  rw [c9 rfl,c9 rfl,j6,j6]
  refine spliced_cons (gl hst (G.bi _ (.type "str") (by simp)) old0 (spliced_cons (gl hbt (G.bi _ (.type "bytes") (by simp)) old0 (spliced_nil ?_))))
  refine wpAny_newObj_type ?_ (by show 2≤sizeLine;rw [sizeLine_eq];exact Nat.le_add_left ..)
  refine spliced_nil ?_
  have ntup:∀ o:Obj,o.isFreed=false→(h'.push o).get? h'.objs.size=some o:=fun o q=>Heap.get?_push_size _ q
  refine cr9 ⟨_,ntup _ rfl,rfl,_,rfl⟩ ?_
  refine wpAny_truthy_bool ?_
  simp only [if_true]
  have hold:∀ b o,h'.get? b=some o→(h'.push { cls:=Value.type "tuple",data:=Data.seq [Value.type "str",Value.type "bytes"].toArray }).get? b=some o:=fun b o e=>Heap.get?_push_of_some _ e
  refine wpAny_execs_cons (wpAny_Return_some ((hax.keeps (.of hold)).load ek.kind (j3 hx) ?_))
  have g1:Gr B0 h0 B h':=S.gr.off hk fun b q=>by subst q;exact S.own0 _ (.inl rfl)
  exact ⟨B,g1.trans (Gr.heap g1.keep hold),⟨rfl,rfl,Nat.le_succ _⟩,(bg0 (w:=w) (B:=B)).mpr ⟨t,trivial,rfl⟩⟩
end
end
section
open PySem.Calls PySem.SeqAt
noncomputable def zes (c0 c1:Option Tok):List (Int×Value):=(c0.toList.map fun t=>((0:Int),Value.int 0 t)) ++ c1.toList.map fun t=>((1:Int),Value.int 1 t)
noncomputable def av9 (led c0 c1:Bool):SetTable:={ mask:=7,place:=((bif c0 then [0] else []) ++ (bif c1 then [1] else [])).toArray,dummies:=#[],finger:=0,led:=led,moves:=0,plain:=true }
noncomputable def aj5 (led:Bool) (c0 c1:Option Tok) (ep:Nat):Obj:={ cls:=.type "set",dict:=none,data:=.set (zes c0 c1).toArray ep (av9 led c0.isSome c1.isSome) }
theorem ax4 (led:Bool) (c0 c1:Option Tok):(av9 led c0.isSome c1.isSome).fits (zes c0 c1).toArray.size=true:=by cases c0 <;> cases c1 <;> cases led <;> rfl
theorem es0 {led c0 c1 d0 d1:Bool} {es es':List (Int×Value)} {i:Int} {x:Value} {j p:Nat} (h1:(av9 led c0 c1).freeSlot i=some (j,false)) (h2:(av9 led c0 c1).put j=(av9 led d0 d1,p)) (h3:SetTable.insertAt es.toArray p (i,x)=es'.toArray) (h4:(av9 led d0 d1).fits es'.toArray.size=true) :
    layNew (av9 led c0 c1) es.toArray i x=(es'.toArray,av9 led d0 d1,false,false):=by
  unfold layNew
  rw [h1]
  dsimp only
  rw [h2]
  dsimp only
  rw [h3]
  unfold SetTable.orStandIn
  rw [if_pos h4,h4];rfl
theorem em0 (led:Bool) (c1:Option Tok) (t:Tok):layNew (av9 led false c1.isSome) (zes none c1).toArray 0 (.int 0 t)=((zes (some t) c1).toArray,av9 led true c1.isSome,false,false):=
  es0 (j:=0) (p:=0) (by generalize c1.isSome=b;cases led <;> cases b <;> decide +kernel) (by generalize c1.isSome=b;cases led <;> cases b <;> decide +kernel) (by cases c1 <;> simp [SetTable.insertAt,zes]) (ax4 led (some t) c1)
theorem er5 (led:Bool) (c0:Option Tok) (t:Tok):layNew (av9 led c0.isSome false) (zes c0 none).toArray 1 (.int 1 t)=((zes c0 (some t)).toArray,av9 led c0.isSome true,false,false):=
  es0 (j:=1) (p:=c0.isSome.toNat) (by generalize c0.isSome=b;cases led <;> cases b <;> decide +kernel) (by generalize c0.isSome=b;cases led <;> cases b <;> decide +kernel) (by cases c0 <;> simp [SetTable.insertAt,zes]) (ax4 led c0 (some t))
noncomputable abbrev ik (w:World):=intKind prog w
section
variable {w:World} {A:Around} {E:Value→Shared→Prop} {s:Shared}
theorem cg5 (c0 c1:Option Tok):ElemsOf (ik w) (zes c0 c1).toArray.toList:=by
  intro e he
  have:(∃ t,e=((0:Int),Value.int 0 t))∨∃ t,e=((1:Int),Value.int 1 t):=by
    rcases List.mem_append.mp he with h | h
    · obtain ⟨t,_,rfl⟩:=List.mem_map.mp h;exact .inl ⟨t,rfl⟩
    · obtain ⟨t,_,rfl⟩:=List.mem_map.mp h;exact .inr ⟨t,rfl⟩
  rcases this with ⟨t,rfl⟩ | ⟨t,rfl⟩
  · exact ⟨⟨0,rfl,rfl⟩,rfl⟩
  · exact ⟨⟨1,rfl,rfl⟩,rfl⟩
theorem bp8 (c0 c1:Option Tok):(zes c0 c1).toArray.size≤2:=by cases c0 <;> cases c1 <;> simp [zes]
theorem ci2 {a:Addr} {i:Int} {t:Tok} {led:Bool} {c0 c1 d0 d1:Option Tok} {ep:Nat} {Q:Bool→Shared→Prop} (ho:s.heap.get? a=some (aj5 led c0 c1 ep)) (hi:(ik w).hash i=i)
    (hx:(zes c0 c1).toArray.toList.findIdx? (fun e=>(ik w).is i e.2)=none) (hlay:layNew (av9 led c0.isSome c1.isSome) (zes c0 c1).toArray i (.int i t)=((zes d0 d1).toArray,av9 led d0.isSome d1.isSome,false,false))
    (h:∀ h' ep' tk,h'.get? a=some (aj5 led d0 d1 ep')→Heap.SameBut a s.heap h'→Q true { s with heap:=h',toks:=tk }):wpAny (model prog w) A (setAdd a (.int i t)) Q E s:=by
  unfold setAdd
  refine wpAny_holding (wpAny_bind ((ik w).pyHash (k:=i) (intKind_is _ _ _ _) ?_))
  unfold setAddHashed setAddHashedIn
  have hf:=ax4 led c0 c1
  refine wpAny_holding (wpAny_bind (wpAny_setState_of ho rfl hf ?_))
  dsimp only
  rw [byScan_of rfl (Nat.lt_of_le_of_lt (bp8 c0 c1) (by decide)) (cg5 (w:=w) c0 c1)]
  simp only [if_true]
  unfold setAddByScan
  refine wpAny_bind (wpAny_bind (wpAny_rule ?_))
  refine wpAny_bind (wpAny_setScan_of (intKind_is _ _ _ _) ho rfl hf (cg5 (w:=w) c0 c1) ?_)
  rw [hx]
  rw [hi,hlay]
  dsimp only
  refine wpAny_bind (wpAny_pure ?_)
  rw [show (av9 led d0.isSome d1.isSome).plain=true from rfl]
  simp only [if_true]
  rw [show hashByValue 8 (.int i t)=pure true from rfl]
  refine wpAny_bind (wpAny_pure ?_)
  simp only [if_true]
  refine wpAny_bind (wpAny_storeSet_of ho rfl ?_ (Nat.le_trans (bp8 d0 d1) (by decide)))
  rw [show (!false && (av9 led d0.isSome d1.isSome).tooFull)=false by cases d0 <;> cases d1 <;> cases led <;> rfl]
  simp only [Bool.false_eq_true,if_false]
  refine wpAny_pure (wpAny_pure ?_)
  refine h _ (ep+1) _ ?_ (Heap.SameBut.update ..)
  exact Heap.get?_update_self (Obj.putSet (zes d0 d1).toArray (av9 led d0.isSome d1.isSome)) ho rfl
theorem bq7 {a:Addr} {i:Int} {t:Tok} {led:Bool} {c0 c1:Option Tok} {ep j:Nat} {Q:Bool→Shared→Prop} (ho:s.heap.get? a=some (aj5 led c0 c1 ep))
    (hx:(zes c0 c1).toArray.toList.findIdx? (fun e=>(ik w).is i e.2)=some j) (h:∀ tk,Q false { s with toks:=tk }):wpAny (model prog w) A (setAdd a (.int i t)) Q E s:=by
  unfold setAdd
  refine wpAny_holding (wpAny_bind ((ik w).pyHash (k:=i) (intKind_is _ _ _ _) ?_))
  unfold setAddHashed setAddHashedIn
  have hf:=ax4 led c0 c1
  refine wpAny_holding (wpAny_bind (wpAny_setState_of ho rfl hf ?_))
  dsimp only
  rw [byScan_of rfl (Nat.lt_of_le_of_lt (bp8 c0 c1) (by decide)) (cg5 (w:=w) c0 c1)]
  simp only [if_true]
  unfold setAddByScan
  refine wpAny_bind (wpAny_bind (wpAny_rule ?_))
  refine wpAny_bind (wpAny_setScan_of (intKind_is _ _ _ _) ho rfl hf (cg5 (w:=w) c0 c1) ?_)
  rw [hx]
  dsimp only
  exact wpAny_pure (wpAny_pure (h _))
noncomputable def cm6 (is:List Int) (c0 c1:Option Tok):Prop:=(c0.isSome=true↔(0:Int)∈is)∧(c1.isSome=true↔(1:Int)∈is)
theorem eu5 {a:Addr} {i:Int} {t:Tok} {led:Bool} {c0 c1:Option Tok} {ep:Nat} {is:List Int} {Q:Bool→Shared→Prop} (hi:i=0∨i=1) (hz:cm6 is c0 c1) (ho:s.heap.get? a=some (aj5 led c0 c1 ep))
    (h:∀ b h' d0 d1 ep' tk,cm6 (is ++ [i]) d0 d1→h'.get? a=some (aj5 led d0 d1 ep')→Heap.SameBut a s.heap h'→Q b { s with heap:=h',toks:=tk }):wpAny (model prog w) A (setAdd a (.int i t)) Q E s:=by
  have z0:∀ {d1},(d1.isSome=true↔(1:Int)∈is)→∀ u,cm6 (is ++ [0]) (some u) d1:=fun q u=>⟨by simp,by rw [q];simp⟩
  have z1:∀ {d0},(d0.isSome=true↔(0:Int)∈is)→∀ u,cm6 (is ++ [1]) d0 (some u):=fun q u=>⟨by rw [q];simp,by simp⟩
  rcases hi with rfl | rfl
  · cases c0 with
    | none=>exact ci2 (d0:=some t) (d1:=c1) ho rfl (by cases c1 <;> rfl) (em0 led c1 t) fun h' ep' tk q2 q3=>h _ h' _ _ ep' tk (z0 hz.2 t) q2 q3
    | some u=>exact bq7 (j:=0) ho (by cases c1 <;> rfl) fun tk=>h _ s.heap _ _ ep tk (z0 hz.2 u) ho (.refl ..)
  · cases c1 with
    | none=>exact ci2 (d0:=c0) (d1:=some t) ho rfl (by cases c0 <;> rfl) (er5 led c0 t) fun h' ep' tk q2 q3=>h _ h' _ _ ep' tk (z1 hz.1 t) q2 q3
    | some u=>
      cases c0 with
      | none=>exact bq7 (j:=0) ho rfl fun tk=>h _ s.heap _ _ ep tk (z1 hz.1 u) ho (.refl ..)
      | some v=>exact bq7 (j:=1) ho rfl fun tk=>h _ s.heap _ _ ep tk (z1 hz.1 u) ho (.refl ..)
theorem dw0 {R:Result→Shared→Prop} {I S l:Addr} {vs:List Value} {is:List Int} {s0:Shared} (hh:A.in1.handled=none) (hIl:l≠I) (hSI:S≠I) (hSl:S≠l) (hv:IntsAre vs is) (h01:∀ i∈is,i=0∨i=1)
    (hR:∀ h' tk c0 c1 ep,cm6 is c0 c1→h'.get? S=some (aj5 (j8 w) c0 c1 ep)→(∀ b o,b≠S→b≠I→s0.heap.get? b=some o→h'.get? b=some o)→R (.ok (.ret .none)) { s0 with heap:=h',toks:=tk }) :
    ∀ (k i:Nat) (h:Heap) (tk:Nat) (c0 c1:Option Tok) (ep:Nat),vs.length - i=k→i≤vs.length→cm6 (is.take i) c0 c1→h.get? S=some (aj5 (j8 w) c0 c1 ep)→h.IsListIter I l i→h.IsList l vs.toArray→
      (∀ b o,b≠S→b≠I→s0.heap.get? b=some o→h.get? b=some o)→codeAny (model prog w) A (.builtin "set.update.loop" ⟨[.ref S,.ref I],[]⟩) R { s0 with heap:=h,toks:=tk }:=by
  have W:=Walks.list (prog:=prog) (w:=w) (A:=A.in1) hh I l hIl vs.toArray
  rw [List.size_toArray] at W
  have hlen:vs.length=is.length:=IntsAre.length hv
  intro k
  induction k with
  | zero=>
    intro i h tk c0 c1 ep hk hi hz hS hit hl ko
    have hin:i=vs.length:=by lia
    subst hin
    refine codeAny_builtin F.entry_set_update_loop ?_
    rw [Around.under_plainId F.plain_set_update_loop _]
    show wpAny _ A.in1 (pyNext (.ref I) >>= _) _ _ _
    refine wpAny_bind (W.done _ _ _ ⟨hit,hl⟩ fun h' tk' hk'=>?_)
    rw [hlen,List.take_length] at hz
    have hS':=hk' S _ (fun q=>hSI (List.mem_singleton.mp q)) hS
    exact wpAny_pure (hR h' tk' c0 c1 ep hz hS' fun b o q1 q2 e=>hk' b o (fun q=>q2 (List.mem_singleton.mp q)) (ko b o q1 q2 e))
  | succ k ih=>
    intro i h tk c0 c1 ep hk hi hz hS hit hl ko
    have hlt:i < vs.length:=by exact bd7 ‹_›
    have hlt2:i < is.length:=by lia
    refine codeAny_builtin F.entry_set_update_loop ?_
    rw [Around.under_plainId F.plain_set_update_loop _]
    show wpAny _ A.in1 (pyNext (.ref I) >>= _) _ _ _
    refine wpAny_bind (W.item i _ _ _ hlt ⟨hit,hl⟩ fun v h1 tk1 hP st1 hk1=>?_)
    have hP':vs[i]?=some v:=by simpa using hP
    obtain ⟨t,rfl⟩:=IntsAre.int_at hv i v hP'
    have hg:is.getD i 0=is[i]:=by rw [List.getD_eq_getElem?_getD,List.getElem?_eq_getElem hlt2];rfl
    rw [hg]
    have hS1:=hk1 S _ (fun q=>hSI (List.mem_singleton.mp q)) hS
    show wpAny _ A.in1 (holding [Value.int is[i] t] (setAdd S (.int is[i] t)) >>= _) _ _ _
    refine wpAny_bind (wpAny_holding (eu5 (s:={ s0 with heap:=h1,toks:=tk1 }) (h01 _ (List.getElem_mem hlt2)) hz hS1 fun b h2 d0 d1 ep2 tk2 hz2 hS2 hsb=>?_))
    have st2:=W.frame _ _ _ st1 fun b hb o e=>(hsb.2 b (fun q=>by
      rcases List.mem_cons.mp hb with hb | hb
      · exact hSI (q▸hb)
      · exact hSl (q▸List.mem_singleton.mp hb))).trans e
    refine wpAny_pure ⟨plainId_quiet F.plain_set_update_loop _,ih (i+1) h2 tk2 d0 d1 ep2 (by exact ar7 ‹_›) hlt ?_ hS2 st2.1 st2.2 fun b o q1 q2 e=>(hsb.2 b q1).trans (hk1 b o (fun q=>q2 (List.mem_singleton.mp q)) (ko b o q1 q2 e))⟩
    rw [List.take_add_one,List.getElem?_eq_getElem hlt2]
    exact hz2
theorem es5 (a:Value) {Q₁:Value→Shared→Prop} (h:Q₁ (.ref s.heap.objs.size) { s with heap:=s.heap.push (aj5 (j8 w) none none 0) }) :
    codeAny (model prog w) A (.call (.builtin "set.__new__") ⟨[.type "set",a],[]⟩) (wants Q₁ E) s:=by
  refine codeAny_of_tree ?_
  show wpAny _ A.in1 (do checkBuiltinCall "set.__new__" ⟨[.type "set",a],[]⟩;again (.builtin "set.__new__" ⟨[.type "set",a],[]⟩)) _ _ s
  refine wpAny_bind (wpAny_of_eq (F.newCall_set_1 a) (wpAny_pure ⟨plainId_quiet F.plain_set_new _,codeAny_builtin F.entry_set_new ?_⟩))
  rw [Around.under_plainId F.plain_set_new _]
  unfold Builtin.«set.__new__» Builtin.Frozenset.newClass
  have hsub:=sub_set_self
  obtain ⟨hp,g,d,tk,os⟩:=s
  dsimp only
  wp_walk
  refine wpAny_askSetting (wpAny_pure ?_)
  dsimp only
  simp only [newObj]
  exact wpAny_bind (wpAny_alloc (wpAny_pure (wpAny_pure h)))
set_option maxHeartbeats 3200000 in
theorem cz8 {l:Addr} {vs:List Value} {is:List Int} {Q:Value→Shared→Prop} (hh:A.handled=none) (hl:s.heap.IsList l vs.toArray) (hv:IntsAre vs is) (h01:∀ i∈is,i=0∨i=1)
    (h:∀ h' tk c0 c1 ep,cm6 is c0 c1→h'.get? s.heap.objs.size=some (aj5 (j8 w) c0 c1 ep)→(∀ b o,s.heap.get? b=some o→h'.get? b=some o)→Q (.ref s.heap.objs.size) { s with heap:=h',toks:=tk }) :
    wpAny (model prog w) A (call (.type "set") [.ref l]) Q E s:=by
  obtain ⟨c,tl,hmro⟩:=F.called_set.mro
  have hmade:=F.called_set.made
  have hsub:=F.called_set.sub
  refine wpAny_call (codeAny_of_tree ?_)
  show wpAny _ _ (callAny (.type "set") _) _ _ _
  refine wpAny_pure ⟨Code.quiet_builtin _ (by decide +kernel),codeAny_builtin F.entry_type_call ?_⟩
  rw [Around.under_plain (weight_type_call_type "set" [.ref l] []) rfl]
  have h1:=F.called_set.notType
  have h2:=F.called_set.canCreate
  have hct:=F.typeCall_set_1 (.ref l)
  repeat (any_goals (first | assumption | wp_step))
  refine codeAny_mono (es5 (w:=w) (.ref l) (E:=E) (Q₁:=fun obj s₁=>obj = .ref s.heap.objs.size∧s₁={ s with heap:=s.heap.push (aj5 (j8 w) none none 0) }) ⟨rfl,rfl⟩) fun r s₁ hr=>?_
  cases r with
  | error e=>exact hr
  | ok fl=>
    cases fl with
    | ret obj=>
      obtain ⟨rfl,rfl⟩:=hr
      have hS:(s.heap.push (aj5 (j8 w) none none 0)).get? s.heap.objs.size=some (aj5 (j8 w) none none 0):=Heap.get?_push_size _ rfl
      have hT:Shared.TypeIs { s with heap:=s.heap.push (aj5 (j8 w) none none 0) } (.ref s.heap.objs.size) "set":=⟨_,hS,rfl⟩
      have hli:=F.called_set.init.lookup
      have hbi:=F.called_set.init.bind (.ref s.heap.objs.size)
      repeat (any_goals (first | assumption | wp_step))
      refine codeAny_mono (codeAny_call_builtin (R:=wants (fun r s₂=>r = .none∧Q (.ref s.heap.objs.size) s₂) E) F.called_set.init.plain F.entry_set_init (check_set_init_1 hT ?_)) fun r₂ s₂ hr₂=>?_
      · obtain ⟨ol,hol,hcl,nl,hdl⟩:=hl
        obtain ⟨ocls,odict,odata,oslots⟩:=ol
        simp only at hcl hdl
        subst hcl;subst hdl
        have hol':(s.heap.push (aj5 (j8 w) none none 0)).get? l=some { cls:=.type "list",dict:=odict,data:=.seq vs.toArray nl,slots:=oslots }:=Heap.get?_push_of_some _ hol
        have hsls:=F.sub_list_set
        have hslf:=F.sub_list_frozenset
        have hne:(Value.type "list" == Value.type "dict")=false:=by decide
        have hl1:(s.heap.push (aj5 (j8 w) none none 0)).IsList l vs.toArray:=⟨_,hol',rfl,nl,rfl⟩
        have hlS:l < s.heap.objs.size:=Heap.lt_size hol
        have hold:∀ b o,s.heap.get? b=some o→(s.heap.push (aj5 (j8 w) none none 0)).get? b=some o:=fun b o e=>Heap.get?_push_of_some _ e
        have hsz1:(s.heap.push (aj5 (j8 w) none none 0)).objs.size=s.heap.objs.size+1:=Heap.size_push ..
        generalize s.heap.push (aj5 (j8 w) none none 0)=H1 at *
        unfold Builtin.«set.__init__» noKeywords Builtin.Frozenset.updateFrom
        generalize hPI:pyIter=PI
        wp_walk
        subst hPI
        refine wpAny_pyIter_list hl1 ?_
        refine wpAny_bind (wpAny_runValue ?_)
        refine dw0 (s0:={ s with heap:=H1 }) (l:=l) (S:=s.heap.objs.size) (I:=H1.objs.size) (by simp [hh]) (by rw [hsz1];exact Nat.ne_of_lt (Nat.lt_succ_of_lt hlS)) (by rw [hsz1];exact Nat.ne_of_lt (Nat.lt_succ_self _)) (Nat.ne_of_gt hlS) hv h01
          (fun h' tk c0 c1 ep hz hS' ko=>?_) _ 0 _ s.toks none none 0 rfl (Nat.zero_le _) ⟨by simp,by simp⟩ (Heap.get?_push_of_some _ hS) ⟨_,Heap.get?_push_size _ rfl,rfl,rfl⟩ (hl1.push _) fun b o _ _ e=>Heap.get?_push_of_some _ e
        show wpAny _ _ _ _ _ _
        refine wpAny_pure ?_
        show wpAny _ _ (ret Value.none) _ _ _
        refine wpAny_pure ⟨rfl,h h' tk c0 c1 ep hz hS' fun b o e=>?_⟩
        have hb:=Heap.lt_size e
        exact ko b o (Nat.ne_of_lt hb) (by show b≠H1.objs.size;rw [hsz1];exact Nat.ne_of_lt (Nat.lt_succ_of_lt hb)) (hold b o e)
      · cases r₂ with
        | error e=>exact hr₂
        | ok fl₂=>
          cases fl₂ with
          | ret r=>
            obtain ⟨rfl,hq⟩:=hr₂
            repeat (any_goals (first | assumption | wp_step))
          | _=>exact hr₂.elim
    | _=>exact hr.elim
end
end
section
open PySem.Calls PySem.SeqAt
theorem ap0:PySem.Slot "set_iterator" "__iter__" "set_iterator.__iter__":=
  .of (owner:="set_iterator") (n:="__iter__") (by rw [typeLookup_type,builtinLookup_eq_fast];kernel_rfl) (by decide +kernel) (by decide +kernel) (by decide +kernel)
    (by first | exact .inl (by decide +kernel) | exact .inr (by decide +kernel)) (by rw [isSubtype_type];kernel_rfl)
theorem bb4:entryFor table "set_iterator.__iter__"=some Builtin.«dict_keyiterator.__iter__»:=
  entryFor_alias (id':="dict_keyiterator.__iter__") (by rw [fastTable_eq_tree]; kernel_rfl) rfl (by kernel_rfl) (by rw [fastTable_eq_tree]; kernel_rfl)
theorem be4 (a:Value):argsOk "set_iterator.__iter__" ⟨[a],[]⟩:=by
  unfold argsOk;rw [signature?_of (id:="set_iterator.__iter__") (n:=['_','_','r','e','t','i','_','_']) (o:=['r','o','t','a','r','e','t','i','_','t','e','s']) (by kernel_rfl) ba4];kernel_rfl
noncomputable def aw3 (w:World) (a:Addr) (ep:Nat) (c0 c1:Option Tok):List (Int×Value):=if w.params.followText "set-order"=true then (pickOrder (w.params.setOrder a ep) (zes c0 c1).toArray).toList else zes c0 c1
noncomputable def zpl (b0 b1:Bool):Array Nat:=((bif b0 then [0] else []) ++ (bif b1 then [1] else [])).toArray
noncomputable def ah6 (w:World) (c0 c1:Option Tok) (j:Nat):Nat:=if w.params.followText "set-order"=true then 0 else if j=0 then 0 else (zpl c0.isSome c1.isSome).getD (j - 1) 0+1
noncomputable def be2 (a:Addr) (slot i n ep:Nat):Obj:={ cls:=.type "set_iterator",data:=.fields #[rawInt slot,rawInt i,.ref a,rawInt n,rawInt ep] }
theorem ar2 (w:World) (a:Addr) (ep:Nat) (c0 c1:Option Tok):(aw3 w a ep c0 c1).Perm (zes c0 c1):=by
  unfold aw3
  split
  · generalize w.params.setOrder a ep=f
    cases c0 with
    | none=>
      cases c1 with
      | none=>exact .refl _
      | some u=>simp [pickOrder,pickOrder.go,zes,Nat.mod_one]
    | some t=>
      cases c1 with
      | none=>simp [pickOrder,pickOrder.go,zes,Nat.mod_one]
      | some u=>
        rcases Nat.mod_two_eq_zero_or_one (f 0) with h | h
        · simp [pickOrder,pickOrder.go,zes,Nat.mod_one,h]
        · simp [pickOrder,pickOrder.go,zes,Nat.mod_one,h]
          exact .swap ..
  · exact .refl _
theorem ei4 (b0 b1:Bool) (j:Nat) (h:j≤(zpl b0 b1).size):SetTable.below (zpl b0 b1) (if j=0 then 0 else (zpl b0 b1).getD (j - 1) 0+1)=j:=by
  have:j=0∨j=1∨j=2:=by cases b0 <;> cases b1 <;> simp [zpl] at h <;> lia
  cases b0 <;> cases b1 <;> rcases this with rfl | rfl | rfl <;> first | decide +kernel | (exact absurd h (by decide))
theorem ec9 (c0 c1:Option Tok):(zpl c0.isSome c1.isSome).size=(zes c0 c1).length:=by cases c0 <;> cases c1 <;> rfl
section
variable {w:World} {A:Around} {E:Value→Shared→Prop} {s:Shared}
theorem bz7 {a:Addr} {led:Bool} {c0 c1:Option Tok} {ep:Nat} (ho:s.heap.get? a=some (aj5 led c0 c1 ep)):s.TypeIs (.ref a) "set":=⟨_,ho,rfl⟩
theorem eh0 {a:Addr} {c0 c1:Option Tok} {ep:Nat} {Q:Array (Int×Value)→Shared→Prop} (ho:s.heap.get? a=some (aj5 (j8 w) c0 c1 ep)) (ht:w.params.followText "set-order"=true) (h:Q (aw3 w a ep c0 c1).toArray s):wpAny (model prog w) A (setWalk a) Q E s:=by
  unfold setWalk setsByText
  refine wpAny_bind (wpAny_setState_of ho rfl (ax4 ..) ?_)
  dsimp only
  refine wpAny_bind (wpAny_bind (wpAny_askSetting (wpAny_pure ?_)))
  refine ay0 ht ?_
  refine wpAny_bind (wpAny_askSetting (wpAny_pure ?_))
  unfold aw3 at h
  rw [if_pos ht,Array.toArray_toList] at h
  exact h
theorem ec5 {a:Addr} {c0 c1:Option Tok} {ep j:Nat} {Q:Option (Value×Nat)→Shared→Prop} (ho:s.heap.get? a=some (aj5 (j8 w) c0 c1 ep)) (hj:j≤(zes c0 c1).length) (h:Q ((aw3 w a ep c0 c1)[j]?.map fun e=>(e.2,ah6 w c0 c1 (j+1))) s) :
    wpAny (model prog w) A (setNext a (ah6 w c0 c1 j) j ep) Q E s:=by
  unfold setNext
  refine wpAny_bind (wpAny_setState_of ho rfl (ax4 ..) ?_)
  dsimp only
  unfold setsByText
  refine wpAny_bind (wpAny_bind (wpAny_askSetting (wpAny_pure ?_)))
  cases ht:w.params.followText "set-order"
  · refine aa6 (fun q=>by rw [show ((model prog w).w.params.followText "set-order")=w.params.followText "set-order" from rfl,ht] at q;cases q) ?_
    refine aa6 (fun q=>Bool.noConfusion (show false=true from q)) ?_
    have hl:j8 w=true:=by unfold j8;rw [ht];rfl
    refine wpAny_bind (aa6 (c:=(!(j8 w) && !(zes c0 c1).toArray.isEmpty)=true) (by rw [hl];simp) (wpAny_pure ?_))
    refine wpAny_pure ?_
    have hs:ah6 w c0 c1 j=if j=0 then 0 else (zpl c0.isSome c1.isSome).getD (j - 1) 0+1:=by unfold ah6;rw [ht,if_neg Bool.false_ne_true]
    have hs1:ah6 w c0 c1 (j+1)=(zpl c0.isSome c1.isSome).getD j 0+1:=by unfold ah6;rw [ht,if_neg Bool.false_ne_true,if_neg (Nat.succ_ne_zero j)];rfl
    have hb:SetTable.below (zpl c0.isSome c1.isSome) (ah6 w c0 c1 j)=j:=by rw [hs];exact ei4 _ _ j (ec9 c0 c1▸hj)
    have ho':aw3 w a ep c0 c1=zes c0 c1:=by unfold aw3;rw [ht,if_neg Bool.false_ne_true]
    rw [ho',hs1] at h
    show Q (match (zes c0 c1).toArray[SetTable.below (zpl c0.isSome c1.isSome) (ah6 w c0 c1 j)]?,(zpl c0.isSome c1.isSome)[SetTable.below (zpl c0.isSome c1.isSome) (ah6 w c0 c1 j)]? with | some (_,x),some j=>some (x,j+1) | _,_=>none) s
    rw [hb,List.getElem?_toArray]
    by_cases hjl:j < (zes c0 c1).length
    · have hpl:j < (zpl c0.isSome c1.isSome).size:=ec9 c0 c1▸hjl
      rw [List.getElem?_eq_getElem hjl] at h⊢
      rw [Array.getElem?_eq_getElem hpl]
      rw [Array.getD_eq_getD_getElem?,Array.getElem?_eq_getElem hpl] at h
      exact h
    · rw [List.getElem?_eq_none (Nat.not_lt.mp hjl)] at h⊢
      exact h
  · refine ay0 ht ?_
    refine aa6 (by simp) ?_
    refine wpAny_bind (eh0 ho ht ?_)
    have hs:∀ j,ah6 w c0 c1 j=0:=fun j=>by unfold ah6;rw [ht,if_pos rfl]
    rw [hs] at h⊢
    rw [List.getElem?_toArray]
    exact wpAny_pure h
end
end
section
open PySem.Calls PySem.SeqAt
section
variable {w:World} {A:Around} {E:Value→Shared→Prop} {s:Shared}
theorem ei0 (c0 c1:Option Tok):ah6 w c0 c1 0=0:=by unfold ah6;split <;> rfl
theorem db8 {a:Addr} {led:Bool} {c0 c1:Option Tok} {ep:Nat} {Q:Value→Shared→Prop} (ho:s.heap.get? a=some (aj5 led c0 c1 ep)) (h:Q (.ref s.heap.objs.size) { s with heap:=s.heap.push (be2 a 0 0 (zes c0 c1).length ep) }):wpAny (model prog w) A (pyIter (.ref a)) Q E s:=by
  refine wpAny_pyIter_slot (bz7 ho) F.slot_set_iter (wpAny_call_entry F.slot_set_iter (bz7 ho) au8 ?_ (F.args_set_iter_1 _))
  unfold Builtin.«frozenset.__iter__»
  refine wpAny_bind ?_
  show wpAny _ _ (pure a) _ _ _
  refine wpAny_pure ?_
  unfold Builtin.Frozenset.sizeOf
  refine wpAny_bind (wpAny_bind (wpAny_setEntries_of ho rfl (ax4 ..) (wpAny_pure ?_)))
  unfold setDrawn setsByText
  refine wpAny_bind (wpAny_bind (wpAny_setState_of ho rfl (ax4 ..) ?_))
  dsimp only
  refine wpAny_bind (wpAny_bind (wpAny_askSetting (wpAny_pure ?_)))
  refine wpAny_pure ?_
  refine aa6 (fun q=>Bool.noConfusion (show false=true from (Bool.and_eq_true_iff.mp q).2)) ?_
  refine wpAny_bind (wpAny_pure (wpAny_bind (wpAny_setEpoch_of ho rfl (ax4 ..) ?_)))
  refine wpAny_bind ?_
  rw [List.size_toArray]
  exact wpAny_newObj_type (wpAny_pure ⟨_,rfl,"set_iterator",_,⟨_,Heap.get?_push_size _ rfl,rfl⟩,i7.lookup,h⟩)
inductive ZW (w:World) (I a:Addr) (c0 c1:Option Tok) (ep i:Nat) (h:Heap):Prop
  | mk (h1:h.get? I=some (be2 a (ah6 w c0 c1 i) i (zes c0 c1).length ep)) (h2:h.get? a=some (aj5 (j8 w) c0 c1 ep)):ZW w I a c0 c1 ep i h
theorem ep0 (hh:A.handled=none) {I a:Addr} (hne:a≠I) (c0 c1:Option Tok) (ep:Nat) :
    Walks prog w A I [I,a] [I] (zes c0 c1).length (fun i v=>∃ e,(aw3 w a ep c0 c1)[i]?=some e∧v=e.2) (ZW w I a c0 c1 ep) where
  sub:=fun b hb=>by rw [List.mem_singleton.mp hb];exact List.mem_cons_self
  frame:=fun i h h' st hk=>⟨hk I List.mem_cons_self _ st.1,hk a (List.mem_cons_of_mem _ List.mem_cons_self) _ st.2⟩
  item:=fun i s Q E hi st hQ=>by
    obtain ⟨hit,ho⟩:=st
    have hT:s.TypeIs (.ref I) "set_iterator":=⟨_,hit,rfl⟩
    unfold pyNext
    refine wpAny_bind (wpAny_attempt (wpAny_callSpecial?_slot (name:=Str.ofString "__next__") hT i7
      (wpAny_call_entry i7 hT ac6 ?_ (ad5 _))))
    unfold Builtin.«set_iterator.__next__»
    refine wpAny_bind ?_
    refine wpAny_pure ?_
    refine wpAny_bind (wpAny_fieldsOf hit rfl ?_)
    show wpAny _ _ (setEntries a >>= _) _ _ _
    refine wpAny_bind (wpAny_setEntries_of ho rfl (ax4 ..) ?_)
    refine aa6 (by rw [List.size_toArray];simp) ?_
    show wpAny _ _ (setNext a (ah6 w c0 c1 i:Int).toNat (i:Int).toNat (ep:Int).toNat >>= _) _ _ _
    rw [Int.toNat_natCast,Int.toNat_natCast,Int.toNat_natCast]
    have hio:i < (aw3 w a ep c0 c1).length:=(ar2 w a ep c0 c1).length_eq▸hi
    refine wpAny_bind (ec5 ho (Nat.le_of_lt hi) ?_)
    rw [List.getElem?_eq_getElem hio]
    show wpAny _ _ (setField (.ref I) 0 (rawInt (ah6 w c0 c1 (i+1))) >>= _) _ _ _
    refine wpAny_bind (wpAny_setField hit rfl (by simp) ?_)
    have hi1:=Heap.get?_update_self (Obj.mapFields (·.setIfInBounds 0 (rawInt (ah6 w c0 c1 (i+1))))) hit rfl
    show wpAny _ _ (setField (.ref I) 1 (rawInt ((i:Int)+1)) >>= _) _ _ _
    refine wpAny_bind (wpAny_setField hi1 rfl (by simp) ?_)
    refine wpAny_pure ⟨_,rfl,wpAny_pure ?_⟩
    have hi2:=Heap.get?_update_self (Obj.mapFields (·.setIfInBounds 1 (rawInt ((i:Int)+1)))) hi1 rfl
    have hsb:Heap.SameBut I s.heap ((s.heap.update I (Obj.mapFields (·.setIfInBounds 0 (rawInt (ah6 w c0 c1 (i+1)))))).update I (Obj.mapFields (·.setIfInBounds 1 (rawInt ((i:Int)+1))))):=(Heap.SameBut.update ..).trans (Heap.SameBut.update ..)
    exact hQ (aw3 w a ep c0 c1)[i].2 _ s.toks ⟨_,List.getElem?_eq_getElem hio,rfl⟩ ⟨hi2,(hsb.2 a hne).trans ho⟩ fun b o hb e=>(hsb.2 b fun q=>hb (List.mem_singleton.mpr q)).trans e
  done:=fun s Q E st hQ=>by
    obtain ⟨hit,ho⟩:=st
    have hT:s.TypeIs (.ref I) "set_iterator":=⟨_,hit,rfl⟩
    unfold pyNext
    refine wpAny_bind (wpAny_attempt (wpAny_callSpecial?_slot (name:=Str.ofString "__next__") hT i7
      (wpAny_call_entry i7 hT ac6 ?_ (ad5 _))))
    unfold Builtin.«set_iterator.__next__»
    refine wpAny_bind ?_
    refine wpAny_pure ?_
    refine wpAny_bind (wpAny_fieldsOf hit rfl ?_)
    show wpAny _ _ (setEntries a >>= _) _ _ _
    refine wpAny_bind (wpAny_setEntries_of ho rfl (ax4 ..) ?_)
    refine aa6 (by rw [List.size_toArray];simp) ?_
    show wpAny _ _ (setNext a (ah6 w c0 c1 (zes c0 c1).length:Int).toNat ((zes c0 c1).length:Int).toNat (ep:Int).toNat >>= _) _ _ _
    rw [Int.toNat_natCast,Int.toNat_natCast,Int.toNat_natCast]
    refine wpAny_bind (ec5 ho (Nat.le_refl _) ?_)
    rw [List.getElem?_eq_none (Nat.le_of_eq (ar2 w a ep c0 c1).length_eq)]
    show wpAny _ _ (setField (.ref I) 2 .none >>= _) _ _ _
    refine wpAny_bind (wpAny_setField hit rfl (by simp) ?_)
    show wpAny _ _ (newExc (.type "StopIteration") [] >>= _) _ _ _
    refine wpAny_bind ?_
    simp only [newExc,newTuple]
    refine wpAny_bind (wpAny_newObj_type ?_ (by size_fits))
    refine wpAny_bind (m:=firstArgMember _ _) (wpAny_of_eq (a:=Value.none) (by first | rfl | (simp only [firstArgMember];rfl)) ?_)
    refine wpAny_newObj_type ?_ (by size_fits)
    simp only [raiseNew]
    refine wpAny_bind (wpAny_handled ?_)
    rw [show A.in1.handled=none from hh]
    refine wpAny_bind (wpAny_pure (wpAny_throw ?_))
    refine wpAny_bind (wpAny_isInstance (T:="StopIteration") (b:=true) ⟨_,Heap.get?_push_size _ rfl,rfl⟩ isSubtype_stop ?_)
    have key:∀ h',Heap.ExtBut I s.heap h'→Q none { s with heap:=h' }:=fun h' hx=>hQ h' s.toks fun b o hb e=>hx b o (fun q=>hb (List.mem_singleton.mpr q)) e
    exact wpAny_pure (key _ (((Heap.SameBut.update ..).extBut.push _).push _))
  self:=fun i s Q E st hQ=>by
    obtain ⟨hit,ho⟩:=st
    have hT:s.TypeIs (.ref I) "set_iterator":=⟨_,hit,rfl⟩
    refine wpAny_pyIter_slot hT ap0 (wpAny_call_entry ap0 hT bb4 ?_ (be4 _))
    show wpAny _ _ (ret (.ref I)) _ _ s
    exact wpAny_pure ⟨_,rfl,"set_iterator",_,hT,i7.lookup,hQ⟩
theorem di0 {a:Addr} {c0 c1:Option Tok} {ep:Nat} {Q:List Value→Shared→Prop} (hh:A.handled=none) (ho:s.heap.get? a=some (aj5 (j8 w) c0 c1 ep))
    (h:∀ h' tk,(∀ b o,s.heap.get? b=some o→h'.get? b=some o)→Q ((aw3 w a ep c0 c1).map (·.2)) { s with heap:=h',toks:=tk }):wpAny (model prog w) A (collect (.ref a)) Q E s:=by
  unfold collect
  refine wpAny_bind (wpAny_runValue (codeAny_builtin F.entry_proto_collect ?_))
  rw [Around.under_plainId F.plain_proto_collect _]
  show wpAny _ A.in1 (newList [] >>= fun l=>again (.builtin "list.__iadd__" ⟨[l,.ref a],[]⟩)) _ _ s
  refine wpAny_bind (wpAny_newObj_type ?_)
  refine wpAny_pure ⟨plainId_quiet F.plain_list_iadd _,codeAny_builtin F.entry_list_iadd ?_⟩
  rw [Around.under_plainId F.plain_list_iadd _]
  have hlt:a < s.heap.objs.size:=Heap.lt_size ho
  have ho1:(s.heap.push { cls:=.type "list",data:=.seq ([]:List Value).toArray }).get? a=some (aj5 (j8 w) c0 c1 ep):=Heap.get?_push_of_some _ ho
  have hS1:(s.heap.push { cls:=.type "list",data:=.seq ([]:List Value).toArray }).get? s.heap.objs.size=some { cls:=.type "list",data:=.seq ([]:List Value).toArray }:=Heap.get?_push_size _ rfl
  have hk1:∀ b o,s.heap.get? b=some o→(s.heap.push { cls:=.type "list",data:=.seq ([]:List Value).toArray }).get? b=some o:=fun b o e=>Heap.get?_push_of_some _ e
  have hz1:(s.heap.push { cls:=.type "list",data:=.seq ([]:List Value).toArray }).objs.size=s.heap.objs.size+1:=Heap.size_push ..
  generalize s.heap.push { cls:=.type "list",data:=.seq ([]:List Value).toArray }=H1 at *
  have hSa:s.heap.objs.size≠a:=Nat.ne_of_gt hlt
  have h1:Builtin.List.listSameRef (.ref s.heap.objs.size) (.ref a)=false:=by simp [Builtin.List.listSameRef,hSa]
  show wpAny _ A.in1 (Builtin.List.listExtendWith (.ref s.heap.objs.size) (.ref a) (.ref s.heap.objs.size)) _ _ _
  unfold Builtin.List.listExtendWith
  have hT:Shared.TypeIs { s with heap:=H1 } (.ref a) "set":=⟨_,ho1,rfl⟩
  refine wpAny_bind (wpAny_typeOf hT ?_)
  rw [if_neg (by rw [h1];decide)]
  refine wpAny_bind (db8 ho1 ?_)
  have hS2:(H1.push (be2 a 0 0 (zes c0 c1).length ep)).get? s.heap.objs.size=some { cls:=.type "list",data:=.seq ([]:List Value).toArray }:=Heap.get?_push_of_some _ hS1
  have ho2:(H1.push (be2 a 0 0 (zes c0 c1).length ep)).get? a=some (aj5 (j8 w) c0 c1 ep):=Heap.get?_push_of_some _ ho1
  have hI2:(H1.push (be2 a 0 0 (zes c0 c1).length ep)).get? H1.objs.size=some (be2 a 0 0 (zes c0 c1).length ep):=Heap.get?_push_size _ rfl
  have hk2:∀ b o,s.heap.get? b=some o→(H1.push (be2 a 0 0 (zes c0 c1).length ep)).get? b=some o:=fun b o e=>Heap.get?_push_of_some _ (hk1 b o e)
  show wpAny _ _ _ _ _ { s with heap:=H1.push (be2 a 0 0 (zes c0 c1).length ep) }
  generalize H1.push (be2 a 0 0 (zes c0 c1).length ep)=H2 at *
  have hT2:Shared.TypeIs { s with heap:=H2 } (.ref a) "set":=⟨_,ho2,rfl⟩
  refine wpAny_bind (wpAny_holding ?_)
  unfold Builtin.List.listLengthHint
  refine wpAny_bind (wpAny_specialOf hT2 F.slot_set_len.lookup ?_)
  generalize hid:("set.__len__":String)=id0
  wp_delta
  rw [show splitId id0=some ("set","__len__") from by subst hid;decide +kernel]
  subst hid
  refine wpAny_bind (wpAny_isInstance (b:=true) hT2 (by rw [isSubtype_type];kernel_rfl) ?_)
  refine aa6 (by decide) ?_
  refine ay0 (by decide +kernel) ?_
  refine wpAny_bind (wpAny_typeOf hT2 ?_)
  refine wpAny_pure ?_
  refine ay0 (by decide +kernel) ?_
  refine wpAny_bind (wpAny_rule ?_)
  have hSI:s.heap.objs.size≠H1.objs.size:=by rw [hz1];exact Nat.ne_of_lt (Nat.lt_succ_self _)
  have haI:a≠H1.objs.size:=by rw [hz1];exact Nat.ne_of_lt (Nat.lt_succ_of_lt hlt)
  show wpAny _ _ (Builtin.List.listTouch (Value.ref s.heap.objs.size) >>= fun ξ=>again (.builtin "list.extend.loop" ⟨[.ref s.heap.objs.size,.ref H1.objs.size,.ref s.heap.objs.size],[]⟩)) _ _ _
  unfold Builtin.List.listTouch
  refine wpAny_bind (wpAny_bind (listUpdate_at hS2 rfl ?_))
  have hS3:=get?_update_seq (n:=0) hS2 (·.push .none)
  refine listUpdate_at hS3 rfl ?_
  have hS4:=get?_update_seq hS3 (·.pop)
  have hsb:Heap.SameBut s.heap.objs.size H2 ((H2.update s.heap.objs.size (Obj.mapSeq (·.push .none))).update s.heap.objs.size (Obj.mapSeq (·.pop))):=(Heap.SameBut.update ..).trans (Heap.SameBut.update ..)
  show wpAny _ _ _ _ _ { s with heap:=((H2.update s.heap.objs.size (Obj.mapSeq (·.push .none))).update s.heap.objs.size (Obj.mapSeq (·.pop))) }
  generalize (H2.update s.heap.objs.size (Obj.mapSeq (·.push .none))).update s.heap.objs.size (Obj.mapSeq (·.pop))=H3 at *
  have W:=ep0 (w:=w) (A:=A.in1) (show A.in1.handled=none from hh) haI c0 c1 ep
  have st:ZW w H1.objs.size a c0 c1 ep 0 H3:=⟨(hsb.2 _ hSI.symm).trans (by rw [ei0];exact hI2),(hsb.2 _ hSa.symm).trans ho2⟩
  refine wpAny_pure ⟨plainId_quiet F.plain_extend_loop _,codeAny_extend_loopS W.toS (Nat.le_trans (List.size_toArray ..▸bp8 c0 c1) (by decide)) _ (fun hm=>?_) _ _ 0 _ _ _ rfl (Nat.zero_le _) st hS4 (ItemsOf.nil _) fun s' acc' c' hm hS' hacc=>?_⟩
  · rcases List.mem_cons.mp hm with q | hm
    · exact hSI q
    · exact hSa (List.mem_singleton.mp hm)
  show wpAny _ A (load s.heap.objs.size >>= _) _ _ s'
  refine wpAny_bind (wpAny_load hS' ?_)
  have he:acc'.toList=(aw3 w a ep c0 c1).map (·.2):=by
    refine List.ext_getElem ?_ fun j h1 h2=>?_
    · rw [Array.length_toList,hacc.1,List.length_map,(ar2 w a ep c0 c1).length_eq]
    · obtain ⟨e,e1,e2⟩:=hacc.2 j acc'.toList[j] (by rw [← Array.getElem?_toList];exact List.getElem?_eq_getElem h1)
      rw [e2,List.getElem_map]
      rw [List.length_map] at h2
      rw [List.getElem?_eq_getElem h2] at e1
      cases e1;rfl
  refine wpAny_pure ?_
  show Q acc'.toList s'
  rw [he]
  obtain ⟨hp,gg,dd,tk,os⟩:=s'
  have eg:gg=s.gens:=hm.gens
  have ed:dd=s.drawn:=hm.drawn
  have eo:os=s.os:=hm.os
  subst eg ed eo
  refine h hp tk fun b o e=>?_
  have hb:=Heap.lt_size e
  refine hm.heap b o (fun q=>?_) ((hsb.2 b (Nat.ne_of_lt hb)).trans (hk2 b o e))
  rcases List.mem_cons.mp q with q | q
  · exact Nat.ne_of_lt hb q
  · have:=List.mem_singleton.mp q
    rw [this,hz1] at hb
    exact absurd hb (by lia)
end
end
section
open PySem.Calls PySem.SeqAt
noncomputable def zis (c0 c1:Option Tok):List Int:=(zes c0 c1).map (·.1)
theorem cp7 (c0 c1:Option Tok):(zis c0 c1).Pairwise (·≤·):=by cases c0 <;> cases c1 <;> simp [zis,zes]
theorem dr4 {w:World} {a:Addr} {ep:Nat} {c0 c1:Option Tok} {e:Int×Value} (h:e∈aw3 w a ep c0 c1):∃ t,e.2 = .int e.1 t:=by
  rcases List.mem_append.mp ((ar2 w a ep c0 c1).subset h) with h | h
  · obtain ⟨t,_,rfl⟩:=List.mem_map.mp h;exact ⟨t,rfl⟩
  · obtain ⟨t,_,rfl⟩:=List.mem_map.mp h;exact ⟨t,rfl⟩
theorem ee2:∀ {l:List (Int×Value)},(∀ e∈l,∃ t,e.2=Value.int e.1 t)→IntsAre (l.map (·.2)) (l.map (·.1))
  | [],_=>.nil
  | e :: l,h=>by
    obtain ⟨t,ht⟩:=h e List.mem_cons_self
    show IntsAre (e.2 :: _) (e.1 :: _)
    rw [ht]
    exact .cons e.1 t (ee2 fun e he=>h e (List.mem_cons_of_mem _ he))
theorem ea9 {is:List Int} {c0 c1:Option Tok} (h:cm6 is c0 c1):zis c0 c1=(if 0∈is then [(0:Int)] else []) ++ if 1∈is then [1] else []:=by
  obtain ⟨h0,h1⟩:=h
  cases c0 <;> cases c1 <;> simp at h0 h1 <;> simp [zis,zes,h0,h1]
section
variable {w:World} {A:Around} {E:Value→Shared→Prop} {s:Shared} {B:FM}
theorem du6 {a:Addr} {c0 c1:Option Tok} {ep:Nat} (hh:A.handled=none) (kp:i9 B s.heap) (ho:s.heap.get? a=some (aj5 (j8 w) c0 c1 ep)) :
    wpAny (model prog w) A (call (.builtin "sorted") [.ref a]) (FrP prog w B s (.list ((zis c0 c1).map .int))) E s:=by
  refine ak0 (Calls.call_function_entry kind_sorted plain_sorted entry_sorted (args_sorted1 _) ?_)
  unfold Builtin.«sorted»
  refine wpAny_bind (m:=checkCount "sorted" 1 1 _) (wpAny_pure ?_)
  refine wpAny_bind (di0 hh ho fun h' tk hk=>?_)
  have hp:=ar2 w a ep c0 c1
  have hI:IntsAre ((aw3 w a ep c0 c1).map (·.2)) ((aw3 w a ep c0 c1).map (·.1)):=ee2 fun e he=>dr4 he
  have hlen:((aw3 w a ep c0 c1).map (·.2)).length < 64:=by
    rw [List.length_map,hp.length_eq]
    exact Nat.lt_of_le_of_lt (List.size_toArray ..▸bp8 c0 c1) (by decide)
  generalize (aw3 w a ep c0 c1).map (·.2)=vs at *
  refine wpAny_bind (wpAny_newList ?_ (hsz:=Nat.le_trans (Nat.le_of_lt hlen) (by decide)))
  have hoL:(h'.push (seqObj "list" vs.toArray 0)).get? h'.objs.size=some (seqObj "list" vs.toArray 0):=Heap.get?_push_size _ rfl
  show wpAny _ _ _ _ _ { s with heap:=h'.push (seqObj "list" vs.toArray 0),toks:=tk }
  refine wpAny_bind (wpAny_holding (wpAny_call_entry slot_list_sort ⟨_,hoL,rfl⟩ entry_list_sort (list_sort_tree hoL hI hlen fun out ns' a1 a2 a3=>⟨_,rfl,?_⟩) (args_list_sort _)))
  refine wpAny_pure ⟨_,rfl,fun htk=>?_⟩
  have e1:ns'=zis c0 c1:=(a2.trans (hp.map _)).eq_of_pairwise (fun x y _ _ h1 h2=>Int.le_antisymm h1 h2) a3 (cp7 c0 c1)
  subst e1
  obtain ⟨e,he⟩:=sortedHeap_at (out:=out) hoL
  have hn:s.heap.get? h'.objs.size=none:=by
    cases q:s.heap.get? h'.objs.size with
    | none=>rfl
    | some o=>exact absurd (Heap.lt_size (hk _ _ q)) (Nat.lt_irrefl _)
  refine FrP.made kp (fun b o eb=>?_) htk hn he ⟨rfl,e,rfl⟩ (dz0 a1) ⟨rfl,rfl⟩
  have hb:=Heap.lt_size (hk b o eb)
  rw [sortedHeap_old (Nat.ne_of_lt hb) (by rw [Heap.size_push];exact Nat.lt_succ_of_lt hb)]
  exact Heap.get?_push_of_some _ (hk b o eb)
end
section
variable {w:World} {h₀:Heap} {mg mb:Str→Option Value} {k:Nat} {calls:String→List D→Option D} {sc:Scope}
theorem co8 {x y:Str} {e:PySem.Expr} {a:IR} {p p2 p3 pos:Pos} (G:Glb h₀ mg mb) (hx:i4 sc x=true) (hf:x="sorted") (hy:i4 sc y=true) (hf2:y="set") (h:ac2 w h₀ k calls sc e a) (hn:m8 e=true) :
    i8 w h₀ k calls sc (.Call (.Name x p) [.Call (.Name y p2) [e] [] p3] [] pos) (.sortset a):=fun A E s env r B d ok hd=>by
  subst hf hf2
  obtain ⟨z,hz,hd1⟩:=a6 hd
  obtain ⟨l,hl,hd2⟩:=a6 hd1
  obtain rfl:=l6 hl
  obtain ⟨is,hi,hd3⟩:=a6 hd2
  obtain ⟨hc,hd4⟩:=g6 hd3
  cases hd4
  obtain rfl:=bx0 hi
  have h01:∀ i∈is,i=0∨i=1:=fun i hi=>(Bool.or_eq_true_iff.mp (am2 hc i hi)).imp eq_of_beq eq_of_beq
  refine Call_ (t7 G ok hx (G.bi _ (.builtin "sorted") (by simp)) ?_)
  refine callWith_builtin1 ?_ (c9 rfl) rfl
  rw [c9 rfl,j6]
  refine spliced_cons (Call_ (t7 G ok hy (G.bi _ (.type "set") (by simp)) ?_))
  refine callWith_type1 ?_ (c9 hn) rfl
  rw [c9 hn,j6]
  refine spliced_cons (k8 h ok hz fun v s1 B1 g1 m1 t1 ok1=>spliced_nil ?_)
  obtain ⟨ax,o,vs,rfl,ho,xs,rr⟩:=t1
  refine ak0 (cz8 ok1.rm.handled (xs.isList ho) (cx9 rr) h01 fun h' tk c0 c1 ep hz2 hS hk htk=>spliced_nil ?_)
  have g2:Gr B1 s1.heap B1 h':=Gr.heap g1.keep hk
  rw [← ea9 hz2]
  refine wpAny_mono (du6 (s:={ s1 with heap:=h',toks:=tk }) ok1.rm.handled g2.keep hS) (fun u s2 q=>(FrP.after (s1:={ s1 with heap:=h',toks:=tk }) (g1.trans g2) ⟨m1.gens,m1.os,Nat.le_trans m1.toks htk⟩ q).ev) fun ξ ξ e=>e
end
end
section
open PySem.Calls PySem.SeqAt
section
variable {w:World} {h₀:Heap} {mg mb:Str→Option Value} {k:Nat} {calls:String→List D→Option D} {fresh:String→Bool} {sc:Scope}
theorem ej3 {f:String} {sp:List D→Option D} {name:Str} {params:Arguments} {body:List Stmt} {pm cd doc:Value} {fa:Addr} {o:Obj} {x y:Str} {i j:Nat} {F:Rho→Option (Fl×Rho)} (G:Glb h₀ mg mb)
    (hm:mg (Str.ofString f)=some (.ref fa)) (ho:h₀.get? fa=some o) (hd:o.data = .func (docDef name params body sc pm cd doc)) (hcr:h₀.CodeRec cd name) (fs:FnS sc) (hco:sc.isCoroutine=false) (hgen:sc.isGenerator=false)
    (hbind:∀ (v:Value) (vs:List Value),bindArgs (docDef name params body sc pm cd doc) ⟨v :: vs,[]⟩=(do let t ← newTuple vs;pure [(x,v),(y,t)])) (hx:l7 sc x=some i) (hy:l7 sc y=some j) (hbody:ck5 prog w h₀ k sc (PySem.execs body) F)
    (hsp:∀ ds d,sp ds=some d→∃ e es,ds=e :: es∧sz es.length=true∧∃ b r',F (((al6 sc).set i (some (.fr,e))).set j (some (.fr,.tuple es)))=some (.ret b d,r')):ac3 w h₀ mg (k+1) f sp:=by
  refine ⟨fa,o,_,hm,ho,hd,fun A s B vs ds d rm stk kp hb ht r h=>?_⟩
  obtain ⟨e,es,rfl,hz,bb,r',hex⟩:=hsp ds d h
  obtain ⟨v,vs,rfl,rv,r⟩:=r
  refine ce4 G ho hd hcr fs hco hgen rm hb (Gr.refl kp) stk (fun Q E hQ=>?_) (fun l d' q=>?_) hbody hex fun v s' q=>⟨v,rfl,cq8 q⟩
  · rw [hbind]
    refine wpAny_bind (wpAny_newObj_type ?_ (r.size_le hz))
    obtain ⟨B',g,rt,m⟩:=(FrP.tuple (s:=s) (k:=s.toks) (n:=0) kp (Nat.le_refl _) r).ev
    refine wpAny_pure (hQ _ { s with heap:=s.heap.push _ } B' g m fun env A E s2 Q ek S old ξ hle hQ2=>?_)
    obtain ⟨hs,hk⟩:=e9 hx
    obtain ⟨hs2,hk2⟩:=e9 hy
    rw [List.forIn_cons]
    refine wpAny_bind (wpAny_bind (S.store ek hs hk (rv.mono g.le) fun h1 tk1 a1 ht1 ξ ξ S1 ξ=>wpAny_pure ?_))
    dsimp only
    rw [List.forIn_cons]
    refine wpAny_bind (wpAny_bind (S1.store (s:={ s2 with heap:=h1,toks:=tk1 }) ek hs2 hk2 rt fun h2 tk2 a2 ht2 ξ ξ S2 ξ=>wpAny_pure ?_))
    dsimp only
    rw [List.forIn_nil]
    have htk:=Nat.le_trans ht1 ht2
    exact wpAny_pure (hQ2 h2 tk2 htk (Nat.lt_of_lt_of_le ht (Nat.le_trans hle htk)) S2)
  · have:=(ar0 (ar0 q nofun).1 nofun).1
    rw [as4] at this;cases this
end
end
section
open PySem.Calls PySem.SeqAt
inductive eu6 (Z:Addr→Prop) (h:Heap) (e:Addr) (vs:Array Value) (f:Value):Prop
  | mk (T oT ts:_) (h1:vs[1]?=some (.ref T)) (h2:T≠e) (h3:Z T) (h4:h.get? T=some oT) (h5:oT.data = .fields ts) (h6:ts[3]?=some f)
noncomputable def ee6 (Z:Addr→Prop) (h:Heap) (e:Addr) (vs:Array Value):Option Value→Prop
  | none=>vs[1]?=some .none
  | some f=>eu6 Z h e vs f
inductive ag5 (Z:Addr→Prop) (h:Heap) (e:Addr) (c:Value) (fl:Option Value):Prop
  | mk (h1:Z e) (oe vs:_) (h2:h.get? e=some oe) (h3:oe.cls = .type "IndexError") (h4:oe.data = .fields vs) (h5:vs[2]?=some c) (h6:ee6 Z h e vs fl)
theorem ag5.keeps {Z Z':Addr→Prop} {h h':Heap} {e:Addr} {c:Value} {fl:Option Value} (x:ag5 Z h e c fl) (hz:∀ a,Z a→Z' a) (k:∀ a o,Z a→h.get? a=some o→(∃ vs,o.data = .fields vs)→h'.get? a=some o):ag5 Z' h' e c fl:=by
  obtain ⟨z,oe,vs,h1,h2,h3,h4,h5⟩:=x
  refine ⟨hz _ z,oe,vs,k _ _ z h1 ⟨_,h3⟩,h2,h3,h4,?_⟩
  cases fl with
  | none=>exact h5
  | some f=>
    obtain ⟨T,oT,ts,q1,q2,q3,q4,q5,q6⟩:=h5
    exact ⟨T,oT,ts,q1,q2,hz _ q3,k _ _ q3 q4 ⟨_,q5⟩,q5,q6⟩
theorem ag5.old {Z:Addr→Prop} {h h':Heap} {e:Addr} {c:Value} {fl:Option Value} (x:ag5 Z h e c fl) (k:Old h h'):ag5 Z h' e c fl:=
  x.keeps (fun ξ q=>q) fun a o ξ q d=>let ⟨_,d⟩:=d;k.solid q (.fields d)
section
variable {α:Type} {w:World} {A:Around} {E:Value→Shared→Prop} {s:Shared}
structure eo9 (h h':Heap) (e:Addr) (c:Value):Prop where
  keeps:∀ b o,h.get? b=some o→h'.get? b=some o
  new:h.get? e=none
  there:∃ ob t,h'.get? e=some ob∧ob.cls = .type "IndexError"∧ob.data = .fields #[t,.none,c,.none,.bool false,.none]
theorem bu2:entryFor table "proto.unchain"=some Builtin.«proto.unchain»:=entryFor_of_tree (by kernel_rfl)
theorem ck9 {msg:String} {Q:α→Shared→Prop} {c:Value} (hh:(A.handled=none∧c = .none)∨∃ h1 o1 vs1,A.handled=some (.ref h1)∧c = .ref h1∧s.heap.get? h1=some o1∧o1.data = .fields vs1∧vs1[2]?=some .none)
    (h:∀ h' tk e,s.toks≤tk→eo9 s.heap h' e c→E (.ref e) { s with heap:=h',toks:=tk }) :
    wpAny (model prog w) A (raiseErrorWords "IndexError" msg:Sem α) Q E s:=by
  have hp:=plainExc_IndexError
  unfold raiseErrorWords
  refine wpAny_bind (wpAny_mkText (wpAny_bind ?_))
  unfold newExc newTuple
  refine wpAny_bind (wpAny_newObj_type ?_)
  refine wpAny_bind (m:=firstArgMember _ _) (wpAny_of_eq (a:=Value.none) (by simp only [firstArgMember,hp.first];rfl) ?_)
  rw [hp.own]
  refine wpAny_newObj_type ?_
  unfold raiseNew
  refine wpAny_bind (wpAny_handled ?_)
  rcases hh with ⟨hh,rfl⟩ | ⟨h1,o1,vs1,hh,rfl,ho,hd,h2⟩
  · rw [hh]
    first
      | refine wpAny_throw ?_
      | refine wpAny_bind (wpAny_pure (wpAny_throw ?_))
    exact h _ _ _ (by simp) ⟨fun b o hb=>Heap.get?_push_of_some _ (Heap.get?_push_of_some _ hb),Heap.get?_none_of_le (by simp),_,.ref s.heap.objs.size,Heap.get?_push_size _ rfl,rfl,by simp⟩
  · rw [hh]
    dsimp only
    have k2:∀ (a b:Obj) {c:Addr} {o:Obj},s.heap.get? c=some o→((s.heap.push a).push b).get? c=some o:=fun a b c o hb=>Heap.get?_push_of_some _ (Heap.get?_push_of_some _ hb)
    have hlt:=Heap.lt_size ho
    have hsz:∀ o:Obj,(s.heap.push o).objs.size=s.heap.objs.size+1:=fun o=>by simp
    have hne:¬ Value.ref h1=Value.ref (s.heap.push { cls:=Value.type "tuple",data:=Data.seq #[Value.str (Str.ofString msg) s.toks] }).objs.size:=by
      rw [hsz];intro q;injection q with q;exact absurd (q▸hlt:s.heap.objs.size+1 < s.heap.objs.size) (by lia)
    rw [if_pos (by rw [bne_iff_ne];exact hne)]
    refine wpAny_bind (wpAny_holding (wpAny_runValue (codeAny_builtin bu2 ?_)))
    unfold Builtin.«proto.unchain»
    dsimp only
    refine wpAny_bind (wpAny_field (k2 _ _ ho) hd h2 ?_)
    rw [if_pos (show (Value.none == Value.none)=true from rfl)]
    refine wpAny_pure ?_
    dsimp only
    have he:∀ (a b:Obj),b.isFreed=false→((s.heap.push a).push b).get? (s.heap.push a).objs.size=some b:=fun a b q=>Heap.get?_push_size _ q
    unfold updateField
    refine wpAny_bind (wpAny_bind (wpAny_load (he _ _ rfl) ?_))
    dsimp only
    rw [if_pos (by simp)]
    refine wpAny_update (he _ _ rfl) (wpAny_throw ?_)
    refine h _ _ _ (by simp) ⟨fun b o hb=>?_,Heap.get?_none_of_le (by simp),_,.ref s.heap.objs.size,Heap.get?_update_self _ (he _ _ rfl) rfl,rfl,by simp [Obj.mapFields]⟩
    rw [Heap.get?_update_other _ _ (by rw [hsz];exact Nat.ne_of_gt (Nat.lt_succ_of_lt (Heap.lt_size hb)))]
    exact k2 _ _ hb
end
section
variable {w:World} {A:Around} {E:Value→Shared→Prop} {s:Shared}
theorem cz0 {B:FM} {h:Heap}:∀ {l:List Env},bn8 B h l→h.FunFrames {} l
  | [],_=>trivial
  | e :: l,x=>by
    obtain ⟨k,f,o,es,ep,q1,q2,q3,q4,q5⟩:=x e (by simp)
    exact ⟨k,⟨f,o,q1,by first | rfl | (simp [Heap.get?]),q2,fun vs q=>by rw [q3] at q;cases q⟩,cz0 fun e' he=>x e' (by simp [he])⟩
theorem dk3 {B:FM} {h h':Heap} {l:List Env} (x:bn8 B h l) (kp:i9 B h) (q:Heap.SlotsOnly (l.filterMap (·.frame)) h h'):Gr B h B h':=by
  have mem:∀ b,b∈l.filterMap (·.frame)→∃ o es ep,h.get? b=some o∧o.data = .dict es ep∧o.cls≠.type "dict"∧B b=none:=fun b hb=>by
    obtain ⟨e,he,hf⟩:=List.mem_filterMap.mp hb
    obtain ⟨k,f,o,es,ep,q1,q2,q3,q4,q5⟩:=x e he
    rw [q1] at hf;cases hf
    exact ⟨o,es,ep,q2,q3,q4,q5⟩
  refine ⟨.refl _,fun a o e=>?_,fun a o e=>?_,fun a o e=>.inl e⟩
  · by_cases m:a∈l.filterMap (·.frame)
    · obtain ⟨o',es,ep,q1,q2,q3,_⟩:=mem a m
      rw [e] at q1;cases q1
      obtain ⟨sl,q4⟩:=q.2.2 a o e
      exact .inr ⟨⟨es,ep,q2⟩,q3,sl,q4⟩
    · exact .inl ((q.2.1 a m).trans e)
  · have e1:=kp a o e
    by_cases m:a∈l.filterMap (·.frame)
    · obtain ⟨o',es,ep,_,_,_,q4⟩:=mem a m
      rw [q4] at e;cases e
    · exact (q.2.1 a m).trans e1
theorem ci1 {env e0:Env} {outer:List Env} {L:Addr} {Q:Value→Shared→Prop} (hfr:A.frames=some (e0 :: outer)) (hl:s.heap.FunFrames {} (e0 :: outer))
    (hf0:e0.frame=some L) (hf:env.frame=some L) (h:∀ h',Heap.SlotsOnly ((e0 :: outer).filterMap (·.frame)) s.heap h'→Q (.ref L) { s with heap:=h' }):wpAny (model prog w) A (PySem.frameOf env) Q E s:=by
  unfold PySem.frameOf
  refine wpAny_bind (wpAny_frameEnvs hfr ?_)
  have hdw:((e0 :: outer).dropWhile fun x=>x.frame != env.frame)=e0 :: outer:=by simp [List.dropWhile,hf0,hf]
  rw [hdw]
  unfold frameObject
  refine wpAny_bind (wpAny_bind (wpAny_readyFrames_fun hl fun h₁ hs₁=>wpAny_pure ?_))
  rw [hf0]
  exact wpAny_pure (h h₁ hs₁)
end
section
variable {w:World} {h0:Heap} {B0:FM} {env:Env} {sc:Scope} {r:Rho} {B:FM} {Z:Addr→Prop} {s:Shared} {A:Around} {E:Value→Shared→Prop}
theorem ci9 {e:Addr} {c:Value} {Q:Unit→Shared→Prop} (fa:FrA A env B0 h0) (S:Sim prog w h0 B0 env sc r B Z s.heap) (x:ag5 Z s.heap e c none)
    (h:∀ h' Z',Sim prog w h0 B0 env sc r B Z' h'→ag5 Z' h' e c (some (rawInt env.locals))→Q () { s with heap:=h' }):wpAny (model prog w) A (noteFrame (.ref e) env) Q E s:=by
  obtain ⟨hf,e0,l,e1,e2,e3,e4⟩:=id fa
  obtain ⟨l',q1,q2⟩:=fa.stk S
  rw [e1] at q1;cases q1
  obtain ⟨z,oe,vs,h1,h2,h3,h4,h5⟩:=x
  unfold noteFrame
  simp only [hf]
  refine wpAny_bind (wpAny_field h1 h3 h5 ?_)
  rw [if_neg (by decide)]
  refine wpAny_bind (ci1 e1 (cz0 q2) e3 hf fun hh hs=>?_)
  have g1:=dk3 q2 S.gr.keep hs
  have S1:=S.ev g1
  have h1':=g1.old.solid h1 (.fields h3)
  refine wpAny_bind (wpAny_entryPlaceOf fun pl hpl=>?_)
  unfold EntryCells.newEntry newFields
  refine wpAny_bind (wpAny_newObj_type ?_ (hpl.sizeOk5 _ _ _ _ _))
  generalize hoT:({ cls:=.type "traceback",dict:=none,data:=.fields ([Value.none,.ref env.locals,.none,rawInt env.locals,.none] ++ (if pl.isEmpty then List.replicate 6 Value.none else pl)).toArray }:Obj)=oT
  have hTd:∃ ts:Array Value,oT.data = .fields ts∧ts[3]?=some (rawInt env.locals):=by
    subst hoT
    exact ⟨_,rfl,by rcases hpl with rfl | ⟨_,_,_,_,_,_,_,rfl⟩ <;> simp⟩
  obtain ⟨ts,hT1,hT2⟩:=hTd
  have h1'':=Heap.get?_push_of_some (h:=hh) oT h1'
  have hT:=Heap.get?_push_size hh (o:=oT) (Obj.isFreed_of_fields hT1)
  have hsz:1 < vs.size:=(Array.getElem?_eq_some_iff.mp h5).1
  refine wpAny_setField h1'' h3 hsz ?_
  have hTe:hh.objs.size≠e:=Nat.ne_of_gt (Heap.lt_size h1')
  have hd3:=Obj.data_mapFields h3 (·.setIfInBounds 1 (Value.ref hh.objs.size))
  have he3:=Heap.get?_update_self (Obj.mapFields (·.setIfInBounds 1 (Value.ref hh.objs.size))) h1'' (Obj.isFreed_of_fields hd3)
  have hT3:=(Heap.get?_update_other (hh.push oT) (Obj.mapFields (·.setIfInBounds 1 (Value.ref hh.objs.size))) (Ne.symm hTe)).trans hT
  have gp:Gr B hh B (hh.push oT):=Gr.heap S1.gr.keep fun a o q=>Heap.get?_push_of_some _ q
  have hBn:B hh.objs.size=none:=by
    cases q:B hh.objs.size with
    | none=>rfl
    | some o=>exact absurd (Heap.lt_size (S1.gr.keep _ _ q)) (Nat.lt_irrefl _)
  have S2:=S1.addY (Y':=fun a=>a=hh.objs.size) gp fun a q=>by subst q;exact ⟨i6 (Nat.le_refl _),hBn,by rw [hT];simp⟩
  have other:∀ b,b≠e→((hh.push oT).update e (Obj.mapFields (·.setIfInBounds 1 (Value.ref hh.objs.size)))).get? b=(hh.push oT).get? b:=fun b q=>Heap.get?_update_other _ _ (Ne.symm q)
  have S3:=S2.off (h':=(hh.push oT).update e (Obj.mapFields (·.setIfInBounds 1 (Value.ref hh.objs.size)))) (fun b o hb e'=>by
      rw [other b (fun q=>hb (.inl (q▸z)))];exact e') (fun b hb=>by
      by_cases q:b=e
      · subst q;rw [he3];simp
      · rw [other b q];exact (S2.y0 b hb).2.2)
  refine h _ _ S3 ⟨.inl z,_,_,he3,?_,hd3,?_,hh.objs.size,oT,ts,?_,hTe,.inr rfl,hT3,hT1,hT2⟩
  · rw [Obj.cls_mapFields];exact h2
  · rw [Array.getElem?_setIfInBounds_ne (by decide)];exact h4
  · simp [hsz]
theorem an3 {e:Addr} {c:Value} {Q:Unit→Shared→Prop} (hf:env.frame=some env.locals) (x:ag5 Z s.heap e c (some (rawInt env.locals))) (h:Q () s):wpAny (model prog w) A (noteFrame (.ref e) env) Q E s:=by
  obtain ⟨z,oe,vs,h1,h2,h3,h4,T,oT,ts,q1,q2,q3,q4,q5,q6⟩:=x
  exact wpAny_noteFrame_inFlight hf h1 h3 q1 q4 q5 q6 h
theorem an5 {e:Addr} {c fl:Value} {fr:Option Addr} {Q:Unit→Shared→Prop} (S:Sim prog w h0 B0 env sc r B Z s.heap) (x:ag5 Z s.heap e c (some fl))
    (h:∀ h',Sim prog w h0 B0 env sc r B Z h'→ag5 Z h' e c (some (fr.elim .none fun f=>rawInt f))→Q () { s with heap:=h' }):wpAny (model prog w) A (setFlight (.ref e) fr) Q E s:=by
  obtain ⟨z,oe,vs,h1,h2,h3,h4,T,oT,ts,q1,q2,q3,q4,q5,q6⟩:=x
  unfold setFlight
  refine wpAny_bind (wpAny_field h1 h3 q1 ?_)
  rw [if_pos (show (Value.ref T != Value.none)=true from by simp)]
  have hsz:3 < ts.size:=(Array.getElem?_eq_some_iff.mp q6).1
  refine wpAny_setField q4 q5 hsz ?_
  have hd:=Obj.data_mapFields q5 (·.setIfInBounds 3 (fr.elim Value.none fun f=>rawInt f))
  have hT:=Heap.get?_update_self (Obj.mapFields (·.setIfInBounds 3 (fr.elim Value.none fun f=>rawInt f))) q4 (Obj.isFreed_of_fields hd)
  have other:∀ b,b≠T→(s.heap.update T (Obj.mapFields (·.setIfInBounds 3 (fr.elim Value.none fun f=>rawInt f)))).get? b=s.heap.get? b:=fun b q=>Heap.get?_update_other _ _ (Ne.symm q)
  refine h _ (S.off (fun b o hb e'=>by rw [other b (fun q=>hb (q▸q3))];exact e') fun b hb=>?_) ⟨z,oe,vs,(other e (Ne.symm q2)).trans h1,h2,h3,h4,T,_,_,q1,q2,q3,hT,hd,by simp [hsz]⟩
  by_cases q:b=T
  · subst q;rw [hT];simp
  · rw [other b q];exact (S.y0 b hb).2.2
theorem bg7 {e:Addr} {c fl:Value} (hf:env.frame=some env.locals) (S:Sim prog w h0 B0 env sc r B Z s.heap) (x:ag5 Z s.heap e c (some fl))
    (h:∀ h',Sim prog w h0 B0 env sc r B Z h'→ag5 Z h' e c (some (rawInt env.locals))→E (.ref e) { s with heap:=h' }):cameBackBy (model prog w) A env E (.ref e) s:=by
  unfold cameBackBy
  obtain ⟨z,oe,vs,h1,h2,h3,h4,T,oT,ts,q1,q2,q3,q4,q5,q6⟩:=id x
  refine wpAny_bind (wpAny_field h1 h3 q1 ?_)
  rw [if_neg (by simp)]
  rw [hf]
  exact an5 S x h
theorem dx5 {α:Type} {what:String} {e:Addr} {c fl:Value} {Q:α→Shared→Prop} (hf:env.frame=some env.locals) (S:Sim prog w h0 B0 env sc r B Z s.heap) (x:ag5 Z s.heap e c (some fl))
    (h:∀ h',Sim prog w h0 B0 env sc r B Z h'→ag5 Z h' e c (some (rawInt env.locals))→E (.ref e) { s with heap:=h' }):wpAny (model prog w) A (PySem.passOn what (.ref e) env:Sem α) Q E s:=by
  unfold PySem.passOn
  obtain ⟨z,oe,vs,h1,h2,h3,h4,T,oT,ts,q1,q2,q3,q4,q5,q6⟩:=id x
  refine wpAny_bind (wpAny_field h1 h3 q1 ?_)
  rw [if_neg (by simp)]
  rw [hf]
  exact wpAny_bind (an5 S x fun h' S' x'=>wpAny_throw (h h' S' x'))
end
end
section
open PySem.Calls PySem.SeqAt
section
variable (prog:Program) (w:World) (h0:Heap) (B0:FM) (env:Env) (sc:Scope)
noncomputable def HdX (Z:Addr→Prop) (h:Heap):Option (Addr×Option Value)→Prop
  | none=>True
  | some (e,fl)=>ag5 Z h e .none fl
noncomputable def HdA (A:Around):Option (Addr×Option Value)→Prop
  | none=>A.handled=none
  | some (e,_)=>A.handled=some (.ref e)
noncomputable def cl3:Option (Addr×Option Value)→Value
  | none=>.none
  | some (e,_)=>.ref e
inductive SX (r:Rho) (x:Option (Addr×Option Value)) (s0 s:Shared):Prop
  | mk (B Z:_) (h1:Sim prog w h0 B0 env sc r B Z s.heap) (h2:n7 s0 s) (h3:HdX Z s.heap x)
inductive XE (r:Rho) (c:Value) (fl:Option Value) (s0:Shared) (v:Value) (s:Shared):Prop
  | mk (e B Z:_) (h1:v = .ref e) (h2:Sim prog w h0 B0 env sc r B Z s.heap) (h3:n7 s0 s) (h4:ag5 Z s.heap e c fl)
end
theorem FrA.own {A:Around} {env:Env} {B0:FM} {h0:Heap} (x:FrA A env B0 h0):env.frame=some env.locals:=let ⟨h,_,_,_,_,_,_⟩:=x;h
section
variable {w:World} {h0:Heap} {B0:FM} {env:Env} {sc:Scope} {r:Rho} {B:FM} {Z:Addr→Prop} {s:Shared} {A:Around} {E:Value→Shared→Prop} {x:Option (Addr×Option Value)}
theorem HdX.keeps {Z':Addr→Prop} {h h':Heap} (q:HdX Z h x) (hz:∀ a,Z a→Z' a) (k:∀ a o,Z a→h.get? a=some o→(∃ vs,o.data = .fields vs)→h'.get? a=some o):HdX Z' h' x:=by
  cases x with
  | none=>trivial
  | some p=>exact ag5.keeps q hz k
theorem HdX.old {h h':Heap} (q:HdX Z h x) (k:Old h h'):HdX Z h' x:=q.keeps (fun ξ e=>e) fun a o ξ e d=>let ⟨_,d⟩:=d;k.solid e (.fields d)
theorem SX.after {s0 s1 s2:Shared} (m:n7 s0 s1) (q:SX prog w h0 B0 env sc r x s1 s2):SX prog w h0 B0 env sc r x s0 s2:=let ⟨B,Z,S,m',h⟩:=q;⟨B,Z,S,m.trans m',h⟩
theorem XE.after {s0 s1 s2:Shared} {c:Value} {fl:Option Value} {v:Value} (m:n7 s0 s1) (q:XE prog w h0 B0 env sc r c fl s1 v s2):XE prog w h0 B0 env sc r c fl s0 v s2:=let ⟨e,B,Z,hv,S,m',h⟩:=q;⟨e,B,Z,hv,S,m.trans m',h⟩
theorem bl8 {α:Type} {msg:String} {Q:α→Shared→Prop} (S:Sim prog w h0 B0 env sc r B Z s.heap) (hx:HdX Z s.heap x) (hA:HdA A x) (h:∀ v s',XE prog w h0 B0 env sc r (cl3 x) none s v s'→E v s') :
    wpAny (model prog w) A (raiseErrorWords "IndexError" msg:Sem α) Q E s:=by
  have key:∀ h' tk e,s.toks≤tk→eo9 s.heap h' e (cl3 x)→E (.ref e) { s with heap:=h',toks:=tk }:=fun h' tk e htk n=>by
    obtain ⟨ob,t,q1,q2,q3⟩:=n.there
    have g:Gr B s.heap B h':=Gr.heap S.gr.keep n.keeps
    have hBn:B e=none:=by
      cases q:B e with
      | none=>rfl
      | some o=>have:=S.gr.keep _ _ q;rw [n.new] at this;cases this
    have S2:=S.addY (Y':=fun a=>a=e) g fun a q=>by subst q;exact ⟨n.new,hBn,by rw [q1];simp⟩
    exact h _ _ ⟨e,_,_,rfl,S2,⟨rfl,rfl,htk⟩,.inr rfl,_,_,q1,q2,q3,by simp,by simp [ee6]⟩
  refine ck9 ?_ key
  cases x with
  | none=>exact .inl ⟨hA,rfl⟩
  | some p=>
    obtain ⟨z,oe,vs,h1,h2,h3,h4,_⟩:=hx
    exact .inr ⟨p.1,oe,vs,hA,rfl,h1,h3,h4⟩
theorem ce8 {l:Addr} {d7:Array Value} {n:Nat} {k:Int} {t:Tok} {Q:Value→Shared→Prop} (S:Sim prog w h0 B0 env sc r B Z s.heap) (hx:HdX Z s.heap x) (hA:HdA A x) (hl:s.heap.IsList l d7)
    (hk:k=(n:Int)) (hout:d7.size≤n) (hhi:n < 2 ^ 63) (hE:∀ v s',XE prog w h0 B0 env sc r (cl3 x) none s v s'→E v s') :
    wpAny (model prog w) A (getItem (.ref l) (.int k t)) Q E s:=by
  obtain ⟨o,ho,hc,ne,hd⟩:=id hl
  unfold getItem
  try with_reducible refine wpAny_holding ?_
  first | refine wpAny_bind (wpAny_pure ?_) | skip
  refine wpAny_bind (wpAny_sequenceKey hl.typeIs (by decide) ?_)
  refine wpAny_bind (wpAny_callSpecial?_slot (name:=Str.ofString "__getitem__") hl.typeIs slot_list_getitem
    (wpAny_call_entry slot_list_getitem hl.typeIs entry_list_getitem ?_ (args_list_getitem _ _)))
  show wpAny _ _ (Builtin.List.listSubscript? (.int k t) >>= _) _ _ s
  have fits:=fitsIndex_both (k:=k) (by lia) (by lia)
  clear hhi
  refine wpAny_bind (wpAny_listSubscript_int fits ?_)
  clear fits
  subst hk
  have hx':d7[n]?=none:=Array.getElem?_eq_none hout
  show wpAny _ _ ((seqItemAt l n >>= fun r=>pure (r.map (n,·))) >>= _) _ _ s
  refine wpAny_bind (wpAny_bind (wpAny_seqItemAt ho hd (wpAny_pure ?_)))
  rw [hx']
  first
    | exact wpAny_bind (wpAny_rule (bl8 S hx hA hE))
    | exact wpAny_bind (wpAny_rule (wpAny_bind (bl8 S hx hA hE)))
    | exact wpAny_bind (wpAny_bind (wpAny_rule (bl8 S hx hA hE)))
    | exact wpAny_rule (bl8 S hx hA hE)
theorem eb9 {xn yn:Str} {ix iy:Nat} {px py pos:Pos} {X:List D} {n:Nat} {Q:Value→Shared→Prop} (ek:t9 env sc) (S:Sim prog w h0 B0 env sc r B Z s.heap) (hx:HdX Z s.heap x) (hA:HdA A x)
    (s1:d6 sc xn=some ix) (s2:d6 sc yn=some iy) (r1:r.get ix=some (.fr,.list X)) (r2:r.get iy=some (.fr,.int n)) (hn:n < 1152921504606846976)
    (h1:∀ d v,X[n]?=some d→Rd prog w B d v→Q v s) (h2:X.length≤n→∀ v s',XE prog w h0 B0 env sc r (cl3 x) none s v s'→E v s') :
    wpAny (model prog w) A (PySem.eval (.Subscript (.Name xn px) (.Name yn py) pos) env) Q E s:=by
  obtain ⟨v1,a1,t1,f1,_⟩:=S.vars xn ix _ _ s1 r1
  obtain ⟨v2,a2,t2,f2,_⟩:=S.vars yn iy _ _ s2 r2
  refine Subscript_ (a1.load ek.kind (j3 s1) (a2.load ek.kind (j3 s2) ?_))
  obtain ⟨l,o,vs,rfl,ho,hs,hr⟩:=t1
  obtain ⟨t,ht,rfl⟩:=t2
  refine aj9 (hs.isList ho).typeIs slot_list_getitem.lookup ?_
  by_cases hlt:n < X.length
  · obtain ⟨d,e⟩:∃ d,X[n]?=some d:=⟨_,List.getElem?_eq_getElem hlt⟩
    obtain ⟨v,e',hv⟩:=hr.get e
    exact wpAny_getItem_list (hs.isList ho) (by lia) (by lia) (by simpa using e') (h1 d v e hv)
  · exact ce8 S hx hA (hs.isList ho) rfl (by have:=hr.length;simp;lia) (by exact Nat.le_trans ‹_› (Nat.le_of_ble_eq_true rfl)) (h2 (by exact Nat.not_lt.mp ‹_›))
theorem eb1 {xn:Str} {ix:Nat} {p p2 pos:Pos} {kd:Nat} {n:Int} {Q:Flow→Shared→Prop} (ek:t9 env sc) (S:Sim prog w h0 B0 env sc r B Z s.heap) (hx:HdX Z s.heap x)
    (hw:l7 sc xn=some ix) (hr:r.get ix=some (.fr,.int n)) (h:∀ s',SX prog w h0 B0 env sc (r.set ix (some (.fr,.int (n+1)))) x s s'→Q .next s') :
    wpAny (model prog w) A (PySem.exec (.AugAssign (.Name xn p) .Add (.Constant (.int 1) kd p2) pos) env) Q E s:=by
  obtain ⟨hs,hxl⟩:=e9 hw
  obtain ⟨u,a0,t0,f0,_⟩:=S.vars xn ix _ _ hs hr
  obtain ⟨t,_,rfl⟩:=t0
  refine wpAny_AugAssign_Name (a0.loadName ek.kind (j3 hs) ?_)
  refine wpAny_Constant_int ?_
  refine wpAny_iadd_int ?_
  have S1:Sim prog w h0 B0 env sc r B Z ({ s with toks:=s.toks+1+1 }:Shared).heap:=S
  refine S1.store (s:={ s with toks:=s.toks+1+1 }) ek hs hxl (d:=.int (n+1)) (ap2.mpr ⟨_,trivial,rfl⟩) fun h' tk a htk hob hsb S4 hoth=>?_
  refine h _ ⟨B,Z,S4,⟨rfl,rfl,by simp at htk ⊢;lia⟩,hx.keeps (fun ξ q=>q) fun b o zb e ξ=>(hsb.2 b (fun q=>S.yown a hob (q▸zb))).trans e⟩
theorem dt2 {xn yn en:Str} {ix iy ie:Nat} {p1 p2 p3 p4 p5 pos:Pos} {body:List Stmt} {X:List D} {n:Nat} {y:Str} {Q:Flow→Shared→Prop} (ek:t9 env sc) (fa:FrA A env B0 h0) (S:Sim prog w h0 B0 env sc r B Z s.heap) (hx:HdX Z s.heap x) (hA:HdA A x)
    (s1:d6 sc xn=some ix) (s2:d6 sc yn=some iy) (s3:d6 sc en=some ie) (r1:r.get ix=some (.fr,.list X)) (r2:r.get iy=some (.fr,.int n)) (r3:r.get ie=some (.fr,.str y)) (hn:n < 1152921504606846976)
    (hd:∀ d,X[n]?=some d→∃ z,d = .str z∧z≠y)
    (h1:n < X.length→Q .next s) (h2:X.length≤n→∀ v s',XE prog w h0 B0 env sc r (cl3 x) (some (rawInt env.locals)) s v s'→E v s') :
    wpAny (model prog w) A (PySem.exec (.While (.Compare (.Subscript (.Name xn p1) (.Name yn p2) p3) [.Eq] [.Name en p4] p5) body [] pos) env) Q E s:=by
  refine wpAny_While (codeAny_whileLoop (fun ξ sq=>sq=s) (fun ξ sq e=>?_) 0 rfl)
  subst e
  refine wpAny_isTrue_Compare1 (eb9 ek S hx hA s1 s2 r1 r2 hn (fun d v e hv=>?_) fun hlen v s' q=>?_) rfl
  · obtain ⟨z,rfl,hz⟩:=hd d e
    obtain ⟨v3,a3,t3,_⟩:=S.vars en ie _ _ s3 r3
    refine a3.load ek.kind (j3 s3) ?_
    obtain ⟨t,_,rfl⟩:=hv
    obtain ⟨u,_,rfl⟩:=t3
    refine P.eq_str ?_
    rw [dg8,show (z == y)=false by simpa using hz]
    refine wpAny_truthy_bool ?_
    simp only [Bool.false_eq_true,if_false]
    exact wpAny_execs_nil (h1 (List.getElem?_eq_some_iff.mp e).1)
  · obtain ⟨e,B',Z',rfl,S',m,xx⟩:=q
    refine ci9 fa S' xx fun h' Z'' S'' xx'=>?_
    refine bg7 fa.own S'' xx' fun h3 S3 xx3=>?_
    exact h2 hlen _ _ ⟨e,B',Z'',rfl,S3,⟨m.gens,m.os,m.toks⟩,xx3⟩
end
end
section
open PySem.Calls PySem.SeqAt
section
variable {w:World} {h0:Heap} {B0:FM} {env:Env} {sc:Scope} {r:Rho} {B:FM} {Z:Addr→Prop} {s:Shared} {A:Around} {E:Value→Shared→Prop} {x:Option (Addr×Option Value)}
theorem dy7 {value slice:PySem.Expr} {X:List D} {n:Nat} {a b:Value} (kp:i9 B s.heap) (ha:f6 prog w s.heap B (.list X) a) (hb:f6 prog w s.heap B (.int n) b) (hz:sz X.length=true) :
    wpAny (model prog w) A (subscriptTail value slice a (.ref s.heap.objs.size)) (FrP prog w B s (.list (X.drop n))) E { s with heap:=s.heap.push { cls:=.type "slice",data:=.fields #[b,.none,.none] } }:=by
  obtain ⟨g,m⟩:=ay6 kp b .none .none (Nat.le_refl s.toks)
  obtain ⟨l,o,vs,rfl,ho,hsq,hr⟩:=ha
  obtain ⟨t,ht,rfl⟩:=hb
  have hl:=(hsq.isList ho).push { cls:=.type "slice",data:=.fields #[.int n t,.none,.none] }
  refine aj9 (Heap.IsList.typeIs (s:={ s with heap:=s.heap.push _ }) hl) slot_list_getitem.lookup ?_
  refine wpAny_getItem_list_slice hl (Heap.IsSliceOf.new ..) (.int _ t) .none .none (by simp) ?_ (by have:=ai5 hz;rw [← hr.length] at this;simpa using this)
  rw [show slicePick vs.toArray (some (n:Int)) none none=(vs.drop n).toArray by rw [slicePick_from']]
  exact FrP.after g m (FrP.list g.keep (Nat.le_refl _) (hr.drop n))
theorem cn6 {mn xn yn:Str} {im ix iy:Nat} {np ap cp ep p1 p2 p3 p4:Pos} {X l:List D} {n:Nat} {Q:Flow→Shared→Prop} (ek:t9 env sc) (S:Sim prog w h0 B0 env sc r B Z s.heap) (hx:HdX Z s.heap x)
    (s0:d6 sc mn=some im) (s1:d6 sc xn=some ix) (s2:d6 sc yn=some iy) (r0:r.get im=some (.own,.list l)) (r1:r.get ix=some (.fr,.list X)) (r2:r.get iy=some (.fr,.int n)) (hp:(ap.endLine == cp.line)=true)
    (hz:sz (l.length+X.length)=true) (h:∀ s',SX prog w h0 B0 env sc (r.set im (some (.own,.list (l ++ X.drop n)))) x s s'→Q .next s') :
    wpAny (model prog w) A (PySem.exec (.Expr (.Call (.Attribute (.Name mn np) "extend" ap) [.Subscript (.Name xn p1) (.Slice (some (.Name yn p2)) none none p3) p4] [] cp) ep) env) Q E s:=by
  obtain ⟨a,vs,m,ha,ho,rl⟩:=ar5 S s0 r0
  obtain ⟨v1,a1,t1,f1,_⟩:=S.vars xn ix _ _ s1 r1
  obtain ⟨v2,a2,t2,f2,_⟩:=S.vars yn iy _ _ s2 r2
  refine wpAny_Expr (wpAny_Call_method (at7 rfl) (bc3 (by rfl) (by show 1 < 20;decide)) hp F.plainAttrs_list PySem.F.slot_list_extend PySem.F.type_list_extend ?_) (av5 ek) rfl
  refine ha.load ek.kind (j3 s0) ⟨⟨_,ho,rfl⟩,fun b q=>(by cases q;exact ⟨_,ho,rfl⟩),?_⟩
  refine callWith_method1 ?_ (c9 rfl) rfl
  rw [c9 rfl,j6]
  refine spliced_cons (Subscript_ (a1.load ek.kind (j3 s1) ?_))
  show wpAny _ _ (do let l ← PySem.eval (.Name yn p2) env;let u ← holding [l] (pure .none:Sem Value);let st ← holding [l,u] (pure .none:Sem Value);newFields "slice" [l,u,st]) _ _ _
  refine wpAny_bind (a2.load ek.kind (j3 s2) (wpAny_bind (wpAny_holding (wpAny_pure (wpAny_bind (wpAny_holding (wpAny_pure (af7 ?_))))))))
  have hzX:sz X.length=true:=by unfold sz at hz ⊢;simp at hz ⊢;lia
  refine wpAny_mono (dy7 S.gr.keep t1 t2 hzX) (fun v s2 q=>spliced_nil ?_) fun ξ ξ e=>e
  obtain ⟨B2,b,rfl,g2,hbn,hbB,tb,m2,hpl⟩:=q
  obtain ⟨b',ob,ws,e,hob,⟨c1,n2,c2⟩,rw2⟩:=tb
  cases e
  obtain ⟨p1',p2'⟩:=hpl ob hob
  obtain ⟨cls,dct,dt,sl⟩:=ob
  simp only at c1 c2 p1' p2'
  subst c1 c2 p1' p2'
  have S2:=S.ev g2
  have ho2:=g2.old.solid ho (.seq rfl)
  have hlen1:=rl.length
  have hlen2:=rw2.length
  have hsz':vs.toArray.size+ws.toArray.size≤sizeLine:=by
    have:=ai5 hz
    simp only [List.size_toArray,hlen1,hlen2,List.length_drop];lia
  refine call_meets PySem.F.slot_list_extend ⟨_,ho2,rfl⟩ PySem.F.entry_list_extend (PySem.F.args_list_extend_2 _ _) (AutoSeq1.list_extend_list_list_0 a vs.toArray m b ws.toArray n2 (extend_door hsz') (Nat.le_trans (Nat.le_add_right _ _) hsz')) ⟨ho2,hob,?_⟩
  have e:vs.toArray ++ ws.toArray=(vs ++ ws).toArray:=by simp
  have ho6:(s2.heap.update a (Obj.mapSeq fun x=>x ++ ws.toArray)).get? a=some { cls:=.type "list",data:=.seq (vs ++ ws).toArray (if (vs.toArray ++ ws.toArray).size == vs.toArray.size then m else m+1) }:=by
    rw [Heap.get?_update_self _ ho2 (by rw [mapSeq_app];rfl),mapSeq_app,e]
  have hsb:Heap.SameBut a s2.heap (s2.heap.update a (Obj.mapSeq fun x=>x ++ ws.toArray)):=Heap.SameBut.update ..
  have tt:f6 prog w (s2.heap.update a (Obj.mapSeq fun x=>x ++ ws.toArray)) B2 (.list (l ++ X.drop n)) (.ref a):=bq4.mpr ⟨a,_,vs ++ ws,rfl,ho6,⟨rfl,_,rfl⟩,(rl.mono g2.le).append rw2⟩
  have hpl6:aa1 (s2.heap.update a (Obj.mapSeq fun x=>x ++ ws.toArray)) a:=fun o q=>by rw [ho6] at q;cases q;exact ⟨rfl,rfl⟩
  have S3:=S2.mut s0 r0 (ha.keeps g2.old) hsb tt hpl6
  have na:∀ c,Z c→c≠a:=fun c zc q=>by
    obtain ⟨v0,a0,_,_,n0,_⟩:=S.vars mn im _ _ s0 r0
    have:=ha.unique a0
    subst this
    exact n0 c (.inr zc) (by rw [q])
  refine h _ ⟨B2,Z,S3,⟨m2.gens,m2.os,m2.toks⟩,(hx.old g2.old).keeps (fun ξ q=>q) fun c o zc e' ξ=>(hsb.2 c (na c zc)).trans e'⟩
end
end
section
open PySem.Calls PySem.SeqAt
noncomputable def ltS (x y:Str):Bool:=decide (x.cps.toList < y.cps.toList)
noncomputable def ad1:List Str→List Str→List Str×List Str
  | [],Y=>([],Y)
  | x :: X,[]=>(x :: X,[])
  | x :: X,y :: Y=>if ltS x y then (x :: (ad1 X (y :: Y)).1,(ad1 X (y :: Y)).2)
      else if ltS y x then ((ad1 (x :: X) Y).1,y :: (ad1 (x :: X) Y).2) else ad1 X Y
termination_by X Y=>X.length+Y.length
theorem cj9 (Y:List Str):ad1 [] Y=([],Y):=by rw [ad1]
theorem bv8 (X:List Str):ad1 X []=(X,[]):=by cases X <;> rw [ad1]
theorem az8 (x y:Str) (X Y:List Str):ad1 (x :: X) (y :: Y)=if ltS x y then (x :: (ad1 X (y :: Y)).1,(ad1 X (y :: Y)).2)
      else if ltS y x then ((ad1 (x :: X) Y).1,y :: (ad1 (x :: X) Y).2) else ad1 X Y:=by rw [ad1]
noncomputable def LS (X:List Str):D:=.list (X.map .str)
noncomputable def ed4 (o:Option D):Slot:=o.map fun d=>(.fr,d)
noncomputable def rS (X Y:List Str) (i j:Nat) (m u:List Str) (e a:Option D):Rho:=
  [some (.fr,LS X),some (.fr,LS Y),some (.fr,.int (i:Int)),some (.fr,.int (j:Int)),some (.own,LS m),some (.own,LS u),ed4 e,ed4 a,none]
structure dj8 (sc:Scope) (xn yn iN jN mN uN eN aN:Str):Prop where
  x:l7 sc xn=some 0
  y:l7 sc yn=some 1
  i:l7 sc iN=some 2
  j:l7 sc jN=some 3
  m:l7 sc mN=some 4
  u:l7 sc uN=some 5
  e:l7 sc eN=some 6
  a:l7 sc aN=some 7
inductive ew2 (e:PySem.Expr) (xn iN:Str):Prop
  | mk (p1 p2 p3:_) (h1:e = .Subscript (.Name xn p1) (.Name iN p2) p3)
inductive ef3 (e:PySem.Expr) (op:CmpOp) (xn yn:Str):Prop
  | mk (p1 p2 p3:_) (h1:e = .Compare (.Name xn p1) [op] [.Name yn p2] p3)
inductive ee7 (st:Stmt) (eN xn iN:Str):Prop
  | mk (p1 p2 p3 p4 p5:_) (h1:st = .Assign [.Name eN p1] (.Subscript (.Name xn p2) (.Name iN p3) p4) p5)
inductive di9 (st:Stmt) (iN:Str):Prop
  | mk (p1 kd p2 p3:_) (h1:st = .AugAssign (.Name iN p1) .Add (.Constant (.int 1) kd p2) p3)
inductive ci6 (st:Stmt) (xn iN eN:Str):Prop
  | mk (p1 p2 p3 p4 p5 body pos:_) (h1:st = .While (.Compare (.Subscript (.Name xn p1) (.Name iN p2) p3) [.Eq] [.Name eN p4] p5) body [] pos)
inductive ef0 (st:Stmt) (mN eN:Str):Prop
  | mk (np ap p cp ep:_) (h1:(ap.endLine == cp.line)=true) (h2:st = .Expr (.Call (.Attribute (.Name mN np) "append" ap) [.Name eN p] [] cp) ep)
inductive dw5 (st:Stmt) (mN xn iN:Str):Prop
  | mk (np ap cp ep p1 p2 p3 p4:_) (h1:(ap.endLine == cp.line)=true) (h2:st = .Expr (.Call (.Attribute (.Name mN np) "extend" ap) [.Subscript (.Name xn p1) (.Slice (some (.Name iN p2)) none none p3) p4] [] cp) ep)
section
variable {w:World} {h₀:Heap} {k:Nat} {h0:Heap} {B0:FM} {env:Env} {sc:Scope} {r:Rho} {B:FM} {Z:Addr→Prop} {s:Shared} {A:Around} {E:Value→Shared→Prop} {x:Option (Addr×Option Value)}
variable {xn yn iN jN mN uN eN aN:Str}
theorem ck0 (N:dj8 sc xn yn iN jN mN uN eN aN) {X Y:List Str} {i j:Nat} {m u:List Str} {e a:Option D}:y6 sc (rS X Y i j m u e a):=by
  intro t d h
  have hm:=(e9 N.m).1
  have hu:=(e9 N.u).1
  rcases t with _ | _ | _ | _ | _ | _ | _ | _ | _ | t
  · cases h
  · cases h
  · cases h
  · cases h
  · exact ⟨_,hm⟩
  · exact ⟨_,hu⟩
  · cases e <;> cases h
  · cases a <;> cases h
  · cases h
  · simp [rS,Rho.get] at h
theorem eb8 {st:Stmt} {en xn yn:Str} {ie ix iy:Nat} {X:List D} {n:Nat} {Q:Flow→Shared→Prop} (hst:ee7 st en xn yn) (ek:t9 env sc) (S:Sim prog w h0 B0 env sc r B Z s.heap) (hx:HdX Z s.heap x) (hA:HdA A x)
    (w0:l7 sc en=some ie) (s1:d6 sc xn=some ix) (s2:d6 sc yn=some iy) (r1:r.get ix=some (.fr,.list X)) (r2:r.get iy=some (.fr,.int n)) (hn:n < 1152921504606846976)
    (h1:∀ d s',X[n]?=some d→SX prog w h0 B0 env sc (r.set ie (some (.fr,d))) x s s'→Q .next s') (h2:X.length≤n→∀ v s',XE prog w h0 B0 env sc r (cl3 x) none s v s'→E v s') :
    wpAny (model prog w) A (PySem.exec st env) Q E s:=by
  obtain ⟨p1,p2,p3,p4,p5,rfl⟩:=hst
  obtain ⟨hs,hxl⟩:=e9 w0
  refine ao5 rfl (eb9 ek S hx hA s1 s2 r1 r2 hn (fun d v e hv=>?_) h2)
  refine wpAny_assign_Name (S.store ek hs hxl hv fun h' tk a htk hob hsb S4 hoth=>?_)
  exact h1 d _ e ⟨B,Z,S4,⟨rfl,rfl,htk⟩,hx.keeps (fun ξ q=>q) fun b o zb e ξ=>(hsb.2 b (fun q=>S.yown a hob (q▸zb))).trans e⟩
theorem cd0 {st:Stmt} {xn yn en:Str} {ix iy ie:Nat} {X:List D} {n:Nat} {y:Str} {Q:Flow→Shared→Prop} (hst:ci6 st xn yn en) (ek:t9 env sc) (fa:FrA A env B0 h0) (S:Sim prog w h0 B0 env sc r B Z s.heap) (hx:HdX Z s.heap x) (hA:HdA A x)
    (s1:d6 sc xn=some ix) (s2:d6 sc yn=some iy) (s3:d6 sc en=some ie) (r1:r.get ix=some (.fr,.list X)) (r2:r.get iy=some (.fr,.int n)) (r3:r.get ie=some (.fr,.str y)) (hn:n < 1152921504606846976)
    (hd:∀ d,X[n]?=some d→∃ z,d = .str z∧z≠y)
    (h1:n < X.length→Q .next s) (h2:X.length≤n→∀ v s',XE prog w h0 B0 env sc r (cl3 x) (some (rawInt env.locals)) s v s'→E v s') :
    wpAny (model prog w) A (PySem.exec st env) Q E s:=by
  obtain ⟨p1,p2,p3,p4,p5,body,pos,rfl⟩:=hst
  exact dt2 ek fa S hx hA s1 s2 s3 r1 r2 r3 hn hd h1 h2
theorem eb7 {st:Stmt} {mn en:Str} {im ie:Nat} {l:List D} {d:D} {Q:Flow→Shared→Prop} (hst:ef0 st mn en) (rm:Rm k A) (ek:t9 env sc) (hb:∀ a o,h₀.get? a=some o→B0 a=some o) (ht:0 < s.toks) (fa:FrA A env B0 h0) (hn:y6 sc r) (S:Sim prog w h0 B0 env sc r B Z s.heap)
    (s0:d6 sc mn=some im) (s1:d6 sc en=some ie) (r0:r.get im=some (.own,.list l)) (r1:r.get ie=some (.fr,d)) (hz:sz (l.length+1)=true)
    (h:∀ s',SX prog w h0 B0 env sc (r.set im (some (.own,.list (l ++ [d])))) none s s'→Q .next s') :
    wpAny (model prog w) A (PySem.exec st env) Q E s:=by
  obtain ⟨np,ap,p,cp,ep,hp,rfl⟩:=hst
  have hfz:an7 r (.var ie)=r:=by
    show r.frz ie=r
    unfold Rho.frz;rw [r1]
  refine wpAny_mono (bw0 (w:=w) (h₀:=h₀) (k:=k) (calls:=fun ξ ξ=>none) (fresh:=fun ξ=>false) s0 hp rfl (d9 s1) rm ek hb ht fa hn S (res:=(.next,r.set im (some (.own,.list (l ++ [d]))))) ?_) (fun f s' q=>?_) fun ξ ξ e=>e
  · show (do let d ← eval (fun ξ ξ=>none) (.var ie) (an7 r (.var ie));let l ← w6 (← ao4 ((an7 r (.var ie)).get im));gd (sz (l.length+1)) (do some (Fl.next,← (an7 r (.var ie)).put im .own (.list (l ++ [d])))))=_
    have e1:eval (fun ξ ξ=>none) (.var ie) r=some d:=congrArg bt6 r1
    rw [hfz,e1,r0]
    show gd (sz (l.length+1)) (do some (Fl.next,← r.put im .own (.list (l ++ [d]))))=_
    rw [hz,dt5 r0];rfl
  · cases f <;> first | exact q.elim | skip
    obtain ⟨B',_,S',m',_⟩:=q
    exact h s' ⟨B',Z,S',m',trivial⟩
end
end
section
open PySem.Calls PySem.SeqAt
inductive eq9 (st:Stmt) (xn yn iN jN eN aN:Str):Prop
  | mk (w3 j2 w4 pt:_) (h1:st = .Try [w3] [] [] [j2,w4] pt) (h2:ci6 w3 xn iN eN) (h3:di9 j2 jN) (h4:ci6 w4 yn jN aN)
section
variable {w:World} {h₀:Heap} {k:Nat} {h0:Heap} {B0:FM} {env:Env} {sc:Scope} {r:Rho} {B:FM} {Z:Addr→Prop} {s:Shared} {A:Around} {E:Value→Shared→Prop} {x:Option (Addr×Option Value)}
variable {xn yn iN jN mN uN eN aN:Str}
theorem FrA.mark (fa:FrA A env B0 h0) (v:Option Value):FrA (A.mark v) env B0 h0:=by
  obtain ⟨a,e0,l,b,c,d,e⟩:=fa
  refine ⟨a,e0,l,?_,c,d,e⟩
  cases A;exact b
theorem el6 {x y:Str} {t u:Tok} {Q:Value→Shared→Prop} (h:Q (.bool (y.cps.toList < x.cps.toList)) s):wpAny (model prog w) A (compareOp .Gt (.str x t) (.str y u)) Q E s:=
  compareOp_gives (op:=.Gt) (typeIs_str s x t) (typeIs_str s y u) F.slot_str_gt F.entry_str_gt (F.args_str_gt_2 _ _) (gives_str_gt x y t u) (fun e=>nomatch e) h
theorem ec3 {t:PySem.Expr} {op:CmpOp} {en an:Str} {ie ia:Nat} {x y:Str} {b:Bool} {Q:Bool→Shared→Prop} (hst:ef3 t op en an) (hop:(op = .Lt∧b=ltS x y)∨(op = .Gt∧b=ltS y x)) (rm:Rm k A) (ek:t9 env sc) (hb:∀ a o,h₀.get? a=some o→B0 a=some o) (ht:0 < s.toks) (fa:FrA A env B0 h0) (S:Sim prog w h0 B0 env sc r B Z s.heap)
    (s0:d6 sc en=some ie) (s1:d6 sc an=some ia) (r0:r.get ie=some (.fr,.str x)) (r1:r.get ia=some (.fr,.str y)) (h:∀ s',SX prog w h0 B0 env sc r none s s'→Q b s') :
    wpAny (model prog w) A (isTrue t env (PySem.eval t env)) Q E s:=by
  obtain ⟨p1,p2,p3,rfl⟩:=hst
  have hm:behindInMarks op (.Name an p2)=false:=by rcases hop with ⟨rfl,_⟩ | ⟨rfl,_⟩ <;> rfl
  obtain ⟨v1,a1,t1,_⟩:=S.vars en ie _ _ s0 r0
  obtain ⟨v2,a2,t2,_⟩:=S.vars an ia _ _ s1 r1
  obtain ⟨t,_,rfl⟩:=t1
  obtain ⟨u,_,rfl⟩:=t2
  refine wpAny_isTrue_Compare1 (a1.load ek.kind (j3 s0) (a2.load ek.kind (j3 s1) ?_)) hm
  have hq:wpAny (model prog w) A (truthy (.bool b)) Q E s:=wpAny_truthy_bool (h s ⟨B,Z,S,.refl s,trivial⟩)
  rcases hop with ⟨rfl,rfl⟩ | ⟨rfl,rfl⟩
  · exact P.lt_str hq
  · exact el6 hq
theorem eq1 {st:Stmt} {X Y m u:List Str} {i j:Nat} {e a:Str} {Q:Flow→Shared→Prop} (hst:eq9 st xn yn iN jN eN aN) (N:dj8 sc xn yn iN jN mN uN eN aN) (hA:A.handled=none) (ek:t9 env sc) (fa:FrA A env B0 h0)
    (S:Sim prog w h0 B0 env sc (rS X Y i j m u (some (.str e)) (some (.str a))) B Z s.heap) (hi:i < 1152921504606846976) (hj:j+1 < 1152921504606846976)
    (hX:∀ z,X[i]?=some z→z≠e) (hY:∀ z,Y[j+1]?=some z→z≠a)
    (h1:∀ s',i < X.length→j+1 < Y.length→SX prog w h0 B0 env sc (rS X Y i (j+1) m u (some (.str e)) (some (.str a))) none s s'→Q .next s')
    (h2:∀ c v s',(X.length≤i∨Y.length≤j+1)→XE prog w h0 B0 env sc (rS X Y i (j+1) m u (some (.str e)) (some (.str a))) c (some (rawInt env.locals)) s v s'→E v s') :
    wpAny (model prog w) A (PySem.exec st env) Q E s:=by
  obtain ⟨w3,j2,w4,pt,rfl,hw3,hj2,hw4⟩:=hst
  obtain ⟨q1,kd,q2,q3,rfl⟩:=hj2
  have hdX:∀ d:D,(X.map PyData.str)[i]?=some d→∃ z,d = .str z∧z≠e:=fun d hd=>by
    rw [List.getElem?_map,Option.map_eq_some_iff] at hd
    obtain ⟨z,hz,rfl⟩:=hd
    exact ⟨z,rfl,hX z hz⟩
  have hdY:∀ d:D,(Y.map PyData.str)[j+1]?=some d→∃ z,d = .str z∧z≠a:=fun d hd=>by
    rw [List.getElem?_map,Option.map_eq_some_iff] at hd
    obtain ⟨z,hz,rfl⟩:=hd
    exact ⟨z,rfl,hY z hz⟩
  have sx:=(e9 N.x).1
  have sy:=(e9 N.y).1
  have si:=(e9 N.i).1
  have sj:=(e9 N.j).1
  have se:=(e9 N.e).1
  have sa:=(e9 N.a).1

  have last:∀ {A':Around} {E':Value→Shared→Prop} {Q':Flow→Shared→Prop} {s1:Shared} {B1:FM} {Z1:Addr→Prop} {x:Option (Addr×Option Value)},FrA A' env B0 h0→HdA A' x→HdX Z1 s1.heap x→Sim prog w h0 B0 env sc (rS X Y i j m u (some (.str e)) (some (.str a))) B1 Z1 s1.heap→
      (∀ s',j+1 < Y.length→SX prog w h0 B0 env sc (rS X Y i (j+1) m u (some (.str e)) (some (.str a))) x s1 s'→Q' .next s')→
      (∀ v s',Y.length≤j+1→XE prog w h0 B0 env sc (rS X Y i (j+1) m u (some (.str e)) (some (.str a))) (cl3 x) (some (rawInt env.locals)) s1 v s'→E' v s')→
      wpAny (model prog w) A' (PySem.execs [.AugAssign (.Name jN q1) .Add (.Constant (.int 1) kd q2) q3,w4] env) Q' E' s1:=by
    intro A' E' Q' s1 B1 Z1 x fa' ha' hx' S1 k1 k2
    refine wpAny_execs_cons (eb1 ek S1 hx' N.j rfl fun s2 p=>?_)
    obtain ⟨B2,Z2,S2,m2,hx2⟩:=p
    have S2:Sim prog w h0 B0 env sc (rS X Y i (j+1) m u (some (.str e)) (some (.str a))) B2 Z2 s2.heap:=S2
    refine wpAny_execs_cons (cd0 (n:=j+1) hw4 ek fa' S2 hx2 ha' sy sj sa rfl rfl rfl hj hdY (fun hlt=>wpAny_execs_nil (k1 s2 (by simpa using hlt) ⟨B2,Z2,S2,m2,hx2⟩)) fun hle v s' p=>k2 v s' (by simpa using hle) (p.after m2))
  refine wpAny_Try_finally ?_
  refine wpAny_execs_cons (cd0 (n:=i) (x:=none) hw3 ek fa S trivial hA sx si se rfl rfl rfl hi hdX (fun hlt=>wpAny_execs_nil ?_) fun hle v s' p=>?_)
  · dsimp only
    refine wpAny_execs_nil ?_
    refine last (x:=none) fa hA trivial S (fun s' hj' p=>h1 s' (by simpa using hlt) hj' p) fun v s' hj' p=>?_
    obtain ⟨e1,B1,Z1,rfl,S1,m1,x1⟩:=p
    refine an3 fa.own x1 (bg7 fa.own S1 x1 fun h3 S3 x3=>?_)
    exact h2 _ _ _ (.inr hj') ⟨e1,B1,Z1,rfl,S3,⟨m1.gens,m1.os,m1.toks⟩,x3⟩
  · obtain ⟨e1,B1,Z1,rfl,S1,m1,x1⟩:=p
    refine an3 fa.own x1 ⟨(by intro q;cases q),an3 fa.own x1 ?_⟩
    refine an5 (fr:=none) S1 x1 fun h3 S3 x3=>?_
    refine last (x:=some (e1,some .none)) (fa.mark _) (by cases A;rfl) x3 S3 (fun s4 hj' p=>?_) fun v s4 hj' p=>?_
    · obtain ⟨B4,Z4,S4,m4,x4⟩:=p
      refine dx5 fa.own S4 x4 fun h5 S5 x5=>?_
      exact h2 _ _ _ (.inl (by simpa using hle)) ⟨e1,B4,Z4,rfl,S5,⟨m4.gens.trans m1.gens,m4.os.trans m1.os,Nat.le_trans m1.toks m4.toks⟩,x5⟩
    · obtain ⟨e4,B4,Z4,rfl,S4,m4,x4⟩:=p
      refine an3 fa.own x4 (bg7 fa.own S4 x4 fun h5 S5 x5=>?_)
      exact h2 _ _ _ (.inr hj') ⟨e4,B4,Z4,rfl,S5,⟨m4.gens.trans m1.gens,m4.os.trans m1.os,Nat.le_trans m1.toks m4.toks⟩,x5⟩
end
end
section
open PySem.Calls PySem.SeqAt
noncomputable def tgt (X Y:List Str) (i j:Nat) (m u:List Str):List Str×List Str:=(m ++ (ad1 (X.drop i) (Y.drop j)).1,u ++ (ad1 (X.drop i) (Y.drop j)).2)
structure ch8 (X Y:List Str) (i j:Nat) (m u:List Str):Prop where
  hi:i≤X.length
  hj:j≤Y.length
  hm:m.length≤i
  hu:u.length≤j
theorem aq6 {X:List Str} {i:Nat} {x:Str} (h:X[i]?=some x):X.drop i=x :: X.drop (i+1):=by
  obtain ⟨hl,e⟩:=List.getElem?_eq_some_iff.mp h
  rw [List.drop_eq_getElem_cons hl,e]
theorem dj3 {X Y:List Str} {i j:Nat} {m u:List Str} {x y:Str} (hx:X[i]?=some x) (hy:Y[j]?=some y) (h:ltS x y=true):tgt X Y (i+1) j (m ++ [x]) u=tgt X Y i j m u:=by
  unfold tgt
  rw [aq6 hx,aq6 hy,az8,if_pos h]
  simp
theorem dp9 {X Y:List Str} {i j:Nat} {m u:List Str} {x y:Str} (hx:X[i]?=some x) (hy:Y[j]?=some y) (h0:ltS x y=false) (h:ltS y x=true):tgt X Y i (j+1) m (u ++ [y])=tgt X Y i j m u:=by
  unfold tgt
  rw [aq6 hx,aq6 hy,az8,if_neg (by simp [h0]),if_pos h]
  simp
theorem dr2 {X Y:List Str} {i j:Nat} {m u:List Str} {x y:Str} (hx:X[i]?=some x) (hy:Y[j]?=some y) (h0:ltS x y=false) (h:ltS y x=false):tgt X Y (i+1) (j+1) m u=tgt X Y i j m u:=by
  unfold tgt
  rw [aq6 hx,aq6 hy,az8,if_neg (by simp [h0]),if_neg (by simp [h])]
theorem bl6 {X:List Str} (hn:X.Nodup) {i:Nat} {x z:Str} (hx:X[i]?=some x) (hz:X[i+1]?=some z):z≠x:=by
  obtain ⟨h1,e1⟩:=List.getElem?_eq_some_iff.mp hx
  obtain ⟨h2,e2⟩:=List.getElem?_eq_some_iff.mp hz
  intro e
  subst e
  exact List.pairwise_iff_getElem.mp hn i (i+1) h1 h2 (by exact Nat.lt_succ_self _) (e1.trans e2.symm)
inductive ec4 (body:List Stmt) (xn yn iN jN mN uN eN aN:Str):Prop
  | mk (c1 c2 t1 a1 i1 w1 t2 a2 j2 w2 i3 f3 p1 p2:_) (h1:body=[c1,c2,.If t1 [a1,i1,w1] [.If t2 [a2,j2,w2] [i3,f3] p2] p1]) (h2:ee7 c1 eN xn iN) (h3:ee7 c2 aN yn jN) (h4:ef3 t1 .Lt eN aN) (h5:ef0 a1 mN eN) (h6:di9 i1 iN) (h7:ci6 w1 xn iN eN) (h8:ef3 t2 .Gt eN aN) (h9:ef0 a2 uN aN) (h10:di9 j2 jN) (h11:ci6 w2 yn jN aN) (h12:di9 i3 iN) (h13:eq9 f3 xn yn iN jN eN aN)
section
variable {w:World} {h₀:Heap} {k:Nat} {h0:Heap} {B0:FM} {env:Env} {sc:Scope} {r:Rho} {B:FM} {Z:Addr→Prop} {s:Shared} {A:Around} {E:Value→Shared→Prop} {x:Option (Addr×Option Value)}
variable {xn yn iN jN mN uN eN aN:Str}
theorem bl1 {X:List Str} {i:Nat} {d:D} (h:(X.map PyData.str)[i]?=some d):∃ x,d = .str x∧X[i]?=some x:=by
  rw [List.getElem?_map,Option.map_eq_some_iff] at h
  obtain ⟨z,hz,rfl⟩:=h
  exact ⟨z,rfl,hz⟩
theorem cp6 {st:Stmt} {xn:Str} {ix:Nat} {n:Int} {Q:Flow→Shared→Prop} (hst:di9 st xn) (ek:t9 env sc) (S:Sim prog w h0 B0 env sc r B Z s.heap) (hx:HdX Z s.heap x)
    (hw:l7 sc xn=some ix) (hr:r.get ix=some (.fr,.int n)) (h:∀ s',SX prog w h0 B0 env sc (r.set ix (some (.fr,.int (n+1)))) x s s'→Q .next s') :
    wpAny (model prog w) A (PySem.exec st env) Q E s:=by
  obtain ⟨p1,kd,p2,p3,rfl⟩:=hst
  exact eb1 ek S hx hw hr h
theorem eh1 {body:List Stmt} {X Y m u:List Str} {i j:Nat} {e a:Option D} {Q:Flow→Shared→Prop} (hst:ec4 body xn yn iN jN mN uN eN aN) (N:dj8 sc xn yn iN jN mN uN eN aN) (rm:Rm k A) (ek:t9 env sc) (hb:∀ a o,h₀.get? a=some o→B0 a=some o) (ht:0 < s.toks) (fa:FrA A env B0 h0)
    (S:Sim prog w h0 B0 env sc (rS X Y i j m u e a) B Z s.heap) (iv:ch8 X Y i j m u) (nX:X.Nodup) (nY:Y.Nodup) (hz:X.length+Y.length < 16777216)
    (hnext:∀ s' i' j' m' u' e' a',SX prog w h0 B0 env sc (rS X Y i' j' m' u' e' a') none s s'→ch8 X Y i' j' m' u'→i+j < i'+j'→tgt X Y i' j' m' u'=tgt X Y i j m u→Q .next s')
    (hexc:∀ c fl v s' i' j' m' u' e' a',XE prog w h0 B0 env sc (rS X Y i' j' m' u' e' a') c fl s v s'→(fl=none∨fl=some (rawInt env.locals))→ch8 X Y i' j' m' u'→(X.length≤i'∨Y.length≤j')→tgt X Y i' j' m' u'=tgt X Y i j m u→E v s') :
    wpAny (model prog w) A (PySem.execs body env) Q E s:=by
  obtain ⟨c1,c2,t1,a1,i1,w1,t2,a2,j2,w2,i3,f3,p1,p2,rfl,hc1,hc2,ht1,ha1,hi1,hw1,ht2,ha2,hj2,hw2,hi3,hf3⟩:=hst
  have hA:=rm.handled
  have sx:=(e9 N.x).1
  have sy:=(e9 N.y).1
  have si:=(e9 N.i).1
  have sj:=(e9 N.j).1
  have sm:=(e9 N.m).1
  have su:=(e9 N.u).1
  have se:=(e9 N.e).1
  have sa:=(e9 N.a).1
  have bi:=iv.hi
  have bj:=iv.hj
  have bm:=iv.hm
  have bu:=iv.hu
  have up:∀ {st:Shared},n7 s st→0 < st.toks:=fun m=>Nat.lt_of_lt_of_le ht m.toks

  refine wpAny_execs_cons (eb8 (x:=none) hc1 ek S trivial hA N.e sx si (X:=X.map .str) (n:=i) rfl rfl (by lia) (fun d s1 hd p=>?_) fun hle v s' p=>?_)
  case refine_2=>exact hexc _ _ _ _ _ _ _ _ _ _ p (.inl rfl) iv (.inl (by simpa using hle)) rfl
  obtain ⟨x,rfl,hx⟩:=bl1 hd
  obtain ⟨B1,Z1,S1,m1,_⟩:=p
  have S1:Sim prog w h0 B0 env sc (rS X Y i j m u (some (.str x)) a) B1 Z1 s1.heap:=S1

  refine wpAny_execs_cons (eb8 (x:=none) hc2 ek S1 trivial hA N.a sy sj (X:=Y.map .str) (n:=j) rfl rfl (by lia) (fun d s2 hd p=>?_) fun hle v s' p=>?_)
  case refine_2=>exact hexc _ _ _ _ _ _ _ _ _ _ (p.after m1) (.inl rfl) iv (.inr (by simpa using hle)) rfl
  obtain ⟨y,rfl,hy⟩:=bl1 hd
  obtain ⟨B2,Z2,S2,m2,_⟩:=p
  have S2:Sim prog w h0 B0 env sc (rS X Y i j m u (some (.str x)) (some (.str y))) B2 Z2 s2.heap:=S2
  have m12:=m1.trans m2
  have ltX:i < X.length:=(List.getElem?_eq_some_iff.mp hx).1
  have ltY:j < Y.length:=(List.getElem?_eq_some_iff.mp hy).1
  have lm:(m ++ [x]).length=m.length+1:=by simp
  have lu:(u ++ [y]).length=u.length+1:=by simp
  refine wpAny_execs_cons (wpAny_If (ec3 (b:=ltS x y) ht1 (.inl ⟨rfl,rfl⟩) rm ek hb (up m12) fa S2 se sa rfl rfl fun s3 p=>?_))
  obtain ⟨B3,Z3,S3,m3,_⟩:=p
  have m123:=m12.trans m3
  cases hlt:ltS x y with
  | true=>
    simp only [if_true]
    refine wpAny_execs_cons (eb7 (l:=m.map .str) (d:=.str x) ha1 rm ek hb (up m123) fa (ck0 N) S3 sm se rfl rfl (by unfold sz;simp;lia) fun s4 p=>?_)
    obtain ⟨B4,Z4,S4,m4,_⟩:=p
    have S4:Sim prog w h0 B0 env sc (rS X Y i j (m ++ [x]) u (some (.str x)) (some (.str y))) B4 Z4 s4.heap:=by
      have:rS X Y i j (m ++ [x]) u (some (.str x)) (some (.str y))=(rS X Y i j m u (some (.str x)) (some (.str y))).set 4 (some (.own,.list (m.map .str ++ [.str x]))):=by simp [rS,LS]
      rw [this];exact S4
    refine wpAny_execs_cons (cp6 (x:=none) hi1 ek S4 trivial N.i rfl fun s5 p=>?_)
    obtain ⟨B5,Z5,S5,m5,_⟩:=p
    have S5:Sim prog w h0 B0 env sc (rS X Y (i+1) j (m ++ [x]) u (some (.str x)) (some (.str y))) B5 Z5 s5.heap:=S5
    have mA:=(m123.trans m4).trans m5
    have iv':ch8 X Y (i+1) j (m ++ [x]) u:=⟨by assumption,bj,by lia,bu⟩
    refine wpAny_execs_cons (cd0 (x:=none) (X:=X.map .str) (n:=i+1) hw1 ek fa S5 trivial hA sx si se rfl rfl rfl (by lia) (fun d hd=>?_) (fun ξ=>wpAny_execs_nil (wpAny_execs_nil ?_)) fun hle v s' p=>?_)
    · obtain ⟨z,rfl,hz'⟩:=bl1 hd
      exact ⟨z,rfl,bl6 nX hx hz'⟩
    · exact hnext _ _ _ _ _ _ _ ⟨B5,Z5,S5,mA,trivial⟩ iv' (by lia) (dj3 hx hy hlt)
    · exact hexc _ _ _ _ _ _ _ _ _ _ (p.after mA) (.inr rfl) iv' (.inl (by simpa using hle)) (dj3 hx hy hlt)
  | false=>
    simp only [Bool.false_eq_true,if_false]
    refine wpAny_execs_cons (wpAny_If (ec3 (b:=ltS y x) ht2 (.inr ⟨rfl,rfl⟩) rm ek hb (up m123) fa S3 se sa rfl rfl fun s4 p=>?_))
    obtain ⟨B4,Z4,S4,m4,_⟩:=p
    have m1234:=m123.trans m4
    cases hgt:ltS y x with
    | true=>
      simp only [if_true]
      refine wpAny_execs_cons (eb7 (l:=u.map .str) (d:=.str y) ha2 rm ek hb (up m1234) fa (ck0 N) S4 su sa rfl rfl (by unfold sz;simp;lia) fun s5 p=>?_)
      obtain ⟨B5,Z5,S5,m5,_⟩:=p
      have S5:Sim prog w h0 B0 env sc (rS X Y i j m (u ++ [y]) (some (.str x)) (some (.str y))) B5 Z5 s5.heap:=by
        have:rS X Y i j m (u ++ [y]) (some (.str x)) (some (.str y))=(rS X Y i j m u (some (.str x)) (some (.str y))).set 5 (some (.own,.list (u.map .str ++ [.str y]))):=by simp [rS,LS]
        rw [this];exact S5
      refine wpAny_execs_cons (cp6 (x:=none) hj2 ek S5 trivial N.j rfl fun s6 p=>?_)
      obtain ⟨B6,Z6,S6,m6,_⟩:=p
      have S6:Sim prog w h0 B0 env sc (rS X Y i (j+1) m (u ++ [y]) (some (.str x)) (some (.str y))) B6 Z6 s6.heap:=S6
      have mA:=(m1234.trans m5).trans m6
      have iv':ch8 X Y i (j+1) m (u ++ [y]):=⟨bi,by assumption,bm,by lia⟩
      refine wpAny_execs_cons (cd0 (x:=none) (X:=Y.map .str) (n:=j+1) hw2 ek fa S6 trivial hA sy sj sa rfl rfl rfl (by lia) (fun d hd=>?_) (fun ξ=>wpAny_execs_nil (wpAny_execs_nil (wpAny_execs_nil ?_))) fun hle v s' p=>?_)
      · obtain ⟨z,rfl,hz'⟩:=bl1 hd
        exact ⟨z,rfl,bl6 nY hy hz'⟩
      · exact hnext _ _ _ _ _ _ _ ⟨B6,Z6,S6,mA,trivial⟩ iv' (by lia) (dp9 hx hy hlt hgt)
      · exact hexc _ _ _ _ _ _ _ _ _ _ (p.after mA) (.inr rfl) iv' (.inr (by simpa using hle)) (dp9 hx hy hlt hgt)
    | false=>
      simp only [Bool.false_eq_true,if_false]
      refine wpAny_execs_cons (cp6 (x:=none) hi3 ek S4 trivial N.i rfl fun s5 p=>?_)
      obtain ⟨B5,Z5,S5,m5,_⟩:=p
      have S5:Sim prog w h0 B0 env sc (rS X Y (i+1) j m u (some (.str x)) (some (.str y))) B5 Z5 s5.heap:=S5
      have mA:=m1234.trans m5
      have iv':ch8 X Y (i+1) (j+1) m u:=⟨by assumption,by assumption,by exact Nat.le_succ_of_le ‹_›,by exact Nat.le_succ_of_le ‹_›⟩
      refine wpAny_execs_cons (eq1 hf3 N hA ek fa S5 (by lia) (by lia) (fun z hz'=>bl6 nX hx hz') (fun z hz'=>bl6 nY hy hz') (fun s6 ξ ξ p=>wpAny_execs_nil (wpAny_execs_nil (wpAny_execs_nil ?_))) fun c v s' hor p=>?_)
      · exact hnext _ _ _ _ _ _ _ (p.after mA) iv' (by lia) (dr2 hx hy hlt hgt)
      · exact hexc _ _ _ _ _ _ _ _ _ _ (p.after mA) (.inr rfl) iv' hor (dr2 hx hy hlt hgt)
end
end
section
open PySem.Calls PySem.SeqAt
inductive du7 (body:List Stmt) (xn yn iN jN mN uN eN aN xN:Str):Prop
  | mk (p1 p2 kd p3 p4 p5 p6 p7 p8 p9 p10 kd2 p11 turn p12 x1 x2 p13 p14 p15 p16 p17 p18 kd3 p19 p20:_) (h1:body=[.Assign [.Name iN p1,.Name jN p2] (.Constant (.int 0) kd p3) p4,.Assign [.Name mN p5] (.List [] p6) p7,.Assign [.Name uN p8] (.List [] p9) p10,.While (.Constant (.bool true) kd2 p11) [.Try turn [.ExceptHandler (some (.Name xN p12)) none [x1,x2,.Break p13] p14] [] [] p15] [] p16,.Return (some (.Tuple [.Name mN p17,.Name uN p18] kd3 p19)) p20]) (h2:ec4 turn xn yn iN jN mN uN eN aN) (h3:dw5 x1 mN xn iN) (h4:dw5 x2 uN yn jN)
noncomputable def cj3 (ds:List D):Option D:=do
  let p ← two ds
  let a ← w6 p.1
  let b ← w6 p.2
  let X ← a.mapM aa8
  let Y ← b.mapM aa8
  gd (decide X.Nodup && (decide Y.Nodup && decide (X.length+Y.length < 1048576))) (some (.tuple [LS (ad1 X Y).1,LS (ad1 X Y).2]))
theorem by7 {ds:List D} {d:D} (h:cj3 ds=some d):∃ X Y:List Str,ds=[LS X,LS Y]∧X.Nodup∧Y.Nodup∧X.length+Y.length < 1048576∧d = .tuple [LS (ad1 X Y).1,LS (ad1 X Y).2]:=by
  obtain ⟨p,h1,h⟩:=a6 h
  obtain ⟨a,h2,h⟩:=a6 h
  obtain ⟨b,h3,h⟩:=a6 h
  obtain ⟨X,hX,h⟩:=a6 h
  obtain ⟨Y,hY,h⟩:=a6 h
  obtain ⟨hc,h⟩:=g6 h
  obtain ⟨c1,hc⟩:=b8 hc
  exact ⟨X,Y,by rw [ao9 h1,l6 h2,l6 h3,be9 hX,be9 hY];rfl,of_decide_eq_true c1,of_decide_eq_true (b8 hc).1,of_decide_eq_true (b8 hc).2,(Option.some.inj h).symm⟩
noncomputable def er8 (r:Rho):Option (Fl×Rho):=do
  let a ← bt6 (r.get 0)
  let b ← bt6 (r.get 1)
  (cj3 [a,b]).map fun d=>(.ret false d,[])
section
variable {w:World} {h₀:Heap} {mg mb:Str→Option Value} {k:Nat} {h0:Heap} {B0:FM} {env:Env} {sc:Scope} {r:Rho} {B:FM} {Z:Addr→Prop} {s:Shared} {A:Around} {E:Value→Shared→Prop} {x:Option (Addr×Option Value)}
variable {xn yn iN jN mN uN eN aN xN:Str}
theorem dc9 {nm:Str} {vv:Value} {pp:Pos} {Q:Value→Shared→Prop} (G:Glb h₀ mg mb) (ek:t9 env sc) (hx:i4 sc nm=true) (hm:mg nm=none∧mb nm=some vv) (ho:∀ a o,h₀.get? a=some o→s.heap.get? a=some o) (hq:Q vv s):wpAny (model prog w) A (PySem.eval (.Name nm pp) env) Q E s:=by
  obtain ⟨h1,h3⟩:=bh5 hx
  exact Name_function_global ek.kind (ek.glob nm h1) (loadGlobal_builtin (by rw [ek.globals];exact G.g.keeps ho) hm.1 (by rw [ek.builtins];exact G.b.keeps ho) hm.2 hq) h3
theorem ej1 {x1 x2:Stmt} {p12 p13 p14:Pos} {X Y m u:List Str} {i j:Nat} {e a:Option D} {ea:Addr} {c fl:Value} {Q:Flow→Shared→Prop} (G:Glb h₀ mg mb) (N:dj8 sc xn yn iN jN mN uN eN aN) (hxN:i4 sc xN=true) (xNe:xN="IndexError") (ek:t9 env sc) (hb:∀ a o,h₀.get? a=some o→B0 a=some o)
    (S:Sim prog w h0 B0 env sc (rS X Y i j m u e a) B Z s.heap) (xx:ag5 Z s.heap ea c (some fl)) (h1:dw5 x1 mN xn iN) (h2:dw5 x2 uN yn jN) (iv:ch8 X Y i j m u) (hz:X.length+Y.length < 1048576)
    (hQ:∀ s',SX prog w h0 B0 env sc (rS X Y i j (m ++ X.drop i) (u ++ Y.drop j) e a) none s s'→Q .brk s') :
    wpAny (model prog w) A (handleBy (.ref ea) env [.ExceptHandler (some (.Name xN p12)) none [x1,x2,.Break p13] p14]) Q E s:=by
  subst xNe
  have bi:=iv.hi
  have bj:=iv.hj
  have bm:=iv.hm
  have bu:=iv.hu
  refine wpAny_handleBy_builtin (X:="IndexError") (T:="IndexError") (b:=true) F.isExc_IndexError F.notTuple_IndexError F.self_IndexError ?_
  refine dc9 G ek hxN (G.bi _ (.type "IndexError") (by simp)) (fun b o q=>S.gr.keep b o (S.gr.le _ _ (hb b o q))) ⟨rfl,?_,?_⟩
  · obtain ⟨z,oe,vs,q1,q2,_⟩:=xx
    exact ⟨oe,q1,q2⟩
  · simp only [if_true]
    refine an5 (fr:=none) S xx fun h3 S3 x3=>?_
    obtain ⟨np,ap,cp,ep,q1,q2,q3,q4,hp,rfl⟩:=h1
    obtain ⟨np',ap',cp',ep',q1',q2',q3',q4',hp',rfl⟩:=h2
    refine wpAny_execs_cons (cn6 (x:=none) (l:=m.map .str) (X:=X.map .str) (n:=i) ek S3 trivial (e9 N.m).1 (e9 N.x).1 (e9 N.i).1 rfl rfl rfl hp (by unfold sz;simp;lia) fun s4 p=>?_)
    obtain ⟨B4,Z4,S4,m4,_⟩:=p
    have S4:Sim prog w h0 B0 env sc (rS X Y i j (m ++ X.drop i) u e a) B4 Z4 s4.heap:=by
      have:rS X Y i j (m ++ X.drop i) u e a=(rS X Y i j m u e a).set 4 (some (.own,.list (m.map .str ++ (X.map .str).drop i))):=by simp [rS,LS]
      rw [this];exact S4
    refine wpAny_execs_cons (cn6 (x:=none) (l:=u.map .str) (X:=Y.map .str) (n:=j) ek S4 trivial (e9 N.u).1 (e9 N.y).1 (e9 N.j).1 rfl rfl rfl hp' (by unfold sz;simp;lia) fun s5 p=>?_)
    obtain ⟨B5,Z5,S5,m5,_⟩:=p
    have S5:Sim prog w h0 B0 env sc (rS X Y i j (m ++ X.drop i) (u ++ Y.drop j) e a) B5 Z5 s5.heap:=by
      have:rS X Y i j (m ++ X.drop i) (u ++ Y.drop j) e a=(rS X Y i j (m ++ X.drop i) u e a).set 5 (some (.own,.list (u.map .str ++ (Y.map .str).drop j))):=by simp [rS,LS]
      rw [this];exact S5
    refine wpAny_execs_cons (wpAny_Break ?_)
    exact hQ s5 ⟨B5,Z5,S5,⟨m5.gens.trans m4.gens,m5.os.trans m4.os,Nat.le_trans m4.toks m5.toks⟩,trivial⟩
theorem dx8 {X Y m u:List Str} {i j:Nat} (h:X.length≤i∨Y.length≤j):(m ++ X.drop i,u ++ Y.drop j)=tgt X Y i j m u:=by
  unfold tgt
  rcases h with h | h
  · rw [List.drop_eq_nil_of_le h,cj9]
  · rw [List.drop_eq_nil_of_le h,bv8]
theorem dj7 {body:List Stmt} (G:Glb h₀ mg mb) (hst:du7 body xn yn iN jN mN uN eN aN xN) (N:dj8 sc xn yn iN jN mN uN eN aN) (hxN:i4 sc xN=true) (xNe:xN="IndexError"):ck5 prog w h₀ k sc (PySem.execs body) er8:=fun A E env r B s h0 B0 Y res rm ek hb ht fa hn S h=>by
  obtain ⟨p1,p2,kd,p3,p4,p5,p6,p7,p8,p9,p10,kd2,p11,turn,p12,x1,x2,p13,p14,p15,p16,p17,p18,kd3,p19,p20,rfl,hturn,hx1,hx2⟩:=hst
  obtain ⟨da,hda,h⟩:=a6 h
  obtain ⟨db,hdb,h⟩:=a6 h
  obtain ⟨d,hd,rfl⟩:=ab5 h
  obtain ⟨X,Yy,hds,nX,nY,hz,rfl⟩:=by7 hd
  cases (hds)
  have hA:=rm.handled

  obtain ⟨si,xi⟩:=e9 N.i
  obtain ⟨sj,xj⟩:=e9 N.j
  refine wpAny_execs_cons (wpAny_Assign_two (wpAny_Constant_int ?_))
  have S0:Sim prog w h0 B0 env sc [some (.fr,.list (X.map .str)),some (.fr,.list (Yy.map .str)),none,none,none,none,none,none,none] B Y ({ s with toks:=s.toks+1 }:Shared).heap:=S.part fun i m d q=>by
    rcases i with _ | _ | _ | _ | _ | _ | _ | _ | _ | i <;> cases (q)
    · exact ay3 hda
    · exact ay3 hdb
  refine wpAny_assign_Name (S0.store (s:={ s with toks:=s.toks+1 }) ek si xi (d:=.int 0) (ap2.mpr ⟨_,trivial,rfl⟩) fun h1 tk1 a1 ht1 ξ ξ S1 ξ=>?_)
  refine wpAny_assign_Name (S1.store (s:={ s with heap:=h1,toks:=tk1 }) ek sj xj (d:=.int 0) (ap2.mpr ⟨_,trivial,rfl⟩) fun h2 tk2 a2 ht2 ξ ξ S2 ξ=>?_)
  have S2:Sim prog w h0 B0 env sc [some (.fr,.list (X.map .str)),some (.fr,.list (Yy.map .str)),some (.fr,.int 0),some (.fr,.int 0),none,none,none,none,none] B Y h2:=S2
  have m2:n7 s { s with heap:=h2,toks:=tk2 }:=⟨rfl,rfl,by simp at ht1 ht2 ⊢;lia⟩

  have named0:∀ (a b:D) (e f:Slot),(∀ d,e=some (.own,d)→∃ x,d6 sc x=some 4)→(∀ d,f=some (.own,d)→∃ x,d6 sc x=some 5)→y6 sc [some (.fr,a),some (.fr,b),some (.fr,.int 0),some (.fr,.int 0),e,f,none,none,none]:=by
    intro a b e f he hf t d h
    rcases t with _ | _ | _ | _ | _ | _ | _ | _ | _ | t
    · cases h
    · cases h
    · cases h
    · cases h
    · exact he d h
    · exact hf d h
    · cases h
    · cases h
    · cases h
    · simp [Rho.get] at h
  have frl:∀ {p:Pos},dw2 w h₀ k (fun ξ ξ=>none) sc (.List [] p) (.list []):=fun {p} A E s env r B d ok hd=>cf2 .nil rfl ok hd
  have tk0:0 < tk2:=by have:=m2.toks;simp at this;exact Nat.lt_of_lt_of_le ‹_› ‹_›
  refine wpAny_execs_cons (wpAny_mono (j4 (fresh:=fun ξ=>false) (pos:=p7) (p:=p5) N.m rfl (frl (p:=p6)) rfl rm ek hb (s:={ s with heap:=h2,toks:=tk2 }) tk0 fa (named0 _ _ none none (fun d q=>by cases q) (fun d q=>by cases q)) S2 (res:=(.next,[some (.fr,.list (X.map .str)),some (.fr,.list (Yy.map .str)),some (.fr,.int 0),some (.fr,.int 0),some (.own,.list []),none,none,none,none])) rfl) (fun f s3 q=>?_) fun ξ ξ e=>e)
  cases f <;> first | exact q.elim | skip
  obtain ⟨B3,_,S3,m3,_⟩:=q
  have S3:Sim prog w h0 B0 env sc [some (.fr,.list (X.map .str)),some (.fr,.list (Yy.map .str)),some (.fr,.int 0),some (.fr,.int 0),some (.own,.list []),none,none,none,none] B3 Y s3.heap:=S3
  have ht3:0 < s3.toks:=Nat.lt_of_lt_of_le tk0 m3.toks
  refine wpAny_execs_cons (wpAny_mono (j4 (fresh:=fun ξ=>false) (pos:=p10) (p:=p8) N.u rfl (frl (p:=p9)) rfl rm ek hb ht3 fa (named0 _ _ _ none (fun d q=>⟨_,(e9 N.m).1⟩) (fun d q=>by cases q)) S3 (res:=(.next,rS X Yy 0 0 [] [] none none)) rfl) (fun f s4 q=>?_) fun ξ ξ e=>e)
  cases f <;> first | exact q.elim | skip
  obtain ⟨B4,_,S4,m4,_⟩:=q
  have S4:Sim prog w h0 B0 env sc (rS X Yy 0 0 [] [] none none) B4 Y s4.heap:=S4
  have m04:=(m2.trans m3).trans m4

  refine wpAny_execs_cons (wpAny_While (codeAny_whileLoop (fun n st=>∃ i j m u e a,SX prog w h0 B0 env sc (rS X Yy i j m u e a) none s st∧ch8 X Yy i j m u∧n=X.length+Yy.length - (i+j)∧tgt X Yy i j m u=ad1 X Yy) (fun n st I=>?_) (X.length+Yy.length - (0+0)) ⟨0,0,[],[],none,none,⟨B4,Y,S4,m04,trivial⟩,⟨Nat.zero_le _,Nat.zero_le _,Nat.le_refl _,Nat.le_refl _⟩,rfl,by simp [tgt]⟩))
  obtain ⟨i,j,m,u,e,a,⟨B5,Z5,S5,m5,_⟩,iv,rfl,ht5⟩:=I
  have tk5:=Nat.lt_of_lt_of_le ht m5.toks
  refine ap3 rfl (wpAny_Constant_bool (wpAny_truthy_bool ?_))
  simp only [if_true]
  have bi:=iv.hi
  have bj:=iv.hj
  refine wpAny_execs_cons (wpAny_Try_except (eh1 hturn N rm ek hb tk5 fa S5 iv nX nY (by exact Nat.le_trans ‹_› (Nat.le_of_ble_eq_true rfl)) (fun s6 i' j' m' u' e' a' p iv' hlt ht6=>?_) fun c fl v s6 i' j' m' u' e' a' p hfl iv' hor ht6=>?_))
  · refine wpAny_execs_nil (wpAny_execs_nil ?_)
    exact ⟨_,Nat.sub_lt_sub_left (Nat.lt_of_lt_of_le hlt (Nat.add_le_add iv'.hi iv'.hj)) hlt,i',j',m',u',e',a',p.after m5,iv',rfl,ht6.trans ht5⟩
  · obtain ⟨ea,B6,Z6,rfl,S6,m6,x6⟩:=p
    have fin:∀ {B7:FM} {Z7:Addr→Prop} {s7:Shared} {E':Value→Shared→Prop},Sim prog w h0 B0 env sc (rS X Yy i' j' m' u' e' a') B7 Z7 s7.heap→n7 s s7→ag5 Z7 s7.heap ea c (some (rawInt env.locals))→
        wpAny (model prog w) A (setFlight (.ref ea) none) (fun ξ s3=>wpAny (model prog w) A (handleBy (.ref ea) env [.ExceptHandler (some (.Name xN p12)) none [x1,x2,.Break p13] p14]) (fun f s9=>f = .brk∧∃ e a,SX prog w h0 B0 env sc (rS X Yy i' j' (m' ++ X.drop i') (u' ++ Yy.drop j') e a) none s s9) E' s3) E' s7:=by
      intro B7 Z7 s7 E' S7 m7 x7
      refine an5 (fr:=none) S7 x7 fun h8 S8 x8=>?_
      exact ej1 G N hxN xNe ek hb S8 x8 hx1 hx2 iv' hz fun s9 p=>⟨rfl,e',a',SX.after (s1:={ s7 with heap:=h8 }) ⟨m7.gens,m7.os,m7.toks⟩ p⟩
    have done:∀ {s7:Shared} {E':Value→Shared→Prop} {Q':Flow→Shared→Prop},(wpAny (model prog w) A (setFlight (.ref ea) none) (fun ξ s3=>wpAny (model prog w) A (handleBy (.ref ea) env [.ExceptHandler (some (.Name xN p12)) none [x1,x2,.Break p13] p14]) (fun f s9=>f = .brk∧∃ e a,SX prog w h0 B0 env sc (rS X Yy i' j' (m' ++ X.drop i') (u' ++ Yy.drop j') e a) none s s9) E' s3) E' s7)→
        (∀ s9 e a,SX prog w h0 B0 env sc (rS X Yy i' j' (m' ++ X.drop i') (u' ++ Yy.drop j') e a) none s s9→Q' .brk s9)→
        wpAny (model prog w) A (setFlight (.ref ea) none) (fun ξ s3=>wpAny (model prog w) A (handleBy (.ref ea) env [.ExceptHandler (some (.Name xN p12)) none [x1,x2,.Break p13] p14]) Q' E' s3) E' s7:=by
      intro s7 E' Q' hw hq
      refine wpAny_mono hw (fun ξ s3 q=>wpAny_mono q (fun f s9 q=>?_) fun ξ ξ e=>e) fun ξ ξ e=>e
      obtain ⟨rfl,e,a,q⟩:=q
      exact hq s9 e a q
    have last:∀ s9 e a,SX prog w h0 B0 env sc (rS X Yy i' j' (m' ++ X.drop i') (u' ++ Yy.drop j') e a) none s s9→
        wpAny (model prog w) A (PySem.execs [.Return (some (.Tuple [.Name mN p17,.Name uN p18] kd3 p19)) p20] env) (FlP w h0 B0 env sc Y r B s (.ret false (.tuple [LS (ad1 X Yy).1,LS (ad1 X Yy).2]),[])) E s9:=by
      intro s9 e a p
      obtain ⟨B9,Z9,S9,m9,_⟩:=p
      have e1:=(dx8 (m:=m') (u:=u') hor).trans (ht6.trans ht5)
      have e2:m' ++ X.drop i'=(ad1 X Yy).1:=congrArg Prod.fst e1
      have e3:u' ++ Yy.drop j'=(ad1 X Yy).2:=congrArg Prod.snd e1
      rw [e2,e3] at S9
      obtain ⟨Ba,_,Sa⟩:=S9.frz (e9 N.m).1 rfl
      obtain ⟨Bb,_,Sb⟩:=Sa.frz (e9 N.u).1 rfl
      refine wpAny_execs_cons (wpAny_Return_some (ak4 (ax9 (calls:=fun ξ ξ=>none) (.cons (d9 (e9 N.m).1) (.cons (d9 (e9 N.u).1) .nil)) rfl) (Sim.ok (k:=k) (h₀:=h₀) Sb rm ek hb (Nat.lt_of_lt_of_le ht m9.toks) fa) (d:=.tuple [LS (ad1 X Yy).1,LS (ad1 X Yy).2]) rfl fun v s2 B2 g2 m2 r2 ok2=>?_))
      exact ⟨B2,Sb.gr.trans g2,m9.trans m2,r2⟩
    rcases hfl with rfl | rfl
    · refine ci9 fa S6 x6 fun h7 Z7 S7 x7=>?_
      exact done (fin (s7:={ s6 with heap:=h7 }) S7 (m5.trans ⟨m6.gens,m6.os,m6.toks⟩) x7) last
    · refine an3 fa.own x6 ?_
      exact done (fin S6 (m5.trans m6) x6) last
end
end
section
open PySem.StrLaws PySem.Builtin PySem.Builtin.Str
noncomputable abbrev SS (X:List Str):Prop:=X.Pairwise fun x y=>cl x < cl y
noncomputable def leS (x y:Str):Bool:=!decide (cl y < cl x)
noncomputable def bj2 (L:List Str):List Str:=L.mergeSort leS
theorem ct5 {x y:Str} (h:cl x=cl y):x=y:=af5 h
theorem cd4 {a b:List Nat} (h:a < b):¬ b < a:=fun q=>List.lt_irrefl a (List.lt_trans h q)
theorem bw8 (a b c:Str) (h1:leS a b=true) (h2:leS b c=true):leS a c=true:=by
  simp only [leS,Bool.not_eq_true',decide_eq_false_iff_not,List.not_lt] at *
  exact List.le_trans h1 h2
theorem bx6 (a b:Str):(leS a b || leS b a)=true:=by
  simp only [leS,Bool.or_eq_true,Bool.not_eq_true',decide_eq_false_iff_not,List.not_lt]
  exact List.le_total (cl a) (cl b)
theorem dq6 {a b:Str} (h1:leS a b=true) (h2:leS b a=true):a=b:=by
  simp only [leS,Bool.not_eq_true',decide_eq_false_iff_not,List.not_lt] at *
  exact ct5 (List.le_antisymm h1 h2)
theorem cp2 (L:List Str):(bj2 L).Perm L:=List.mergeSort_perm ..
theorem dm9 (L:List Str):(bj2 L).Pairwise fun a b=>leS a b=true:=List.pairwise_mergeSort bw8 bx6 L
theorem cr8 {L X:List Str} (p:X.Perm L) (h:X.Pairwise fun a b=>leS a b=true):bj2 L=X:=
  List.Perm.eq_of_pairwise (fun a b ξ ξ=>dq6) (dm9 L) h ((cp2 L).trans p.symm)
theorem db3 {a b:Str} (h:cl a < cl b):leS a b=true:=by
  simp only [leS,Bool.not_eq_true',decide_eq_false_iff_not];exact cd4 h
theorem ch3 {L X:List Str} (p:X.Perm L) (h:SS X):bj2 L=X:=cr8 p (h.imp db3)
theorem cm9 {X:List Str} (h:SS X):X.Nodup:=h.imp fun {a b} q e=>by subst e;exact List.lt_irrefl _ q
theorem bq9 {L:List Str} (hl:L.length < 64) (ho:∀ x∈L,PyData.strOk x=true):cg7 (L.map .str)=some ((bj2 L).map .str):=by
  unfold cg7
  have h1:(L.map PyData.str).all isStr=true:=by simp [isStr]
  have h2:SeqAt.shaped (.list (L.map .str))=true:=by
    have h3:∀ l:List Str,(∀ x∈l,PyData.strOk x=true)→PyData.canLayAll0 (l.map .str)=true∧PyData.depthAll (l.map .str)=0:=by
      intro l
      induction l with
      | nil=>intro _;exact ⟨by simp [PyData.canLayAll0],by simp [PyData.depthAll]⟩
      | cons a l ih=>
        intro h
        obtain ⟨i1,i2⟩:=ih fun x hx=>h x (by simp [hx])
        exact ⟨by simp [PyData.canLayAll0,PyData.canLay0,i1,h a (by simp)],by simp [PyData.depthAll,PyData.depth,i2]⟩
    obtain ⟨i1,i2⟩:=h3 L ho
    simp [SeqAt.shaped,PyData.canLay0,PyData.depth,i1,i2]
  simp only [h1,h2,List.length_map,hl,decide_true,Bool.or_true,Bool.true_or,Bool.and_true,if_true]
  congr 1
  refine (List.map_mergeSort fun a ξ b ξ=>?_).symm
  rfl
theorem au3:∀ {X Y:List Str},SS X→SS Y→(ad1 X Y).1=X.filter (fun x=>decide (x ∉ Y))∧(ad1 X Y).2=Y.filter (fun y=>decide (y ∉ X))
  | [],Y,_,_=>by rw [cj9];exact ⟨rfl,(List.filter_eq_self.mpr (by simp)).symm⟩
  | x :: X,[],_,_=>by rw [bv8];exact ⟨(List.filter_eq_self.mpr (by simp)).symm,rfl⟩
  | x :: X,y :: Y,hX,hY=>by
    rw [az8]
    have hX':=List.pairwise_cons.mp hX
    have hY':=List.pairwise_cons.mp hY
    unfold ltS
    by_cases h1:cl x < cl y
    · obtain ⟨i1,i2⟩:=au3 (X:=X) (Y:=y :: Y) hX'.2 hY
      have hx:x ∉ y :: Y:=fun q=>by
        rcases List.mem_cons.mp q with e | e
        · subst e;exact List.lt_irrefl _ h1
        · exact cd4 h1 (hY'.1 x e)
      rw [if_pos (decide_eq_true h1)]
      refine ⟨?_,?_⟩
      · rw [List.filter_cons_of_pos (by simpa using hx),← i1]
      · rw [show ((x :: (ad1 X (y :: Y)).1,(ad1 X (y :: Y)).2):List Str×List Str).2=(ad1 X (y :: Y)).2 from rfl,i2]
        refine List.filter_congr fun z hz=>?_
        have:z≠x:=fun e=>hx (e▸hz)
        simp [this]
    · rw [if_neg (by simpa using h1)]
      by_cases h2:cl y < cl x
      · obtain ⟨i1,i2⟩:=au3 (X:=x :: X) (Y:=Y) hX hY'.2
        have hy:y ∉ x :: X:=fun q=>by
          rcases List.mem_cons.mp q with e | e
          · subst e;exact List.lt_irrefl _ h2
          · exact cd4 h2 (hX'.1 y e)
        rw [if_pos (decide_eq_true h2)]
        refine ⟨?_,?_⟩
        · rw [show (((ad1 (x :: X) Y).1,y :: (ad1 (x :: X) Y).2):List Str×List Str).1=(ad1 (x :: X) Y).1 from rfl,i1]
          refine List.filter_congr fun z hz=>?_
          have:z≠y:=fun e=>hy (e▸hz)
          simp [this]
        · rw [List.filter_cons_of_pos (by simpa using hy),← i2]
      · rw [if_neg (by simpa using h2)]
        have e:x=y:=ct5 (List.le_antisymm (List.not_lt.mp h2) (List.not_lt.mp h1))
        subst e
        obtain ⟨i1,i2⟩:=au3 (X:=X) (Y:=Y) hX'.2 hY'.2
        rw [List.filter_cons_of_neg (by simp),List.filter_cons_of_neg (by simp),i1,i2]
        refine ⟨List.filter_congr fun z hz=>?_,List.filter_congr fun z hz=>?_⟩
        · have:z≠x:=fun e=>by subst e;exact List.lt_irrefl _ (hX'.1 _ hz)
          simp [this]
        · have:z≠x:=fun e=>by subst e;exact List.lt_irrefl _ (hY'.1 _ hz)
          simp [this]
termination_by X Y=>X.length+Y.length
noncomputable def au5 (l:List Str):List (List Str):=(List.range (l.length+1)).map l.take
theorem bz6 {l x:List Str}:x∈au5 l↔x <+: l:=by
  unfold au5
  simp only [List.mem_map,List.mem_range]
  constructor
  · rintro ⟨k,_,rfl⟩;exact List.take_prefix k l
  · intro h
    exact ⟨x.length,Nat.lt_succ_of_le h.length_le,(List.prefix_iff_eq_take.mp h).symm⟩
noncomputable def lcp:List Str→List Str→List Str
  | x :: a,y :: b=>if x=y then x :: lcp a b else []
  | _,_=>[]
theorem bd9:∀ a b:List Str,lcp a b <+: a
  | [],b=>by simp [lcp]
  | x :: a,[]=>by simp [lcp]
  | x :: a,y :: b=>by
    unfold lcp
    split
    · simpa using bd9 a b
    · simp
theorem ds4:∀ a b:List Str,lcp a b <+: b
  | [],b=>by simp [lcp]
  | x :: a,[]=>by simp [lcp]
  | x :: a,y :: b=>by
    unfold lcp
    split
    · rename_i e;subst e;simpa using ds4 a b
    · simp
theorem cc7:∀ {a b c:List Str},c <+: a→c <+: b→c <+: lcp a b
  | a,b,[],_,_=>by simp
  | [],b,z :: c,h,_=>by simp at h
  | x :: a,[],z :: c,_,h=>by simp at h
  | x :: a,y :: b,z :: c,h1,h2=>by
    rw [List.cons_prefix_cons] at h1 h2
    obtain ⟨rfl,h1⟩:=h1
    obtain ⟨rfl,h2⟩:=h2
    unfold lcp
    rw [if_pos rfl,List.cons_prefix_cons]
    exact ⟨rfl,cc7 h1 h2⟩
noncomputable abbrev NA (l:List Str):Prop:=∀ n∈l,ah7 n
theorem NA.pre {l m:List Str} (h:NA l) (p:m <+: l):NA m:=fun n hn=>h n (p.subset hn)
theorem bf8 {l m:List Str} (h:NA m) (p:l <+: m) (ne:l≠m):cl (PS l) < cl (PS m):=by
  obtain ⟨t,rfl⟩:=p
  exact ep4 (fun e=>ne (by simp [e])) h
noncomputable def u0 (l:List Str):List Str:=(au5 l).map PS
theorem bi5 {l:List Str} (h:NA l):SS (u0 l):=by
  unfold u0 au5 SS
  rw [List.map_map,List.pairwise_map]
  refine List.Pairwise.imp_of_mem ?_ (List.pairwise_lt_range (n:=l.length+1))
  intro i j hi hj hij
  simp only [List.mem_range] at hi hj
  refine bf8 (h.pre (List.take_prefix ..)) (List.take_prefix_take_left (by exact Nat.le_of_lt ‹_›)) fun e=>?_
  have:=congrArg List.length e
  simp at this;lia
theorem bb7 {l:List Str} {x:Str}:x∈u0 l↔∃ n,n <+: l∧x=PS n:=by
  unfold u0
  simp only [List.mem_map,bz6]
  constructor
  · rintro ⟨n,h,rfl⟩;exact ⟨n,h,rfl⟩
  · rintro ⟨n,h,rfl⟩;exact ⟨n,h,rfl⟩
theorem dg6 {l n:List Str} (hl:NA l) (hn:NA n):PS n∈u0 l↔n <+: l:=by
  rw [bb7]
  constructor
  · rintro ⟨m,h,e⟩;rw [cq0 hn (hl.pre h) e];exact h
  · intro h;exact ⟨n,h,rfl⟩
noncomputable def ej7 (a b:List Str):List Str:=(u0 a).filter (fun x=>decide (x ∉ u0 b)) ++ (u0 b).filter (fun x=>decide (x ∉ u0 a)) ++ [PS (lcp a b)]
noncomputable def way (e:List Str×List Str):List Str:=bj2 (ej7 e.1 e.2)
noncomputable def top (e:List Str×List Str):Str:=PS (lcp e.1 e.2)
end
section
open PySem.Calls PySem.SeqAt
section
variable {w:World} {h₀:Heap} {mg mb:Str→Option Value} {k:Nat} {calls:String→List D→Option D} {fresh:String→Bool} {sc:Scope}
theorem ba8 {st:Stmt} {sts:List Stmt} {sis:List SI}:aa4 prog w h₀ k calls fresh sc (st :: sts) (.stuck :: sis):=fun A E env r B s h0 B0 Y res rm ek hb ht fa hn S h=>by cases h
theorem bl0 {sc' sc:Scope} {it:PySem.Expr} (h:bh4 sc' sc it=true):au4 sc' sc:=(aq2 h).1
theorem af1 {elt target iter:PySem.Expr} {ifs:List PySem.Expr} {sc':Scope} {pos:Pos} {tgt:List Nat} {isrc:IR} {irs:List IR} {ir:IR} {cap:List (Option Nat)}
    (hc:bh4 sc' sc iter=true) (hcap:ai4 sc' sc=cap) (tg:ag6 sc' target tgt) (hsrc:al9 w h₀ k calls sc iter isrc target) (ht:a9 (ap7 w h₀ k calls sc') ifs irs) (he:i8 w h₀ k calls sc' elt ir) :
    i8 w h₀ k calls sc (.ListComp elt [⟨target,iter,ifs,0⟩] sc' pos) (.comp cap tgt isrc irs ir):=by
  subst hcap;exact dw3 (bl0 hc) (aq2 hc).2 tg hsrc ht he
theorem ae4 {x:Str} {i:Nat} {own:Bool} {p pos:Pos} {key elt target iter:PySem.Expr} {sc':Scope} {cpos:Pos} {tgt:List Nat} {isrc:IR} {ik ir:IR} {cap:List (Option Nat)} (G:Glb h₀ mg mb) (hw:l7 sc x=some i)
    (hc:bh4 sc' sc iter=true) (hcap:ai4 sc' sc=cap) (tg:ag6 sc' target tgt) (hsrc:al9 w h₀ k calls sc iter isrc target) (hk:i8 w h₀ k calls sc' key ik) (he:i8 w h₀ k calls sc' elt ir) :
    al7 prog w h₀ k calls fresh sc (.Assign [.Name x p] (.DictComp key elt [⟨target,iter,[],0⟩] sc' cpos) pos) (.assign i own (.dcomp cap tgt isrc [] ik ir)):=by
  subst hcap;exact bk6 G hw (bl0 hc) (aq2 hc).2 tg hsrc hk he
theorem j9 {x:Str} {i:Nat} {own:Bool} {p pos:Pos} {elt target iter:PySem.Expr} {ifs:List PySem.Expr} {sc':Scope} {cpos:Pos} {tgt:List Nat} {isrc:IR} {irs:List IR} {ir:IR} {cap:List (Option Nat)} (hw:l7 sc x=some i)
    (hc:bh4 sc' sc iter=true) (hcap:ai4 sc' sc=cap) (tg:ag6 sc' target tgt) (hsrc:al9 w h₀ k calls sc iter isrc target) (ht:a9 (ap7 w h₀ k calls sc') ifs irs) (he:i8 w h₀ k calls sc' elt ir) :
    al7 prog w h₀ k calls fresh sc (.Assign [.Name x p] (.ListComp elt [⟨target,iter,ifs,0⟩] sc' cpos) pos) (.assign i own (.comp cap tgt isrc irs ir)):=by
  subst hcap;exact bt0 hw (bl0 hc) (aq2 hc).2 tg hsrc ht he
theorem bo9 {x:Str} {i:Nat} {np tp pos cpos:Pos} {kd:Nat} {elt target iter:PySem.Expr} {sc':Scope} {tgt:List Nat} {isrc ir:IR} {cap:List (Option Nat)} (G:Glb h₀ mg mb) (hw:l7 sc x=some i)
    (hc:bh4 sc' sc iter=true) (hcap:ai4 sc' sc=cap) (tg:ag6 sc' target tgt) (hsrc:al9 w h₀ k calls sc iter isrc target) (he:i8 w h₀ k calls sc' elt ir) :
    al7 prog w h₀ k calls fresh sc (.Assign [.Tuple [.Name x np] kd tp] (.SetComp elt [⟨target,iter,[],0⟩] sc' cpos) pos) (.unpackS i cap tgt isrc ir):=by
  subst hcap;exact bu4 G hw (bl0 hc) (aq2 hc).2 tg hsrc he
theorem LkW {e:PySem.Expr} {ir:IR} (hv:ir.v=none) (h:i8 w h₀ k calls sc e ir):ac2 w h₀ k calls sc e ir:=h.lk hv
theorem LvW {e:PySem.Expr} {ir:IR} (hv:ir.v=none) (h:i8 w h₀ k calls sc e ir):dj5 w h₀ k calls sc e ir:=h.lv hv
theorem TsW {e:PySem.Expr} {ir:IR} (hp:bh9 e=true) (h1:bd2 ir=true) (h:ac2 w h₀ k calls sc e ir):ap7 w h₀ k calls sc e ir:=dg2 h hp h1
theorem ab6 {e:PySem.Expr} {ir:IR} {pos:Pos} (hv:ir.v=none) (he:i8 w h₀ k calls sc e ir):al7 prog w h₀ k calls fresh sc (.Return (some e) pos) (.ret ir):=eg8 he hv
theorem ae1 {es:List PySem.Expr} {irs:List IR} {pos:Pos} (hn:es.all m8=true) (h:a9 (i8 w h₀ k calls sc) es irs):dw2 w h₀ k calls sc (.List es pos) (.list irs):=fun A E s env r B d ok hd=>cf2 h hn ok hd
theorem dc3 {es:List (Option PySem.Expr)} {irs:List IR} (h:a9 (fun o ir=>∃ e,o=some e∧i8 w h₀ k calls sc e ir) es irs):∃ ks,es=ks.map some∧a9 (i8 w h₀ k calls sc) ks irs:=by
  induction h with
  | nil=>exact ⟨[],rfl,.nil⟩
  | cons h _ ih=>
    obtain ⟨e,rfl,he⟩:=h
    obtain ⟨ks,rfl,hk⟩:=ih
    exact ⟨e :: ks,rfl,.cons he hk⟩
theorem dp5 {ks:List (Option PySem.Expr)} {vs:List PySem.Expr} {iks ivs:List IR} {pos:Pos} (G:Glb h₀ mg mb) (hl:ks.length=vs.length) (h0:(!ks.isEmpty)=true) (h15:ks.length≤15)
    (hk:a9 (fun o ir=>∃ e,o=some e∧i8 w h₀ k calls sc e ir) ks iks) (hv:a9 (i8 w h₀ k calls sc) vs ivs):dw2 w h₀ k calls sc (.Dict ks vs pos) (.dict iks ivs):=fun A E s env r B d ok hd=>by
  obtain ⟨ks',rfl,hk'⟩:=dc3 hk
  exact ea2 G hk' hv ((List.length_map ..).symm.trans hl) (by rintro rfl;cases h0) (Nat.le_trans (Nat.le_of_eq (List.length_map ..).symm) h15) ok hd
theorem aw1 {ks:List (Option PySem.Expr)} {vs:List PySem.Expr} {iks ivs:List IR} {pos:Pos} (G:Glb h₀ mg mb) (hl:ks.length=vs.length) (h0:(!ks.isEmpty)=true) (h15:ks.length≤15)
    (hk:a9 (fun o ir=>∃ e,o=some e∧i8 w h₀ k calls sc e ir) ks iks) (hv:a9 (i8 w h₀ k calls sc) vs ivs):i8 w h₀ k calls sc (.Dict ks vs pos) (.dict iks ivs):=fun A E s env r B d ok hd=>
  wpAny_mono (dp5 G hl h0 h15 hk hv ok hd) (fun ξ ξ q=>q.ev) fun ξ ξ e=>e
theorem am8 {m:MF} {o:PySem.Expr} {a:IR} {nm:Str} {es:List PySem.Expr} {irs:List IR} {ap pos:Pos} (hr:av7 o=true) (hp:(ap.endLine == pos.line)=true) (hl:es.length < 20)
    (hm:ct9 m=false) (hj:at2 m=false) (hf:Str.ofString (bb5 m)=nm) (hn:es.all m8=true) (ho:ac2 w h₀ k calls sc o a) (h:a9 (i8 w h₀ k calls sc) es irs) :
    i8 w h₀ k calls sc (.Call (.Attribute o nm ap) es [] pos) (.meth m a irs):=cv6 ho hr hp hl hm hf (by rw [hj];exact h) hn
theorem cj0 {o:PySem.Expr} {a:IR} {nm:Str} {es:List PySem.Expr} {irs:List IR} {ap pos:Pos} (hr:av7 o=true) (hp:(ap.endLine == pos.line)=true) (hl:es.length < 20)
    (hf:Str.ofString (bb5 .join)=nm) (hn:es.all m8=true) (ho:ac2 w h₀ k calls sc o a) (h:a9 (ac2 w h₀ k calls sc) es irs) :
    i8 w h₀ k calls sc (.Call (.Attribute o nm ap) es [] pos) (.meth .join a irs):=cv6 ho hr hp hl rfl hf h hn
theorem dv9 {o:PySem.Expr} {a:IR} {nm:Str} {es:List PySem.Expr} {irs:List IR} {ap pos:Pos} (hr:av7 o=true) (hp:(ap.endLine == pos.line)=true) (hnm:nm="get") (hn:es.all m8=true) (hl:es.length < 20) (ho:ac2 w h₀ k calls sc o a)
    (h:a9 (i8 w h₀ k calls sc) es irs):i8 w h₀ k calls sc (.Call (.Attribute o nm ap) es [] pos) (.meth .get a irs):=by subst hnm;exact ej5 ho hr hp h hn hl
theorem g7 {o:PySem.Expr} {a:IR} {nm x y:Str} {k1 k2:Nat} {p1 p2 ap pos:Pos} (hnm:nm="replace") (hr:av7 o=true) (hp:(ap.endLine == pos.line)=true) (ho:ac2 w h₀ k calls sc o a) :
    i8 w h₀ k calls sc (.Call (.Attribute o nm ap) [.Constant (.str x) k1 p1,.Constant (.str y) k2 p2] [] pos) (.replace a x y):=by subst hnm;exact cq3 ho hr hp
theorem ac5 {x nm:Str} {i:Nat} {np ap cp ep:Pos} {e:PySem.Expr} {ir:IR} (hnm:nm="append") (hs:d6 sc x=some i) (hp:(ap.endLine == cp.line)=true) (hne:m8 e=true) (he:i8 w h₀ k calls sc e ir) :
    al7 prog w h₀ k calls fresh sc (.Expr (.Call (.Attribute (.Name x np) nm ap) [e] [] cp) ep) (.append i ir):=by subst hnm;exact bw0 hs hp hne he
theorem aj0 {ts:List PySem.Expr} {is:List Nat} {kd:Nat} {p pos:Pos} {e:PySem.Expr} {ir:IR} (hts:a9 (fun e i=>∃ x p,e=PySem.Expr.Name x p∧l7 sc x=some i) ts is) (hc:cw8 e=true) (hl:2≤is.length) (he:i8 w h₀ k calls sc e ir) :
    al7 prog w h₀ k calls fresh sc (.Assign [.Tuple ts kd p] e pos) (.unpack is ir):=df1 hts hc he
theorem dx4 {es:List PySem.Expr} {irs:List IR} {pos:Pos} (hb:irs.all av6=true) (hne:(!es.isEmpty)=true) (h:a9 (i8 w h₀ k calls sc) es irs):i8 w h₀ k calls sc (.BoolOp .And es pos) (.and irs):=eh5 h hb (by rintro rfl;cases hne)
noncomputable def ea3 (_:String):Bool:=false
variable (w h₀ mg k calls) in
noncomputable def k7:Prop:=∀ f ds d,ea3 f=false→calls f ds=some d→ac3 w h₀ mg k f (calls f)
theorem j0 {x:Str} {f:String} {es:List PySem.Expr} {irs:List IR} {p pos:Pos} (G:Glb h₀ mg mb) (C:k7 w h₀ mg k calls) (hx:i4 sc x=true) (hf:Str.ofString f=x) (hn:es.all m8=true) (hne:(!es.isEmpty)=true) (hO:ea3 f=false) (h:a9 (i8 w h₀ k calls sc) es irs) :
    i8 w h₀ k calls sc (.Call (.Name x p) es [] pos) (.call f irs):=fun A E s env r B d ok hd=>by
  obtain ⟨ds,h1,hd⟩:=a6 hd
  obtain ⟨fa,o,fd,hm,ho,hfd,hc⟩:=C f ds d hO hd
  subst hf
  refine Call_ (bj5 G ok hx hm ?_)
  cases es with
  | nil=>cases hne
  | cons e rest=>
    have hn':=b8 hn
    refine callWith_def (o:=o) (fd:=fd) hfd (bh0 h hn ok h1 fun vs s1 B1 g1 m1 r1 ok1=>⟨ok1.old _ _ ho,?_⟩) (c9 hn'.1)
    refine wpAny_call (codeAny_mono (hc ok1.rm ok1.stk ok1.keep ok1.base ok1.toks r1 hd) fun r' s' q=>?_)
    obtain ⟨v,rfl,q⟩:=q
    exact q.after g1 m1
end
end
section
open PySem.Calls PySem.SeqAt
noncomputable def i0 (p:Program) (i:Nat):DefRec:=match p.main.body[i]? with
  | some (.FunctionDef name a b _ _ _ sc _ _ pos)=>⟨name,a,b,sc,pos⟩
  | _=>⟨"",⟨[],[],none,[],[],none,[]⟩,[],⟨.function,[],false,false,[]⟩,⟨0,0,0,0⟩⟩
end
section
noncomputable def bj1:List SI:=[.if_ (.isinst (.var 0) "bytes") [.stuck] [.ret (.str "/")]]
noncomputable def cy5:List SI:=[.assign 0 false (.call "fspath" [(.var 0)]),.assign 2 false (.call "_get_sep" [(.var 0)]),.assign 3 false (.var 0),.try_ [.for_ [4] (.var 1) [.assign 4 false (.call "fspath" [(.var 4)]),.if_ (.or [(.meth .startswith (.var 4) [(.var 2)]),(.not (.var 3))]) [.assign 3 false (.var 4)] [.if_ (.meth .endswith (.var 3) [(.var 2)]) [.aug 3 .Add (.var 4)] [.aug 3 .Add (.bin .Add (.var 2) (.var 4))]]]],.ret (.var 3)]
noncomputable def bn6:List SI:=[.assign 0 false (.call "fspath" [(.var 0)]),.assign 1 false (.call "_get_sep" [(.var 0)]),.assign 2 false (.bin .Add (.meth .rfind (.var 0) [(.var 1)]) (.int 1)),.assign 3 false (.upto (.var 0) (.var 2)),.if_ (.andT [(.var 3),(.cmp .NotEq (.var 3) (.bin .Mult (.var 1) (.bcall .len [(.var 3)])))]) [.assign 3 false (.meth .rstrip (.var 3) [(.var 1)])] [],.ret (.var 3)]
noncomputable def ap4:List SI:=[.assign 0 false (.tupmap "fspath" (.var 0)),.if_ (.not (.var 0)) [.stuck] [],.if_ (.isinst (.idx (.var 0) (.int 0)) "bytes") [.stuck,.stuck] [.assign 1 false (.str "/"),.assign 2 false (.str ".")],.try_ [.assign 3 false (.comp [none,none,some 1] [1] (.var 0) [] (.meth .split (.var 1) [(.var 2)])),.try_ [.unpackS 4 [none,none,some 1] [1] (.var 0) (.meth .startswith (.var 1) [(.var 2)])],.assign 3 false (.comp [none,none,some 2] [1] (.var 3) [] (.comp [none,none,some 2] [1] (.var 1) [(.andT [(.var 1),(.cmp .NotEq (.var 1) (.var 2))])] (.var 1))),.assign 6 false (.bcall .min [(.var 3)]),.assign 7 false (.bcall .max [(.var 3)]),.assign 8 false (.var 6),.for_ [9,5] (.enum (.var 6)) [.if_ (.cmp .NotEq (.var 5) (.idx (.var 7) (.var 9))) [.assign 8 false (.upto (.var 6) (.var 9)),.brk] []],.assign 10 false (.ite (.var 4) (.var 1) (.upto (.var 1) (.int 0))),.ret (.bin .Add (.var 10) (.meth .join (.var 1) [(.var 8)]))]]
noncomputable def ar1:List SI:=[.try_ [.if_ (.cmp .In (.str "&") (.var 0)) [.assign 0 false (.replace (.var 0) "&" "&amp;")] [],.if_ (.cmp .In (.str "<") (.var 0)) [.assign 0 false (.replace (.var 0) "<" "&lt;")] [],.if_ (.cmp .In (.str ">") (.var 0)) [.assign 0 false (.replace (.var 0) ">" "&gt;")] [],.ret (.var 0)]]
noncomputable def ao2:List SI:=[.try_ [.if_ (.cmp .In (.str "&") (.var 0)) [.assign 0 false (.replace (.var 0) "&" "&amp;")] [],.if_ (.cmp .In (.str "<") (.var 0)) [.assign 0 false (.replace (.var 0) "<" "&lt;")] [],.if_ (.cmp .In (.str ">") (.var 0)) [.assign 0 false (.replace (.var 0) ">" "&gt;")] [],.if_ (.cmp .In (.str "\"") (.var 0)) [.assign 0 false (.replace (.var 0) "\"" "&quot;")] [],.if_ (.cmp .In (.str "\x0d") (.var 0)) [.assign 0 false (.replace (.var 0) "\x0d" "&#13;")] [],.if_ (.cmp .In (.str "\n") (.var 0)) [.assign 0 false (.replace (.var 0) "\n" "&#10;")] [],.if_ (.cmp .In (.str "\t") (.var 0)) [.assign 0 false (.replace (.var 0) "\t" "&#09;")] [],.ret (.var 0)]]
noncomputable def ah0:List SI:=[.try_ [.if_ (.cmp .In (.str "&") (.var 0)) [.assign 0 false (.replace (.var 0) "&" "&amp;")] [],.if_ (.cmp .In (.str ">") (.var 0)) [.assign 0 false (.replace (.var 0) ">" "&gt;")] [],.if_ (.cmp .In (.str "\"") (.var 0)) [.assign 0 false (.replace (.var 0) "\"" "&quot;")] [],.ret (.var 0)]]
noncomputable def ai7:List SI:=[.try_ [.if_ (.cmp .In (.str "&") (.var 0)) [.assign 0 false (.replace (.var 0) "&" "&amp;")] [],.if_ (.cmp .In (.str "<") (.var 0)) [.assign 0 false (.replace (.var 0) "<" "&lt;")] [],.if_ (.cmp .In (.str ">") (.var 0)) [.assign 0 false (.replace (.var 0) ">" "&gt;")] [],.if_ (.cmp .In (.str "\x0d") (.var 0)) [.assign 0 false (.replace (.var 0) "\x0d" "&#xD;")] [],.ret (.var 0)]]
noncomputable def ah4:List SI:=[.try_ [.if_ (.cmp .In (.str "&") (.var 0)) [.assign 0 false (.replace (.var 0) "&" "&amp;")] [],.if_ (.cmp .In (.str "<") (.var 0)) [.assign 0 false (.replace (.var 0) "<" "&lt;")] [],.if_ (.cmp .In (.str "\"") (.var 0)) [.assign 0 false (.replace (.var 0) "\"" "&quot;")] [],.if_ (.cmp .In (.str "\t") (.var 0)) [.assign 0 false (.replace (.var 0) "\t" "&#x9;")] [],.if_ (.cmp .In (.str "\n") (.var 0)) [.assign 0 false (.replace (.var 0) "\n" "&#xA;")] [],.if_ (.cmp .In (.str "\x0d") (.var 0)) [.assign 0 false (.replace (.var 0) "\x0d" "&#xD;")] [],.ret (.var 0)]]
noncomputable def ap9:List SI:=[.assign 1 true (.list [(.int 1715043),(.int 3),(.int 2962)]),.for_ [2,3] (.enum (.upto (.var 0) (.int 60))) [.augItem 1 (.bin .Mod (.var 2) (.int 3)) .Add (.bin .Mod (.var 3) (.int 10000000))],.assign 4 true (.list [(.str "\t"),(.str "\n"),(.str "\x0d"),(.str "\""),(.str "#"),(.str "&"),(.str "'"),(.str "<"),(.str "="),(.str ">"),(.str "a"),(.str "&lt;")]),.assign 5 false (.bin .FloorDiv (.idx (.var 1) (.int 0)) (.int 5)),.assign 6 true (.list []),.for_ [7] (.range [(.int 6)]) [.unpack [5,8] (.bcall .divmod [(.var 5),(.bcall .len [(.var 4)])]),.appendPop 6 4 (.var 8)],.assign 9 true (.list [(.int 0)]),.assign 5 false (.idx (.var 1) (.int 1)),.for_ [2] (.range [(.int 1),(.int 5)]) [.unpack [5,8] (.bcall .divmod [(.var 5),(.var 2)]),.append 9 (.var 8)],.assign 5 false (.idx (.var 1) (.int 2)),.for_ [7] (.range [(.int 6)]) [.unpack [5,8] (.bcall .divmod [(.var 5),(.int 5)]),.append 9 (.var 8)],.ret (.tup [(.bin .Mod (.idx (.var 1) (.int 0)) (.int 5)),(.var 6),(.var 9)])]
noncomputable def au1:List SI:=[.assign 2 false (.list [(.dict [(.str "&"),(.str "<"),(.str ">")] [(.str "&amp;"),(.str "&lt;"),(.str "&gt;")]),(.dict [(.str "&"),(.str "<"),(.str ">"),(.str "\x0d")] [(.str "&amp;"),(.str "&lt;"),(.str "&gt;"),(.str "&#xD;")]),(.dict [(.str "&"),(.str "<"),(.str ">"),(.str "\""),(.str "\x0d"),(.str "\n"),(.str "\t")] [(.str "&amp;"),(.str "&lt;"),(.str "&gt;"),(.str "&quot;"),(.str "&#13;"),(.str "&#10;"),(.str "&#09;")]),(.dict [(.str "&"),(.str "<"),(.str "\""),(.str "\x0d"),(.str "\n"),(.str "\t")] [(.str "&amp;"),(.str "&lt;"),(.str "&quot;"),(.str "&#xD;"),(.str "&#xA;"),(.str "&#x9;")]),(.dict [(.str "&"),(.str ">"),(.str "\"")] [(.str "&amp;"),(.str "&gt;"),(.str "&quot;")])]),.ret (.meth .join (.str "") [(.comp [none,none,some 2,some 1] [1] (.var 0) [] (.meth .get (.idx (.var 2) (.var 3)) [(.var 1),(.var 1)]))])]
noncomputable def al3:List SI:=[.if_ (.cmp .Eq (.var 1) (.int 0)) [.ret (.call "_escape_cdata" [(.var 0)])] [],.if_ (.cmp .Eq (.var 1) (.int 1)) [.ret (.call "_escape_cdata_c14n" [(.var 0)])] [],.if_ (.cmp .Eq (.var 1) (.int 2)) [.ret (.call "_escape_attrib" [(.var 0)])] [],.if_ (.cmp .Eq (.var 1) (.int 3)) [.ret (.call "_escape_attrib_c14n" [(.var 0)])] [],.ret (.call "_escape_attrib_html" [(.var 0)])]
noncomputable def at8:List SI:=[.assign 2 true (.list [(.str "/")]),.for_ [3] (.range [(.int 1),(.int 11)]) [.append 2 (.call "join" [(.idx (.var 2) (.idx (.var 0) (.var 3))),(.idx (.var 1) (.bin .Sub (.var 3) (.int 1)))])],.ret (.var 2)]
noncomputable def as3:List SI:=[.assign 2 true (.dcomp [none,none,some 1] [1] (.var 1) [] (.var 1) (.idx (.var 2) (.var 1))),.assign 3 false (.int 0),.for_ [4] (.rev (.bcall .sorted [(.var 0)])) [.assign 5 false (.comp [none,none,none,some 4,some 2] [1] (.var 2) [(.cmp .Eq (.call "dirname" [(.var 1)]) (.var 3))] (.idx (.var 4) (.var 1))),.assign 6 false (.comp [none,none,none,some 5] [1] (.range [(.int 2)]) [] (.bcall .len [(.comp [none,none,some 1] [1] (.var 3) [(.cmp .In (.var 2) (.var 1))] (.var 1))])),.setItem 2 (.var 4) (.comp [none,none,none,some 6] [1] (.range [(.int 2)]) [(.cmp .Eq (.idx (.var 3) (.var 1)) (.bcall .max [(.var 3)]))] (.var 1)),.aug 3 .Add (.bin .Sub (.bcall .len [(.var 5)]) (.bcall .max [(.var 6)]))],.ret (.tup [(.var 3),(.var 2)])]
noncomputable def aw4:List SI:=[.assign 3 true (.list [(.str "/")]),.assign 4 true (.list [(.list [(.int 0)])]),.for_ [5] (.range [(.int 1),(.int 11)]) [.append 3 (.bin .Add (.bin .Add (.meth .rstrip (.idx (.var 3) (.idx (.var 0) (.var 5))) [(.str "/")]) (.str "/")) (.idx (.var 1) (.bin .Sub (.var 5) (.int 1)))),.append 4 (.bin .Add (.list [(.var 5)]) (.idx (.var 4) (.idx (.var 0) (.var 5))))],.assign 6 false (.comp [none,none,none] [1,2] (.zip [(.from (.var 1) (.int 4)),(.var 2)]) [] (.ite (.cmp .Eq (.var 1) (.var 2)) (.int 0) (.int 1))),.assign 7 true (.list []),.for_ [8] (.range [(.int 32)]) [.assign 9 false (.bin .Add (.comp [none,none,some 8] [1] (.range [(.int 5)]) [] (.bin .BitAnd (.bin .RShift (.var 2) (.var 1)) (.int 1))) (.var 6)),.append 7 (.comp [none,none,some 0,some 9] [1] (.range [(.int 1),(.int 11)]) [(.cmp .NotEq (.idx (.var 3) (.var 1)) (.idx (.var 3) (.idx (.var 2) (.var 1))))] (.var 1))],.assign 10 true (.dcomp [none,none,some 6,some 3] [1] (.range [(.int 5),(.int 11)]) [] (.idx (.var 3) (.var 1)) (.list [(.idx (.var 2) (.bin .Sub (.var 1) (.int 5)))])),.assign 11 false (.int 0),.for_ [12] (.range [(.int 4),(.int (-1)),(.int (-1))]) [.assign 13 false (.comp [none,none,none,some 0,some 4,some 12] [1] (.var 7) [] (.bcall .len [(.comp [none,none,some 3,some 4,some 5] [1] (.var 1) [(.cmp .In (.var 4) (.idx (.var 3) (.idx (.var 2) (.var 1))))] (.var 1))])),.assign 11 false (.bcall .min [(.var 13)]),.setItem 10 (.idx (.var 3) (.var 12)) (.sortset (.comp [none,none,some 13,some 12,some 11] [1] (.range [(.int 32)]) [(.cmp .Eq (.idx (.var 2) (.var 1)) (.var 4))] (.bin .BitAnd (.bin .RShift (.var 1) (.var 3)) (.int 1))))],.ret (.tup [(.var 11),(.var 10)])]
noncomputable def ap8:List SI:=[.assign 1 true (.list [(.var 0)]),.for_ [2] (.range [(.int 5)]) [.if_ (.cmp .NotEq (.last (.var 1)) (.str "/")) [.append 1 (.call "dirname" [(.last (.var 1))])] []],.ret (.bcall .sorted [(.var 1)])]
noncomputable def at9:List SI:=[.assign 2 false (.dcomp [none,none,none] [1] (.bin .Add (.var 0) (.var 1)) [] (.var 1) (.call "_law_chain" [(.var 1)])),.assign 3 true (.list []),.for_ [4] (.var 0) [.assign 5 true (.list []),.for_ [6] (.var 1) [.unpack [7,8] (.call "sorted_list_difference" [(.idx (.var 2) (.var 4)),(.idx (.var 2) (.var 6))]),.assign 9 false (.call "commonpath" [(.list [(.var 4),(.var 6)])]),.if_ (.cmp .NotEq (.comp [none,none,none] [1] (.bin .Add (.upto (.var 7) (.int 1)) (.upto (.var 8) (.int 1))) [] (.call "dirname" [(.var 1)])) (.list [(.var 9),(.var 9)])) [.ret (.list [])] [],.append 5 (.bin .Add (.var 7) (.var 8))],.append 3 (.var 5)],.ret (.var 3)]
noncomputable def ai0:List SI:=[.if_ (.cmp .Eq (.var 0) (.list [])) [.ret (.int 0)] [],.assign 2 false (.call "_law_most" [(.from (.var 0) (.int 1)),(.var 1)]),.for_ [3] (.idx (.var 0) (.int 0)) [.if_ (.cmp .Eq (.comp [none,none,some 1] [1] (.var 3) [(.cmp .In (.var 1) (.var 2))] (.var 1)) (.list [])) [.assign 2 false (.bcall .max [(.var 2),(.bin .Add (.int 1) (.call "_law_most" [(.from (.var 0) (.int 1)),(.bin .Add (.var 1) (.var 3))]))])] []],.ret (.var 2)]
noncomputable def cr4:List SI:=[.unpack [1,2,3] (.call "_law_drawn" [(.var 0)]),.assign 4 false (.comp [none,none,none,some 1] [1] (.var 2) [] (.call "_law_written" [(.var 1),(.var 3)])),.assign 5 false (.comp [none,none,none,some 1] [1] (.var 2) [] (.call "_law_told" [(.var 1),(.var 3)])),.assign 6 false (.list [(.str "b"),(.str "bb"),(.str "bbb"),(.str "bbbb")]),.assign 7 false (.call "_law_laid" [(.var 3),(.bin .Add (.var 6) (.var 4))]),.assign 8 false (.dcomp [none,none,none,none] [1,2,3] (.zip [(.from (.var 7) (.int 5)),(.var 4),(.var 2)]) [] (.var 1) (.list [(.ite (.cmp .Eq (.var 2) (.var 3)) (.int 0) (.int 1))])),.unpack [9,10] (.call "_law_due" [(.var 3),(.bin .Add (.var 6) (.var 5)),(.var 2)]),.if_ (.cmp .NotEq (.call "_law_rule" [(.upto (.var 7) (.int 5)),(.var 8)]) (.tup [(.var 9),(.var 10)])) [.ret (.bool false)] [],.assign 11 false (.comp [none,none,some 8] [1] (.from (.var 7) (.int 5)) [(.cmp .Eq (.idx (.var 2) (.var 1)) (.list [(.int 1)]))] (.var 1)),.assign 12 false (.comp [none,none,some 8] [1] (.from (.var 7) (.int 5)) [(.cmp .Eq (.idx (.var 2) (.var 1)) (.list [(.int 0)]))] (.var 1)),.assign 13 false (.call "_law_ways" [(.var 11),(.var 12)]),.ret (.and [(.cmp .Eq (.bcall .len [(.var 13)]) (.bcall .len [(.var 11)])),(.cmp .Eq (.call "_law_most" [(.var 13),(.list [])]) (.var 9))])]
end
section
open PySem.Calls PySem.SeqAt
section
variable {w:World} {h₀:Heap} {mg mb:Str→Option Value} {k:Nat} {calls:String→List D→Option D} {fresh:String→Bool}
theorem ce7 (G:Glb h₀ mg mb) (C:k7 w h₀ mg k calls):aa4 prog w h₀ k calls fresh (i0 PySem.Challenge.pw_rt0078_01 13).scope (i0 PySem.Challenge.pw_rt0078_01 13).body bj1 :=by
  refine a7 ?_ ?_
  refine t6 ?_ ?_ ?_
  refine TsW rfl rfl ?_
  refine LkW rfl ?_
  refine by3 G (by kernel_rfl) rfl (by kernel_rfl) rfl ?_ rfl
  exact (b6 (by kernel_rfl))
  exact ba8
  refine a7 ?_ ?_
  refine ab6 rfl ?_
  exact a8
  exact b9
  exact b9
theorem dq0 (G:Glb h₀ mg mb) (C:k7 w h₀ mg k calls):aa4 prog w h₀ k calls fresh (i0 PySem.Challenge.pw_rt0078_01 14).scope (i0 PySem.Challenge.pw_rt0078_01 14).body cy5 :=by
  refine a7 ?_ ?_
  refine c5 (by kernel_rfl) rfl ?_ rfl
  refine j0 G C (by kernel_rfl) rfl rfl rfl (by decide) ?_
  refine a9.cons ?_ ?_
  exact (d9 (by kernel_rfl))
  exact a9.nil
  refine a7 ?_ ?_
  refine c5 (by kernel_rfl) rfl ?_ rfl
  refine j0 G C (by kernel_rfl) rfl rfl rfl (by decide) ?_
  refine a9.cons ?_ ?_
  exact (d9 (by kernel_rfl))
  exact a9.nil
  refine a7 ?_ ?_
  refine c5 (by kernel_rfl) rfl ?_ rfl
  exact (d9 (by kernel_rfl))
  refine a7 ?_ ?_
  refine av8 ?_
  refine a7 ?_ ?_
  refine ag1 (.name (by kernel_rfl)) rfl ?_ ?_
  refine g8 rfl ?_
  exact (ad8 (by kernel_rfl))
  refine a7 ?_ ?_
  refine c5 (by kernel_rfl) rfl ?_ rfl
  refine j0 G C (by kernel_rfl) rfl rfl rfl (by decide) ?_
  refine a9.cons ?_ ?_
  exact (d9 (by kernel_rfl))
  exact a9.nil
  refine a7 ?_ ?_
  refine t6 ?_ ?_ ?_
  refine ek4 ?_
  refine a9.cons ?_ ?_
  refine TsW rfl rfl ?_
  refine LkW rfl ?_
  refine am8 rfl rfl (by decide) rfl rfl rfl rfl ?_ ?_
  exact (b6 (by kernel_rfl))
  refine a9.cons ?_ ?_
  exact (d9 (by kernel_rfl))
  exact a9.nil
  refine a9.cons ?_ ?_
  refine dk4 ?_
  refine TsW rfl rfl ?_
  exact (b6 (by kernel_rfl))
  exact a9.nil
  refine a7 ?_ ?_
  refine c5 (by kernel_rfl) rfl ?_ rfl
  exact (d9 (by kernel_rfl))
  exact b9
  refine a7 ?_ ?_
  refine t6 ?_ ?_ ?_
  refine TsW rfl rfl ?_
  refine LkW rfl ?_
  refine am8 rfl rfl (by decide) rfl rfl rfl rfl ?_ ?_
  exact (b6 (by kernel_rfl))
  refine a9.cons ?_ ?_
  exact (d9 (by kernel_rfl))
  exact a9.nil
  refine a7 ?_ ?_
  refine ct0 (by kernel_rfl) ?_
  exact (b6 (by kernel_rfl))
  exact b9
  refine a7 ?_ ?_
  refine ct0 (by kernel_rfl) ?_
  refine LkW rfl ?_
  refine w8 ?_ ?_
  exact (b6 (by kernel_rfl))
  exact (b6 (by kernel_rfl))
  exact b9
  exact b9
  exact b9
  exact b9
  refine a7 ?_ ?_
  exact (ab2 (by kernel_rfl))
  exact b9
theorem cg8 (G:Glb h₀ mg mb) (C:k7 w h₀ mg k calls):aa4 prog w h₀ k calls fresh (i0 PySem.Challenge.pw_rt0078_01 15).scope (i0 PySem.Challenge.pw_rt0078_01 15).body bn6 :=by
  refine a7 ?_ ?_
  refine c5 (by kernel_rfl) rfl ?_ rfl
  refine j0 G C (by kernel_rfl) rfl rfl rfl (by decide) ?_
  refine a9.cons ?_ ?_
  exact (d9 (by kernel_rfl))
  exact a9.nil
  refine a7 ?_ ?_
  refine c5 (by kernel_rfl) rfl ?_ rfl
  refine j0 G C (by kernel_rfl) rfl rfl rfl (by decide) ?_
  refine a9.cons ?_ ?_
  exact (d9 (by kernel_rfl))
  exact a9.nil
  refine a7 ?_ ?_
  refine c5 (by kernel_rfl) rfl ?_ rfl
  refine w8 ?_ ?_
  refine LkW rfl ?_
  refine am8 rfl rfl (by decide) rfl rfl rfl rfl ?_ ?_
  exact (b6 (by kernel_rfl))
  refine a9.cons ?_ ?_
  exact (d9 (by kernel_rfl))
  exact a9.nil
  refine LkW rfl ?_
  exact b7
  refine a7 ?_ ?_
  refine c5 (by kernel_rfl) rfl ?_ rfl
  refine as6 ?_ ?_
  exact (b6 (by kernel_rfl))
  exact (b6 (by kernel_rfl))
  refine a7 ?_ ?_
  refine t6 ?_ ?_ ?_
  refine cx2 ?_
  refine a9.cons ?_ ?_
  refine TsW rfl rfl ?_
  exact (b6 (by kernel_rfl))
  refine a9.cons ?_ ?_
  refine i5 ?_ ?_ rfl
  exact (b6 (by kernel_rfl))
  refine LkW rfl ?_
  refine w8 ?_ ?_
  exact (b6 (by kernel_rfl))
  refine LkW rfl ?_
  refine w5 G (by kernel_rfl) rfl ?_ rfl
  refine a9.cons ?_ ?_
  exact (b6 (by kernel_rfl))
  exact a9.nil
  exact a9.nil
  refine a7 ?_ ?_
  refine c5 (by kernel_rfl) rfl ?_ rfl
  refine am8 rfl rfl (by decide) rfl rfl rfl rfl ?_ ?_
  exact (b6 (by kernel_rfl))
  refine a9.cons ?_ ?_
  exact (d9 (by kernel_rfl))
  exact a9.nil
  exact b9
  exact b9
  refine a7 ?_ ?_
  exact (ab2 (by kernel_rfl))
  exact b9
theorem bs2 (G:Glb h₀ mg mb) (C:k7 w h₀ mg k calls) {j:Nat} (HJ:j+1≤k) (HF:ac3 w h₀ mg j "fspath" (calls "fspath")):aa4 prog w h₀ k calls fresh (i0 PySem.Challenge.pw_rt0078_01 16).scope (i0 PySem.Challenge.pw_rt0078_01 16).body ap4 :=by
  refine a7 ?_ ?_
  refine c5 (by kernel_rfl) rfl ?_ rfl
  refine de8 G (by kernel_rfl) rfl (by kernel_rfl) rfl (by kernel_rfl) rfl HJ HF ?_ rfl
  exact (b6 (by kernel_rfl))
  refine a7 ?_ ?_
  refine t6 ?_ ?_ ?_
  refine dk4 ?_
  refine TsW rfl rfl ?_
  exact (b6 (by kernel_rfl))
  exact ba8
  exact b9
  refine a7 ?_ ?_
  refine t6 ?_ ?_ ?_
  refine TsW rfl rfl ?_
  refine LkW rfl ?_
  refine by3 G (by kernel_rfl) rfl (by kernel_rfl) rfl ?_ rfl
  refine LkW rfl ?_
  refine n8 ?_ ?_
  exact (b6 (by kernel_rfl))
  refine LkW rfl ?_
  exact b7
  exact ba8
  refine a7 ?_ ?_
  refine c5 (by kernel_rfl) rfl ?_ rfl
  exact a8
  refine a7 ?_ ?_
  refine c5 (by kernel_rfl) rfl ?_ rfl
  exact a8
  exact b9
  refine a7 ?_ ?_
  refine av8 ?_
  refine a7 ?_ ?_
  refine j9 (by kernel_rfl) (by kernel_rfl) (by kernel_rfl) (.name (by kernel_rfl)) ?_ ?_ ?_
  refine g8 rfl ?_
  exact (ad8 (by kernel_rfl))
  exact a9.nil
  refine am8 rfl rfl (by decide) rfl rfl rfl rfl ?_ ?_
  exact (b6 (by kernel_rfl))
  refine a9.cons ?_ ?_
  exact (d9 (by kernel_rfl))
  exact a9.nil
  refine a7 ?_ ?_
  refine av8 ?_
  refine a7 ?_ ?_
  refine bo9 G (by kernel_rfl) (by kernel_rfl) (by kernel_rfl) (.name (by kernel_rfl)) ?_ ?_
  refine g8 rfl ?_
  exact (ad8 (by kernel_rfl))
  refine am8 rfl rfl (by decide) rfl rfl rfl rfl ?_ ?_
  exact (b6 (by kernel_rfl))
  refine a9.cons ?_ ?_
  exact (d9 (by kernel_rfl))
  exact a9.nil
  exact b9
  refine a7 ?_ ?_
  refine j9 (by kernel_rfl) (by kernel_rfl) (by kernel_rfl) (.name (by kernel_rfl)) ?_ ?_ ?_
  refine g8 rfl ?_
  exact (ad8 (by kernel_rfl))
  exact a9.nil
  refine af1 (by kernel_rfl) (by kernel_rfl) (.name (by kernel_rfl)) ?_ ?_ ?_
  refine g8 rfl ?_
  exact (ad8 (by kernel_rfl))
  refine a9.cons ?_ ?_
  refine cx2 ?_
  refine a9.cons ?_ ?_
  refine TsW rfl rfl ?_
  exact (b6 (by kernel_rfl))
  refine a9.cons ?_ ?_
  refine i5 ?_ ?_ rfl
  exact (b6 (by kernel_rfl))
  exact (b6 (by kernel_rfl))
  exact a9.nil
  exact a9.nil
  exact (d9 (by kernel_rfl))
  refine a7 ?_ ?_
  refine c5 (by kernel_rfl) rfl ?_ rfl
  refine w5 G (by kernel_rfl) rfl ?_ rfl
  refine a9.cons ?_ ?_
  exact (b6 (by kernel_rfl))
  exact a9.nil
  refine a7 ?_ ?_
  refine c5 (by kernel_rfl) rfl ?_ rfl
  refine w5 G (by kernel_rfl) rfl ?_ rfl
  refine a9.cons ?_ ?_
  exact (b6 (by kernel_rfl))
  exact a9.nil
  refine a7 ?_ ?_
  refine c5 (by kernel_rfl) rfl ?_ rfl
  exact (d9 (by kernel_rfl))
  refine a7 ?_ ?_
  refine ag1 (.tup (.cons ⟨_,_,rfl,by kernel_rfl⟩ (.cons ⟨_,_,rfl,by kernel_rfl⟩ .nil)) (by decide)) rfl ?_ ?_
  refine bo7 G (by kernel_rfl) rfl ?_ rfl
  exact (ad8 (by kernel_rfl))
  refine a7 ?_ ?_
  refine t6 ?_ ?_ ?_
  refine i5 ?_ ?_ rfl
  exact (b6 (by kernel_rfl))
  refine LkW rfl ?_
  refine n8 ?_ ?_
  exact (b6 (by kernel_rfl))
  exact (b6 (by kernel_rfl))
  refine a7 ?_ ?_
  refine c5 (by kernel_rfl) rfl ?_ rfl
  refine as6 ?_ ?_
  exact (b6 (by kernel_rfl))
  exact (b6 (by kernel_rfl))
  refine a7 ?_ ?_
  exact el0
  exact b9
  exact b9
  exact b9
  refine a7 ?_ ?_
  refine c5 (by kernel_rfl) rfl ?_ rfl
  refine co3 ?_ ?_ ?_
  refine TsW rfl rfl ?_
  exact (b6 (by kernel_rfl))
  exact (d9 (by kernel_rfl))
  refine as6 ?_ ?_
  exact (b6 (by kernel_rfl))
  refine LkW rfl ?_
  exact b7
  refine a7 ?_ ?_
  refine ab6 rfl ?_
  refine w8 ?_ ?_
  exact (b6 (by kernel_rfl))
  refine LkW rfl ?_
  refine cj0 rfl rfl (by decide) rfl rfl ?_ ?_
  exact (b6 (by kernel_rfl))
  refine a9.cons ?_ ?_
  exact (b6 (by kernel_rfl))
  exact a9.nil
  exact b9
  exact b9
theorem be1 (G:Glb h₀ mg mb) (C:k7 w h₀ mg k calls):aa4 prog w h₀ k calls fresh (i0 PySem.Challenge.pw_rt0078_01 21).scope (i0 PySem.Challenge.pw_rt0078_01 21).body ar1 :=by
  refine a7 ?_ ?_
  refine av8 ?_
  refine a7 ?_ ?_
  refine t6 ?_ ?_ ?_
  refine i5 ?_ ?_ rfl
  refine LkW rfl ?_
  exact a8
  exact (b6 (by kernel_rfl))
  refine a7 ?_ ?_
  refine c5 (by kernel_rfl) rfl ?_ rfl
  refine g7 rfl rfl rfl ?_
  exact (b6 (by kernel_rfl))
  exact b9
  exact b9
  refine a7 ?_ ?_
  refine t6 ?_ ?_ ?_
  refine i5 ?_ ?_ rfl
  refine LkW rfl ?_
  exact a8
  exact (b6 (by kernel_rfl))
  refine a7 ?_ ?_
  refine c5 (by kernel_rfl) rfl ?_ rfl
  refine g7 rfl rfl rfl ?_
  exact (b6 (by kernel_rfl))
  exact b9
  exact b9
  refine a7 ?_ ?_
  refine t6 ?_ ?_ ?_
  refine i5 ?_ ?_ rfl
  refine LkW rfl ?_
  exact a8
  exact (b6 (by kernel_rfl))
  refine a7 ?_ ?_
  refine c5 (by kernel_rfl) rfl ?_ rfl
  refine g7 rfl rfl rfl ?_
  exact (b6 (by kernel_rfl))
  exact b9
  exact b9
  refine a7 ?_ ?_
  exact (ab2 (by kernel_rfl))
  exact b9
  exact b9
theorem bc5 (G:Glb h₀ mg mb) (C:k7 w h₀ mg k calls):aa4 prog w h₀ k calls fresh (i0 PySem.Challenge.pw_rt0078_01 22).scope (i0 PySem.Challenge.pw_rt0078_01 22).body ao2 :=by
  refine a7 ?_ ?_
  refine av8 ?_
  refine a7 ?_ ?_
  refine t6 ?_ ?_ ?_
  refine i5 ?_ ?_ rfl
  refine LkW rfl ?_
  exact a8
  exact (b6 (by kernel_rfl))
  refine a7 ?_ ?_
  refine c5 (by kernel_rfl) rfl ?_ rfl
  refine g7 rfl rfl rfl ?_
  exact (b6 (by kernel_rfl))
  exact b9
  exact b9
  refine a7 ?_ ?_
  refine t6 ?_ ?_ ?_
  refine i5 ?_ ?_ rfl
  refine LkW rfl ?_
  exact a8
  exact (b6 (by kernel_rfl))
  refine a7 ?_ ?_
  refine c5 (by kernel_rfl) rfl ?_ rfl
  refine g7 rfl rfl rfl ?_
  exact (b6 (by kernel_rfl))
  exact b9
  exact b9
  refine a7 ?_ ?_
  refine t6 ?_ ?_ ?_
  refine i5 ?_ ?_ rfl
  refine LkW rfl ?_
  exact a8
  exact (b6 (by kernel_rfl))
  refine a7 ?_ ?_
  refine c5 (by kernel_rfl) rfl ?_ rfl
  refine g7 rfl rfl rfl ?_
  exact (b6 (by kernel_rfl))
  exact b9
  exact b9
  refine a7 ?_ ?_
  refine t6 ?_ ?_ ?_
  refine i5 ?_ ?_ rfl
  refine LkW rfl ?_
  exact a8
  exact (b6 (by kernel_rfl))
  refine a7 ?_ ?_
  refine c5 (by kernel_rfl) rfl ?_ rfl
  refine g7 rfl rfl rfl ?_
  exact (b6 (by kernel_rfl))
  exact b9
  exact b9
  refine a7 ?_ ?_
  refine t6 ?_ ?_ ?_
  refine i5 ?_ ?_ rfl
  refine LkW rfl ?_
  exact a8
  exact (b6 (by kernel_rfl))
  refine a7 ?_ ?_
  refine c5 (by kernel_rfl) rfl ?_ rfl
  refine g7 rfl rfl rfl ?_
  exact (b6 (by kernel_rfl))
  exact b9
  exact b9
  refine a7 ?_ ?_
  refine t6 ?_ ?_ ?_
  refine i5 ?_ ?_ rfl
  refine LkW rfl ?_
  exact a8
  exact (b6 (by kernel_rfl))
  refine a7 ?_ ?_
  refine c5 (by kernel_rfl) rfl ?_ rfl
  refine g7 rfl rfl rfl ?_
  exact (b6 (by kernel_rfl))
  exact b9
  exact b9
  refine a7 ?_ ?_
  refine t6 ?_ ?_ ?_
  refine i5 ?_ ?_ rfl
  refine LkW rfl ?_
  exact a8
  exact (b6 (by kernel_rfl))
  refine a7 ?_ ?_
  refine c5 (by kernel_rfl) rfl ?_ rfl
  refine g7 rfl rfl rfl ?_
  exact (b6 (by kernel_rfl))
  exact b9
  exact b9
  refine a7 ?_ ?_
  exact (ab2 (by kernel_rfl))
  exact b9
  exact b9
theorem ar9 (G:Glb h₀ mg mb) (C:k7 w h₀ mg k calls):aa4 prog w h₀ k calls fresh (i0 PySem.Challenge.pw_rt0078_01 23).scope (i0 PySem.Challenge.pw_rt0078_01 23).body ah0 :=by
  refine a7 ?_ ?_
  refine av8 ?_
  refine a7 ?_ ?_
  refine t6 ?_ ?_ ?_
  refine i5 ?_ ?_ rfl
  refine LkW rfl ?_
  exact a8
  exact (b6 (by kernel_rfl))
  refine a7 ?_ ?_
  refine c5 (by kernel_rfl) rfl ?_ rfl
  refine g7 rfl rfl rfl ?_
  exact (b6 (by kernel_rfl))
  exact b9
  exact b9
  refine a7 ?_ ?_
  refine t6 ?_ ?_ ?_
  refine i5 ?_ ?_ rfl
  refine LkW rfl ?_
  exact a8
  exact (b6 (by kernel_rfl))
  refine a7 ?_ ?_
  refine c5 (by kernel_rfl) rfl ?_ rfl
  refine g7 rfl rfl rfl ?_
  exact (b6 (by kernel_rfl))
  exact b9
  exact b9
  refine a7 ?_ ?_
  refine t6 ?_ ?_ ?_
  refine i5 ?_ ?_ rfl
  refine LkW rfl ?_
  exact a8
  exact (b6 (by kernel_rfl))
  refine a7 ?_ ?_
  refine c5 (by kernel_rfl) rfl ?_ rfl
  refine g7 rfl rfl rfl ?_
  exact (b6 (by kernel_rfl))
  exact b9
  exact b9
  refine a7 ?_ ?_
  exact (ab2 (by kernel_rfl))
  exact b9
  exact b9
theorem at5 (G:Glb h₀ mg mb) (C:k7 w h₀ mg k calls):aa4 prog w h₀ k calls fresh (i0 PySem.Challenge.pw_rt0078_01 24).scope (i0 PySem.Challenge.pw_rt0078_01 24).body ai7 :=by
  refine a7 ?_ ?_
  refine av8 ?_
  refine a7 ?_ ?_
  refine t6 ?_ ?_ ?_
  refine i5 ?_ ?_ rfl
  refine LkW rfl ?_
  exact a8
  exact (b6 (by kernel_rfl))
  refine a7 ?_ ?_
  refine c5 (by kernel_rfl) rfl ?_ rfl
  refine g7 rfl rfl rfl ?_
  exact (b6 (by kernel_rfl))
  exact b9
  exact b9
  refine a7 ?_ ?_
  refine t6 ?_ ?_ ?_
  refine i5 ?_ ?_ rfl
  refine LkW rfl ?_
  exact a8
  exact (b6 (by kernel_rfl))
  refine a7 ?_ ?_
  refine c5 (by kernel_rfl) rfl ?_ rfl
  refine g7 rfl rfl rfl ?_
  exact (b6 (by kernel_rfl))
  exact b9
  exact b9
  refine a7 ?_ ?_
  refine t6 ?_ ?_ ?_
  refine i5 ?_ ?_ rfl
  refine LkW rfl ?_
  exact a8
  exact (b6 (by kernel_rfl))
  refine a7 ?_ ?_
  refine c5 (by kernel_rfl) rfl ?_ rfl
  refine g7 rfl rfl rfl ?_
  exact (b6 (by kernel_rfl))
  exact b9
  exact b9
  refine a7 ?_ ?_
  refine t6 ?_ ?_ ?_
  refine i5 ?_ ?_ rfl
  refine LkW rfl ?_
  exact a8
  exact (b6 (by kernel_rfl))
  refine a7 ?_ ?_
  refine c5 (by kernel_rfl) rfl ?_ rfl
  refine g7 rfl rfl rfl ?_
  exact (b6 (by kernel_rfl))
  exact b9
  exact b9
  refine a7 ?_ ?_
  exact (ab2 (by kernel_rfl))
  exact b9
  exact b9
theorem aq4 (G:Glb h₀ mg mb) (C:k7 w h₀ mg k calls):aa4 prog w h₀ k calls fresh (i0 PySem.Challenge.pw_rt0078_01 25).scope (i0 PySem.Challenge.pw_rt0078_01 25).body ah4 :=by
  refine a7 ?_ ?_
  refine av8 ?_
  refine a7 ?_ ?_
  refine t6 ?_ ?_ ?_
  refine i5 ?_ ?_ rfl
  refine LkW rfl ?_
  exact a8
  exact (b6 (by kernel_rfl))
  refine a7 ?_ ?_
  refine c5 (by kernel_rfl) rfl ?_ rfl
  refine g7 rfl rfl rfl ?_
  exact (b6 (by kernel_rfl))
  exact b9
  exact b9
  refine a7 ?_ ?_
  refine t6 ?_ ?_ ?_
  refine i5 ?_ ?_ rfl
  refine LkW rfl ?_
  exact a8
  exact (b6 (by kernel_rfl))
  refine a7 ?_ ?_
  refine c5 (by kernel_rfl) rfl ?_ rfl
  refine g7 rfl rfl rfl ?_
  exact (b6 (by kernel_rfl))
  exact b9
  exact b9
  refine a7 ?_ ?_
  refine t6 ?_ ?_ ?_
  refine i5 ?_ ?_ rfl
  refine LkW rfl ?_
  exact a8
  exact (b6 (by kernel_rfl))
  refine a7 ?_ ?_
  refine c5 (by kernel_rfl) rfl ?_ rfl
  refine g7 rfl rfl rfl ?_
  exact (b6 (by kernel_rfl))
  exact b9
  exact b9
  refine a7 ?_ ?_
  refine t6 ?_ ?_ ?_
  refine i5 ?_ ?_ rfl
  refine LkW rfl ?_
  exact a8
  exact (b6 (by kernel_rfl))
  refine a7 ?_ ?_
  refine c5 (by kernel_rfl) rfl ?_ rfl
  refine g7 rfl rfl rfl ?_
  exact (b6 (by kernel_rfl))
  exact b9
  exact b9
  refine a7 ?_ ?_
  refine t6 ?_ ?_ ?_
  refine i5 ?_ ?_ rfl
  refine LkW rfl ?_
  exact a8
  exact (b6 (by kernel_rfl))
  refine a7 ?_ ?_
  refine c5 (by kernel_rfl) rfl ?_ rfl
  refine g7 rfl rfl rfl ?_
  exact (b6 (by kernel_rfl))
  exact b9
  exact b9
  refine a7 ?_ ?_
  refine t6 ?_ ?_ ?_
  refine i5 ?_ ?_ rfl
  refine LkW rfl ?_
  exact a8
  exact (b6 (by kernel_rfl))
  refine a7 ?_ ?_
  refine c5 (by kernel_rfl) rfl ?_ rfl
  refine g7 rfl rfl rfl ?_
  exact (b6 (by kernel_rfl))
  exact b9
  exact b9
  refine a7 ?_ ?_
  exact (ab2 (by kernel_rfl))
  exact b9
  exact b9
theorem br5 (G:Glb h₀ mg mb) (C:k7 w h₀ mg k calls):aa4 prog w h₀ k calls fresh (i0 PySem.Challenge.pw_rt0078_01 27).scope (i0 PySem.Challenge.pw_rt0078_01 27).body ap9 :=by
  refine a7 ?_ ?_
  refine j4 (by kernel_rfl) rfl ?_ rfl
  refine ae1 rfl ?_
  refine a9.cons ?_ ?_
  exact b7
  refine a9.cons ?_ ?_
  exact b7
  refine a9.cons ?_ ?_
  exact b7
  exact a9.nil
  refine a7 ?_ ?_
  refine ag1 (.tup (.cons ⟨_,_,rfl,by kernel_rfl⟩ (.cons ⟨_,_,rfl,by kernel_rfl⟩ .nil)) (by decide)) rfl ?_ ?_
  refine bo7 G (by kernel_rfl) rfl ?_ rfl
  refine LvW rfl ?_
  refine as6 ?_ ?_
  exact (b6 (by kernel_rfl))
  refine LkW rfl ?_
  exact b7
  refine a7 ?_ ?_
  refine cs9 (by kernel_rfl) rfl ?_ ?_
  refine LkW rfl ?_
  refine w8 ?_ ?_
  exact (b6 (by kernel_rfl))
  refine LkW rfl ?_
  exact b7
  refine LkW rfl ?_
  refine w8 ?_ ?_
  exact (b6 (by kernel_rfl))
  refine LkW rfl ?_
  exact b7
  exact b9
  refine a7 ?_ ?_
  refine j4 (by kernel_rfl) rfl ?_ rfl
  refine ae1 rfl ?_
  refine a9.cons ?_ ?_
  exact a8
  refine a9.cons ?_ ?_
  exact a8
  refine a9.cons ?_ ?_
  exact a8
  refine a9.cons ?_ ?_
  exact a8
  refine a9.cons ?_ ?_
  exact a8
  refine a9.cons ?_ ?_
  exact a8
  refine a9.cons ?_ ?_
  exact a8
  refine a9.cons ?_ ?_
  exact a8
  refine a9.cons ?_ ?_
  exact a8
  refine a9.cons ?_ ?_
  exact a8
  refine a9.cons ?_ ?_
  exact a8
  refine a9.cons ?_ ?_
  exact a8
  exact a9.nil
  refine a7 ?_ ?_
  refine c5 (by kernel_rfl) rfl ?_ rfl
  refine w8 ?_ ?_
  refine LkW rfl ?_
  refine n8 ?_ ?_
  exact (b6 (by kernel_rfl))
  refine LkW rfl ?_
  exact b7
  refine LkW rfl ?_
  exact b7
  refine a7 ?_ ?_
  refine j4 (by kernel_rfl) rfl ?_ rfl
  refine ae1 rfl ?_
  exact a9.nil
  refine a7 ?_ ?_
  refine ag1 (.name (by kernel_rfl)) rfl ?_ ?_
  refine l9 G (by kernel_rfl) rfl ?_ rfl
  refine a9.cons ?_ ?_
  refine LkW rfl ?_
  exact b7
  exact a9.nil
  refine a7 ?_ ?_
  refine aj0 (.cons ⟨_,_,rfl,by kernel_rfl⟩ (.cons ⟨_,_,rfl,by kernel_rfl⟩ .nil)) rfl (by decide) ?_
  refine w5 G (by kernel_rfl) rfl ?_ rfl
  refine a9.cons ?_ ?_
  exact (b6 (by kernel_rfl))
  refine a9.cons ?_ ?_
  refine LkW rfl ?_
  refine w5 G (by kernel_rfl) rfl ?_ rfl
  refine a9.cons ?_ ?_
  exact (b6 (by kernel_rfl))
  exact a9.nil
  exact a9.nil
  refine a7 ?_ ?_
  refine ce6 rfl rfl (by kernel_rfl) (by kernel_rfl) rfl rfl rfl ?_
  exact (b6 (by kernel_rfl))
  exact b9
  refine a7 ?_ ?_
  refine j4 (by kernel_rfl) rfl ?_ rfl
  refine ae1 rfl ?_
  refine a9.cons ?_ ?_
  exact b7
  exact a9.nil
  refine a7 ?_ ?_
  refine c5 (by kernel_rfl) rfl ?_ rfl
  refine n8 ?_ ?_
  exact (b6 (by kernel_rfl))
  refine LkW rfl ?_
  exact b7
  refine a7 ?_ ?_
  refine ag1 (.name (by kernel_rfl)) rfl ?_ ?_
  refine l9 G (by kernel_rfl) rfl ?_ rfl
  refine a9.cons ?_ ?_
  refine LkW rfl ?_
  exact b7
  refine a9.cons ?_ ?_
  refine LkW rfl ?_
  exact b7
  exact a9.nil
  refine a7 ?_ ?_
  refine aj0 (.cons ⟨_,_,rfl,by kernel_rfl⟩ (.cons ⟨_,_,rfl,by kernel_rfl⟩ .nil)) rfl (by decide) ?_
  refine w5 G (by kernel_rfl) rfl ?_ rfl
  refine a9.cons ?_ ?_
  exact (b6 (by kernel_rfl))
  refine a9.cons ?_ ?_
  exact (b6 (by kernel_rfl))
  exact a9.nil
  refine a7 ?_ ?_
  refine ac5 rfl (by kernel_rfl) rfl rfl ?_
  exact (d9 (by kernel_rfl))
  exact b9
  refine a7 ?_ ?_
  refine c5 (by kernel_rfl) rfl ?_ rfl
  refine n8 ?_ ?_
  exact (b6 (by kernel_rfl))
  refine LkW rfl ?_
  exact b7
  refine a7 ?_ ?_
  refine ag1 (.name (by kernel_rfl)) rfl ?_ ?_
  refine l9 G (by kernel_rfl) rfl ?_ rfl
  refine a9.cons ?_ ?_
  refine LkW rfl ?_
  exact b7
  exact a9.nil
  refine a7 ?_ ?_
  refine aj0 (.cons ⟨_,_,rfl,by kernel_rfl⟩ (.cons ⟨_,_,rfl,by kernel_rfl⟩ .nil)) rfl (by decide) ?_
  refine w5 G (by kernel_rfl) rfl ?_ rfl
  refine a9.cons ?_ ?_
  exact (b6 (by kernel_rfl))
  refine a9.cons ?_ ?_
  refine LkW rfl ?_
  exact b7
  exact a9.nil
  refine a7 ?_ ?_
  refine ac5 rfl (by kernel_rfl) rfl rfl ?_
  exact (d9 (by kernel_rfl))
  exact b9
  refine a7 ?_ ?_
  refine ab6 rfl ?_
  refine ax9 ?_ rfl
  refine a9.cons ?_ ?_
  refine w8 ?_ ?_
  refine LkW rfl ?_
  refine n8 ?_ ?_
  exact (b6 (by kernel_rfl))
  refine LkW rfl ?_
  exact b7
  refine LkW rfl ?_
  exact b7
  refine a9.cons ?_ ?_
  exact (d9 (by kernel_rfl))
  refine a9.cons ?_ ?_
  exact (d9 (by kernel_rfl))
  exact a9.nil
  exact b9
theorem bv5 (G:Glb h₀ mg mb) (C:k7 w h₀ mg k calls):aa4 prog w h₀ k calls fresh (i0 PySem.Challenge.pw_rt0078_01 28).scope (i0 PySem.Challenge.pw_rt0078_01 28).body au1 :=by
  refine a7 ?_ ?_
  refine c5 (by kernel_rfl) rfl ?_ rfl
  refine ad3 ?_ rfl
  refine a9.cons ?_ ?_
  refine aw1 G rfl rfl (by decide) ?_ ?_
  refine a9.cons ?_ ?_
  refine ⟨_,rfl,?_⟩
  exact a8
  refine a9.cons ?_ ?_
  refine ⟨_,rfl,?_⟩
  exact a8
  refine a9.cons ?_ ?_
  refine ⟨_,rfl,?_⟩
  exact a8
  exact a9.nil
  refine a9.cons ?_ ?_
  exact a8
  refine a9.cons ?_ ?_
  exact a8
  refine a9.cons ?_ ?_
  exact a8
  exact a9.nil
  refine a9.cons ?_ ?_
  refine aw1 G rfl rfl (by decide) ?_ ?_
  refine a9.cons ?_ ?_
  refine ⟨_,rfl,?_⟩
  exact a8
  refine a9.cons ?_ ?_
  refine ⟨_,rfl,?_⟩
  exact a8
  refine a9.cons ?_ ?_
  refine ⟨_,rfl,?_⟩
  exact a8
  refine a9.cons ?_ ?_
  refine ⟨_,rfl,?_⟩
  exact a8
  exact a9.nil
  refine a9.cons ?_ ?_
  exact a8
  refine a9.cons ?_ ?_
  exact a8
  refine a9.cons ?_ ?_
  exact a8
  refine a9.cons ?_ ?_
  exact a8
  exact a9.nil
  refine a9.cons ?_ ?_
  refine aw1 G rfl rfl (by decide) ?_ ?_
  refine a9.cons ?_ ?_
  refine ⟨_,rfl,?_⟩
  exact a8
  refine a9.cons ?_ ?_
  refine ⟨_,rfl,?_⟩
  exact a8
  refine a9.cons ?_ ?_
  refine ⟨_,rfl,?_⟩
  exact a8
  refine a9.cons ?_ ?_
  refine ⟨_,rfl,?_⟩
  exact a8
  refine a9.cons ?_ ?_
  refine ⟨_,rfl,?_⟩
  exact a8
  refine a9.cons ?_ ?_
  refine ⟨_,rfl,?_⟩
  exact a8
  refine a9.cons ?_ ?_
  refine ⟨_,rfl,?_⟩
  exact a8
  exact a9.nil
  refine a9.cons ?_ ?_
  exact a8
  refine a9.cons ?_ ?_
  exact a8
  refine a9.cons ?_ ?_
  exact a8
  refine a9.cons ?_ ?_
  exact a8
  refine a9.cons ?_ ?_
  exact a8
  refine a9.cons ?_ ?_
  exact a8
  refine a9.cons ?_ ?_
  exact a8
  exact a9.nil
  refine a9.cons ?_ ?_
  refine aw1 G rfl rfl (by decide) ?_ ?_
  refine a9.cons ?_ ?_
  refine ⟨_,rfl,?_⟩
  exact a8
  refine a9.cons ?_ ?_
  refine ⟨_,rfl,?_⟩
  exact a8
  refine a9.cons ?_ ?_
  refine ⟨_,rfl,?_⟩
  exact a8
  refine a9.cons ?_ ?_
  refine ⟨_,rfl,?_⟩
  exact a8
  refine a9.cons ?_ ?_
  refine ⟨_,rfl,?_⟩
  exact a8
  refine a9.cons ?_ ?_
  refine ⟨_,rfl,?_⟩
  exact a8
  exact a9.nil
  refine a9.cons ?_ ?_
  exact a8
  refine a9.cons ?_ ?_
  exact a8
  refine a9.cons ?_ ?_
  exact a8
  refine a9.cons ?_ ?_
  exact a8
  refine a9.cons ?_ ?_
  exact a8
  refine a9.cons ?_ ?_
  exact a8
  exact a9.nil
  refine a9.cons ?_ ?_
  refine aw1 G rfl rfl (by decide) ?_ ?_
  refine a9.cons ?_ ?_
  refine ⟨_,rfl,?_⟩
  exact a8
  refine a9.cons ?_ ?_
  refine ⟨_,rfl,?_⟩
  exact a8
  refine a9.cons ?_ ?_
  refine ⟨_,rfl,?_⟩
  exact a8
  exact a9.nil
  refine a9.cons ?_ ?_
  exact a8
  refine a9.cons ?_ ?_
  exact a8
  refine a9.cons ?_ ?_
  exact a8
  exact a9.nil
  exact a9.nil
  refine a7 ?_ ?_
  refine ab6 rfl ?_
  refine cj0 rfl rfl (by decide) rfl rfl ?_ ?_
  refine LkW rfl ?_
  exact a8
  refine a9.cons ?_ ?_
  refine LkW rfl ?_
  refine af1 (by kernel_rfl) (by kernel_rfl) (.name (by kernel_rfl)) ?_ ?_ ?_
  refine g8 rfl ?_
  exact (ad8 (by kernel_rfl))
  exact a9.nil
  refine dv9 rfl rfl rfl rfl (by decide) ?_ ?_
  refine LkW rfl ?_
  refine n8 ?_ ?_
  exact (b6 (by kernel_rfl))
  exact (b6 (by kernel_rfl))
  refine a9.cons ?_ ?_
  exact (d9 (by kernel_rfl))
  refine a9.cons ?_ ?_
  exact (d9 (by kernel_rfl))
  exact a9.nil
  exact a9.nil
  exact b9
theorem bi1 (G:Glb h₀ mg mb) (C:k7 w h₀ mg k calls):aa4 prog w h₀ k calls fresh (i0 PySem.Challenge.pw_rt0078_01 29).scope (i0 PySem.Challenge.pw_rt0078_01 29).body al3 :=by
  refine a7 ?_ ?_
  refine t6 ?_ ?_ ?_
  refine i5 ?_ ?_ rfl
  exact (b6 (by kernel_rfl))
  refine LkW rfl ?_
  exact b7
  refine a7 ?_ ?_
  refine ab6 rfl ?_
  refine j0 G C (by kernel_rfl) rfl rfl rfl (by decide) ?_
  refine a9.cons ?_ ?_
  exact (d9 (by kernel_rfl))
  exact a9.nil
  exact b9
  exact b9
  refine a7 ?_ ?_
  refine t6 ?_ ?_ ?_
  refine i5 ?_ ?_ rfl
  exact (b6 (by kernel_rfl))
  refine LkW rfl ?_
  exact b7
  refine a7 ?_ ?_
  refine ab6 rfl ?_
  refine j0 G C (by kernel_rfl) rfl rfl rfl (by decide) ?_
  refine a9.cons ?_ ?_
  exact (d9 (by kernel_rfl))
  exact a9.nil
  exact b9
  exact b9
  refine a7 ?_ ?_
  refine t6 ?_ ?_ ?_
  refine i5 ?_ ?_ rfl
  exact (b6 (by kernel_rfl))
  refine LkW rfl ?_
  exact b7
  refine a7 ?_ ?_
  refine ab6 rfl ?_
  refine j0 G C (by kernel_rfl) rfl rfl rfl (by decide) ?_
  refine a9.cons ?_ ?_
  exact (d9 (by kernel_rfl))
  exact a9.nil
  exact b9
  exact b9
  refine a7 ?_ ?_
  refine t6 ?_ ?_ ?_
  refine i5 ?_ ?_ rfl
  exact (b6 (by kernel_rfl))
  refine LkW rfl ?_
  exact b7
  refine a7 ?_ ?_
  refine ab6 rfl ?_
  refine j0 G C (by kernel_rfl) rfl rfl rfl (by decide) ?_
  refine a9.cons ?_ ?_
  exact (d9 (by kernel_rfl))
  exact a9.nil
  exact b9
  exact b9
  refine a7 ?_ ?_
  refine ab6 rfl ?_
  refine j0 G C (by kernel_rfl) rfl rfl rfl (by decide) ?_
  refine a9.cons ?_ ?_
  exact (d9 (by kernel_rfl))
  exact a9.nil
  exact b9
theorem bu6 (G:Glb h₀ mg mb) (C:k7 w h₀ mg k calls):aa4 prog w h₀ k calls fresh (i0 PySem.Challenge.pw_rt0078_01 30).scope (i0 PySem.Challenge.pw_rt0078_01 30).body at8 :=by
  refine a7 ?_ ?_
  refine j4 (by kernel_rfl) rfl ?_ rfl
  refine ae1 rfl ?_
  refine a9.cons ?_ ?_
  exact a8
  exact a9.nil
  refine a7 ?_ ?_
  refine ag1 (.name (by kernel_rfl)) rfl ?_ ?_
  refine l9 G (by kernel_rfl) rfl ?_ rfl
  refine a9.cons ?_ ?_
  refine LkW rfl ?_
  exact b7
  refine a9.cons ?_ ?_
  refine LkW rfl ?_
  exact b7
  exact a9.nil
  refine a7 ?_ ?_
  refine ac5 rfl (by kernel_rfl) rfl rfl ?_
  refine j0 G C (by kernel_rfl) rfl rfl rfl (by decide) ?_
  refine a9.cons ?_ ?_
  refine n8 ?_ ?_
  exact (b6 (by kernel_rfl))
  refine LkW rfl ?_
  refine n8 ?_ ?_
  exact (b6 (by kernel_rfl))
  exact (b6 (by kernel_rfl))
  refine a9.cons ?_ ?_
  refine n8 ?_ ?_
  exact (b6 (by kernel_rfl))
  refine LkW rfl ?_
  refine w8 ?_ ?_
  exact (b6 (by kernel_rfl))
  refine LkW rfl ?_
  exact b7
  exact a9.nil
  exact b9
  refine a7 ?_ ?_
  exact (ab2 (by kernel_rfl))
  exact b9
theorem bu9 (G:Glb h₀ mg mb) (C:k7 w h₀ mg k calls):aa4 prog w h₀ k calls fresh (i0 PySem.Challenge.pw_rt0078_01 31).scope (i0 PySem.Challenge.pw_rt0078_01 31).body as3 :=by
  refine a7 ?_ ?_
  refine ae4 G (by kernel_rfl) (by kernel_rfl) (by kernel_rfl) (.name (by kernel_rfl)) ?_ ?_ ?_
  refine g8 rfl ?_
  exact (ad8 (by kernel_rfl))
  exact (d9 (by kernel_rfl))
  refine n8 ?_ ?_
  exact (b6 (by kernel_rfl))
  exact (b6 (by kernel_rfl))
  refine a7 ?_ ?_
  refine c5 (by kernel_rfl) rfl ?_ rfl
  exact b7
  refine a7 ?_ ?_
  refine ag1 (.name (by kernel_rfl)) rfl ?_ ?_
  refine g8 rfl ?_
  refine LvW rfl ?_
  refine ei7 ?_
  refine LkW rfl ?_
  refine w5 G (by kernel_rfl) rfl ?_ rfl
  refine a9.cons ?_ ?_
  exact (b6 (by kernel_rfl))
  exact a9.nil
  refine a7 ?_ ?_
  refine j9 (by kernel_rfl) (by kernel_rfl) (by kernel_rfl) (.name (by kernel_rfl)) ?_ ?_ ?_
  refine g8 rfl ?_
  exact (ad8 (by kernel_rfl))
  refine a9.cons ?_ ?_
  refine i5 ?_ ?_ rfl
  refine LkW rfl ?_
  refine j0 G C (by kernel_rfl) rfl rfl rfl (by decide) ?_
  refine a9.cons ?_ ?_
  exact (d9 (by kernel_rfl))
  exact a9.nil
  exact (b6 (by kernel_rfl))
  exact a9.nil
  refine n8 ?_ ?_
  exact (b6 (by kernel_rfl))
  exact (b6 (by kernel_rfl))
  refine a7 ?_ ?_
  refine j9 (by kernel_rfl) (by kernel_rfl) (by kernel_rfl) (.name (by kernel_rfl)) ?_ ?_ ?_
  refine l9 G (by kernel_rfl) rfl ?_ rfl
  refine a9.cons ?_ ?_
  refine LkW rfl ?_
  exact b7
  exact a9.nil
  exact a9.nil
  refine w5 G (by kernel_rfl) rfl ?_ rfl
  refine a9.cons ?_ ?_
  refine LkW rfl ?_
  refine af1 (by kernel_rfl) (by kernel_rfl) (.name (by kernel_rfl)) ?_ ?_ ?_
  refine g8 rfl ?_
  exact (ad8 (by kernel_rfl))
  refine a9.cons ?_ ?_
  refine i5 ?_ ?_ rfl
  exact (b6 (by kernel_rfl))
  exact (b6 (by kernel_rfl))
  exact a9.nil
  exact (d9 (by kernel_rfl))
  exact a9.nil
  refine a7 ?_ ?_
  refine bp3 (by kernel_rfl) ?_ ?_
  exact (b6 (by kernel_rfl))
  refine af1 (by kernel_rfl) (by kernel_rfl) (.name (by kernel_rfl)) ?_ ?_ ?_
  refine l9 G (by kernel_rfl) rfl ?_ rfl
  refine a9.cons ?_ ?_
  refine LkW rfl ?_
  exact b7
  exact a9.nil
  refine a9.cons ?_ ?_
  refine i5 ?_ ?_ rfl
  refine LkW rfl ?_
  refine n8 ?_ ?_
  exact (b6 (by kernel_rfl))
  exact (b6 (by kernel_rfl))
  refine LkW rfl ?_
  refine w5 G (by kernel_rfl) rfl ?_ rfl
  refine a9.cons ?_ ?_
  exact (b6 (by kernel_rfl))
  exact a9.nil
  exact a9.nil
  exact (d9 (by kernel_rfl))
  refine a7 ?_ ?_
  refine ct0 (by kernel_rfl) ?_
  refine LkW rfl ?_
  refine w8 ?_ ?_
  refine LkW rfl ?_
  refine w5 G (by kernel_rfl) rfl ?_ rfl
  refine a9.cons ?_ ?_
  exact (b6 (by kernel_rfl))
  exact a9.nil
  refine LkW rfl ?_
  refine w5 G (by kernel_rfl) rfl ?_ rfl
  refine a9.cons ?_ ?_
  exact (b6 (by kernel_rfl))
  exact a9.nil
  exact b9
  refine a7 ?_ ?_
  refine ab6 rfl ?_
  refine ax9 ?_ rfl
  refine a9.cons ?_ ?_
  exact (d9 (by kernel_rfl))
  refine a9.cons ?_ ?_
  exact (d9 (by kernel_rfl))
  exact a9.nil
  exact b9
theorem cd1 (G:Glb h₀ mg mb) (C:k7 w h₀ mg k calls):aa4 prog w h₀ k calls fresh (i0 PySem.Challenge.pw_rt0078_01 32).scope (i0 PySem.Challenge.pw_rt0078_01 32).body aw4 :=by
  refine a7 ?_ ?_
  refine j4 (by kernel_rfl) rfl ?_ rfl
  refine ae1 rfl ?_
  refine a9.cons ?_ ?_
  exact a8
  exact a9.nil
  refine a7 ?_ ?_
  refine j4 (by kernel_rfl) rfl ?_ rfl
  refine ae1 rfl ?_
  refine a9.cons ?_ ?_
  refine ad3 ?_ rfl
  refine a9.cons ?_ ?_
  exact b7
  exact a9.nil
  exact a9.nil
  refine a7 ?_ ?_
  refine ag1 (.name (by kernel_rfl)) rfl ?_ ?_
  refine l9 G (by kernel_rfl) rfl ?_ rfl
  refine a9.cons ?_ ?_
  refine LkW rfl ?_
  exact b7
  refine a9.cons ?_ ?_
  refine LkW rfl ?_
  exact b7
  exact a9.nil
  refine a7 ?_ ?_
  refine ac5 rfl (by kernel_rfl) rfl rfl ?_
  refine w8 ?_ ?_
  refine LkW rfl ?_
  refine w8 ?_ ?_
  refine LkW rfl ?_
  refine am8 rfl rfl (by decide) rfl rfl rfl rfl ?_ ?_
  refine LkW rfl ?_
  refine n8 ?_ ?_
  exact (b6 (by kernel_rfl))
  refine LkW rfl ?_
  refine n8 ?_ ?_
  exact (b6 (by kernel_rfl))
  exact (b6 (by kernel_rfl))
  refine a9.cons ?_ ?_
  exact a8
  exact a9.nil
  refine LkW rfl ?_
  exact a8
  refine LkW rfl ?_
  refine n8 ?_ ?_
  exact (b6 (by kernel_rfl))
  refine LkW rfl ?_
  refine w8 ?_ ?_
  exact (b6 (by kernel_rfl))
  refine LkW rfl ?_
  exact b7
  refine a7 ?_ ?_
  refine ac5 rfl (by kernel_rfl) rfl rfl ?_
  refine w8 ?_ ?_
  refine LkW rfl ?_
  refine ad3 ?_ rfl
  refine a9.cons ?_ ?_
  exact (d9 (by kernel_rfl))
  exact a9.nil
  refine LkW rfl ?_
  refine n8 ?_ ?_
  exact (b6 (by kernel_rfl))
  refine LkW rfl ?_
  refine n8 ?_ ?_
  exact (b6 (by kernel_rfl))
  exact (b6 (by kernel_rfl))
  exact b9
  refine a7 ?_ ?_
  refine j9 (by kernel_rfl) (by kernel_rfl) (by kernel_rfl) (.tup (.cons ⟨_,_,rfl,by kernel_rfl⟩ (.cons ⟨_,_,rfl,by kernel_rfl⟩ .nil)) (by decide)) ?_ ?_ ?_
  refine bx2 G (by kernel_rfl) rfl ?_ rfl
  refine a9.cons ?_ ?_
  refine ay9 ?_ ?_
  exact (b6 (by kernel_rfl))
  refine LkW rfl ?_
  exact b7
  refine a9.cons ?_ ?_
  exact (d9 (by kernel_rfl))
  exact a9.nil
  exact a9.nil
  refine co3 ?_ ?_ ?_
  refine i5 ?_ ?_ rfl
  exact (b6 (by kernel_rfl))
  exact (b6 (by kernel_rfl))
  exact b7
  exact b7
  refine a7 ?_ ?_
  refine j4 (by kernel_rfl) rfl ?_ rfl
  refine ae1 rfl ?_
  exact a9.nil
  refine a7 ?_ ?_
  refine ag1 (.name (by kernel_rfl)) rfl ?_ ?_
  refine l9 G (by kernel_rfl) rfl ?_ rfl
  refine a9.cons ?_ ?_
  refine LkW rfl ?_
  exact b7
  exact a9.nil
  refine a7 ?_ ?_
  refine c5 (by kernel_rfl) rfl ?_ rfl
  refine w8 ?_ ?_
  refine LkW rfl ?_
  refine af1 (by kernel_rfl) (by kernel_rfl) (.name (by kernel_rfl)) ?_ ?_ ?_
  refine l9 G (by kernel_rfl) rfl ?_ rfl
  refine a9.cons ?_ ?_
  refine LkW rfl ?_
  exact b7
  exact a9.nil
  exact a9.nil
  refine w8 ?_ ?_
  refine LkW rfl ?_
  refine w8 ?_ ?_
  exact (b6 (by kernel_rfl))
  exact (b6 (by kernel_rfl))
  refine LkW rfl ?_
  exact b7
  exact (b6 (by kernel_rfl))
  refine a7 ?_ ?_
  refine ac5 rfl (by kernel_rfl) rfl rfl ?_
  refine af1 (by kernel_rfl) (by kernel_rfl) (.name (by kernel_rfl)) ?_ ?_ ?_
  refine l9 G (by kernel_rfl) rfl ?_ rfl
  refine a9.cons ?_ ?_
  refine LkW rfl ?_
  exact b7
  refine a9.cons ?_ ?_
  refine LkW rfl ?_
  exact b7
  exact a9.nil
  refine a9.cons ?_ ?_
  refine i5 ?_ ?_ rfl
  refine LkW rfl ?_
  refine n8 ?_ ?_
  exact (b6 (by kernel_rfl))
  exact (b6 (by kernel_rfl))
  refine LkW rfl ?_
  refine n8 ?_ ?_
  exact (b6 (by kernel_rfl))
  refine LkW rfl ?_
  refine n8 ?_ ?_
  exact (b6 (by kernel_rfl))
  exact (b6 (by kernel_rfl))
  exact a9.nil
  exact (d9 (by kernel_rfl))
  exact b9
  refine a7 ?_ ?_
  refine ae4 G (by kernel_rfl) (by kernel_rfl) (by kernel_rfl) (.name (by kernel_rfl)) ?_ ?_ ?_
  refine l9 G (by kernel_rfl) rfl ?_ rfl
  refine a9.cons ?_ ?_
  refine LkW rfl ?_
  exact b7
  refine a9.cons ?_ ?_
  refine LkW rfl ?_
  exact b7
  exact a9.nil
  refine n8 ?_ ?_
  exact (b6 (by kernel_rfl))
  exact (b6 (by kernel_rfl))
  refine ad3 ?_ rfl
  refine a9.cons ?_ ?_
  refine n8 ?_ ?_
  exact (b6 (by kernel_rfl))
  refine LkW rfl ?_
  refine w8 ?_ ?_
  exact (b6 (by kernel_rfl))
  refine LkW rfl ?_
  exact b7
  exact a9.nil
  refine a7 ?_ ?_
  refine c5 (by kernel_rfl) rfl ?_ rfl
  exact b7
  refine a7 ?_ ?_
  refine ag1 (.name (by kernel_rfl)) rfl ?_ ?_
  refine l9 G (by kernel_rfl) rfl ?_ rfl
  refine a9.cons ?_ ?_
  refine LkW rfl ?_
  exact b7
  refine a9.cons ?_ ?_
  refine LkW rfl ?_
  exact cg1
  refine a9.cons ?_ ?_
  refine LkW rfl ?_
  exact cg1
  exact a9.nil
  refine a7 ?_ ?_
  refine j9 (by kernel_rfl) (by kernel_rfl) (by kernel_rfl) (.name (by kernel_rfl)) ?_ ?_ ?_
  refine g8 rfl ?_
  exact (ad8 (by kernel_rfl))
  exact a9.nil
  refine w5 G (by kernel_rfl) rfl ?_ rfl
  refine a9.cons ?_ ?_
  refine LkW rfl ?_
  refine af1 (by kernel_rfl) (by kernel_rfl) (.name (by kernel_rfl)) ?_ ?_ ?_
  refine g8 rfl ?_
  exact (ad8 (by kernel_rfl))
  refine a9.cons ?_ ?_
  refine i5 ?_ ?_ rfl
  exact (b6 (by kernel_rfl))
  refine LkW rfl ?_
  refine n8 ?_ ?_
  exact (b6 (by kernel_rfl))
  refine LkW rfl ?_
  refine n8 ?_ ?_
  exact (b6 (by kernel_rfl))
  exact (b6 (by kernel_rfl))
  exact a9.nil
  exact (d9 (by kernel_rfl))
  exact a9.nil
  refine a7 ?_ ?_
  refine c5 (by kernel_rfl) rfl ?_ rfl
  refine w5 G (by kernel_rfl) rfl ?_ rfl
  refine a9.cons ?_ ?_
  exact (b6 (by kernel_rfl))
  exact a9.nil
  refine a7 ?_ ?_
  refine bp3 (by kernel_rfl) ?_ ?_
  refine LkW rfl ?_
  refine n8 ?_ ?_
  exact (b6 (by kernel_rfl))
  exact (b6 (by kernel_rfl))
  refine co8 G (by kernel_rfl) rfl (by kernel_rfl) rfl ?_ rfl
  refine LkW rfl ?_
  refine af1 (by kernel_rfl) (by kernel_rfl) (.name (by kernel_rfl)) ?_ ?_ ?_
  refine l9 G (by kernel_rfl) rfl ?_ rfl
  refine a9.cons ?_ ?_
  refine LkW rfl ?_
  exact b7
  exact a9.nil
  refine a9.cons ?_ ?_
  refine i5 ?_ ?_ rfl
  refine LkW rfl ?_
  refine n8 ?_ ?_
  exact (b6 (by kernel_rfl))
  exact (b6 (by kernel_rfl))
  exact (b6 (by kernel_rfl))
  exact a9.nil
  refine w8 ?_ ?_
  refine LkW rfl ?_
  refine w8 ?_ ?_
  exact (b6 (by kernel_rfl))
  exact (b6 (by kernel_rfl))
  refine LkW rfl ?_
  exact b7
  exact b9
  refine a7 ?_ ?_
  refine ab6 rfl ?_
  refine ax9 ?_ rfl
  refine a9.cons ?_ ?_
  exact (d9 (by kernel_rfl))
  refine a9.cons ?_ ?_
  exact (d9 (by kernel_rfl))
  exact a9.nil
  exact b9
theorem bp4 (G:Glb h₀ mg mb) (C:k7 w h₀ mg k calls):aa4 prog w h₀ k calls fresh (i0 PySem.Challenge.pw_rt0078_01 33).scope (i0 PySem.Challenge.pw_rt0078_01 33).body ap8 :=by
  refine a7 ?_ ?_
  refine j4 (by kernel_rfl) rfl ?_ rfl
  refine ae1 rfl ?_
  refine a9.cons ?_ ?_
  exact (d9 (by kernel_rfl))
  exact a9.nil
  refine a7 ?_ ?_
  refine ag1 (.name (by kernel_rfl)) rfl ?_ ?_
  refine l9 G (by kernel_rfl) rfl ?_ rfl
  refine a9.cons ?_ ?_
  refine LkW rfl ?_
  exact b7
  exact a9.nil
  refine a7 ?_ ?_
  refine t6 ?_ ?_ ?_
  refine i5 ?_ ?_ rfl
  refine LkW rfl ?_
  refine cv1 ?_
  exact (b6 (by kernel_rfl))
  refine LkW rfl ?_
  exact a8
  refine a7 ?_ ?_
  refine ac5 rfl (by kernel_rfl) rfl rfl ?_
  refine j0 G C (by kernel_rfl) rfl rfl rfl (by decide) ?_
  refine a9.cons ?_ ?_
  refine cv1 ?_
  exact (b6 (by kernel_rfl))
  exact a9.nil
  exact b9
  exact b9
  exact b9
  refine a7 ?_ ?_
  refine ab6 rfl ?_
  refine w5 G (by kernel_rfl) rfl ?_ rfl
  refine a9.cons ?_ ?_
  exact (b6 (by kernel_rfl))
  exact a9.nil
  exact b9
theorem bv1 (G:Glb h₀ mg mb) (C:k7 w h₀ mg k calls):aa4 prog w h₀ k calls fresh (i0 PySem.Challenge.pw_rt0078_01 34).scope (i0 PySem.Challenge.pw_rt0078_01 34).body at9 :=by
  refine a7 ?_ ?_
  refine ae4 G (by kernel_rfl) (by kernel_rfl) (by kernel_rfl) (.name (by kernel_rfl)) ?_ ?_ ?_
  refine g8 rfl ?_
  refine LvW rfl ?_
  refine w8 ?_ ?_
  exact (b6 (by kernel_rfl))
  exact (b6 (by kernel_rfl))
  exact (d9 (by kernel_rfl))
  refine j0 G C (by kernel_rfl) rfl rfl rfl (by decide) ?_
  refine a9.cons ?_ ?_
  exact (d9 (by kernel_rfl))
  exact a9.nil
  refine a7 ?_ ?_
  refine j4 (by kernel_rfl) rfl ?_ rfl
  refine ae1 rfl ?_
  exact a9.nil
  refine a7 ?_ ?_
  refine ag1 (.name (by kernel_rfl)) rfl ?_ ?_
  refine g8 rfl ?_
  exact (ad8 (by kernel_rfl))
  refine a7 ?_ ?_
  refine j4 (by kernel_rfl) rfl ?_ rfl
  refine ae1 rfl ?_
  exact a9.nil
  refine a7 ?_ ?_
  refine ag1 (.name (by kernel_rfl)) rfl ?_ ?_
  refine g8 rfl ?_
  exact (ad8 (by kernel_rfl))
  refine a7 ?_ ?_
  refine aj0 (.cons ⟨_,_,rfl,by kernel_rfl⟩ (.cons ⟨_,_,rfl,by kernel_rfl⟩ .nil)) rfl (by decide) ?_
  refine j0 G C (by kernel_rfl) rfl rfl rfl (by decide) ?_
  refine a9.cons ?_ ?_
  refine n8 ?_ ?_
  exact (b6 (by kernel_rfl))
  exact (b6 (by kernel_rfl))
  refine a9.cons ?_ ?_
  refine n8 ?_ ?_
  exact (b6 (by kernel_rfl))
  exact (b6 (by kernel_rfl))
  exact a9.nil
  refine a7 ?_ ?_
  refine c5 (by kernel_rfl) rfl ?_ rfl
  refine j0 G C (by kernel_rfl) rfl rfl rfl (by decide) ?_
  refine a9.cons ?_ ?_
  refine ad3 ?_ rfl
  refine a9.cons ?_ ?_
  exact (d9 (by kernel_rfl))
  refine a9.cons ?_ ?_
  exact (d9 (by kernel_rfl))
  exact a9.nil
  exact a9.nil
  refine a7 ?_ ?_
  refine t6 ?_ ?_ ?_
  refine i5 ?_ ?_ rfl
  refine LkW rfl ?_
  refine af1 (by kernel_rfl) (by kernel_rfl) (.name (by kernel_rfl)) ?_ ?_ ?_
  refine g8 rfl ?_
  refine LvW rfl ?_
  refine w8 ?_ ?_
  refine LkW rfl ?_
  refine as6 ?_ ?_
  exact (b6 (by kernel_rfl))
  refine LkW rfl ?_
  exact b7
  refine LkW rfl ?_
  refine as6 ?_ ?_
  exact (b6 (by kernel_rfl))
  refine LkW rfl ?_
  exact b7
  exact a9.nil
  refine j0 G C (by kernel_rfl) rfl rfl rfl (by decide) ?_
  refine a9.cons ?_ ?_
  exact (d9 (by kernel_rfl))
  exact a9.nil
  refine LkW rfl ?_
  refine ad3 ?_ rfl
  refine a9.cons ?_ ?_
  exact (d9 (by kernel_rfl))
  refine a9.cons ?_ ?_
  exact (d9 (by kernel_rfl))
  exact a9.nil
  refine a7 ?_ ?_
  refine ab6 rfl ?_
  refine ad3 ?_ rfl
  exact a9.nil
  exact b9
  exact b9
  refine a7 ?_ ?_
  refine ac5 rfl (by kernel_rfl) rfl rfl ?_
  refine w8 ?_ ?_
  exact (b6 (by kernel_rfl))
  exact (b6 (by kernel_rfl))
  exact b9
  refine a7 ?_ ?_
  refine ac5 rfl (by kernel_rfl) rfl rfl ?_
  exact (d9 (by kernel_rfl))
  exact b9
  refine a7 ?_ ?_
  exact (ab2 (by kernel_rfl))
  exact b9
theorem ba6 (G:Glb h₀ mg mb) (C:k7 w h₀ mg k calls):aa4 prog w h₀ k calls fresh (i0 PySem.Challenge.pw_rt0078_01 35).scope (i0 PySem.Challenge.pw_rt0078_01 35).body ai0 :=by
  refine a7 ?_ ?_
  refine t6 ?_ ?_ ?_
  refine i5 ?_ ?_ rfl
  exact (b6 (by kernel_rfl))
  refine LkW rfl ?_
  refine ad3 ?_ rfl
  exact a9.nil
  refine a7 ?_ ?_
  refine ab6 rfl ?_
  exact b7
  exact b9
  exact b9
  refine a7 ?_ ?_
  refine c5 (by kernel_rfl) rfl ?_ rfl
  refine j0 G C (by kernel_rfl) rfl rfl rfl (by decide) ?_
  refine a9.cons ?_ ?_
  refine ay9 ?_ ?_
  exact (b6 (by kernel_rfl))
  refine LkW rfl ?_
  exact b7
  refine a9.cons ?_ ?_
  exact (d9 (by kernel_rfl))
  exact a9.nil
  refine a7 ?_ ?_
  refine ag1 (.name (by kernel_rfl)) rfl ?_ ?_
  refine g8 rfl ?_
  refine LvW rfl ?_
  refine n8 ?_ ?_
  exact (b6 (by kernel_rfl))
  refine LkW rfl ?_
  exact b7
  refine a7 ?_ ?_
  refine t6 ?_ ?_ ?_
  refine i5 ?_ ?_ rfl
  refine LkW rfl ?_
  refine af1 (by kernel_rfl) (by kernel_rfl) (.name (by kernel_rfl)) ?_ ?_ ?_
  refine g8 rfl ?_
  exact (ad8 (by kernel_rfl))
  refine a9.cons ?_ ?_
  refine i5 ?_ ?_ rfl
  exact (b6 (by kernel_rfl))
  exact (b6 (by kernel_rfl))
  exact a9.nil
  exact (d9 (by kernel_rfl))
  refine LkW rfl ?_
  refine ad3 ?_ rfl
  exact a9.nil
  refine a7 ?_ ?_
  refine c5 (by kernel_rfl) rfl ?_ rfl
  refine w5 G (by kernel_rfl) rfl ?_ rfl
  refine a9.cons ?_ ?_
  exact (b6 (by kernel_rfl))
  refine a9.cons ?_ ?_
  refine LkW rfl ?_
  refine w8 ?_ ?_
  refine LkW rfl ?_
  exact b7
  refine LkW rfl ?_
  refine j0 G C (by kernel_rfl) rfl rfl rfl (by decide) ?_
  refine a9.cons ?_ ?_
  refine ay9 ?_ ?_
  exact (b6 (by kernel_rfl))
  refine LkW rfl ?_
  exact b7
  refine a9.cons ?_ ?_
  refine w8 ?_ ?_
  exact (b6 (by kernel_rfl))
  exact (b6 (by kernel_rfl))
  exact a9.nil
  exact a9.nil
  exact b9
  exact b9
  exact b9
  refine a7 ?_ ?_
  exact (ab2 (by kernel_rfl))
  exact b9
theorem dt3 (G:Glb h₀ mg mb) (C:k7 w h₀ mg k calls):aa4 prog w h₀ k calls fresh (i0 PySem.Challenge.pw_rt0078_01 36).scope (i0 PySem.Challenge.pw_rt0078_01 36).body cr4 :=by
  refine a7 ?_ ?_
  refine aj0 (.cons ⟨_,_,rfl,by kernel_rfl⟩ (.cons ⟨_,_,rfl,by kernel_rfl⟩ (.cons ⟨_,_,rfl,by kernel_rfl⟩ .nil))) rfl (by decide) ?_
  refine j0 G C (by kernel_rfl) rfl rfl rfl (by decide) ?_
  refine a9.cons ?_ ?_
  exact (d9 (by kernel_rfl))
  exact a9.nil
  refine a7 ?_ ?_
  refine j9 (by kernel_rfl) (by kernel_rfl) (by kernel_rfl) (.name (by kernel_rfl)) ?_ ?_ ?_
  refine g8 rfl ?_
  exact (ad8 (by kernel_rfl))
  exact a9.nil
  refine j0 G C (by kernel_rfl) rfl rfl rfl (by decide) ?_
  refine a9.cons ?_ ?_
  exact (d9 (by kernel_rfl))
  refine a9.cons ?_ ?_
  exact (d9 (by kernel_rfl))
  exact a9.nil
  refine a7 ?_ ?_
  refine j9 (by kernel_rfl) (by kernel_rfl) (by kernel_rfl) (.name (by kernel_rfl)) ?_ ?_ ?_
  refine g8 rfl ?_
  exact (ad8 (by kernel_rfl))
  exact a9.nil
  refine j0 G C (by kernel_rfl) rfl rfl rfl (by decide) ?_
  refine a9.cons ?_ ?_
  exact (d9 (by kernel_rfl))
  refine a9.cons ?_ ?_
  exact (d9 (by kernel_rfl))
  exact a9.nil
  refine a7 ?_ ?_
  refine c5 (by kernel_rfl) rfl ?_ rfl
  refine ad3 ?_ rfl
  refine a9.cons ?_ ?_
  exact a8
  refine a9.cons ?_ ?_
  exact a8
  refine a9.cons ?_ ?_
  exact a8
  refine a9.cons ?_ ?_
  exact a8
  exact a9.nil
  refine a7 ?_ ?_
  refine c5 (by kernel_rfl) rfl ?_ rfl
  refine j0 G C (by kernel_rfl) rfl rfl rfl (by decide) ?_
  refine a9.cons ?_ ?_
  exact (d9 (by kernel_rfl))
  refine a9.cons ?_ ?_
  refine w8 ?_ ?_
  exact (b6 (by kernel_rfl))
  exact (b6 (by kernel_rfl))
  exact a9.nil
  refine a7 ?_ ?_
  refine ae4 G (by kernel_rfl) (by kernel_rfl) (by kernel_rfl) (.tup (.cons ⟨_,_,rfl,by kernel_rfl⟩ (.cons ⟨_,_,rfl,by kernel_rfl⟩ (.cons ⟨_,_,rfl,by kernel_rfl⟩ .nil))) (by decide)) ?_ ?_ ?_
  refine bx2 G (by kernel_rfl) rfl ?_ rfl
  refine a9.cons ?_ ?_
  refine ay9 ?_ ?_
  exact (b6 (by kernel_rfl))
  refine LkW rfl ?_
  exact b7
  refine a9.cons ?_ ?_
  exact (d9 (by kernel_rfl))
  refine a9.cons ?_ ?_
  exact (d9 (by kernel_rfl))
  exact a9.nil
  exact (d9 (by kernel_rfl))
  refine ad3 ?_ rfl
  refine a9.cons ?_ ?_
  refine co3 ?_ ?_ ?_
  refine i5 ?_ ?_ rfl
  exact (b6 (by kernel_rfl))
  exact (b6 (by kernel_rfl))
  exact b7
  exact b7
  exact a9.nil
  refine a7 ?_ ?_
  refine aj0 (.cons ⟨_,_,rfl,by kernel_rfl⟩ (.cons ⟨_,_,rfl,by kernel_rfl⟩ .nil)) rfl (by decide) ?_
  refine j0 G C (by kernel_rfl) rfl rfl rfl (by decide) ?_
  refine a9.cons ?_ ?_
  exact (d9 (by kernel_rfl))
  refine a9.cons ?_ ?_
  refine w8 ?_ ?_
  exact (b6 (by kernel_rfl))
  exact (b6 (by kernel_rfl))
  refine a9.cons ?_ ?_
  exact (d9 (by kernel_rfl))
  exact a9.nil
  refine a7 ?_ ?_
  refine t6 ?_ ?_ ?_
  refine i5 ?_ ?_ rfl
  refine LkW rfl ?_
  refine j0 G C (by kernel_rfl) rfl rfl rfl (by decide) ?_
  refine a9.cons ?_ ?_
  refine as6 ?_ ?_
  exact (b6 (by kernel_rfl))
  refine LkW rfl ?_
  exact b7
  refine a9.cons ?_ ?_
  exact (d9 (by kernel_rfl))
  exact a9.nil
  refine LkW rfl ?_
  refine ax9 ?_ rfl
  refine a9.cons ?_ ?_
  exact (d9 (by kernel_rfl))
  refine a9.cons ?_ ?_
  exact (d9 (by kernel_rfl))
  exact a9.nil
  refine a7 ?_ ?_
  refine ab6 rfl ?_
  exact bv4
  exact b9
  exact b9
  refine a7 ?_ ?_
  refine j9 (by kernel_rfl) (by kernel_rfl) (by kernel_rfl) (.name (by kernel_rfl)) ?_ ?_ ?_
  refine g8 rfl ?_
  refine LvW rfl ?_
  refine ay9 ?_ ?_
  exact (b6 (by kernel_rfl))
  refine LkW rfl ?_
  exact b7
  refine a9.cons ?_ ?_
  refine i5 ?_ ?_ rfl
  refine LkW rfl ?_
  refine n8 ?_ ?_
  exact (b6 (by kernel_rfl))
  exact (b6 (by kernel_rfl))
  refine LkW rfl ?_
  refine ad3 ?_ rfl
  refine a9.cons ?_ ?_
  exact b7
  exact a9.nil
  exact a9.nil
  exact (d9 (by kernel_rfl))
  refine a7 ?_ ?_
  refine j9 (by kernel_rfl) (by kernel_rfl) (by kernel_rfl) (.name (by kernel_rfl)) ?_ ?_ ?_
  refine g8 rfl ?_
  refine LvW rfl ?_
  refine ay9 ?_ ?_
  exact (b6 (by kernel_rfl))
  refine LkW rfl ?_
  exact b7
  refine a9.cons ?_ ?_
  refine i5 ?_ ?_ rfl
  refine LkW rfl ?_
  refine n8 ?_ ?_
  exact (b6 (by kernel_rfl))
  exact (b6 (by kernel_rfl))
  refine LkW rfl ?_
  refine ad3 ?_ rfl
  refine a9.cons ?_ ?_
  exact b7
  exact a9.nil
  exact a9.nil
  exact (d9 (by kernel_rfl))
  refine a7 ?_ ?_
  refine c5 (by kernel_rfl) rfl ?_ rfl
  refine j0 G C (by kernel_rfl) rfl rfl rfl (by decide) ?_
  refine a9.cons ?_ ?_
  exact (d9 (by kernel_rfl))
  refine a9.cons ?_ ?_
  exact (d9 (by kernel_rfl))
  exact a9.nil
  refine a7 ?_ ?_
  refine ab6 rfl ?_
  refine dx4 rfl rfl ?_
  refine a9.cons ?_ ?_
  refine dr5 ?_ ?_ rfl
  refine LkW rfl ?_
  refine w5 G (by kernel_rfl) rfl ?_ rfl
  refine a9.cons ?_ ?_
  exact (b6 (by kernel_rfl))
  exact a9.nil
  refine LkW rfl ?_
  refine w5 G (by kernel_rfl) rfl ?_ rfl
  refine a9.cons ?_ ?_
  exact (b6 (by kernel_rfl))
  exact a9.nil
  refine a9.cons ?_ ?_
  refine dr5 ?_ ?_ rfl
  refine LkW rfl ?_
  refine j0 G C (by kernel_rfl) rfl rfl rfl (by decide) ?_
  refine a9.cons ?_ ?_
  exact (d9 (by kernel_rfl))
  refine a9.cons ?_ ?_
  refine ad3 ?_ rfl
  exact a9.nil
  exact a9.nil
  exact (b6 (by kernel_rfl))
  exact a9.nil
  exact b9
end
end
section
open PySem.Calls PySem.SeqAt
noncomputable def ct4 (n:Nat) (is:List Nat) (iv:Option Nat) (ds:List D):Rho:=match iv with
  | none=>al4 (List.replicate n none) is ds
  | some i=>(al4 (List.replicate n none) is (ds.take is.length)).set i (some (.fr,.tuple (ds.drop is.length)))
noncomputable def eo2:Fl→Option D
  | .ret _ d=>some d
  | _=>none
noncomputable def ad2 (calls:String→List D→Option D) (fresh:String→Bool) (n:Nat) (is:List Nat) (iv:Option Nat) (ir:List SI) (ds:List D):Option D:=
  gd (decide (is.length≤ds.length) && (iv.isSome || ds.length == is.length) && sz ds.length) (do
    let p ← execs calls fresh ir (ct4 n is iv ds)
    eo2 p.1)
theorem bt5 {f:Fl} {d:D} (h:eo2 f=some d):∃ b,f = .ret b d:=by
  cases f with
  | ret b e=>cases h;exact ⟨b,rfl⟩
  | _=>cases h
section
variable {w:World} {h₀:Heap} {mg mb:Str→Option Value} {k:Nat} {calls:String→List D→Option D} {fresh:String→Bool} {sc:Scope}
inductive bs9 (mg:Str→Option Value) (h₀:Heap) (d:DefRec):Prop
  | mk (a o pm code doc:_) (h1:mg d.name=some (.ref a)) (h2:h₀.get? a=some o) (h3:o.data = .func (docDef d.name d.params d.body d.scope pm code doc)) (h4:h₀.CodeRec code d.name)
theorem cs6 (sc:Scope):al6 sc=List.replicate sc.names.length none:=by
  unfold al6;exact List.map_const' ..
theorem ac3.le {j:Nat} {f:String} {sp:List D→Option D} (h:ac3 w h₀ mg j f sp) (hjk:j≤k):ac3 w h₀ mg k f sp:=by
  obtain ⟨fa,o,fd,h1,h2,h3,h4⟩:=h
  exact ⟨fa,o,fd,h1,h2,h3,fun A s B vs ds d rm stk kp hb ht r hs=>h4 (rm.le hjk) stk kp hb ht r hs⟩
noncomputable def c6:List (String×(List D→Option D))→String→List D→Option D
  | [],_=>fun ξ=>none
  | p :: l,f=>if f=p.1 then p.2 else c6 l f
theorem aq5 {l:List (String×(List D→Option D))} (h:∀ p∈l,ea3 p.1=false→ac3 w h₀ mg k p.1 p.2):k7 w h₀ mg k (c6 l):=fun f ds d hO hd=>by
  have key:∀ l:List (String×(List D→Option D)),(∀ p∈l,ea3 p.1=false→ac3 w h₀ mg k p.1 p.2)→c6 l f ds=some d→ac3 w h₀ mg k f (c6 l f):=by
    intro l
    induction l with
    | nil=>intro _ hd;simp [c6] at hd
    | cons p l ih=>
      intro h hd
      by_cases e:f=p.1
      · subst e
        have:c6 (p :: l) p.1=p.2:=by simp [c6]
        rw [this];exact h p (by simp) hO
      · have:c6 (p :: l) f=c6 l f:=by
          show (if f=p.1 then p.2 else c6 l f)=_
          rw [if_neg e]
        rw [this] at hd⊢
        exact ih (fun q hq=>h q (by simp [hq])) hd
  exact key l h hd
end
end
section
open PySem.Calls PySem.SeqAt
noncomputable def cc4 (d:DefRec):List Str:=d.params.args.map (·.arg)
noncomputable def cn2 (d:DefRec) (f:String) (is:List Nat) (n:Nat):Bool:=
  (Str.ofString f == d.name && d.scope.names.length == n) && (eb2 d.scope.kind && decide ((d.scope.names.map (·.1)).Nodup) && d.scope.names.all (fun p=>p.2 != .free)) && (!d.scope.isCoroutine && !d.scope.isGenerator) && ((cc4 d).map (l7 d.scope) == is.map some)
theorem bs3 {α β:Type} [BEq α] [LawfulBEq α]:∀ {l:List (α×β)} {x:α} {v:β},l.lookup x=some v→(x,v)∈l
  | [],_,_,h=>by simp at h
  | (a,b) :: l,x,v,h=>by
    rw [List.lookup_cons] at h
    split at h
    · rename_i e
      cases h
      have:x=a:=by simpa using e
      subst this;simp
    · exact List.mem_cons_of_mem _ (bs3 h)
section
variable {w:World} {h₀:Heap} {mg mb:Str→Option Value} {k:Nat} {calls:String→List D→Option D} {fresh:String→Bool} {sc:Scope}
theorem cn3:∀ {xs:List Str} {is:List Nat},xs.map (l7 sc)=is.map some→a9 (fun x i=>l7 sc x=some i) xs is
  | [],[],_=>.nil
  | x :: xs,i :: is,h=>.cons (List.cons.inj h).1 (cn3 (List.cons.inj h).2)
structure em5 (d:DefRec) (f:String) (is:List Nat) (n:Nat):Prop where
  name:Str.ofString f=d.name
  len:d.scope.names.length=n
  fs:FnS d.scope
  co:d.scope.isCoroutine=false
  gen:d.scope.isGenerator=false
  pars:a9 (fun x i=>l7 d.scope x=some i) (cc4 d) is
theorem cg0 {d:DefRec} {f:String} {is:List Nat} {n:Nat} (h:cn2 d f is n=true):em5 d f is n:=by
  obtain ⟨h,h4⟩:=b8 h
  obtain ⟨h,h3⟩:=b8 h
  obtain ⟨h1,h2⟩:=b8 h
  obtain ⟨h2,h5⟩:=b8 h2
  refine ⟨ad9 (b8 h1).1,ad9 (b8 h1).2,⟨?_,of_decide_eq_true (b8 h2).2,fun x hx=>?_⟩,(Bool.not_eq_true' _).mp (b8 h3).1,(Bool.not_eq_true' _).mp (b8 h3).2,cn3 (ad9 h4)⟩
  · have q:=(b8 h2).1
    cases e:d.scope.kind <;> rw [e] at q <;> first | rfl | cases q
  · have q:(NameKind.free != NameKind.free)=true:=List.all_eq_true.mp h5 _ (bs3 hx)
    exact absurd q (by decide)
noncomputable abbrev bw1 (d:DefRec) (n:Nat):Prop:=∀ (pm cd doc:Value) (vs:List Value),vs.length=n→bindArgs (docDef d.name d.params d.body d.scope pm cd doc) ⟨vs,[]⟩=pure ((cc4 d).zip vs)
theorem au7 {d:DefRec} (h:∀ (pm cd doc a:Value),bindArgs (docDef d.name d.params d.body d.scope pm cd doc) ⟨[a],[]⟩=pure ((cc4 d).zip [a])):bw1 d 1:=fun pm cd doc vs e=>an4 e fun a ξ e=>bx8 e (h pm cd doc a)
theorem bj6 {d:DefRec} (h:∀ (pm cd doc a b:Value),bindArgs (docDef d.name d.params d.body d.scope pm cd doc) ⟨[a,b],[]⟩=pure ((cc4 d).zip [a,b])):bw1 d 2:=fun pm cd doc vs e=>an4 e fun a ξ e=>an4 e fun b ξ e=>bx8 e (h pm cd doc a b)
theorem er2 {d:DefRec} (h:∀ (pm cd doc a b c:Value),bindArgs (docDef d.name d.params d.body d.scope pm cd doc) ⟨[a,b,c],[]⟩=pure ((cc4 d).zip [a,b,c])):bw1 d 3:=fun pm cd doc vs e=>an4 e fun a ξ e=>an4 e fun b ξ e=>an4 e fun c ξ e=>bx8 e (h pm cd doc a b c)
theorem bb3 {d:DefRec} {f:String} {is:List Nat} {n:Nat} (H:em5 d f is n):al6 d.scope=List.replicate n none:=by rw [cs6,H.len]
theorem cb6 {f:String} {d:DefRec} {is:List Nat} {n:Nat} {sp:List D→Option D} {F:Rho→Option (Fl×Rho)} (G:Glb h₀ mg mb) (H:bs9 mg h₀ d) (hB:cn2 d f is n=true) (hb:bw1 d is.length)
    (hbody:ck5 prog w h₀ k d.scope (PySem.execs d.body) F)
    (hsp:∀ ds e,sp ds=some e→ds.length=is.length∧∃ b r',F (ct4 n is none ds)=some (.ret b e,r')):ac3 w h₀ mg (k+1) f sp:=by
  have T:=cg0 hB
  obtain ⟨fa,o,pm,code,doc,h1,h2,h3,h4⟩:=H
  refine ej2 G (by rw [T.name];exact h1) h2 h3 h4 T.fs T.co T.gen (fun vs e=>hb pm code doc vs (e.trans (aq3 T.pars))) T.pars hbody fun ds d' hs=>?_
  rw [bb3 T]
  exact hsp ds d' hs
theorem aa0 {f:String} {d:DefRec} {is:List Nat} {ir:List SI} {n:Nat} (G:Glb h₀ mg mb) (H:bs9 mg h₀ d) (hB:cn2 d f is n=true) (hb:bw1 d is.length)
    (hbody:aa4 prog w h₀ k calls fresh d.scope d.body ir):ac3 w h₀ mg (k+1) f (ad2 calls fresh n is none ir):=cb6 G H hB hb hbody fun ds e h=>by
  obtain ⟨hc,h⟩:=g6 h
  obtain ⟨⟨fl,r'⟩,he,h⟩:=a6 h
  obtain ⟨b,rfl⟩:=bt5 h
  exact ⟨ad9 (b8 (b8 hc).1).2,b,r',he⟩
theorem dy5 {f:String} {d:DefRec} {x y:Str} {i j:Nat} {ir:List SI} {n:Nat} (G:Glb h₀ mg mb) (H:bs9 mg h₀ d) (hB:cn2 d f [i] n=true) (hx:cc4 d=[x]) (hy:l7 d.scope y=some j)
    (hb:∀ (pm cd doc v:Value) (vs:List Value),bindArgs (docDef d.name d.params d.body d.scope pm cd doc) ⟨v :: vs,[]⟩=(do let t ← newTuple vs;pure [(x,v),(y,t)]))
    (hbody:aa4 prog w h₀ k calls fresh d.scope d.body ir):ac3 w h₀ mg (k+1) f (ad2 calls fresh n [i] (some j) ir):=by
  have T:=cg0 hB
  obtain ⟨fa,o,pm,code,doc,h1,h2,h3,h4⟩:=H
  have hp:=T.pars
  rw [hx] at hp
  cases hp with
  | cons p1 _=>
  refine ej3 G (by rw [T.name];exact h1) h2 h3 h4 T.fs T.co T.gen (hb pm code doc) p1 hy hbody fun ds e h=>?_
  obtain ⟨hc,h⟩:=g6 h
  obtain ⟨⟨fl,r'⟩,he,h⟩:=a6 h
  obtain ⟨b,rfl⟩:=bt5 h
  cases ds with
  | nil=>cases (b8 (b8 hc).1).1
  | cons a as=>
    refine ⟨a,as,rfl,decide_eq_true (Nat.le_of_succ_le (of_decide_eq_true (b8 hc).2)),b,r',?_⟩
    rw [bb3 T]
    exact he
end
end
section
open PySem.Calls PySem.SeqAt
noncomputable abbrev P2:Program:=PySem.Challenge.pw_rt0078_01
noncomputable def fr2 (_:String):Bool:=false
noncomputable def br2 (ds:List D):Option D:=do
  let x ← aa8 (← one ds)
  some (.str x)
section
variable {w:World} {h₀:Heap} {mg mb:Str→Option Value} {k:Nat} {calls:String→List D→Option D} {fresh:String→Bool}
theorem bx7 (G:Glb h₀ mg mb) (H:bs9 mg h₀ (i0 P2 9)):ac3 w h₀ mg (k+1) "fspath" br2:=by
  refine cb6 (is:=[0]) (n:=14) (F:=fun r=>do let d ← bt6 (r.get 0);let u ← aa8 d;some (.ret false (.str u),r)) G H (by kernel_rfl) (au7 fun ξ ξ ξ ξ=>by kernel_rfl) (cm7 (j:=1) G (by kernel_rfl) (by kernel_rfl) (by kernel_rfl) (by decide +kernel) (by kernel_rfl) rfl (by kernel_rfl) rfl (by kernel_rfl) rfl (by kernel_rfl) rfl) fun ds e h=>?_
  obtain ⟨d,h1,h⟩:=a6 h
  obtain ⟨u,h2,h⟩:=a6 h
  cases h
  obtain rfl:=aj7 h1
  obtain rfl:=n9 h2
  exact ⟨rfl,false,_,rfl⟩
theorem eh9 (G:Glb h₀ mg mb) (H:bs9 mg h₀ (i0 P2 18)):ac3 w h₀ mg (k+1) "sorted_list_difference" cj3:=by
  refine cb6 (is:=[0,1]) (n:=9) (F:=er8) G H (by kernel_rfl) (bj6 fun ξ ξ ξ ξ ξ=>by kernel_rfl) (dj7 (xn:="expected") (yn:="actual") (iN:="i") (jN:="j") (mN:="missing") (uN:="unexpected") (eN:="e") (aN:="a") (xN:="IndexError") G ?_ ⟨by kernel_rfl,by kernel_rfl,by kernel_rfl,by kernel_rfl,by kernel_rfl,by kernel_rfl,by kernel_rfl,by kernel_rfl⟩ (by kernel_rfl) rfl) fun ds e h=>?_
  · refine ⟨_,_,_,_,_,_,_,_,_,_,_,_,_,_,_,_,_,_,_,_,_,_,_,_,_,_,rfl,?_,?_,?_⟩
    · exact ⟨_,_,_,_,_,_,_,_,_,_,_,_,_,_,rfl,⟨_,_,_,_,_,rfl⟩,⟨_,_,_,_,_,rfl⟩,⟨_,_,_,rfl⟩,⟨_,_,_,_,_,rfl,rfl⟩,⟨_,_,_,_,rfl⟩,⟨_,_,_,_,_,_,_,rfl⟩,⟨_,_,_,rfl⟩,⟨_,_,_,_,_,rfl,rfl⟩,⟨_,_,_,_,rfl⟩,⟨_,_,_,_,_,_,_,rfl⟩,⟨_,_,_,_,rfl⟩,
        ⟨_,_,_,_,rfl,⟨_,_,_,_,_,_,_,rfl⟩,⟨_,_,_,_,rfl⟩,⟨_,_,_,_,_,_,_,rfl⟩⟩⟩
    · exact ⟨_,_,_,_,_,_,_,_,rfl,rfl⟩
    · exact ⟨_,_,_,_,_,_,_,_,rfl,rfl⟩
  · obtain ⟨X,Y,rfl,h1,h2,h3,rfl⟩:=by7 h
    refine ⟨rfl,false,[],?_⟩
    show (cj3 [LS X,LS Y]).map _=_
    rw [h];rfl
end
end
section
open PySem.Calls PySem.SeqAt
noncomputable def at0:List D→Option D:=ad2 (c6 []) fr2 3 [0] none bj1
noncomputable def af6:List D→Option D:=ad2 (c6 []) fr2 4 [0] none ar1
noncomputable def ae7:List D→Option D:=ad2 (c6 []) fr2 4 [0] none ao2
noncomputable def aa2:List D→Option D:=ad2 (c6 []) fr2 4 [0] none ah0
noncomputable def aa9:List D→Option D:=ad2 (c6 []) fr2 4 [0] none ai7
noncomputable def aa3:List D→Option D:=ad2 (c6 []) fr2 4 [0] none ah4
noncomputable def ae2:List D→Option D:=ad2 (c6 []) fr2 14 [0] none ap9
noncomputable def ad7:List D→Option D:=ad2 (c6 []) fr2 3 [0,1] none au1
noncomputable def an6:List D→Option D:=ad2 (c6 []) fr2 19 [0,1,2] none aw4
noncomputable def L2a:List (String×(List D→Option D)):=[("fspath",br2),("sorted_list_difference",cj3),("_get_sep",at0),("_escape_cdata",af6),("_escape_attrib",ae7),("_escape_attrib_html",aa2),("_escape_cdata_c14n",aa9),("_escape_attrib_c14n",aa3),("_law_drawn",ae2),("_law_told",ad7),("_law_due",an6)]
noncomputable def bs5:List D→Option D:=ad2 (c6 L2a) fr2 11 [0] (some 1) cy5
noncomputable def ae5:List D→Option D:=ad2 (c6 L2a) fr2 7 [0] none bn6
noncomputable def ah8:List D→Option D:=ad2 (c6 L2a) fr2 23 [0] none ap4
noncomputable def z8:List D→Option D:=ad2 (c6 L2a) fr2 7 [0,1] none al3
noncomputable def L2b:List (String×(List D→Option D)):=[("join",bs5),("dirname",ae5),("commonpath",ah8),("_law_written",z8)] ++ L2a
noncomputable def ak7:List D→Option D:=ad2 (c6 L2b) fr2 6 [0,1] none at8
noncomputable def ag9:List D→Option D:=ad2 (c6 L2b) fr2 6 [0] none ap8
noncomputable def ak6:List D→Option D:=ad2 (c6 L2b) fr2 11 [0,1] none as3
noncomputable def L2c:List (String×(List D→Option D)):=[("_law_laid",ak7),("_law_chain",ag9),("_law_rule",ak6)] ++ L2b
noncomputable def al0:List D→Option D:=ad2 (c6 L2c) fr2 12 [0,1] none at9
noncomputable def am5 (mg:Str→Option Value) (h₀:Heap):Prop:=∀ i∈[9,13,14,15,16,18,21,22,23,24,25,27,28,29,30,31,32,33,34,35,36],bs9 mg h₀ (i0 P2 i)
section
variable {w:World} {h₀:Heap} {mg mb:Str→Option Value} {k:Nat}
theorem ap5:k7 w h₀ mg k (c6 []):=aq5 fun p hp ξ=>by cases hp
theorem cs4 (G:Glb h₀ mg mb) (H:am5 mg h₀):ac3 w h₀ mg (k+1) "_get_sep" at0:=aa0 G (H 13 (by decide)) (by kernel_rfl) (au7 fun ξ ξ ξ ξ=>by kernel_rfl) (ce7 G ap5)
theorem bk5 (G:Glb h₀ mg mb) (H:am5 mg h₀):ac3 w h₀ mg (k+1) "_escape_cdata" af6:=aa0 G (H 21 (by decide)) (by kernel_rfl) (au7 fun ξ ξ ξ ξ=>by kernel_rfl) (be1 G ap5)
theorem bg3 (G:Glb h₀ mg mb) (H:am5 mg h₀):ac3 w h₀ mg (k+1) "_escape_attrib" ae7:=aa0 G (H 22 (by decide)) (by kernel_rfl) (au7 fun ξ ξ ξ ξ=>by kernel_rfl) (bc5 G ap5)
theorem av1 (G:Glb h₀ mg mb) (H:am5 mg h₀):ac3 w h₀ mg (k+1) "_escape_attrib_html" aa2:=aa0 G (H 23 (by decide)) (by kernel_rfl) (au7 fun ξ ξ ξ ξ=>by kernel_rfl) (ar9 G ap5)
theorem ax0 (G:Glb h₀ mg mb) (H:am5 mg h₀):ac3 w h₀ mg (k+1) "_escape_cdata_c14n" aa9:=aa0 G (H 24 (by decide)) (by kernel_rfl) (au7 fun ξ ξ ξ ξ=>by kernel_rfl) (at5 G ap5)
theorem av4 (G:Glb h₀ mg mb) (H:am5 mg h₀):ac3 w h₀ mg (k+1) "_escape_attrib_c14n" aa3:=aa0 G (H 25 (by decide)) (by kernel_rfl) (au7 fun ξ ξ ξ ξ=>by kernel_rfl) (aq4 G ap5)
theorem cb1 (G:Glb h₀ mg mb) (H:am5 mg h₀):ac3 w h₀ mg (k+1) "_law_drawn" ae2:=aa0 G (H 27 (by decide)) (by kernel_rfl) (au7 fun ξ ξ ξ ξ=>by kernel_rfl) (br5 G ap5)
theorem ch4 (G:Glb h₀ mg mb) (H:am5 mg h₀):ac3 w h₀ mg (k+1) "_law_told" ad7:=aa0 G (H 28 (by decide)) (by kernel_rfl) (bj6 fun ξ ξ ξ ξ ξ=>by kernel_rfl) (bv5 G ap5)
theorem co5 (G:Glb h₀ mg mb) (H:am5 mg h₀):ac3 w h₀ mg (k+1) "_law_due" an6:=aa0 G (H 32 (by decide)) (by kernel_rfl) (er2 fun ξ ξ ξ ξ ξ ξ=>by kernel_rfl) (cd1 G ap5)
theorem l2a (G:Glb h₀ mg mb) (H:am5 mg h₀):∀ p∈L2a,ac3 w h₀ mg (k+1) p.1 p.2:=by
  intro p hp
  simp only [L2a,List.mem_cons,List.not_mem_nil,or_false] at hp
  rcases hp with rfl | rfl | rfl | rfl | rfl | rfl | rfl | rfl | rfl | rfl | rfl
  · exact bx7 G (H 9 (by decide))
  · exact eh9 G (H 18 (by decide))
  · exact cs4 G H
  · exact bk5 G H
  · exact bg3 G H
  · exact av1 G H
  · exact ax0 G H
  · exact av4 G H
  · exact cb1 G H
  · exact ch4 G H
  · exact co5 G H
theorem eh8 (G:Glb h₀ mg mb) (H:am5 mg h₀) (C:k7 w h₀ mg k (c6 L2a)):ac3 w h₀ mg (k+1) "join" bs5:=dy5 G (H 14 (by decide)) (by kernel_rfl) rfl (y:="p") (by kernel_rfl) (fun ξ ξ ξ ξ vs=>by cases vs <;> kernel_rfl) (dq0 G C)
theorem df0 (G:Glb h₀ mg mb) (H:am5 mg h₀) (C:k7 w h₀ mg k (c6 L2a)):ac3 w h₀ mg (k+1) "dirname" ae5:=aa0 G (H 15 (by decide)) (by kernel_rfl) (au7 fun ξ ξ ξ ξ=>by kernel_rfl) (cg8 G C)
theorem co7:c6 L2a "fspath"=br2:=by kernel_rfl
theorem cd5 (G:Glb h₀ mg mb) (H:am5 mg h₀) (C:k7 w h₀ mg (k+2) (c6 L2a)):ac3 w h₀ mg (k+3) "commonpath" ah8:=aa0 G (H 16 (by decide)) (by kernel_rfl) (au7 fun ξ ξ ξ ξ=>by kernel_rfl) (bs2 G C (Nat.le_refl (k+1+1)) (by rw [co7];exact bx7 G (H 9 (by decide))))
theorem bp2 (G:Glb h₀ mg mb) (H:am5 mg h₀) (C:k7 w h₀ mg k (c6 L2a)):ac3 w h₀ mg (k+1) "_law_written" z8:=aa0 G (H 29 (by decide)) (by kernel_rfl) (bj6 fun ξ ξ ξ ξ ξ=>by kernel_rfl) (bi1 G C)
theorem l2b (G:Glb h₀ mg mb) (H:am5 mg h₀):∀ p∈L2b,ac3 w h₀ mg (k+4) p.1 p.2:=by
  have C:k7 w h₀ mg (k+2) (c6 L2a):=aq5 fun p hp ξ=>l2a G H p hp
  intro p hp
  rcases List.mem_append.mp hp with hp | hp
  · simp only [List.mem_cons,List.not_mem_nil,or_false] at hp
    rcases hp with rfl | rfl | rfl | rfl
    · exact (eh8 G H C).le (by lia)
    · exact (df0 G H C).le (by lia)
    · exact (cd5 G H C).le (by lia)
    · exact (bp2 G H C).le (by lia)
  · exact l2a G H p hp
theorem ch1 (G:Glb h₀ mg mb) (H:am5 mg h₀) (C:k7 w h₀ mg k (c6 L2b)):ac3 w h₀ mg (k+1) "_law_laid" ak7:=aa0 G (H 30 (by decide)) (by kernel_rfl) (bj6 fun ξ ξ ξ ξ ξ=>by kernel_rfl) (bu6 G C)
theorem cf6 (G:Glb h₀ mg mb) (H:am5 mg h₀) (C:k7 w h₀ mg k (c6 L2b)):ac3 w h₀ mg (k+1) "_law_chain" ag9:=aa0 G (H 33 (by decide)) (by kernel_rfl) (au7 fun ξ ξ ξ ξ=>by kernel_rfl) (bp4 G C)
theorem ci4 (G:Glb h₀ mg mb) (H:am5 mg h₀) (C:k7 w h₀ mg k (c6 L2b)):ac3 w h₀ mg (k+1) "_law_rule" ak6:=aa0 G (H 31 (by decide)) (by kernel_rfl) (bj6 fun ξ ξ ξ ξ ξ=>by kernel_rfl) (bu9 G C)
theorem l2c (G:Glb h₀ mg mb) (H:am5 mg h₀):∀ p∈L2c,ac3 w h₀ mg (k+6) p.1 p.2:=by
  have C:k7 w h₀ mg (k+5) (c6 L2b):=aq5 fun p hp ξ=>l2b G H p hp
  intro p hp
  rcases List.mem_append.mp hp with hp | hp
  · simp only [List.mem_cons,List.not_mem_nil,or_false] at hp
    rcases hp with rfl | rfl | rfl
    · exact ch1 G H C
    · exact cf6 G H C
    · exact ci4 G H C
  · exact l2b G H p hp
theorem cm1 (G:Glb h₀ mg mb) (H:am5 mg h₀) (C:k7 w h₀ mg k (c6 L2c)):ac3 w h₀ mg (k+1) "_law_ways" al0:=aa0 G (H 34 (by decide)) (by kernel_rfl) (bj6 fun ξ ξ ξ ξ ξ=>by kernel_rfl) (bv1 G C)
end
end
section
open PySem.Calls PySem.SeqAt
noncomputable def be3:Nat→String→List D→Option D
  | 0=>c6 []
  | n+1=>c6 [("_law_most",ad2 (be3 n) fr2 6 [0,1] none ai0)]
noncomputable def bf5 (n:Nat):List D→Option D:=ad2 (be3 n) fr2 6 [0,1] none ai0
section
variable {w:World} {h₀:Heap} {mg mb:Str→Option Value} {k:Nat} {calls:String→List D→Option D} {fresh:String→Bool}
theorem bp6 (G:Glb h₀ mg mb) (H:am5 mg h₀):∀ n,k7 w h₀ mg (k+n) (be3 n)
  | 0=>ap5
  | n+1=>aq5 fun p hp ξ=>by
    rw [List.mem_singleton] at hp
    subst hp
    exact aa0 G (H 35 (by decide)) (by kernel_rfl) (bj6 fun ξ ξ ξ ξ ξ=>by kernel_rfl) (ba6 G (bp6 G H n))
theorem ei8 (G:Glb h₀ mg mb) (H:am5 mg h₀) (n:Nat):ac3 w h₀ mg (k+n+1) "_law_most" (bf5 n):=
  aa0 G (H 35 (by decide)) (by kernel_rfl) (bj6 fun ξ ξ ξ ξ ξ=>by kernel_rfl) (ba6 G (bp6 G H n))
noncomputable def L2d:List (String×(List D→Option D)):=[("_law_most",bf5 6),("_law_ways",al0)] ++ L2c
noncomputable def cu4:List D→Option D:=ad2 (c6 L2d) fr2 22 [0] none cr4
theorem l2d (G:Glb h₀ mg mb) (H:am5 mg h₀):k7 w h₀ mg (k+7) (c6 L2d):=aq5 fun p hp hO=>by
  rcases List.mem_append.mp hp with hp | hp
  · simp only [List.mem_cons,List.not_mem_nil,or_false] at hp
    rcases hp with rfl | rfl
    · exact ei8 G H 6
    · exact cm1 G H (aq5 fun p hp ξ=>l2c G H p hp)
  · exact (l2c (k:=k) G H p hp).le (by lia)
end
end
section
open PySem.StrLaws PySem.Builtin PySem.Builtin.Str
theorem szl {n:Nat} (h:n≤16777216):sz n=true:=decide_eq_true h
theorem ob {α β:Type} {o:Option α} {f:α→Option β} {a:α} {b:Option β} (h1:o=some a) (h2:f a=b):(o >>= f)=b:=by rw [h1];exact h2
theorem cd9 {α:Type} {o p q:Option α} (h1:o=none) (h2:p=q):o.or p=q:=by rw [h1];exact h2
theorem cf7 {α:Type} {o p:Option α} {a:α} (h1:o=some a):o.or p=some a:=by rw [h1];rfl
theorem s8 {α:Type} {c:Bool} {o p:Option α} (h:c=true) (h2:o=p):gd c o=p:=by rw [h];exact h2
section
variable {calls:String→List D→Option D} {fr:String→Bool} {r r' r2:Rho}
theorem l_e {e:IR} {d:D} (hv:e.v=none) (h:eval calls e r=some d):look calls e r=some d:=by unfold look;rw [hv];exact h
theorem ai8 {i:Nat} {m:af4} {d:D} (h:r.get i=some (m,d)):look calls (.var i) r=some d:=congrArg (Option.map Prod.snd) h
theorem c8 {i:Nat} {r:Rho} {d:D} (h:r.get i=some (.fr,d)):look calls (.var i) r=some d:=ai8 h
theorem g9 {i:Nat} {d:D} (h:r.get i=some (.fr,d)):eval calls (.var i) r=some d:=congrArg bt6 h
theorem ao1 {i:Int}:eval calls (.int i) r=some (.int i):=rfl
theorem ae8 {i:Str}:eval calls (.str i) r=some (.str i):=rfl
theorem j5 {i:Int}:look calls (.int i) r=some (.int i):=rfl
theorem bw5 {i:Str}:look calls (.str i) r=some (.str i):=rfl
theorem f4:ab8 calls [] r=some []:=rfl
theorem c7 {e:IR} {es:List IR} {d:D} {ds:List D} (h1:eval calls e r=some d) (h2:ab8 calls es r=some ds):ab8 calls (e :: es) r=some (d :: ds):=ob h1 (ob h2 rfl)
theorem l0:ao7 calls [] r=some []:=rfl
theorem f8 {e:IR} {es:List IR} {d:D} {ds:List D} (h1:look calls e r=some d) (h2:ao7 calls es r=some ds):ao7 calls (e :: es) r=some (d :: ds):=ob h1 (ob h2 rfl)
theorem y8 {es:List IR} {ds:List D} (h:ab8 calls es r=some ds) (hz:sz ds.length=true):eval calls (.list es) r=some (.list ds):=ob h (s8 hz rfl)
theorem cw7 {es:List IR} {ds:List D} (h:ab8 calls es r=some ds) (hz:sz ds.length=true):eval calls (.tup es) r=some (.tuple ds):=ob h (s8 hz rfl)
theorem ac1 {op:Operator} {a b:IR} {x y d:D} (h1:look calls a r=some x) (h2:look calls b r=some y) (h3:ay1 op x y=some d):eval calls (.bin op a b) r=some d:=ob h1 (ob h2 h3)
theorem bn9 {o:Option Bool} {t:Bool} (h:o=some t):o.map PyData.bool=some (.bool t):=congrArg _ h
theorem ac4 {op:CmpOp} {a b:IR} {x y:D} {t:Bool} (h1:look calls a r=some x) (h2:look calls b r=some y) (h3:bk7 op x y=some t):eval calls (.cmp op a b) r=some (.bool t):=bn9 (ob h1 (ob h2 h3))
theorem y9 {a i:IR} {x y d:D} (h1:look calls a r=some x) (h2:look calls i r=some y) (h3:bk1 x y=some d):eval calls (.idx a i) r=some d:=ob h1 (ob h2 h3)
theorem bi3 {a n:IR} {r:Rho} {x y d:D} (h1:look calls a r=some x) (h2:look calls n r=some y) (h3:aw9 x y=some d):eval calls (.upto a n) r=some d:=ob h1 (ob h2 h3)
theorem bq2 {a n:IR} {x y d:D} (h1:look calls a r=some x) (h2:look calls n r=some y) (h3:bj0 x y=some d):eval calls (.from a n) r=some d:=ob h1 (ob h2 h3)
theorem cp4 {a:IR} {l:List D} {d:D} (h1:look calls a r=some (.list l)) (h3:l.getLast?=some d):eval calls (.last a) r=some d:=ob h1 h3
theorem z9 {f:BF} {es:List IR} {ds:List D} {d:D} (h:ao7 calls es r=some ds) (h2:bfD f ds=some d):eval calls (.bcall f es) r=some d:=ob h h2
theorem bt4 {m:MF} {a:IR} {es:List IR} {x:D} {ds:List D} {d:D} (hm:at2 m=false) (hb:mbD m=none) (h1:look calls a r=some x) (h:ab8 calls es r=some ds) (h2:mfD m x ds=some d):eval calls (.meth m a es) r=some d:=by
  show (bif (mbD m).isSome then _ else (do let x ← look calls a r;let ds ← bif at2 m then ao7 calls es r else ab8 calls es r;mfD m x ds))=_
  rw [hb,hm]
  exact ob h1 (ob h h2)
theorem cc9 {m:MF} {f:Str→Str→Bool} {a e:IR} {x y:Str} (hf:mbD m=some f) (h1:look calls a r=some (.str x)) (h:eval calls e r=some (.str y)):eval calls (.meth m a [e]) r=some (.bool (f x y)):=by
  show (bif (mbD m).isSome then (do let f ← mbD m;let x ← look calls a r;let ds ← ab8 calls [e] r;as9 (fun x y=>some (f x y)) x (← one ds)).map PyData.bool else _)=_
  rw [hf]
  exact bn9 (ob rfl (ob h1 (ob (c7 h f4) rfl)))
theorem cu2 {a:IR} {es:List IR} {x:D} {ds:List D} {d:D} (h1:look calls a r=some x) (h:ao7 calls es r=some ds) (h2:mfD .join x ds=some d):eval calls (.meth .join a es) r=some d:=ob h1 (ob h h2)
theorem w9 {f:String} {es:List IR} {ds:List D} {d:D} (h:ab8 calls es r=some ds) (h2:calls f ds=some d):eval calls (.call f es) r=some d:=ob h h2
theorem ee4 {a:IR} {t:Bool} (h:ac7 calls a r=some t):eval calls (.not a) r=some (.bool (!t)):=bn9 (congrArg (Option.map (!·)) h)
theorem cn9 {a:IR} {ty:String} {x:Str} (h:look calls a r=some (.str x)):eval calls (.isinst a ty) r=some (.bool false):=bn9 (ob h rfl)
theorem da0 {a:IR} {x y s:Str} (h:look calls a r=some (.str s)) (hz:((x != y) && decide (s.length+(s.length+1) * y.length≤16777216))=true):eval calls (.replace a x y) r=some (.str (Txt.replace s x y)):=ob h (ob rfl (s8 hz rfl))
theorem bo6 {ks vs:List IR} {kd vd:List D} {m:List (D×D)} (h1:ab8 calls ks r=some kd) (h2:ab8 calls vs r=some vd) (h3:(kd.all z6 && (kd.length == vd.length && decide (kd.length≤15)))=true) (h4:(kd.zip vd).foldl (fun m e=>ax5 m e.1 e.2) []=m):eval calls (.dict ks vs) r=some (.dict m):=ob h1 (ob h2 (s8 h3 (congrArg (fun m=>some (PyData.dict m)) h4)))
theorem cb4 {c a b:IR} {d:D} (h:ac7 calls c r=some true) (h2:eval calls a r=some d):eval calls (.ite c a b) r=some d:=ob h h2
theorem t_e {e:IR} {d:D} {t:Bool} (hv:bd2 e=true) (h:look calls e r=some d) (h2:bh8 d=some t):ac7 calls e r=some t:=by
  obtain ⟨h3,h4⟩:=b8 hv
  unfold ac7
  cases hb:e.bl with
  | false=>rw [(Bool.not_eq_true' _).mp h3];exact ob h h2
  | true=>
    rw [hb] at h4
    have hn:e.v=none:=by
      cases hn:e.v with
      | none=>rfl
      | some i=>rw [hn] at h4;cases h4
    have h:=cb8 hn h
    unfold eval at h
    rw [hb] at h
    obtain ⟨u,h5,rfl⟩:=ab5 h
    exact h5.trans h2
theorem t_b {e:IR} {t:Bool} (hv:bd2 e=true) (hv2:e.v=none) (h:eval calls e r=some (.bool t)):ac7 calls e r=some t:=t_e hv (l_e hv2 h) rfl
theorem em8:bd6 calls [] r=some true:=rfl
theorem a_t {e:IR} {es:List IR} {b:Option Bool} (h:ac7 calls e r=some true) (h2:bd6 calls es r=b):bd6 calls (e :: es) r=b:=ob h h2
theorem a_f {e:IR} {es:List IR} (h:ac7 calls e r=some false):bd6 calls (e :: es) r=some false:=ob h rfl
theorem o_f {e:IR} {es:List IR} {b:Option Bool} (h:ac7 calls e r=some false) (h2:orE calls es r=b):orE calls (e :: es) r=b:=ob h h2
theorem et6 {es:List IR} {t:Bool} (h:orE calls es r=some t):eval calls (.or es) r=some (.bool t):=bn9 h
theorem cz2 {e:IR} {es:List IR} {d:D} (h:ac7 calls e r=some true) (h2:eval calls (.and es) r=some d):eval calls (.and (e :: es)) r=some d:=(congrArg (Option.map PyData.bool) (a_t h rfl)).trans h2
theorem cz6:eval calls (.and []) r=some (.bool true):=rfl
theorem cj5 {α:Type} {f:Str→Str→Option α} {x:D} {l:List D}:as9 f x (.list l)=none:=by cases x <;> rfl
theorem ch9 {a b:List D} (h1:SeqAt.shaped (.list a)=true) (h2:SeqAt.shaped (.list b)=true):eqD (.list a) (.list b)=some (PyData.eqvAll a b):=cd9 rfl (s8 (f7 h1 h2) rfl)
theorem ck6 (c:Str):bk7 .NotEq (.str c) (.str c)=some false:=by show some (!(c == c))=_;rw [beq_self_eq_true];rfl
theorem do0 {c d:Str} (h:c≠d):bk7 .NotEq (.str c) (.str d)=some true:=by show some (!(c == d))=_;rw [beq_eq_false_iff_ne.mpr h];rfl
theorem ag4 {α β:Type} {f:α→Option β} {g:α→β}:∀ {l:List α},(∀ x∈l,f x=some (g x))→l.mapM f=some (l.map g)
  | [],_=>by simp
  | a :: l,h=>by
    rw [List.mapM_cons,h a (by simp),ag4 (l:=l) fun x hx=>h x (by simp [hx])]
    rfl
theorem as1 {α β:Type} {p:α→Bool} {g:α→β}:∀ {l:List α},(l.map fun x=>if p x then some (g x) else none).filterMap id=(l.filter p).map g
  | []=>rfl
  | a :: l=>by
    rw [List.map_cons,List.filterMap_cons,as1 (l:=l)]
    by_cases h:p a=true <;> simp [h]
theorem da4:aq0 calls [] r=some true:=rfl
theorem ae3 {c:IR} {t:Bool} (h:ac7 calls c r=some t):aq0 calls [c] r=some t:=ob h (by cases t <;> rfl)
theorem ac9 {α:Type} {cap:List (Option Nat)} {tgt:List Nat} {src:IR} {ifs:List IR} {elt:IR} {xs:List α} {g h:α→D} {p:α→Bool} {R:α→Rho} (hi:d7 calls src r=some (xs.map g)) (hb:∀ x∈xs,af0 (ba1 r cap) tgt (g x)=some (R x)) (ht:∀ x∈xs,aq0 calls ifs (R x)=some (p x))
    (he:∀ x∈xs,p x=true→eval calls elt (R x)=some (h x)) (hz:sz xs.length=true):eval calls (.comp cap tgt src ifs elt) r=some (.list ((xs.filter p).map h)):=by
  refine ob hi (ob (a:=xs.map fun x=>if p x then some (h x) else none) ?_ (s8 ?_ ?_))
  · rw [List.mapM_map]
    refine ag4 fun x hx=>ob (hb x hx) (ob (ht x hx) ?_)
    cases q:p x with
    | true=>exact congrArg (Option.map some) (he x hx q)
    | false=>rfl
  · rw [as1,List.length_map]
    exact szl (Nat.le_trans (List.length_filter_le ..) (of_decide_eq_true hz))
  · rw [as1]
theorem ap6 {α:Type} {cap:List (Option Nat)} {tgt:List Nat} {src:IR} {elt:IR} {xs:List α} {g h:α→D} {R:α→Rho} (hi:d7 calls src r=some (xs.map g)) (hb:∀ x∈xs,af0 (ba1 r cap) tgt (g x)=some (R x))
    (he:∀ x∈xs,eval calls elt (R x)=some (h x)) (hz:sz xs.length=true):eval calls (.comp cap tgt src [] elt) r=some (.list (xs.map h)):=by
  have:=ac9 (ifs:=[]) (p:=fun ξ=>true) hi hb (fun x hx=>da4) (fun x hx ξ=>he x hx) hz
  rw [this,List.filter_eq_self.mpr (by simp)]
theorem i_e {e:IR} {d:D} {l:List D} (hv:e.sr=false) (h:look calls e r=some d) (h2:co2 d=some l):d7 calls e r=some l:=by unfold d7;rw [hv];exact ob h h2
theorem aj2 {e:IR} {l:List D} (hv:e.sr=false) (h:look calls e r=some (.list l)):d7 calls e r=some l:=i_e hv h rfl
theorem ad4 {es:List IR} {ds l:List D} (h:ao7 calls es r=some ds) (h2:ax2 ds=some l):d7 calls (.range es) r=some l:=ob h h2
theorem dr6 {e:IR} {l:List D} (h:look calls e r=some (.list l)):d7 calls (.enum e) r=some (aa7 0 l):=ob h rfl
theorem d5 {calls:String→List D→Option D} {fr:String→Bool} {x:Nat} {own:Bool} {e:IR} {r r2:Rho} {d:D} (hv:an7 r e=r) (h:eval calls e r=some d) (hp:r.put x (bif own && be8 fr e then .own else .fr) d=some r2):exec calls fr (.assign x own e) r=some (.next,r2):=by
  rw [← hv] at h hp
  exact ob h (ob hp rfl)
theorem do2 {x:Nat} {e:IR} {a b v:D} (h:look calls e r=some b) (hx:r.get x=some (.fr,a)) (hv:dc4 a b=some v) (hp:r.put x .fr v=some r2):exec calls fr (.aug x .Add e) r=some (.next,r2):=
  ob h (ob (congrArg bt6 hx) (ob hv (ob hp rfl)))
theorem de1 {x:Nat} {e:IR} {a b:Int} (h:look calls e r=some (.int b)) (hx:r.get x=some (.fr,.int a)) (hp:r.put x .fr (.int (a+b))=some r2):exec calls fr (.aug x .Add e) r=some (.next,r2):=do2 h hx rfl hp
theorem al2 {x:Nat} {e:IR} {l:List D} {d:D} (hv:an7 r e=r) (h:eval calls e r=some d) (hx:r.get x=some (.own,.list l)) (hz:sz (l.length+1)=true) (hp:r.put x .own (.list (l ++ [d]))=some r2):exec calls fr (.append x e) r=some (.next,r2):=by
  rw [← hv] at h hx hp
  exact ob h (ob (congrArg ao4 hx) (ob rfl (s8 hz (ob hp rfl))))
theorem bb6 {c:IR} {a b:List SI} {o:Option (Fl×Rho)} (h:ac7 calls c r=some true) (h2:execs calls fr a r=o):exec calls fr (.if_ c a b) r=o:=ob h h2
theorem at1 {c:IR} {a b:List SI} {o:Option (Fl×Rho)} (h:ac7 calls c r=some false) (h2:execs calls fr b r=o):exec calls fr (.if_ c a b) r=o:=ob h h2
theorem dq5 {b:List SI}:exec calls fr (.try_ b) r=execs calls fr b r:=rfl
theorem bi6:execs calls fr [] r=some (.next,r):=rfl
theorem y7 {s:SI} {ss:List SI} {r r':Rho} (h:exec calls fr s r=some (.next,r')):execs calls fr (s :: ss) r=execs calls fr ss r':=ob h rfl
theorem bh2 {s:SI} {ss:List SI} {r r':Rho} {b:Bool} {d:D} (h:exec calls fr s r=some (.ret b d,r')):execs calls fr (s :: ss) r=some (.ret b d,r'):=ob h rfl
theorem y5 {s:SI} {o:Option (Fl×Rho)} (h:exec calls fr s r=o):execs calls fr [s] r=o:=by
  show (do let p ← exec calls fr s r;en2 (execs calls fr []) p)=_
  rw [h]
  match o with
  | none=>rfl
  | some (.next,r')=>rfl
  | some (.brk,r')=>rfl
  | some (.ret b d,r')=>rfl
noncomputable def ah1 (calls:String→List D→Option D) (fr:String→Bool) (tgt:List Nat) (body:List SI) (d:D) (r:Rho):Option (Fl×Rho):=do execs calls fr body (← ai6 r tgt d)
theorem an1 {tgt:List Nat} {src:IR} {body:List SI} {its:List D} {f:Fl} (hi:d7 calls src (di7 r src)=some its) (h:y4 (ah1 calls fr tgt body) its (af3 r src)=some (f,r')) (hu:ag8 r r' src=r2):exec calls fr (.for_ tgt src body) r=some (f,r2):=by
  rw [← hu]
  exact ob hi (ob h rfl)
theorem by2 {x y:Nat} {a b:D} {r1:Rho} (h1:r.put x .fr a=some r1) (h2:r1.put y .fr b=some r2):ai6 r [x,y] (.tuple [a,b])=some r2:=(show as8 r [x,y] [a,b]=some r2 from ob h1 (ob h2 rfl))
theorem ab7 {tgt:List Nat} {body:List SI} {d:D} {o:Option (Fl×Rho)} (h1:ai6 r tgt d=some r') (h2:execs calls fr body r'=o):ah1 calls fr tgt body d r=o:=ob h1 h2
theorem w7 {f:D→Rho→Option (Fl×Rho)} {d:D} {ds:List D} (h:f d r=some (.next,r')):y4 f (d :: ds) r=y4 f ds r':=ob h rfl
theorem cl6 {f:D→Rho→Option (Fl×Rho)} {d:D} {ds:List D} (h:f d r=some (.brk,r')):y4 f (d :: ds) r=some (.next,r'):=ob h rfl
theorem bj9 {f:D→Rho→Option (Fl×Rho)} {α:Type} {g:α→D} {R:Nat→Rho}:∀ {xs:List α} {k:Nat},(∀ i (hi:i < xs.length),f (g xs[i]) (R (k+i))=some (.next,R (k+i+1)))→y4 f (xs.map g) (R k)=some (.next,R (k+xs.length))
  | [],k,_=>rfl
  | x :: xs,k,h=>by
    have h0:f (g x) (R k)=some (.next,R (k+1)):=h 0 (by simp)
    rw [List.map_cons,w7 h0]
    rw [bj9 (xs:=xs) (k:=k+1) fun i hi=>?_]
    · rw [List.length_cons];congr 3;lia
    · have:=h (i+1) (by simpa using hi)
      simp only [List.getElem_cons_succ] at this
      rw [show k+1+i=k+(i+1) by lia];exact this
theorem em6 {e:IR} {d:D} (hv:e.v=none) (h:eval calls e (ax7 r)=some d):exec calls fr (.ret e) r=some (.ret false d,ax7 r):=by
  unfold exec SI.ret
  rw [hv]
  exact ob h rfl
theorem dl2 {i:Nat} {m:af4} {d:D} {b:Bool} (h:r.get i=some (m,d)) (hm:(m = .own∧b=true)∨(m = .fr∧b=false)):exec calls fr (.ret (.var i)) r=some (.ret b d,r):=
  ob h (by rcases hm with ⟨rfl,rfl⟩ | ⟨rfl,rfl⟩ <;> rfl)
theorem aq7 {xs:List Nat} {e:IR} {ds:List D} (hl:2≤xs.length) (h:eval calls e r=some (.tuple ds)) (hp:as8 r xs ds=some r2):exec calls fr (.unpack xs e) r=some (.next,r2):=ob h (ob rfl (ob hp rfl))
end
noncomputable def cl4 (r:Rho):Bool:=r.all fun s=>match s with | some (.own,_)=>false | _=>true
set_option tactic.hygienic true in
theorem da5 {r:Rho} (h:cl4 r=true):ax7 r=r:=by
  have h1:∀ i,r.frz i=r:=fun i=>by
    unfold Rho.frz
    split
    · rename_i d e
      unfold Rho.get at e
      by_cases hi:i < r.length
      · rw [List.getElem?_eq_getElem hi] at e
        have:=List.all_eq_true.mp h _ (List.getElem_mem hi)
        simp only [Option.getD_some] at e
        rw [e] at this;cases this
      · rw [List.getElem?_eq_none (by exact Nat.not_lt.mp ‹_›)] at e;cases e
    · rfl
  have h2:∀ n,frzFrom r n=r:=fun n=>by
    induction n with
    | zero=>rfl
    | succ n ih=>rw [frzFrom,h1,ih]
  exact h2 _
noncomputable def am4 (calls:String→List D→Option D) (fr:String→Bool) (ir:List SI) (r:Rho) (d:D):Prop:=∃ b r',execs calls fr ir r=some (.ret b d,r')
section
variable {calls:String→List D→Option D} {fr:String→Bool} {r r':Rho} {d:D} {ss:List SI}
theorem am4.next {s:SI} (h:exec calls fr s r=some (.next,r')) (h2:am4 calls fr ss r' d):am4 calls fr (s :: ss) r d:=by
  obtain ⟨b,r2,e⟩:=h2
  exact ⟨b,r2,(y7 h).trans e⟩
theorem am4.ret {e:IR} (hv:e.v=none) (h:eval calls e (ax7 r)=some d):am4 calls fr (.ret e :: ss) r d:=⟨_,_,bh2 (em6 hv h)⟩
theorem am4.retN {e:IR} (hv:e.v=none) (hn:cl4 r=true) (h:eval calls e r=some d):am4 calls fr (.ret e :: ss) r d:=.ret hv (by rw [da5 hn];exact h)
theorem am4.retv {i:Nat} {m:af4} (h:r.get i=some (m,d)) (hm:m = .own∨m = .fr):am4 calls fr (.ret (.var i) :: ss) r d:=by
  rcases hm with rfl | rfl
  · exact ⟨true,_,bh2 (dl2 h (.inl ⟨rfl,rfl⟩))⟩
  · exact ⟨false,_,bh2 (dl2 h (.inr ⟨rfl,rfl⟩))⟩
theorem am4.try1 {b:List SI} (h:am4 calls fr b r d):am4 calls fr (.try_ b :: ss) r d:=by
  obtain ⟨t,r2,e⟩:=h
  exact ⟨t,r2,bh2 (dq5.trans e)⟩
theorem am4.if_t {c:IR} {a b:List SI} (h:ac7 calls c r=some true) (h2:am4 calls fr a r d):am4 calls fr (.if_ c a b :: ss) r d:=by
  obtain ⟨t,r2,e⟩:=h2
  exact ⟨t,r2,bh2 (bb6 h e)⟩
theorem am4.if_f {c:IR} {a b:List SI} (h:ac7 calls c r=some false) (h2:am4 calls fr b r d):am4 calls fr (.if_ c a b :: ss) r d:=by
  obtain ⟨t,r2,e⟩:=h2
  exact ⟨t,r2,bh2 (at1 h e)⟩
theorem am4.skip {c:IR} {a:List SI} (h:ac7 calls c r=some false) (h2:am4 calls fr ss r d):am4 calls fr (.if_ c a [] :: ss) r d:=.next (at1 h bi6) h2
end
theorem ac0 {calls:String→List D→Option D} {fr:String→Bool} {n:Nat} {is:List Nat} {iv:Option Nat} {ir:List SI} {ds:List D} {d:D} (h1:(decide (is.length≤ds.length) && (iv.isSome || ds.length == is.length) && sz ds.length)=true) (h3:am4 calls fr ir (ct4 n is iv ds) d) :
    ad2 calls fr n is iv ir ds=some d:=by
  obtain ⟨b,r',h3⟩:=h3
  exact s8 h1 (ob h3 rfl)
end
section
open PySem.StrLaws PySem.Builtin PySem.Builtin.Str
theorem az6 (x:Str):c6 L2a "fspath" [.str x]=some (.str x):=by kernel_rfl
theorem ek3 (x:Str):at0 [.str x]=some (.str "/"):=ac0 rfl (.if_f (t_b rfl rfl (cn9 (c8 rfl))) (.ret rfl ae8))
theorem dq2 (x:Str):c6 L2a "_get_sep" [.str x]=some (.str "/"):=by
  have e:c6 L2a "_get_sep"=at0:=by simp [c6,L2a]
  rw [e]
  exact ek3 x
theorem bl7 {a b:Str} (h:a.length+b.length≤16777216):ay1 .Add (.str a) (.str b)=some (.str (a ++ b)):=by
  show (((none:Option D).or (gd (sz (a.length+b.length)) (some (.str (a ++ b))))).or none)=_
  rw [szl h];rfl
theorem ck1 {a b:Str} (h:a.length+b.length≤16777216):dc4 (.str a) (.str b)=some (.str (a ++ b)):=by
  show ((none:Option D).or (gd (sz (a.length+b.length)) (some (.str (a ++ b)))))=_
  rw [szl h];rfl
theorem cc8 (i:Nat):decide ((0:Int)≤(i:Int))=true:=decide_eq_true (Int.natCast_nonneg i)
theorem dn1 {i n:Nat} (hi:i≤16777216) (hz:n≤16777216):(decide (0≤(i:Int)) && (decide ((i:Int)≤16777216) && sz n))=true:=f7 (cc8 i) (f7 (decide_eq_true (show (i:Int)≤16777216 from Int.ofNat_le.mpr hi)) (szl hz))
theorem dw4 {x:Str} {i:Nat} (hi:i≤16777216) (hz:x.length≤16777216):aw9 (.str x) (.int (i:Int))=some (.str ⟨(x.cps.toList.take i).toArray⟩):=ob rfl (cd9 rfl (ob rfl (s8 (dn1 hi hz) rfl)))
theorem cj6 {fl:List D→Nat→List D} {l:List D} {i:Nat} (hi:i≤16777216) (hz:l.length≤16777216):el5 fl (.list l) (i:Int)=some (.list (fl l i)):=ob rfl (s8 (dn1 hi hz) rfl)
theorem eo7 {l:List Str} (h:NA l) (hl:l.length≤8):sz (PS l).length=true:=szl (Nat.le_trans (aw6 ⟨h,hl⟩) (by decide))
theorem dw7 (l:List Str):((PS l).length == 0)=false:=by
  rw [al5];simpa using en4 l
theorem bc1:("/":Str).length=1:=by rw [bi8];rfl
theorem cf8 (a b:Str):(a ++ b).length=a.length+b.length:=by rw [al5,an0,List.length_append,← al5,← al5]
theorem dc7 {l:List Str} {n:Str} (h:NA (l ++ [n])) (hl:l.length≤8):bs5 [.str (PS l),.str n]=some (.str (PS (l ++ [n]))):=by
  have hn:ah7 n:=h n (by simp)
  have hl':NA l:=fun x hx=>h x (by simp [hx])
  have l1:=aw6 ⟨hl',hl⟩
  have l2:=hn.2.2.2.1
  have b2:ay1 .Add (.str "/") (.str n)=some (.str ("/" ++ n)):=bl7 (by rw [bc1];lia)
  have cs:∀ {o1 o2:Slot} {tl:Rho},execs (c6 L2a) fr2 [.assign 4 false (.call "fspath" [.var 4]),.if_ (.or [.meth .startswith (.var 4) [.var 2],.not (.var 3)]) [.assign 3 false (.var 4)] [.if_ (.meth .endswith (.var 3) [.var 2]) [.aug 3 .Add (.var 4)] [.aug 3 .Add (.bin .Add (.var 2) (.var 4))]]]
      (o1 :: o2 :: some (.fr,.str "/") :: some (.fr,.str (PS l)) :: some (.fr,.str n) :: tl)=some (.next,o1 :: o2 :: some (.fr,.str "/") :: some (.fr,.str (PS (l ++ [n]))) :: some (.fr,.str n) :: tl):=by
    intro o1 o2 tl
    refine (y7 (d5 (r2:=o1 :: o2 :: some (.fr,.str "/") :: some (.fr,.str (PS l)) :: some (.fr,.str n) :: tl) (d:=.str n) rfl (w9 (c7 (g9 (d:=.str n) rfl) f4) (az6 n)) rfl)).trans (y5 (at1 (t_b rfl rfl (et6 (o_f (t_b rfl rfl ?_) (o_f (t_b rfl rfl (ee4 (t_e (t:=true) rfl (c8 rfl) ?_))) rfl)))) ?_))
    · exact (cc9 (f:=Txt.startswith) (x:=n) (y:="/") rfl (c8 rfl) (g9 rfl)).trans (by rw [dd1 hn])
    · show gd (sz (PS l).length) (some ((PS l).length != 0))=_
      rw [eo7 hl' hl]
      show some (!((PS l).length == 0))=_
      rw [dw7];rfl
    · have he:eval (c6 L2a) (.meth .endswith (.var 3) [.var 2]) (o1 :: o2 :: some (.fr,.str "/") :: some (.fr,.str (PS l)) :: some (.fr,.str n) :: tl)=some (.bool (Txt.endswith (PS l) "/")):=cc9 rfl (c8 rfl) (g9 rfl)
      by_cases e:l=[]
      · subst e
        refine y5 (bb6 (t_b rfl rfl (he.trans ?_)) (y5 (do2 (c8 rfl) rfl (ck1 (by lia)) ?_)))
        · rw [cw6 hl'];rfl
        · rw [cg6];rfl
      · refine y5 (at1 (t_b rfl rfl (he.trans ?_)) (y5 (do2 (l_e rfl (ac1 (c8 rfl) (c8 rfl) b2)) rfl (ck1 (by rw [cf8,bc1];lia)) ?_)))
        · rw [cw6 hl',decide_eq_false e]
        · rw [dt4 e];rfl
  exact ac0 rfl (.next (d5 (d:=.str (PS l)) rfl (w9 (c7 (g9 rfl) f4) (az6 _)) rfl) (.next (d5 (d:=.str "/") rfl (w9 (c7 (g9 rfl) f4) (dq2 _)) rfl) (.next (d5 (d:=.str (PS l)) rfl (g9 rfl) rfl)
    (.next (dq5.trans (y5 (an1 (its:=[.str n]) (i_e rfl (c8 rfl) rfl) ((w7 (ab7 rfl cs)).trans rfl) rfl))) (.retv rfl (.inr rfl))))))
end
section
open PySem.StrLaws PySem.Builtin PySem.Builtin.Str
theorem eh4 {s:Str} {u v:List Nat} (h:cl s=u ++ v) (hz:s.length≤16777216) {i:Int} (hi:i=(u.length:Int)):aw9 (.str s) (.int i)=some (.str (mkS u)):=by
  have hl:u.length≤16777216:=by
    have:=congrArg List.length h
    rw [← al5,List.length_append] at this;lia
  subst hi
  refine (dw4 hl hz).trans ?_
  show some (PyData.str ⟨((cl s).take u.length).toArray⟩)=_
  rw [h,List.take_left];rfl
theorem eq2 {l:List Str} {n:Str} (h:NA (l ++ [n])) (hl:l.length≤7):aw9 (.str (PS (l ++ [n]))) (.int ((pl l).length+1))=some (.str (mkS (pl l ++ [47]))):=by
  refine eh4 (v:=cl n) ?_ (Nat.le_trans (aw6 ⟨h,by simp;assumption⟩) (by decide)) (by simp)
  rw [ah3 (by simp),bd0];simp
theorem ej6 {n:Nat} (h:n≤1048576):ay1 .Mult (.str "/") (.int (n:Int))=some (.str (mkS (List.replicate n 47))):=by
  have e:("/":Str).cps.getD 0 0=47:=by rw [bi8];rfl
  show (gd (decide (0≤(n:Int)) && (decide ((n:Int)≤1048576) && ("/":Str).length == 1)) (some (PyData.str ⟨Array.replicate n (("/":Str).cps.getD 0 0)⟩)))=_
  rw [cc8,decide_eq_true (show (n:Int)≤1048576 from Int.ofNat_le.mpr h),bc1,e]
  show some (PyData.str ⟨Array.replicate n 47⟩)=_
  rw [mkS,List.toArray_replicate]
theorem dv0 {x head rep:Str} {i:Nat} (h1:Txt.rfind x "/"=(i:Int)) (h2:aw9 (.str x) (.int ((i:Int)+1))=some (.str head)) (h3:sz head.length=true) (h4:(head.length != 0)=true)
    (h5:ay1 .Mult (.str "/") (.int (head.length:Int))=some (.str rep)):ae5 [.str x]=some (.str (if head == rep then head else Txt.rstripChars head "/")):=by
  have r1:∀ {r:Rho},r.get 0=some (.fr,.str x)→r.get 1=some (.fr,.str "/")→eval (c6 L2a) (.bin .Add (.meth .rfind (.var 0) [.var 1]) (.int 1)) r=some (.int ((i:Int)+1)):=fun q1 q2=>by
    rw [← h1]
    exact ac1 (l_e rfl (bt4 (ds:=[.str "/"]) rfl rfl (c8 q1) (c7 (g9 q2) f4) rfl)) j5 rfl
  have hl:ei1 (.str head)=some (.int (head.length:Int)):=by
    show ((none:Option D).or (gd (sz head.length) (some (.int (head.length:Int)))))=_
    rw [h3];rfl
  have ht:bh8 (.str head)=some true:=by
    show gd (sz head.length) (some (head.length != 0))=_
    rw [h3,h4];rfl
  refine ac0 rfl (.next (d5 (d:=.str x) rfl (w9 (c7 (g9 rfl) f4) (az6 _)) rfl) (.next (d5 (d:=.str "/") rfl (w9 (c7 (g9 rfl) f4) (dq2 _)) rfl) (.next (d5 rfl (r1 rfl rfl) rfl)
    (.next (d5 rfl (bi3 (c8 rfl) (c8 rfl) h2) rfl) ?_))))
  have hc:∀ {r:Rho},r.get 1=some (.fr,.str "/")→r.get 3=some (.fr,.str head)→ac7 (c6 L2a) (.andT [.var 3,.cmp .NotEq (.var 3) (.bin .Mult (.var 1) (.bcall .len [.var 3]))]) r=some (!(head == rep)):=fun {r} q1 q3=>by
    show bd6 _ _ r=_
    refine a_t (t_e rfl (c8 q3) ht) ?_
    have hq:ac7 (c6 L2a) (.cmp .NotEq (.var 3) (.bin .Mult (.var 1) (.bcall .len [.var 3]))) r=some (!(head == rep)):=t_b rfl rfl (ac4 (c8 q3) (l_e rfl (ac1 (c8 q1) (l_e rfl (z9 (f8 (c8 q3) l0) hl)) h5)) rfl)
    cases e:head == rep with
    | true=>rw [e] at hq;exact a_f hq
    | false=>rw [e] at hq;exact a_t hq rfl
  cases e:head == rep with
  | true=>
    have hc:=fun {r}=>@hc r
    rw [e] at hc
    exact .skip (hc rfl rfl) (.retv rfl (.inr rfl))
  | false=>
    have hc:=fun {r}=>@hc r
    rw [e] at hc
    refine .next (bb6 (hc rfl rfl) (y5 (d5 (d:=.str (Txt.rstripChars head "/")) rfl (bt4 (ds:=[.str "/"]) rfl rfl (c8 rfl) (c7 (g9 rfl) f4) ?_) rfl))) (.retv rfl (.inr rfl))
    show gd (sz head.length) (some (PyData.str (Txt.rstripChars head "/")))=_
    rw [h3];rfl
theorem am1 {l:List Str} {n:Str} (h:NA (l ++ [n])) (hl:l.length≤7):ae5 [.str (PS (l ++ [n]))]=some (.str (PS l)):=by
  have hn:ah7 n:=h n (by simp)
  have hl':NA l:=fun x hx=>h x (by simp [hx])
  have l1:=aw6 ⟨hl',by lia⟩
  have hL:(mkS (pl l ++ [47])).length=(pl l).length+1:=by simp
  have hp:(pl l).length≤600:=by
    by_cases e:l=[]
    · subst e;simp [pl]
    · rw [cd8 e,di5] at l1;exact l1
  have hm:=ej6 (n:=(pl l).length+1) (by lia)
  rw [dv0 (dg9 l hn) (eq2 h hl) (szl (by lia)) (by rw [hL];simp) (by rw [hL];exact hm)]
  by_cases e:l=[]
  · subst e;rfl
  · have hne2:(mkS (pl l ++ [47]) == mkS (List.replicate ((pl l).length+1) 47))=false:=by
      rw [beq_eq_false_iff_ne]
      intro q
      have q:=congrArg cl q
      simp only [dr7] at q
      obtain ⟨t,c,q2,hc⟩:=bm0 hl' e
      have:c∈List.replicate ((pl l).length+1) 47:=by rw [← q,q2];simp
      exact hc (List.eq_of_mem_replicate this)
    rw [hne2]
    simp [cn7 hl' e]
end
section
open PySem.StrLaws PySem.Builtin PySem.Builtin.Str
theorem be5 {n:Str} (h:ah7 n):PyData.strOk n=true:=h.2.2.2.2
theorem ao3 {l:List Str} (h:∀ x∈l,PyData.strOk x=true):SeqAt.shaped (.list (l.map .str))=true:=by
  have h3:∀ l:List Str,(∀ x∈l,PyData.strOk x=true)→PyData.canLayAll0 (l.map .str)=true∧PyData.depthAll (l.map .str)=0:=by
    intro l
    induction l with
    | nil=>intro _;exact ⟨by simp [PyData.canLayAll0],by simp [PyData.depthAll]⟩
    | cons a l ih=>
      intro h
      obtain ⟨i1,i2⟩:=ih fun x hx=>h x (by simp [hx])
      exact ⟨by simp [PyData.canLayAll0,PyData.canLay0,i1,h a (by simp)],by simp [PyData.depthAll,PyData.depth,i2]⟩
  obtain ⟨i1,i2⟩:=h3 l h
  simp [SeqAt.shaped,PyData.canLay0,PyData.depth,i1,i2]
noncomputable def spl (l:List Str):List Str:=if l=[] then [mkS [],mkS []] else mkS [] :: l
theorem eh3 {l:List Str} (h:NA l):Txt.split (PS l) "/"=spl l:=by
  unfold spl
  by_cases e:l=[]
  · subst e;rw [if_pos rfl,as2]
  · rw [if_neg e,aw5 h e]
theorem ek7:(".":Str)=mkS [46]:=by decide
theorem cr1 {l:List Str} (h:NA l):(spl l).filter (fun c=>(c.length != 0) && !(c == (Str.ofString ".")))=l:=by
  have h0:((mkS []).length != 0)=false:=rfl
  have hf:∀ m:List Str,NA m→m.filter (fun c=>(c.length != 0) && !(c == (Str.ofString ".")))=m:=fun m hm=>by
    rw [List.filter_eq_self]
    intro c hc
    obtain ⟨q1,_,q2,_⟩:=hm c hc
    have e1:(c.length != 0)=true:=by rw [al5];simpa using q1
    have e2:(c == (Str.ofString "."))=false:=by
      rw [beq_eq_false_iff_ne];rintro rfl;exact q2 (by rw [ek7];rfl)
    rw [e1,e2];rfl
  unfold spl
  by_cases e:l=[]
  · subst e;rw [if_pos rfl,List.filter_cons_of_neg (by simp [h0]),List.filter_cons_of_neg (by simp [h0])];rfl
  · rw [if_neg e,List.filter_cons_of_neg (by simp [h0]),hf l h]
noncomputable abbrev ltL (a b:List Str):Prop:=a.map cl < b.map cl
theorem br6:∀ a b:List Str,lcp a b=lcp b a
  | [],[]=>rfl
  | [],_ :: _=>rfl
  | _ :: _,[]=>rfl
  | x :: a,y :: b=>by
    unfold lcp
    by_cases e:x=y
    · subst e;rw [if_pos rfl,if_pos rfl,br6 a b]
    · rw [if_neg e,if_neg (Ne.symm e)]
theorem cz4 (p a b:List Str):lcp (p ++ a) (p ++ b)=p ++ lcp a b:=by
  induction p with
  | nil=>rfl
  | cons x p ih=>rw [List.cons_append,List.cons_append,lcp,if_pos rfl,ih];rfl
theorem cy3 {l:List D} {i:Nat} {d:D} (h:l[i]?=some d) (hi:i < 1000000):gd (decide ((0:Int)≤(i:Int)) && decide ((i:Int) < 1152921504606846976)) l[(i:Int).toNat]?=some d:=by
  rw [cc8,decide_eq_true (show (i:Int) < 1152921504606846976 from Int.ofNat_lt.mpr (Nat.lt_trans hi (by decide)))]
  exact h
theorem ak5 {l:List D} {i:Nat} {d:D} (h:l[i]?=some d) (hi:i < 1000000):bk1 (.list l) (.int (i:Int))=some d:=cf7 (ob rfl (ob rfl (cy3 h hi)))
theorem du5 {l:List D} {i:Nat} {d:D} (h:l[i]?=some d) (hi:i < 1000000):bk1 (.tuple l) (.int (i:Int))=some d:=cf7 (ob rfl (ob rfl (cy3 h hi)))
theorem aq1 {l:List D} {i:Nat} (hi:i≤1000000) (hz:l.length≤1000000):aw9 (.list l) (.int (i:Int))=some (.list (l.take i)):=ob rfl (cf7 (cj6 (Nat.le_trans hi (by decide)) (Nat.le_trans hz (by decide))))
noncomputable def rCP (t ll:D) (s1 s2 cm:List Str) (o5 o9:Slot):Rho:=[some (.fr,t),some (.fr,.str "/"),some (.fr,.str "."),some (.fr,ll),some (.fr,.bool true),o5,some (.fr,LS s1),some (.fr,LS s2),some (.fr,LS cm),o9,none,none,none,none,none,none,none,none,none,none,none,none,none]
noncomputable abbrev cq9:List SI:=[.if_ (.cmp .NotEq (.var 5) (.idx (.var 7) (.var 9))) [.assign 8 false (.upto (.var 6) (.var 9)),.brk] []]
theorem cx7 {calls:String→List D→Option D} {fr:String→Bool} {t ll:D} {s1 s2:List Str} (hl:s1.length≤100):∀ (rest pre rest2:List Str) (o5 o9:Slot),s1=pre ++ rest→s2=pre ++ rest2→¬ ltL rest2 rest→o5≠none∨True→
    (∀ m d,o5=some (m,d)→m = .fr)→(∀ m d,o9=some (m,d)→m = .fr)→
    ∃ v5 v9,(∀ m d,v5=some (m,d)→m = .fr)∧(∀ m d,v9=some (m,d)→m = .fr)∧y4 (ah1 calls fr [9,5] cq9) (aa7 pre.length (rest.map .str)) (rCP t ll s1 s2 s1 o5 o9)=some (.next,rCP t ll s1 s2 (lcp s1 s2) v5 v9)
  | [],pre,rest2,o5,o9,e1,e2,_,_,h5,h9=>by
    refine ⟨o5,o9,h5,h9,?_⟩
    have:lcp s1 s2=s1:=by
      rw [e1,e2,cz4];simp [lcp]
    rw [this];rfl
  | c :: rest,pre,[],o5,o9,e1,e2,h,_,_,_=>absurd (List.nil_lt_cons ..) h
  | c :: rest,pre,d :: rest2,o5,o9,e1,e2,h,_,h5,h9=>by
    have hk:pre.length < 1000000:=by rw [e1] at hl;simp at hl;lia
    have hd:bk1 (LS s2) (.int (pre.length:Int))=some (.str d):=ak5 (by rw [e2];simp) hk
    have hb:ai6 (rCP t ll s1 s2 s1 o5 o9) [9,5] (.tuple [.int (pre.length:Int),.str c])=some (rCP t ll s1 s2 s1 (some (.fr,.str c)) (some (.fr,.int pre.length))):=by
      have q9:(rCP t ll s1 s2 s1 o5 o9).put 9 .fr (.int (pre.length:Int))=some (rCP t ll s1 s2 s1 o5 (some (.fr,.int pre.length))):=by
        unfold Rho.put
        match o9,h9 with
        | none,_=>rfl
        | some (m,d),h9=>cases h9 _ _ rfl;rfl
      have q5:(rCP t ll s1 s2 s1 o5 (some (.fr,.int pre.length))).put 5 .fr (.str c)=some (rCP t ll s1 s2 s1 (some (.fr,.str c)) (some (.fr,.int pre.length))):=by
        unfold Rho.put
        match o5,h5 with
        | none,_=>rfl
        | some (m,d),h5=>cases h5 _ _ rfl;rfl
      exact by2 q9 q5
    by_cases e:c=d
    · subst e
      have h':¬ ltL rest2 rest:=fun q=>h (List.cons_lt_cons_iff.mpr (.inr ⟨rfl,q⟩))
      obtain ⟨v5,v9,k5,k9,ih⟩:=cx7 (calls:=calls) (fr:=fr) (t:=t) (ll:=ll) (s2:=s2) hl rest (pre ++ [c]) rest2 (some (.fr,.str c)) (some (.fr,.int pre.length)) (by rw [e1];simp) (by rw [e2];simp) h' (.inr trivial) (by rintro m d ⟨⟩;rfl) (by rintro m d ⟨⟩;rfl)
      refine ⟨v5,v9,k5,k9,?_⟩
      show y4 _ (.tuple [.int (pre.length:Int),.str c] :: aa7 (pre.length+1) (rest.map .str)) _=_
      have st:ah1 calls fr [9,5] cq9 (.tuple [.int (pre.length:Int),.str c]) (rCP t ll s1 s2 s1 o5 o9)=some (.next,rCP t ll s1 s2 s1 (some (.fr,.str c)) (some (.fr,.int pre.length))):=
        ab7 hb (y5 (at1 (t_b rfl rfl (ac4 (c8 rfl) (l_e rfl (y9 (c8 rfl) (c8 rfl) hd)) (ck6 c))) bi6))
      rw [w7 st,← ih];simp
    · refine ⟨some (.fr,.str c),some (.fr,.int pre.length),(by rintro m d ⟨⟩;rfl),(by rintro m d ⟨⟩;rfl),?_⟩
      have hlc:lcp s1 s2=s1.take pre.length:=by
        rw [e1,e2,cz4,lcp,if_neg e];simp
      show y4 _ (.tuple [.int (pre.length:Int),.str c] :: aa7 (pre.length+1) (rest.map .str)) _=_
      have st:ah1 calls fr [9,5] cq9 (.tuple [.int (pre.length:Int),.str c]) (rCP t ll s1 s2 s1 o5 o9)=some (.brk,rCP t ll s1 s2 (s1.take pre.length) (some (.fr,.str c)) (some (.fr,.int pre.length))):=by
        refine ab7 hb (y5 (bb6 (t_b rfl rfl (ac4 (c8 rfl) (l_e rfl (y9 (c8 rfl) (c8 rfl) hd)) (do0 e))) ?_))
        refine (y7 (d5 (d:=LS (s1.take pre.length)) rfl (bi3 (c8 rfl) (c8 rfl) ?_) rfl)).trans ?_
        · rw [LS,LS,List.map_take];exact aq1 (by lia) (by rw [List.length_map];lia)
        · rfl
      rw [cl6 st,hlc]
end
section
open PySem.StrLaws PySem.Builtin PySem.Builtin.Str
section
variable {calls:String→List D→Option D} {fr:String→Bool} {r r2:Rho}
theorem ee9 {a:IR} (h:ac7 calls a r=some true):eval calls (.not a) r=some (.bool false):=ee4 h
theorem dh1 {f:String} {e:IR} {α:Type} {xs:List α} {g h:α→D} (hl:look calls e r=some (.list (xs.map g))) (hf:∀ x∈xs,calls f [g x]=some (h x)) (hz:sz xs.length=true):eval calls (.tupmap f e) r=some (.tuple (xs.map h)):=
  ob hl (ob rfl (s8 (by rw [List.length_map];exact hz) (ob (by rw [List.mapM_map];exact ag4 (f:=(fun d=>calls f [d]) ∘ g) (g:=h) fun x hx=>hf x hx) rfl)))
theorem en6 {es:List IR} {t:Bool} (h:bd6 calls es r=some t):ac7 calls (.andT es) r=some t:=h
theorem cv9 {e:IR} {es:List IR} {t u:Bool} (h:ac7 calls e r=some t) (h2:bd6 calls es r=some u):bd6 calls (e :: es) r=some (t && u):=ob h (by cases t;rfl;exact h2)
theorem dd6 {x:Nat} {cap:List (Option Nat)} {tgt:List Nat} {src:IR} {elt:IR} {b:Bool} {α:Type} {xs:List α} {g:α→D} {R:α→Rho} {y:α} {ys:List α} (hx:xs=y :: ys) (hi:d7 calls src r=some (xs.map g)) (hb:∀ x∈xs,af0 (ba1 r cap) tgt (g x)=some (R x))
    (he:∀ x∈xs,eval calls elt (R x)=some (.bool b)) (hp:r.put x .fr (.bool b)=some r2):exec calls fr (.unpackS x cap tgt src elt) r=some (.next,r2):=by
  refine ob hi (ob (a:=xs.map fun ξ=>.bool b) ?_ (ob (a:=.bool b) (by subst hx;rfl) (ob rfl (s8 ?_ (ob hp rfl)))))
  · rw [List.mapM_map]
    exact ag4 fun x hx=>ob (hb x hx) (he x hx)
  · rw [List.all_map,List.all_eq_true]
    exact fun x ξ=>beq_self_eq_true b
end
theorem bz9:∀ (xs ys:List Str),av3 (xs.map PyData.str) (ys.map PyData.str)=decide (xs.map (·.cps.toList) < ys.map (·.cps.toList))
  | [],[]=>by simp [av3]
  | [],y :: ys=>by simp [av3]
  | x :: xs,[]=>by simp [av3]
  | x :: xs,y :: ys=>by
    have ih:=bz9 xs ys
    show (bif x == y then av3 (xs.map PyData.str) (ys.map PyData.str) else decide (x.cps.toList < y.cps.toList))=_
    by_cases e:x=y
    · subst e
      rw [beq_self_eq_true,cond_true,ih]
      rw [Bool.eq_iff_iff]
      simp [List.cons_lt_cons_iff,List.lt_irrefl]
    · have:(x == y)=false:=beq_eq_false_iff_ne.mpr e
      rw [this,cond_false]
      have ne:¬ x.cps.toList=y.cps.toList:=fun q=>e (af5 q)
      rw [Bool.eq_iff_iff]
      simp [List.cons_lt_cons_iff,ne]
theorem cv0 (a b:List Str):ltD (LS a) (LS b)=decide (ltL a b):=by
  unfold LS
  rw [di8]
  exact bz9 a b
theorem bv9 (a:List Str):ag0 (LS a)=true:=by simp [ag0,LS,isStr]
theorem dt0 {a b:List Str} (ha:NA a) (hb:NA b):dk7 [LS a,LS b]=some (LS (if ltL b a then b else a)):=by
  have h1:([LS a,LS b].all ar3 || ([LS a,LS b].all ag0 && [LS a,LS b].all SeqAt.shaped))=true:=by
    have:=ao3 (l:=a) fun x hx=>be5 (ha x hx)
    have:=ao3 (l:=b) fun x hx=>be5 (hb x hx)
    simp only [LS] at *
    simp [bv9, *]
    simp [ag0,isStr]
  refine (if_pos h1).trans ?_
  simp only [List.foldl_cons,List.foldl_nil,cv0]
  by_cases e:ltL b a <;> simp [e]
theorem ds9 {a b:List Str} (ha:NA a) (hb:NA b):dl5 [LS a,LS b]=some (LS (if ltL a b then b else a)):=by
  have h1:([LS a,LS b].all ar3 || ([LS a,LS b].all ag0 && [LS a,LS b].all SeqAt.shaped))=true:=by
    have:=ao3 (l:=a) fun x hx=>be5 (ha x hx)
    have:=ao3 (l:=b) fun x hx=>be5 (hb x hx)
    simp only [LS] at *
    simp [bv9, *]
    simp [ag0,isStr]
  refine (if_pos h1).trans ?_
  simp only [List.foldl_cons,List.foldl_nil,cv0]
  by_cases e:ltL a b <;> simp [e]
theorem dx0 (l:List Str):(spl l).length≤l.length+2:=by unfold spl;split <;> simp
theorem ef7 {l:List Str} (h:NA l):∀ c∈spl l,sz c.length=true:=by
  intro c hc
  unfold spl at hc
  split at hc
  · simp at hc;subst hc;rfl
  · rcases List.mem_cons.mp hc with rfl | q
    · rfl
    · exact szl (Nat.le_trans (h c q).2.2.2.1 (by decide))
theorem de3 {x:Str} (h:sz (x.length+2)=true):mfD .split (.str x) [.str "/"]=some (.list ((Txt.split x "/").map .str)):=by
  show gd (sz (x.length+2) && ("/":Str).length == 1) (some (PyData.list ((Txt.split x "/").map PyData.str)))=_
  rw [h,bc1];rfl
theorem co9 {l:List Str} (h:NA l) (hl:l.length≤8):JoinOk "/" l=true:=by
  unfold JoinOk
  rw [joinTotal,bc1]
  have:(l.map (·.length)).sum≤l.length * 64:=sumLen_le l fun y hy=>(h y hy).2.2.2.1
  have h2:sizeLine=16777216:=sizeLine_eq
  simp only [tooLong,Bool.not_eq_true',decide_eq_false_iff_not]
  lia
theorem bk2 {a b:List Str} (ha:NA a) (hb:NA b) (la:a.length≤8) (lb:b.length≤8):ah8 [.list [.str (PS a),.str (PS b)]]=some (.str (PS (lcp a b))):=by
  have hlc:NA (lcp a b):=ha.pre (bd9 a b)
  have hll:(lcp a b).length≤8:=Nat.le_trans (bd9 a b).length_le la
  generalize hs1:(if ltL b a then b else a)=s1
  generalize hs2:(if ltL a b then b else a)=s2
  have hno:¬ ltL s2 s1:=by
    subst hs1 hs2
    by_cases e1:ltL b a <;> by_cases e2:ltL a b
    · rw [if_pos e1,if_pos e2];exact List.lt_irrefl _
    · rw [if_pos e1,if_neg e2];exact e2
    · rw [if_neg e1,if_pos e2];exact e1
    · rw [if_neg e1,if_neg e2];exact List.lt_irrefl _
  have hl12:lcp s1 s2=lcp a b:=by
    subst hs1 hs2
    by_cases e1:ltL b a <;> by_cases e2:ltL a b
    · exact absurd e2 (fun q=>List.lt_irrefl _ (List.lt_trans e1 q))
    · rw [if_pos e1,if_neg e2];exact br6 b a
    · rw [if_neg e1,if_pos e2]
    · rw [if_neg e1,if_neg e2]
      have:a.map cl=b.map cl:=List.le_antisymm (List.not_lt.mp e1) (List.not_lt.mp e2)
      have:a=b:=(List.map_inj_right fun x y e=>ct5 e).mp this
      rw [this]
  have h1l:s1.length≤8:=by subst hs1;split <;> assumption
  obtain ⟨v5,v9,k5,k9,hloop⟩:=cx7 (calls:=c6 L2a) (fr:=fr2) (t:=.tuple [.str (PS a),.str (PS b)]) (ll:=.list [LS a,LS b]) (s1:=s1) (s2:=s2) (by exact Nat.le_trans ‹_› (Nat.le_of_ble_eq_true rfl)) s1 [] s2 none none rfl rfl hno (.inr trivial) (by rintro m d ⟨⟩) (by rintro m d ⟨⟩)
  rw [hl12] at hloop
  have st0:exec (c6 L2a) fr2 (.assign 0 false (.tupmap "fspath" (.var 0))) (ct4 23 [0] none [.list [.str (PS a),.str (PS b)]])=some (.next,(ct4 23 [0] none [.tuple [.str (PS a),.str (PS b)]])):=
    d5 rfl (dh1 (xs:=[a,b]) (g:=fun l=>.str (PS l)) (h:=fun l=>.str (PS l)) (c8 rfl) (fun x ξ=>az6 _) rfl) rfl
  have hsz:∀ l:List Str,NA l→l.length≤8→mfD .split (.str (PS l)) [.str "/"]=some (LS (spl l)):=fun l h1 h2=>by
    rw [de3 (szl (Nat.le_trans (Nat.add_le_add_right (aw6 ⟨h1,h2⟩) 2) (by decide))),eh3 h1];rfl
  have hab:∀ x∈[a,b],NA x∧x.length≤8:=by simp only [List.mem_cons,List.not_mem_nil,or_false];rintro x (rfl | rfl) <;> exact ⟨by assumption,by assumption⟩
  unfold ah8 ap4
  refine ac0 rfl (.next st0 ?_)
  refine .skip (t_b rfl rfl (ee9 (t_e rfl (c8 rfl) rfl))) ?_
  refine .next (at1 (t_b rfl rfl (cn9 (l_e rfl (y9 (c8 rfl) j5 (du5 (i:=0) rfl (by decide)))))) ((y7 (d5 rfl ae8 rfl)).trans ((y7 (d5 rfl ae8 rfl)).trans bi6))) ?_
  refine .try1 ?_
  refine .next (d5 (d:=.list [LS (spl a),LS (spl b)]) rfl (ap6 (xs:=[a,b]) (g:=fun l=>.str (PS l)) (h:=fun l=>LS (spl l)) (R:=fun l=>[none,some (.fr,.str (PS l)),some (.fr,.str "/")]) (i_e rfl (c8 rfl) rfl) (fun x ξ=>rfl) (fun x hx=>bt4 rfl rfl (c8 rfl) (c7 (g9 rfl) f4) (hsz x (hab x hx).1 (hab x hx).2)) rfl) rfl) ?_
  refine .next (dq5.trans (y5 (dd6 (b:=true) (xs:=[a,b]) rfl (g:=fun l=>.str (PS l)) (R:=fun l=>[none,some (.fr,.str (PS l)),some (.fr,.str "/")]) (i_e rfl (c8 rfl) rfl) (fun x ξ=>rfl) (fun x hx=>(cc9 (f:=Txt.startswith) (x:=PS x) (y:="/") rfl (c8 rfl) (g9 rfl)).trans (by rw [db9])) rfl))) ?_
  refine .next (d5 (d:=.list [LS a,LS b]) rfl (ap6 (xs:=[a,b]) (g:=fun l=>LS (spl l)) (h:=fun l=>LS l) (R:=fun l=>[none,some (.fr,LS (spl l)),some (.fr,.str ".")]) (aj2 rfl (c8 rfl)) (fun x ξ=>rfl) (fun x hx=>?_) rfl) rfl) ?_
  · have hle:=dx0 x
    have:=ac9 (calls:=c6 L2a) (cap:=[none,none,some 2]) (tgt:=[1]) (src:=.var 1) (ifs:=[(.andT [(.var 1),(.cmp .NotEq (.var 1) (.var 2))])]) (elt:=.var 1) (r:=[none,some (.fr,LS (spl x)),some (.fr,.str ".")]) (xs:=spl x) (g:=.str) (h:=.str)
      (p:=fun c=>(c.length != 0) && !(c == (Str.ofString "."))) (R:=fun c=>[none,some (.fr,.str c),some (.fr,.str ".")]) (aj2 rfl (c8 rfl)) (fun c ξ=>rfl)
      (fun c hc=>ae3 (en6 (cv9 (t_e rfl (c8 rfl) (s8 (ef7 (hab x hx).1 c hc) rfl)) ((cv9 (t_b rfl rfl (ac4 (c8 rfl) (c8 rfl) rfl)) em8).trans (by simp))))) (fun c ξ ξ=>g9 rfl) (szl (by have:=(hab x hx).2;lia))
    rw [cr1 (hab x hx).1] at this
    exact this
  refine .next (d5 rfl (z9 (f8 (c8 rfl) l0) (dt0 ha hb)) rfl) ?_
  refine .next (d5 rfl (z9 (f8 (c8 rfl) l0) (cf7 (ob rfl (ob rfl (ds9 ha hb))))) rfl) ?_
  rw [hs1,hs2]
  refine .next (d5 rfl (g9 rfl) rfl) ?_
  refine .next (an1 (dr6 (c8 rfl)) hloop rfl) ?_
  refine .next (d5 rfl (cb4 (t_e rfl (c8 rfl) rfl) (g9 rfl)) rfl) ?_
  have fin:cl4 ((rCP (.tuple [.str (PS a),.str (PS b)]) (.list [LS a,LS b]) s1 s2 (lcp a b) v5 v9).set 10 (some (.fr,.str "/")))=true:=by
    match v5,v9,k5,k9 with
    | none,none,_,_=>rfl
    | some (m,d),none,k5,_=>cases k5 _ _ rfl;rfl
    | none,some (m,d),_,k9=>cases k9 _ _ rfl;rfl
    | some (m,d),some (m',d'),k5,k9=>cases k5 _ _ rfl;cases k9 _ _ rfl;rfl
  have hj:mfD .join (.str "/") [LS (lcp a b)]=some (.str (Txt.join "/" (lcp a b))):=by
    refine ob rfl (ob rfl (ob rfl (ob (a:=lcp a b) ?_ (s8 ?_ rfl))))
    · rw [List.mapM_map,ag4 (f:=aa8 ∘ PyData.str) (g:=fun x=>x) fun x ξ=>rfl,List.map_id']
    · rw [co9 hlc hll,List.length_map,szl (by exact Nat.le_trans ‹_› (Nat.le_of_ble_eq_true rfl))];rfl
  refine .retN rfl fin ?_
  refine ac1 (c8 rfl) (l_e rfl (cu2 (c8 rfl) (f8 (c8 rfl) l0) hj)) ?_
  rw [← cy9 (lcp a b)]
  refine bl7 ?_
  rw [← cf8,cy9]
  exact Nat.le_trans (aw6 ⟨hlc,hll⟩) (by decide)
end
section
open PySem.StrLaws PySem.Builtin PySem.Builtin.Str
theorem br4:c6 L2b "dirname"=ae5:=by kernel_rfl
theorem dz3:c6 L2b "join"=bs5:=by kernel_rfl
theorem ao8 (n:Nat) (h:n≤1000):ax2 [.int (n:Int)]=some ((List.range n).map fun (k:Nat)=>.int ((k:Nat):Int)):=by
  have h1:inR (n:Int)=true:=by
    unfold inR
    rw [decide_eq_true (show (-1048576:Int)≤(n:Int) by lia),decide_eq_true (show (n:Int)≤1048576 by lia)];rfl
  exact cf7 (cf7 (ob rfl (ob rfl (s8 h1 rfl))))
theorem bs4 {n i:Nat} (h:i < (List.range n).length):(List.range n)[i]=i:=by simp
theorem ab3 {f:D→Rho→Option (Fl×Rho)} {g:Nat→D} {R:Nat→Rho} {n:Nat} (h:∀ i,i < n→f (g i) (R i)=some (.next,R (i+1))):y4 f ((List.range n).map g) (R 0)=some (.next,R n):=by
  have:=bj9 (f:=f) (g:=g) (R:=R) (xs:=List.range n) (k:=0) fun i hi=>by
    rw [bs4,Nat.zero_add];exact h i (by simpa using hi)
  simpa using this
noncomputable def chL (l:List Str) (i:Nat):List Str:=(List.range (min i l.length+1)).map fun j=>PS (l.take (l.length - j))
theorem dh2 (l:List Str) (i:Nat):(chL l i).getLast?=some (PS (l.take (l.length - min i l.length))):=by
  unfold chL
  rw [List.range_succ,List.map_append,List.map_cons,List.map_nil,List.getLast?_append];simp
theorem ds3 (l:List Str):chL l 0=[PS l]:=by simp [chL]
theorem dk9 {l:List Str} {i:Nat} (h:i < l.length):chL l (i+1)=chL l i ++ [PS (l.take (l.length - (i+1)))]:=by
  unfold chL
  rw [Nat.min_eq_left (Nat.le_of_lt h),Nat.min_eq_left (show i+1≤l.length from h),List.range_succ (n:=i+1),List.map_append];rfl
theorem do5 {l:List Str} {i:Nat} (h:l.length≤i):chL l (i+1)=chL l i:=by
  unfold chL
  rw [Nat.min_eq_right h,Nat.min_eq_right (Nat.le_succ_of_le h)]
theorem dy2 {l:List Str} {i:Nat} (h:l.length≤i):chL l i=(u0 l).reverse:=by
  unfold chL u0 au5
  rw [Nat.min_eq_right h,List.map_map]
  refine List.ext_getElem (by simp) fun j h1 h2=>?_
  simp only [List.length_map,List.length_range,List.length_reverse] at h1 h2
  rw [List.getElem_reverse]
  simp
theorem bb2 (l:List Str):(u0 l).length=l.length+1:=by simp [u0,au5]
theorem bk8 {l:List Str} (h:NA l) (hl:l.length≤5):ag9 [.str (PS l)]=some (LS (u0 l)):=by
  have hok:∀ i,∀ x∈chL l i,PyData.strOk x=true:=by
    intro i x hx
    unfold chL at hx
    obtain ⟨j,_,rfl⟩:=List.mem_map.mp hx
    exact aw2 (h.pre (List.take_prefix ..))
  unfold ag9 ap8
  refine ac0 rfl ?_
  refine .next (d5 (d:=LS [PS l]) rfl (y8 (c7 (g9 rfl) f4) rfl) rfl) ?_
  let R:Nat→Rho:=fun i=>[some (.fr,.str (PS l)),some (.own,LS (chL l i)),(if i=0 then none else some (.fr,.int ((i - 1:Nat):Int))),none,none,none]
  have hloop:=ab3 (f:=ah1 (c6 L2b) fr2 [2] [.if_ (.cmp .NotEq (.last (.var 1)) (.str "/")) [.append 1 (.call "dirname" [(.last (.var 1))])] []]) (g:=fun (k:Nat)=>PyData.int ((k:Nat):Int)) (R:=R) (n:=5) fun i hi=>by
    have hi7:i < 5:=hi
    have hb:ai6 (R i) [2] (.int (i:Int))=some [some (.fr,.str (PS l)),some (.own,LS (chL l i)),some (.fr,.int (i:Int)),none,none,none]:=y3 (by cases i <;> rfl)
    have hR:R (i+1)=[some (.fr,.str (PS l)),some (.own,LS (chL l (i+1))),some (.fr,.int (i:Int)),none,none,none]:=by simp [R]
    rw [hR]
    refine ab7 hb (y5 ?_)
    have hlast:((chL l i).map PyData.str).getLast?=some (.str (PS (l.take (l.length - min i l.length)))):=by rw [List.getLast?_map,dh2];rfl
    by_cases e:i < l.length
    · rw [Nat.min_eq_left (Nat.le_of_lt e)] at hlast
      have hpos:=Nat.sub_pos_of_lt e
      have hNA:NA (l.take (l.length - i)):=h.pre (List.take_prefix ..)
      have hne:l.take (l.length - i)≠[]:=fun q=>by
        have:=congrArg List.length q
        rw [List.length_take_of_le (Nat.sub_le ..)] at this
        exact Nat.ne_of_gt hpos this
      have ht:PS (l.take (l.length - i))≠"/":=by
        rw [← ah5];exact fun q=>hne (cq0 hNA (by simp) q)
      have e1:l.take (l.length - i)=l.take (l.length - (i+1)) ++ [l[l.length - (i+1)]'(Nat.sub_lt (Nat.lt_of_le_of_lt (Nat.zero_le i) e) (Nat.succ_pos i))]:=by
        rw [ce5 e,List.take_add_one,List.getElem?_eq_getElem (Nat.sub_lt (Nat.lt_of_le_of_lt (Nat.zero_le i) e) (Nat.succ_pos i))];rfl
      have hd:ae5 [.str (PS (l.take (l.length - i)))]=some (.str (PS (l.take (l.length - (i+1))))):=by
        rw [e1]
        exact am1 (e1▸hNA) (Nat.le_trans (List.length_take_le' ..) (Nat.le_trans hl (by decide)))
      refine bb6 (t_b rfl rfl (ac4 (l_e rfl (cp4 (ai8 rfl) hlast)) bw5 (do0 ht))) (y5 ?_)
      rw [dk9 e]
      refine al2 (l:=(chL l i).map .str) rfl (w9 (c7 (cp4 (ai8 rfl) hlast) f4) (by rw [br4];exact hd)) rfl (szl ?_) ?_
      · rw [List.length_map,chL,List.length_map,List.length_range]
        exact Nat.le_trans (Nat.succ_le_succ (Nat.succ_le_succ (Nat.min_le_left ..))) (Nat.le_trans (Nat.add_le_add_right (Nat.le_of_lt hi7) 2) (by decide))
      rw [show LS (chL l i ++ [PS (l.take (l.length - (i+1)))]) = .list ((chL l i).map .str ++ [.str (PS (l.take (l.length - (i+1))))]) from congrArg PyData.list (List.map_append ..)];rfl
    · rw [Nat.min_eq_right (Nat.not_lt.mp e),Nat.sub_self,List.take_zero,ah5] at hlast
      rw [do5 (Nat.not_lt.mp e)]
      exact at1 (t_b rfl rfl (ac4 (l_e rfl (cp4 (ai8 rfl) hlast)) bw5 (ck6 _))) bi6
  refine .next (an1 (ad4 (f8 j5 l0) (ao8 5 (by decide))) (f:=.next) (r':=R 5) ?_ rfl) ?_
  · rw [← hloop]
    simp only [R,ds3];rfl
  have hs:bfD .sorted [LS (chL l 5)]=some (LS (u0 l)):=by
    have e1:bj2 (chL l 5)=u0 l:=by
      rw [dy2 (by assumption)]
      exact ch3 (List.reverse_perm _).symm (bi5 h)
    have:=bq9 (L:=chL l 5) (by simp [chL];lia) (hok 5)
    rw [e1] at this
    exact congrArg (Option.map PyData.list) this
  refine .ret rfl ?_
  refine z9 (f8 (ai8 (m:=.fr) (d:=LS (chL l 5)) rfl) l0) hs
end
section
open PySem.StrLaws PySem.Builtin PySem.Builtin.Str
noncomputable def cf9 (s:Str) (p:Str×Str):Option Str:=bif Txt.contains s p.1 then gd ((p.1 != p.2) && decide (s.length+(s.length+1) * p.2.length≤16777216)) (some (Txt.replace s p.1 p.2)) else some s
noncomputable def br1:List (Str×Str)→Str→Option Str
  | [],s=>some s
  | p :: ps,s=>(cf9 s p).bind (br1 ps)
noncomputable def eu8 (steps:List (Str×Str)):List SI:=steps.map (fun p=>.if_ (.cmp .In (.str p.1) (.var 0)) [.assign 0 false (.replace (.var 0) p.1 p.2)] []) ++ [.ret (.var 0)]
theorem ay5 {calls:String→List D→Option D} {fr:String→Bool}:∀ {steps:List (Str×Str)} {t u:Str},br1 steps t=some u→am4 calls fr (eu8 steps) [some (.fr,.str t),none,none,none] (.str u)
  | [],t,u,h=>by
    cases h
    exact .retv rfl (.inr rfl)
  | p :: ps,t,u,h=>by
    obtain ⟨v,h1,h2⟩:=a6 (show (cf9 t p >>= br1 ps)=some u from h)
    have ih:=ay5 (calls:=calls) (fr:=fr) h2
    unfold cf9 at h1
    cases hc:Txt.contains t p.1 with
    | true=>
      rw [hc] at h1
      obtain ⟨hz,h1⟩:=g6 h1
      cases h1
      exact .next (bb6 (t_b rfl rfl (ac4 bw5 (c8 rfl) (congrArg some hc))) (y5 (d5 rfl (da0 (c8 rfl) hz) rfl))) ih
    | false=>
      rw [hc] at h1
      cases h1
      exact .skip (t_b rfl rfl (ac4 bw5 (c8 rfl) (congrArg some hc))) ih
noncomputable def ax1:Nat→List (Str×Str)
  | 0=>[("&","&amp;"),("<","&lt;"),(">","&gt;")]
  | 1=>[("&","&amp;"),("<","&lt;"),(">","&gt;"),("\x0d","&#xD;")]
  | 2=>[("&","&amp;"),("<","&lt;"),(">","&gt;"),("\"","&quot;"),("\x0d","&#13;"),("\n","&#10;"),("\t","&#09;")]
  | 3=>[("&","&amp;"),("<","&lt;"),("\"","&quot;"),("\t","&#x9;"),("\n","&#xA;"),("\x0d","&#xD;")]
  | _=>[("&","&amp;"),(">","&gt;"),("\"","&quot;")]
noncomputable def ab4:Nat→List (Str×Str)
  | 0=>[("&","&amp;"),("<","&lt;"),(">","&gt;")]
  | 1=>[("&","&amp;"),("<","&lt;"),(">","&gt;"),("\x0d","&#xD;")]
  | 2=>[("&","&amp;"),("<","&lt;"),(">","&gt;"),("\"","&quot;"),("\x0d","&#13;"),("\n","&#10;"),("\t","&#09;")]
  | 3=>[("&","&amp;"),("<","&lt;"),("\"","&quot;"),("\x0d","&#xD;"),("\n","&#xA;"),("\t","&#x9;")]
  | _=>[("&","&amp;"),(">","&gt;"),("\"","&quot;")]
theorem es4 {t u:Str} (h:br1 (ax1 0) t=some u):af6 [.str t]=some (.str u):=ac0 rfl (.try1 (ay5 h))
theorem eu3 {t u:Str} (h:br1 (ax1 1) t=some u):aa9 [.str t]=some (.str u):=ac0 rfl (.try1 (ay5 h))
theorem eu9 {t u:Str} (h:br1 (ax1 2) t=some u):ae7 [.str t]=some (.str u):=ac0 rfl (.try1 (ay5 h))
theorem ev1 {t u:Str} (h:br1 (ax1 3) t=some u):aa3 [.str t]=some (.str u):=ac0 rfl (.try1 (ay5 h))
theorem et0 {t u:Str} (h:br1 (ax1 4) t=some u):aa2 [.str t]=some (.str u):=ac0 rfl (.try1 (ay5 h))
theorem ca0:c6 L2a "_escape_cdata"=af6:=by kernel_rfl
theorem ca1:c6 L2a "_escape_cdata_c14n"=aa9:=by kernel_rfl
theorem ca2:c6 L2a "_escape_attrib"=ae7:=by kernel_rfl
theorem ca3:c6 L2a "_escape_attrib_c14n"=aa3:=by kernel_rfl
theorem ca4:c6 L2a "_escape_attrib_html"=aa2:=by kernel_rfl
@[elab_as_elim] theorem lt5 {P:Nat→Prop} {k:Nat} (h:k < 5) (h0:P 0) (h1:P 1) (h2:P 2) (h3:P 3) (h4:P 4):P k:=by
  rcases k with _ | _ | _ | _ | _ | k
  · exact h0
  · exact h1
  · exact h2
  · exact h3
  · exact h4
  · exact absurd h (by lia)
theorem bc8 {t u:Str} {k:Nat} (hk:k < 5) (h:br1 (ax1 k) t=some u):z8 [.str t,.int (k:Int)]=some (.str u):=by
  unfold z8 al3
  refine ac0 rfl ?_
  have c:∀ (i:Int) (r:Rho),r.get 1=some (.fr,.int (k:Int))→ac7 (c6 L2a) (.cmp .Eq (.var 1) (.int i)) r=some ((k:Int) == i):=fun i r hr=>t_b rfl rfl (ac4 (c8 hr) j5 rfl)
  revert h c
  refine lt5 hk (fun h c=>?_) (fun h c=>?_) (fun h c=>?_) (fun h c=>?_) fun h c=>?_
  · exact .if_t (c 0 _ rfl) (.retN rfl rfl (w9 (c7 (g9 rfl) f4) (by rw [ca0];exact es4 h)))
  · exact .skip (c 0 _ rfl) (.if_t (c 1 _ rfl) (.retN rfl rfl (w9 (c7 (g9 rfl) f4) (by rw [ca1];exact eu3 h))))
  · exact .skip (c 0 _ rfl) (.skip (c 1 _ rfl) (.if_t (c 2 _ rfl) (.retN rfl rfl (w9 (c7 (g9 rfl) f4) (by rw [ca2];exact eu9 h)))))
  · exact .skip (c 0 _ rfl) (.skip (c 1 _ rfl) (.skip (c 2 _ rfl) (.if_t (c 3 _ rfl) (.retN rfl rfl (w9 (c7 (g9 rfl) f4) (by rw [ca3];exact ev1 h))))))
  · exact .skip (c 0 _ rfl) (.skip (c 1 _ rfl) (.skip (c 2 _ rfl) (.skip (c 3 _ rfl) (.retN rfl rfl (w9 (c7 (g9 rfl) f4) (by rw [ca4];exact et0 h))))))
noncomputable def kvD (l:List (Str×Str)):List (D×D):=l.map fun e=>(.str e.1,.str e.2)
noncomputable def dl4 (k:Nat) (c:Nat):D:=(aw7 (kvD (ab4 k)) (.str ⟨#[c]⟩)).getD (.str ⟨#[c]⟩)
theorem de6 (k:Nat) (x:Str):(z6 (.str x) && (kvD (ab4 k)).all (fun e=>z6 e.1))=true:=by
  unfold kvD;simp [z6]
theorem bm9 {t u:Str} {k:Nat} (hk:k < 5) (ht:t.length≤1000) (h:mfD .join (.str "") [.list ((cl t).map (dl4 k))]=some (.str u)):ad7 [.str t,.int (k:Int)]=some (.str u):=by
  unfold ad7 au1
  refine ac0 rfl ?_
  refine .next (d5 (d:=.list [.dict (kvD (ab4 0)),.dict (kvD (ab4 1)),.dict (kvD (ab4 2)),.dict (kvD (ab4 3)),.dict (kvD (ab4 4))]) rfl (y8 (c7 (bo6 (kd:=(ab4 0).map fun e=>.str e.1) (vd:=(ab4 0).map fun e=>.str e.2) ?_ ?_ (by decide +kernel) (by kernel_rfl)) (c7 (bo6 (kd:=(ab4 1).map fun e=>.str e.1) (vd:=(ab4 1).map fun e=>.str e.2) ?_ ?_ (by decide +kernel) (by kernel_rfl)) (c7 (bo6 (kd:=(ab4 2).map fun e=>.str e.1) (vd:=(ab4 2).map fun e=>.str e.2) ?_ ?_ (by decide +kernel) (by kernel_rfl)) (c7 (bo6 (kd:=(ab4 3).map fun e=>.str e.1) (vd:=(ab4 3).map fun e=>.str e.2) ?_ ?_ (by decide +kernel) (by kernel_rfl)) (c7 (bo6 (kd:=(ab4 4).map fun e=>.str e.1) (vd:=(ab4 4).map fun e=>.str e.2) ?_ ?_ (by decide +kernel) (by kernel_rfl)) f4))))) rfl) rfl) ?_
  all_goals first | rfl | skip
  have hi:bk1 (.list [.dict (kvD (ab4 0)),.dict (kvD (ab4 1)),.dict (kvD (ab4 2)),.dict (kvD (ab4 3)),.dict (kvD (ab4 4))]) (.int (k:Int))=some (.dict (kvD (ab4 k))):=by
    refine ak5 ?_ (by lia)
    exact lt5 hk rfl rfl rfl rfl rfl
  refine .retN rfl rfl (cu2 bw5 (f8 (l_e rfl (ap6 (xs:=cl t) (g:=fun c=>.str ⟨#[c]⟩) (h:=dl4 k) (R:=fun c=>[none,some (.fr,.str ⟨#[c]⟩),some (.fr,.list [.dict (kvD (ab4 0)),.dict (kvD (ab4 1)),.dict (kvD (ab4 2)),.dict (kvD (ab4 3)),.dict (kvD (ab4 4))]),some (.fr,.int (k:Int))]) (i_e rfl (c8 (d:=.str t) rfl) rfl) (fun c ξ=>rfl) (fun c ξ=>?_) (szl (by rw [← al5];lia)))) l0) h)
  refine bt4 rfl rfl (l_e rfl (y9 (c8 rfl) (c8 rfl) hi)) (c7 (g9 rfl) (c7 (g9 rfl) f4)) ?_
  exact ob rfl (ob rfl (s8 (de6 k _) rfl))
noncomputable def da9:List Str:=["\t","\n","\x0d","\"","#","&","'","<","=",">","a","&lt;"]
noncomputable def ai3 (i:Nat):Str:=da9.getD (i % 12) "a"
noncomputable def wr (k i:Nat):Str:=(br1 (ax1 k) (ai3 i)).getD "a"
noncomputable def nmB (n:Str):Bool:=!(cl n).isEmpty && !(cl n).contains 47 && (cl n != [46]) && decide (n.length≤64) && PyData.strOk n
theorem di4 {n:Str} (h:nmB n=true):ah7 n:=by
  unfold nmB at h
  simp only [Bool.and_eq_true,Bool.not_eq_true',decide_eq_true_eq,bne_iff_ne,ne_eq] at h
  obtain ⟨⟨⟨⟨h1,h2⟩,h3⟩,h4⟩,h5⟩:=h
  exact ⟨(by intro q;rw [q] at h1;exact absurd h1 (by decide)),(by intro q;rw [List.contains_iff_mem.mpr q] at h2;exact absurd h2 (by decide)),h3,h4,h5⟩
noncomputable def er7 (k i:Nat):Bool:=(do
  let u ← br1 (ax1 k) (da9.getD i "a")
  let v ← aa8 (← mfD .join (.str "") [.list ((cl (da9.getD i "a")).map (dl4 k))])
  some (u == v && (nmB u && decide ((da9.getD i "a").length≤1000)))).getD false
theorem dc0 {o:Option Bool} (h:o.getD false=true):o=some true:=by
  cases o with
  | none=>cases h
  | some b=>cases (h:b=true);rfl
theorem dv2:((List.range 5).all fun k=>(List.range 12).all fun i=>er7 k i)=true:=by decide +kernel
theorem ea0:((List.range 5).all fun k=>(List.range 12).all fun i=>(List.range 12).all fun j=>i == j || !(wr k i == wr k j))=true:=by decide +kernel
theorem bn0 {k:Nat} (hk:k < 5) (i:Nat):z8 [.str (ai3 i),.int (k:Int)]=some (.str (wr k i))∧ad7 [.str (ai3 i),.int (k:Int)]=some (.str (wr k i))∧ah7 (wr k i):=by
  have h:=List.all_eq_true.mp (List.all_eq_true.mp dv2 k (by simpa using hk)) (i % 12) (by simp;lia)
  unfold er7 at h
  have e:ai3 i=da9.getD (i % 12) "a":=rfl
  rw [← e] at h
  obtain ⟨u,h1,h⟩:=a6 (dc0 h)
  obtain ⟨d,h2,h⟩:=a6 h
  obtain ⟨v,h3,h⟩:=a6 h
  have hh:=Option.some.inj h
  obtain rfl:=ad9 (b8 hh).1
  obtain rfl:=n9 h3
  obtain ⟨hn,hl⟩:=b8 (b8 hh).2
  have e2:wr k i=u:=by unfold wr;rw [h1];rfl
  rw [e2]
  exact ⟨bc8 hk h1,bm9 hk (of_decide_eq_true hl) h2,di4 hn⟩
theorem el8 {k i j:Nat} (hk:k < 5) (h:wr k i=wr k j):i % 12=j % 12:=by
  have e:∀ i,wr k (i % 12)=wr k i:=fun i=>by unfold wr ai3;rw [Nat.mod_mod]
  have:=List.all_eq_true.mp (List.all_eq_true.mp (List.all_eq_true.mp ea0 k (by simpa using hk)) (i % 12) (by simp;lia)) (j % 12) (by simp;lia)
  rw [e,e,h] at this
  simpa using this
end
section
open PySem.StrLaws PySem.Builtin PySem.Builtin.Str
noncomputable abbrev nI (n:Nat):D:=.int (n:Int)
theorem dw1 (a b:Nat):ay1 .Add (nI a) (nI b)=some (nI (a+b)):=rfl
theorem cd6 {b:Nat} (hb:0 < b):decide ((0:Int) < (b:Int))=true:=decide_eq_true (Int.ofNat_lt.mpr hb)
theorem bm7 (a b:Nat):((a:Int).fmod (b:Int))=((a % b:Nat):Int):=by rw [Int.fmod_eq_emod_of_nonneg _ (Int.natCast_nonneg b),Int.natCast_emod]
theorem bt2 (a b:Nat):((a:Int).fdiv (b:Int))=((a / b:Nat):Int):=by rw [Int.fdiv_eq_ediv_of_nonneg _ (Int.natCast_nonneg b),Int.natCast_ediv]
theorem cx5 (a b:Nat) (hb:0 < b):ay1 .Mod (nI a) (nI b)=some (nI (a % b)):=s8 (cd6 hb) (by rw [bm7])
theorem ay7 {a:Nat} (h:a < 2 ^ 60):small (a:Int)=true:=by
  unfold small;rw [Int.natAbs_natCast];exact decide_eq_true h
theorem dz9 (a b:Nat) (hb:0 < b) (ha:a < 2 ^ 60) (hb2:b < 2 ^ 60):ay1 .FloorDiv (nI a) (nI b)=some (nI (a / b)):=s8 (f7 (cd6 hb) (f7 (ay7 ha) (ay7 hb2))) (by rw [bt2])
theorem bc4 (a b:Nat) (hb:0 < b) (ha:a < 2 ^ 60) (hb2:b < 2 ^ 60):bfD .divmod [nI a,nI b]=some (.tuple [nI (a / b),nI (a % b)]):=ob rfl (s8 (f7 (cd6 hb) (f7 (ay7 ha) (ay7 hb2))) (by rw [bt2,bm7]))
theorem dq1 (x:Int):∃ m:Nat,m < 10000000∧ay1 .Mod (.int x) (.int 10000000)=some (nI m):=by
  have h1:0≤x.fmod 10000000:=Int.fmod_nonneg_of_pos x (by decide)
  have h2:x.fmod 10000000 < 10000000:=Int.fmod_lt_of_pos x (by decide)
  obtain ⟨m,hm⟩:=Int.eq_ofNat_of_zero_le h1
  rw [hm] at h2
  exact ⟨m,Int.ofNat_lt.mp h2,congrArg (fun i=>some (PyData.int i)) hm⟩
theorem k6 {o:Slot} {r:Rho} {x:Nat} {d:D} (h:r.get x=o) (ho:∀ m d,o=some (m,d)→m = .fr) (hx:x < r.length):r.put x .fr d=some (r.set x (some (.fr,d))):=by
  unfold Rho.put
  rw [h]
  match o,ho with
  | none,_=>exact if_pos (decide_eq_true hx)
  | some (m,d),ho=>cases ho _ _ rfl;exact if_pos (decide_eq_true hx)
noncomputable def rD (xs:D) (c:List Nat) (o2 o3:Slot) (t:List Slot):Rho:=some (.fr,xs) :: some (.own,.list (c.map nI)) :: o2 :: o3 :: t
noncomputable abbrev frS (o:Slot):Prop:=∀ m d,o=some (m,d)→m = .fr
theorem f5 (d:D):frS (some (.fr,d)):=by rintro m d' ⟨⟩;rfl
theorem p0:frS none:=by rintro m d' ⟨⟩
theorem dz6 {j:Nat} (hj2:j < 1000000):(decide ((0:Int)≤(j:Int)) && decide ((j:Int) < 1152921504606846976))=true:=by
  rw [decide_eq_true (Int.natCast_nonneg j),decide_eq_true (show (j:Int) < 1152921504606846976 by lia)];rfl
theorem dc2 {calls:String→List D→Option D} {fr:String→Bool} {x:Nat} {i e:IR} {op:Operator} {r r2:Rho} {l:List D} {j:Nat} {old d:D} {v:Int} (h1:look calls i r=some (nI j)) (h2:look calls e r=some d) (hx:r.get x=some (.own,.list l)) (hj:l[j]?=some old) (hj2:j < 1000000) (hv:ah2 (fun a b=>some (a+b)) old d=some v)
    (hp:r.put x .own (.list (l.set j (.int v)))=some r2):exec calls fr (.augItem x i op e) r=some (.next,r2):=ob h1 (ob h2 (ob (congrArg ao4 hx) (ob rfl (ob rfl (s8 (dz6 hj2) (ob hj (ob hv (ob hp rfl))))))))
set_option tactic.hygienic true in
noncomputable def eh7:Slot→Slot
  | some (.own,d)=>some (.fr,d)
  | s=>s
set_option tactic.hygienic true in
theorem el4 (r:Rho) (i j:Nat):(r.frz i)[j]?=if i=j then r[j]?.map eh7 else r[j]?:=by
  unfold Rho.frz
  split
  · rename_i d e
    unfold Rho.get at e
    rw [List.getElem?_set]
    by_cases h:i=j
    · subst h
      rw [if_pos rfl,if_pos rfl]
      by_cases hl:i < r.length
      · rw [if_pos hl,List.getElem?_eq_getElem hl]
        rw [List.getElem?_eq_getElem hl] at e
        simp only [Option.getD_some] at e
        rw [e];rfl
      · rw [if_neg hl,List.getElem?_eq_none (by lia)];rfl
    · rw [if_neg h,if_neg h]
  · rename_i hne
    by_cases h:i=j
    · subst h
      rw [if_pos rfl]
      by_cases hl:i < r.length
      · rw [List.getElem?_eq_getElem hl]
        have:r.get i=r[i]:=by unfold Rho.get;rw [List.getElem?_eq_getElem hl];rfl
        rw [this] at hne
        match r[i],hne with
        | none,_=>rfl
        | some (.fr,d),_=>rfl
        | some (.own,d),hne=>exact absurd rfl (hne d)
        | some (.lock,d),_=>rfl
        | some (.cap,d),_=>rfl
      · rw [List.getElem?_eq_none (by lia)];rfl
    · rw [if_neg h]
theorem bp7:∀ (n:Nat) (r:Rho) (j:Nat),(frzFrom r n)[j]?=if j < n then r[j]?.map eh7 else r[j]?
  | 0,r,j=>by rw [if_neg (by lia)];rfl
  | n+1,r,j=>by
    rw [frzFrom,bp7 n,el4]
    by_cases h1:j < n
    · rw [if_pos h1,if_neg (by lia),if_pos (by lia)]
    · rw [if_neg h1]
      by_cases h2:n=j
      · rw [if_pos h2,if_pos (by lia)]
      · rw [if_neg h2,if_neg (by lia)]
theorem bc6 (r:Rho):ax7 r=r.map eh7:=by
  refine List.ext_getElem? fun j=>?_
  unfold ax7
  rw [bp7,List.getElem?_map]
  split
  · rfl
  · rename_i h;rw [List.getElem?_eq_none (by lia)];rfl
noncomputable def rsN (c:Nat):Nat→Nat
  | 0=>c
  | i+1=>rsN c i / (i+1)
noncomputable def avN (c:Nat):Nat→Nat
  | 0=>0
  | i+1=>rsN c i % (i+1)
theorem df6 (c:Nat):∀ i,rsN c i≤c
  | 0=>Nat.le_refl _
  | i+1=>Nat.le_trans (Nat.div_le_self _ _) (df6 c i)
theorem ei9 (c:Nat) {k:Nat} (h:1≤k):avN c k < k:=by
  cases k with
  | zero=>lia
  | succ i=>exact Nat.mod_lt _ (by lia)
theorem bs0 (n:Nat) (h:n≤1000):ax2 [.int 1,.int ((n+1:Nat):Int)]=some ((List.range n).map fun (k:Nat)=>.int (((k+1:Nat)):Int)):=by
  have h1:inR ((n+1:Nat):Int)=true:=by
    unfold inR
    rw [decide_eq_true (show (-1048576:Int)≤((n+1:Nat):Int) by lia),decide_eq_true (show ((n+1:Nat):Int)≤1048576 by lia)];rfl
  have h2:inR 1=true:=by decide
  refine cf7 (cd9 rfl (ob rfl (ob rfl (ob rfl (s8 (f7 h2 h1) ?_)))))
  rw [show (((n+1:Nat):Int) - 1).toNat=n by lia]
  exact congrArg some (List.map_congr_left fun k ξ=>congrArg PyData.int (Int.add_comm 1 k))
end
section
open PySem.StrLaws PySem.Builtin PySem.Builtin.Str
noncomputable def f9 (av:Nat→Nat) (nm:Nat→Str) (k:Nat):List Str:=if h:av k < k then f9 av nm (av k) ++ [nm (k - 1)] else []
termination_by k
noncomputable def ch (av:Nat→Nat) (k:Nat):List Nat:=k :: (if h:av k < k then ch av (av k) else [])
termination_by k
section
variable {av:Nat→Nat} {nm:Nat→Str}
theorem ab1 {k:Nat} (h:av k < k):f9 av nm k=f9 av nm (av k) ++ [nm (k - 1)]:=by rw [f9,dif_pos h]
theorem ae0 {k:Nat} (h:¬ av k < k):f9 av nm k=[]:=by rw [f9,dif_neg h]
theorem bq8 {k:Nat} (h:av k < k):ch av k=k :: ch av (av k):=by rw [ch,dif_pos h]
theorem bn2 {k:Nat} (h:¬ av k < k):ch av k=[k]:=by rw [ch,dif_neg h]
theorem cn5:∀ k,(f9 av nm k).length≤k:=by
  intro k
  induction k using Nat.strongRecOn with
  | _ k ih=>
    by_cases h:av k < k
    · rw [ab1 h];have:=ih _ h;simp;exact Nat.lt_of_le_of_lt ‹_› ‹_›
    · rw [ae0 h];simp
theorem ad6 (hn:∀ i,ah7 (nm i)):∀ k,NA (f9 av nm k):=by
  intro k
  induction k using Nat.strongRecOn with
  | _ k ih=>
    by_cases h:av k < k
    · rw [ab1 h]
      intro n hn'
      rcases List.mem_append.mp hn' with q | q
      · exact ih _ h n q
      · rw [List.mem_singleton] at q;subst q;exact hn _
    · rw [ae0 h];intro n q;cases q
theorem ak3:∀ k,∀ j∈ch av k,j≤k:=by
  intro k
  induction k using Nat.strongRecOn with
  | _ k ih=>
    intro j hj
    by_cases h:av k < k
    · rw [bq8 h] at hj
      rcases List.mem_cons.mp hj with rfl | q
      · exact Nat.le_refl _
      · exact Nat.le_trans (ih _ h j q) (Nat.le_of_lt h)
    · rw [bn2 h,List.mem_singleton] at hj;exact Nat.le_of_eq ‹_›
theorem eg1:∀ k,(ch av k).length≤k+1:=by
  intro k
  induction k using Nat.strongRecOn with
  | _ k ih=>
    by_cases h:av k < k
    · rw [bq8 h];have:=ih _ h;simp;exact Nat.le_trans ‹_› ‹_›
    · rw [bn2 h];simp
theorem cq4 (l:List Str) (x:Str):au5 (l ++ [x])=au5 l ++ [l ++ [x]]:=by
  unfold au5
  rw [List.length_append,List.length_singleton,List.range_succ (n:=l.length+1),List.map_append]
  congr 1
  · refine List.map_congr_left fun k hk=>?_
    rw [List.mem_range] at hk
    rw [List.take_append_of_le_length (by exact Nat.le_of_lt_succ ‹_›)]
  · simp only [List.map_cons,List.map_nil]
    rw [List.take_of_length_le (by simp)]
theorem bq6:∀ k,au5 (f9 av nm k)=((ch av k).map (f9 av nm)).reverse:=by
  intro k
  induction k using Nat.strongRecOn with
  | _ k ih=>
    by_cases h:av k < k
    · rw [bq8 h,List.map_cons,List.reverse_cons,← ih _ h]
      conv=>lhs;rw [ab1 h]
      conv=>rhs;rw [ab1 h]
      rw [cq4]
    · rw [bn2 h,ae0 h];simp [au5,ae0 h]
theorem bm6 {k:Nat} {n:List Str}:n <+: f9 av nm k↔∃ j∈ch av k,f9 av nm j=n:=by
  rw [← bz6,bq6];simp
theorem dc5 (k:Nat):u0 (f9 av nm k)=((ch av k).map fun j=>PS (f9 av nm j)).reverse:=by
  unfold u0
  rw [bq6,List.map_reverse,List.map_map];rfl
variable (hav:∀ k,1≤k→av k < k) (hnm:∀ i,ah7 (nm i)) (hinj:∀ i j,i < 10→j < 10→nm i=nm j→i=j)
include hav hnm hinj
theorem bd8 {j k:Nat} (hj:j < 11) (hk:k < 11) (h:f9 av nm j=f9 av nm k):j=k:=by
  by_cases e1:j=0 <;> by_cases e2:k=0
  · exact e1.trans e2.symm
  · subst e1
    rw [ae0 (by lia),ab1 (hav k (by exact Nat.pos_of_ne_zero ‹_›))] at h
    simp at h
  · subst e2
    rw [ae0 (k:=0) (by lia),ab1 (hav j (by exact Nat.pos_of_ne_zero ‹_›))] at h
    simp at h
  · rw [ab1 (hav k (by exact Nat.pos_of_ne_zero ‹_›)),ab1 (hav j (by exact Nat.pos_of_ne_zero ‹_›))] at h
    have q:nm (j - 1)=nm (k - 1):=by simpa using List.append_inj_right' h rfl
    have:=hinj (j - 1) (k - 1) (Nat.lt_of_succ_lt_succ (Nat.succ_pred_eq_of_pos (Nat.pos_of_ne_zero e1)▸hj)) (Nat.lt_of_succ_lt_succ (Nat.succ_pred_eq_of_pos (Nat.pos_of_ne_zero e2)▸hk)) q
    rw [← Nat.succ_pred_eq_of_pos (Nat.pos_of_ne_zero e1),← Nat.succ_pred_eq_of_pos (Nat.pos_of_ne_zero e2)]
    exact congrArg Nat.succ this
theorem ak2 {j k:Nat} (hj:j < 11) (hk:k < 11) (h:PS (f9 av nm j)=PS (f9 av nm k)):j=k:=
  bd8 hav hnm hinj hj hk (cq0 (ad6 hnm j) (ad6 hnm k) h)
theorem dv4 {a b:Nat} (ha:a < 11) (hb:b < 11):∃ m,m∈ch av a∧m∈ch av b∧f9 av nm m=lcp (f9 av nm a) (f9 av nm b)∧∀ k,k∈ch av a→k∈ch av b→k≤m:=by
  obtain ⟨m,hm,e⟩:=bm6.mp (bd9 (f9 av nm a) (f9 av nm b))
  obtain ⟨m',hm',e'⟩:=bm6.mp (ds4 (f9 av nm a) (f9 av nm b))
  have l1:=ak3 a m hm
  have l2:=ak3 b m' hm'
  have:m=m':=bd8 hav hnm hinj (by exact Nat.lt_of_le_of_lt ‹_› ‹_›) (by exact Nat.lt_of_le_of_lt ‹_› ‹_›) (e.trans e'.symm)
  subst this
  refine ⟨m,hm,hm',e,fun k h1 h2=>?_⟩
  have p:f9 av nm k <+: f9 av nm m:=by
    rw [e];exact cc7 (bm6.mpr ⟨k,h1,rfl⟩) (bm6.mpr ⟨k,h2,rfl⟩)
  obtain ⟨j,hj,e2⟩:=bm6.mp p
  have l3:=ak3 m j hj
  have l4:=ak3 a k h1
  have:j=k:=bd8 hav hnm hinj (by lia) (by exact Nat.lt_of_le_of_lt ‹_› ‹_›) e2
  lia
end
end
section
open PySem.StrLaws PySem.Builtin PySem.Builtin.Str
noncomputable def sm (l:List Nat) (g:Nat→Nat):Nat:=(l.map g).sum
noncomputable abbrev ind (c:Prop) [Decidable c] (x:Nat):Nat:=if c then x else 0
theorem af8 (a:Nat) (l:List Nat) (g:Nat→Nat):sm (a :: l) g=g a+sm l g:=List.sum_cons
theorem n5 {l:List Nat} {f g:Nat→Nat} (h:∀ k∈l,f k=g k):sm l f=sm l g:=congrArg List.sum (List.map_congr_left h)
theorem ec8 {f g:Nat→Nat}:∀ {l:List Nat},(∀ k∈l,f k≤g k)→sm l f≤sm l g
  | [],_=>Nat.le_refl _
  | a :: l,h=>by rw [af8,af8];exact Nat.add_le_add (h a (by simp)) (ec8 fun k hk=>h k (by simp [hk]))
theorem bg9 (f g:Nat→Nat):∀ l:List Nat,sm l (fun k=>f k+g k)=sm l f+sm l g
  | []=>rfl
  | a :: l=>by rw [af8,af8,af8,bg9 f g l];lia
theorem as5:∀ l:List Nat,sm l (fun ξ=>0)=0
  | []=>rfl
  | a :: l=>by rw [af8,as5 l]
theorem ca6 (f:Nat→Nat→Nat) (m:List Nat):∀ l:List Nat,sm l (fun a=>sm m (f a))=sm m fun b=>sm l fun a=>f a b
  | []=>(as5 m).symm
  | a :: l=>by
    rw [af8,ca6 f m l,← bg9]
    exact n5 fun k ξ=>(af8 a l fun a=>f a k).symm
theorem bh1 {g:Nat→Nat} {a:Nat}:∀ {l:List Nat},l.Nodup→sm l (fun k=>ind (k=a) (g k))=ind (a∈l) (g a)
  | [],_=>rfl
  | b :: l,h=>by
    rw [af8,bh1 (List.nodup_cons.mp h).2]
    have hb:=(List.nodup_cons.mp h).1
    by_cases e:b=a
    · subst e;simp [ind,hb]
    · simp [ind,e,Ne.symm e]
theorem dj2 (c:Prop) [Decidable c] (l:List Nat) (g:Nat→Nat):sm l (fun k=>ind c (g k))=ind c (sm l g):=by
  by_cases h:c
  · simp only [ind,if_pos h]
  · simp only [ind,if_neg h];exact as5 l
theorem am6 (p:Nat→Bool) (g:Nat→Nat):∀ l:List Nat,sm (l.filter p) g=sm l fun k=>ind (p k=true) (g k)
  | []=>rfl
  | a :: l=>by
    rw [af8,List.filter_cons,← am6 p g l]
    by_cases e:p a=true
    · simp only [ind,if_pos e,af8]
    · simp only [ind,if_neg e,Nat.zero_add]
theorem cb5 (l:List Nat):sm l (fun ξ=>1)=l.length:=by
  induction l with
  | nil=>rfl
  | cons a l ih=>rw [af8,ih,List.length_cons,Nat.add_comm]
theorem cu6 {l m:List Nat} (h:l.Perm m) (g:Nat→Nat):sm l g=sm m g:=(h.map g).sum_nat
theorem dg1 {m k c n:Nat} (h:m - k≤n+1) (hk:k < c) (hm:k < m):m - c≤n:=Nat.le_of_lt_succ (Nat.lt_of_lt_of_le (Nat.sub_lt_sub_left hm hk) h)
noncomputable def L10:List Nat:=List.range' 1 10
theorem am3 {k:Nat}:k∈L10↔1≤k∧k≤10:=List.mem_range'_1.trans (and_congr_right fun ξ=>Nat.lt_succ_iff)
theorem bg1:L10.Nodup:=List.nodup_range'
section
variable {av:Nat→Nat} (hav:∀ k,1≤k→av k < k) (ha5:∀ k,av k < 5)
noncomputable def KS (av:Nat→Nat) (f:Nat) (h:Nat→Nat):Nat:=sm L10 fun c=>ind (av c=f) (h c)
theorem ar4 {f:Nat} {g h:Nat→Nat} (q:∀ c,1≤c→c≤10→av c=f→g c=h c):KS av f g=KS av f h:=n5 fun c hc=>by
  obtain ⟨h1,h2⟩:=am3.mp hc
  by_cases e:av c=f
  · simp only [ind,if_pos e,q c h1 h2 e]
  · simp only [ind,if_neg e]
theorem ee5 {f:Nat} {g h:Nat→Nat} (q:∀ c,1≤c→c≤10→av c=f→g c≤h c):KS av f g≤KS av f h:=ec8 fun c hc=>by
  obtain ⟨h1,h2⟩:=am3.mp hc
  by_cases e:av c=f
  · simp only [ind,if_pos e,q c h1 h2 e]
  · simp only [ind,if_neg e];exact Nat.le_refl _
theorem cf5 (f:Nat) (g h:Nat→Nat):KS av f (fun c=>g c+h c)=KS av f g+KS av f h:=by
  unfold KS
  rw [← bg9]
  refine n5 fun c ξ=>?_
  by_cases e:av c=f
  · simp only [ind,if_pos e]
  · simp only [ind,if_neg e]
noncomputable def PH (av:Nat→Nat) (g:Nat→Nat) (f:Nat):Nat:=sm (List.range 5) fun p=>ind (f∈ch av p) (g p)
include hav in
theorem ay4 {j:Nat} (h:1≤j):ch av j=j :: ch av (av j):=bq8 (hav j h)
include hav in
theorem ef2 {f x:Nat}:∀ {j:Nat},j≤10→ind (f∈ch av j) x=ind (j=f) x+KS av f fun c=>ind (c∈ch av j) x:=by
  intro j
  induction j using Nat.strongRecOn with
  | _ j ih=>
    intro hj
    by_cases e:j=0
    · subst e
      rw [bn2 (by lia)]
      have:KS av f (fun c=>ind (c∈[0]) x)=KS av f fun ξ=>0:=ar4 fun c h1 ξ ξ=>if_neg (by simp;exact Nat.ne_of_gt ‹_›)
      rw [this]
      have:KS av f (fun ξ=>0)=0:=(n5 fun c ξ=>by simp [ind]).trans (as5 L10)
      rw [this];simp [ind,eq_comm]
    · have hlt:=hav j (by exact Nat.pos_of_ne_zero ‹_›)
      have h1:=ih (av j) hlt (by lia)
      rw [ay4 hav (by exact Nat.pos_of_ne_zero ‹_›)]
      have hn:j ∉ ch av (av j):=fun q=>absurd (ak3 _ _ q) (by lia)
      have h2:KS av f (fun c=>ind (c∈j :: ch av (av j)) x)=KS av f (fun c=>ind (c=j) x)+KS av f fun c=>ind (c∈ch av (av j)) x:=by
        rw [← cf5]
        refine ar4 fun c ξ ξ ξ=>?_
        by_cases q:c=j
        · subst q;simp [ind,hn]
        · simp [ind,q]
      have h3:KS av f (fun c=>ind (c=j) x)=ind (av j=f) x:=by
        have:KS av f (fun c=>ind (c=j) x)=sm L10 fun c=>ind (c=j) (ind (av c=f) x):=n5 fun c ξ=>by
          by_cases q:c=j
          · simp [ind,q]
          · simp [ind,q]
        rw [this,bh1 bg1]
        exact if_pos (am3.mpr ⟨by exact Nat.pos_of_ne_zero ‹_›,hj⟩)
      rw [h2,h3,← h1]
      by_cases q:j=f
      · subst q;simp [ind,hn]
      · simp [ind,q,Ne.symm q]
include hav in
theorem dm3 (g:Nat→Nat) (f:Nat):PH av g f=ind (f < 5) (g f)+KS av f (PH av g):=by
  have h1:PH av g f=sm (List.range 5) fun p=>ind (p=f) (g p)+KS av f fun c=>ind (c∈ch av p) (g p):=n5 fun p hp=>ef2 hav (by have:=List.mem_range.mp hp;exact Nat.le_trans (Nat.le_of_lt ‹_›) (Nat.le_of_ble_eq_true rfl))
  rw [h1,bg9,bh1 List.nodup_range]
  congr 1
  · simp
  · unfold KS
    rw [ca6]
    exact n5 fun c ξ=>dj2 _ _ _
theorem cy2 (g:Nat→Nat) {f:Nat} (h:5≤f):PH av g f=0:=(n5 fun p hp=>if_neg fun q=>by
  have:=ak3 _ _ q
  have:=List.mem_range.mp hp
  lia).trans (as5 _)
include hav in

theorem er9 {x mn z:Nat→Nat} (hz:∀ k,5≤k→z k=0) (h:∀ p,p < 5→mn p+z p≤x p+KS av p z):∀ f,PH av mn f+z f≤PH av x f:=by
  have key:∀ n f,5 - f≤n→PH av mn f+z f≤PH av x f:=by
    intro n
    induction n with
    | zero=>
      intro f hf
      rw [cy2 _ (by lia),hz f (by lia)];exact Nat.zero_le _
    | succ n ih=>
      intro f hf
      by_cases h5:5≤f
      · rw [cy2 _ h5,hz f h5];exact Nat.zero_le _
      · rw [dm3 hav mn,dm3 hav x]
        simp only [ind,if_pos (Nat.not_le.mp h5)]
        have h1:KS av f (fun c=>PH av mn c+z c)≤KS av f (PH av x):=ee5 fun c h1 ξ e=>ih c (dg1 hf (e▸hav c h1) (Nat.not_le.mp h5))
        rw [cf5] at h1
        have:=h f (Nat.not_le.mp h5)
        lia
  exact fun f=>key _ f (Nat.le_refl _)
include ha5 in

theorem cj7 (q:Nat→Nat→Nat) (f:Nat):sm L10 (fun k=>ind (f∈ch av (av k)) (q k (av k)))=PH av (fun p=>KS av p fun k=>q k p) f:=by
  unfold PH KS
  have h1:∀ p,ind (f∈ch av p) (sm L10 fun c=>ind (av c=p) (q c p))=sm L10 fun c=>ind (p=av c) (ind (f∈ch av p) (q c p)):=fun p=>by
    rw [← dj2]
    refine n5 fun c ξ=>?_
    by_cases e:av c=p
    · simp [ind,e]
    · simp [ind,e,Ne.symm e]
  rw [show (fun p=>ind (f∈ch av p) (sm L10 fun c=>ind (av c=p) (q c p)))=_ from funext h1,ca6]
  refine n5 fun c ξ=>?_
  rw [bh1 (g:=fun p=>ind (f∈ch av p) (q c p)) List.nodup_range]
  exact (if_pos (List.mem_range.mpr (ha5 c))).symm
end
end
section
open PySem.StrLaws PySem.Builtin PySem.Builtin.Str
noncomputable def nn (av t:Nat→Nat) (p m:Nat):Nat:=KS av p fun c=>ind (t c=m) 1
noncomputable def tS (n0 n1:Nat):Nat:=if n1 < n0 then 0 else if n0 < n1 then 1 else 2
noncomputable def tF (av kn:Nat→Nat):Nat→Nat→Nat
  | 0,k=>kn k
  | n+1,k=>if k < 5 then tS (nn av (tF av kn n) k 0) (nn av (tF av kn n) k 1) else kn k
noncomputable def tt (av kn:Nat→Nat):Nat→Nat:=tF av kn 5
noncomputable def mnF (av t:Nat→Nat) (p:Nat):Nat:=min (nn av t p 0) (nn av t p 1)
noncomputable def xF (av m:Nat→Nat) (p:Nat):Nat:=KS av p fun k=>ind (m k≠m p) 1
theorem et5 {a b:Nat}:tS a b≠1↔b≤a:=by
  unfold tS
  split
  · simp;exact Nat.le_of_lt ‹_›
  · split <;> simp <;> lia
theorem eu2 {a b:Nat}:tS a b≠0↔a≤b:=by
  unfold tS
  split
  · simp;assumption
  · split <;> simp <;> exact Nat.not_lt.mp ‹_›
theorem lt2 {n:Nat} (h:n < 2):n=0∨n=1:=by lia
theorem dq3 {m:Nat} (h:m < 2):1 - (1 - m)=m:=Nat.sub_sub_self (Nat.le_of_lt_succ h)
theorem cy6 (m:Nat):1 - m < 2:=Nat.lt_succ_of_le (Nat.sub_le 1 m)
theorem au2 {m:Nat} (h:m < 2):m≠1 - m:=by
  rcases lt2 h with rfl | rfl
  · exact Nat.zero_ne_one
  · exact Nat.one_ne_zero
theorem df8 {x m:Nat} (hx:x < 2) (hm:m < 2):x=m∨x=1 - m:=by
  rcases lt2 hx with rfl | rfl
  · rcases lt2 hm with rfl | rfl
    · exact .inl rfl
    · exact .inr rfl
  · rcases lt2 hm with rfl | rfl
    · exact .inr rfl
    · exact .inl rfl
theorem bg6 {m:Nat} (h:m < 2) (f:Nat→Nat):min (f 0) (f 1)=min (f m) (f (1 - m)):=by
  rcases lt2 h with rfl | rfl
  · rfl
  · exact Nat.min_comm ..
theorem eg0 {x m:Nat} (hx:x < 2) (hm:m < 2):x≠m↔x=1 - m:=⟨fun h=>(df8 hx hm).resolve_left h,fun h=>h▸(au2 hm).symm⟩
theorem es6 (c:Prop) [Decidable c]:ind c 1≤1:=by
  unfold ind;split
  · exact Nat.le_refl _
  · exact Nat.zero_le _
section
variable {av kn:Nat→Nat} (hav:∀ k,1≤k→av k < k) (hkn:∀ k,kn k < 2)
theorem bd4 {n k:Nat} (h:5≤k):tF av kn n k=kn k:=by
  cases n with
  | zero=>rfl
  | succ n=>exact if_neg (Nat.not_lt.mpr h)
include hav in
theorem be0 {t u:Nat→Nat} {p m:Nat} (h:∀ c,p < c→t c=u c):nn av t p m=nn av u p m:=ar4 fun c h1 ξ e=>by rw [h c (e▸hav c h1)]
include hav in
theorem cu1:∀ n k,5 - k≤n→tF av kn (n+1) k=tF av kn n k
  | 0,k,h=>(bd4 (by lia)).trans (bd4 (by lia)).symm
  | n+1,k,h=>by
    by_cases h5:k < 5
    · have ih:∀ c,k < c→tF av kn (n+1) c=tF av kn n c:=fun c hc=>cu1 n c (dg1 h hc h5)
      rw [tF,tF,if_pos h5,if_pos h5,be0 hav ih,be0 hav ih]
    · rw [bd4 (by exact Nat.not_lt.mp ‹_›),bd4 (by exact Nat.not_lt.mp ‹_›)]
theorem bf4 {k:Nat} (h:5≤k):tt av kn k=kn k:=bd4 h
include hav in
theorem ep7 {k:Nat} (h:k < 5):tt av kn k=tS (nn av (tt av kn) k 0) (nn av (tt av kn) k 1):=by
  have ih:∀ c,k < c→tF av kn 4 c=tF av kn 5 c:=fun c hc=>(cu1 hav 4 c (Nat.sub_le_sub_left (Nat.succ_le_of_lt (Nat.zero_lt_of_lt hc)) 5)).symm
  unfold tt
  conv=>lhs;rw [tF]
  rw [if_pos h,be0 hav ih,be0 hav ih]
include hav in

theorem cf1 {k a:Nat} (h:k < 5) (ha:a < 2):tt av kn k≠1 - a↔nn av (tt av kn) k (1 - a)≤nn av (tt av kn) k a:=by
  rw [ep7 hav h]
  rcases lt2 ha with rfl | rfl
  · exact et5
  · exact eu2
noncomputable abbrev ca8 (kn m:Nat→Nat):Prop:=(∀ k,m k < 2)∧∀ k,5≤k→m k=kn k
include hav in
theorem dx7 {m:Nat→Nat} (hm:ca8 kn m) (f:Nat):PH av (mnF av (tt av kn)) f+ind (tt av kn f=1 - m f) 1≤PH av (xF av m) f:=by
  refine er9 (z:=fun k=>ind (tt av kn k=1 - m k) 1) hav (fun k hk=>if_neg ?_) (fun p hp=>?_) f
  · rw [bf4 hk,← hm.2 k hk];exact au2 (hm.1 k)
  · have h1:nn av (tt av kn) p (1 - m p)≤xF av m p+KS av p fun k=>ind (tt av kn k=1 - m k) 1:=by
      unfold xF
      rw [← cf5]
      refine ee5 fun c ξ ξ ξ=>?_
      by_cases e:m c=m p
      · rw [e];exact Nat.le_add_left ..
      · have:ind (m c≠m p) 1=1:=if_pos e
        rw [this]
        exact Nat.le_trans (es6 _) (Nat.le_add_right ..)
    refine Nat.le_trans ?_ h1
    have h2:=cf1 (kn:=kn) hav hp (hm.1 p)
    unfold mnF
    rw [bg6 (hm.1 p)]
    by_cases e:tt av kn p=1 - m p
    · rw [ind,if_pos e]
      exact Nat.lt_of_le_of_lt (Nat.min_le_left ..) (Nat.not_le.mp (mt h2.mpr fun q=>q e))
    · rw [ind,if_neg e]
      exact Nat.min_le_right ..
noncomputable def dn (av kn:Nat→Nat) (f a:Nat) (k:Nat):Nat:=if 5≤k then kn k else if k≤f then a else if h:av k < k then (if tt av kn k=1 - dn av kn f a (av k) then 1 - dn av kn f a (av k) else dn av kn f a (av k)) else a
termination_by k
theorem cc6 {f a k:Nat} (h:5≤k):dn av kn f a k=kn k:=by rw [dn,if_pos h]
theorem cs8 {f a k:Nat} (h:k < 5) (h2:k≤f):dn av kn f a k=a:=by rw [dn,if_neg (Nat.not_le.mpr h),if_pos h2]
include hav in
theorem df9 {f a k:Nat} (h:k < 5) (h2:f < k):dn av kn f a k=if tt av kn k=1 - dn av kn f a (av k) then 1 - dn av kn f a (av k) else dn av kn f a (av k):=by
  conv=>lhs;rw [dn]
  rw [if_neg (Nat.not_le.mpr h),if_neg (Nat.not_le.mpr h2),dif_pos (hav k (by lia))]
include hkn hav in
theorem en1 {f a:Nat} (ha:a < 2):∀ k,dn av kn f a k < 2:=by
  intro k
  induction k using Nat.strongRecOn with
  | _ k ih=>
    by_cases h:5≤k
    · rw [cc6 h];exact hkn k
    · by_cases h2:k≤f
      · rw [cs8 (Nat.not_le.mp h) h2];exact ha
      · rw [df9 hav (Nat.not_le.mp h) (Nat.not_le.mp h2)]
        split
        · exact cy6 _
        · exact ih _ (hav k (Nat.lt_of_le_of_lt (Nat.zero_le f) (Nat.not_le.mp h2)))
include hkn hav in
theorem cu7 {f a:Nat} (hf:f < 5) (ha:a < 2) (hs:tt av kn f≠1 - a):∃ m,ca8 kn m∧m f=a∧PH av (xF av m) f=PH av (mnF av (tt av kn)) f:=by
  have hlt:=en1 (f:=f) hav hkn ha
  refine ⟨dn av kn f a,⟨hlt,fun k=>cc6⟩,cs8 hf (Nat.le_refl _),n5 fun p hp=>?_⟩
  have hp5:=List.mem_range.mp hp
  by_cases hc:f∈ch av p
  · simp only [ind,if_pos hc]
    have hfp:=ak3 _ _ hc
    have h1:xF av (dn av kn f a) p=nn av (tt av kn) p (1 - dn av kn f a p):=ar4 fun c h1 h2 e=>by
      have hm:=hlt p
      have:dn av kn f a c≠dn av kn f a p↔tt av kn c=1 - dn av kn f a p:=by
        by_cases h5:5≤c
        · rw [cc6 h5,bf4 h5]
          exact eg0 (hkn c) hm
        · rw [df9 hav (k:=c) (Nat.not_le.mp h5) (Nat.lt_of_le_of_lt (e▸hfp) (hav c h1)),e]
          split
          · exact iff_of_true (au2 hm).symm (by assumption)
          · exact iff_of_false (fun q=>q rfl) (by assumption)
      simp only [ind,this]
    have h2:tt av kn p≠1 - dn av kn f a p:=by
      by_cases e:p=f
      · subst e;rw [cs8 hp5 (Nat.le_refl _)];exact hs
      · rw [df9 hav hp5 (Nat.lt_of_le_of_ne hfp (Ne.symm e))]
        split
        · rw [dq3 (hlt _)]
          exact fun q=>au2 (hlt (av p)) (q.symm.trans (by assumption))
        · assumption
    have h3:=(cf1 hav hp5 (hlt p)).mp h2
    rw [h1]
    exact ((bg6 (hlt p) _).trans (Nat.min_eq_right h3)).symm
  · simp only [ind,if_neg hc]
noncomputable def mB (kn:Nat→Nat) (n k:Nat):Nat:=if k < 5 then n / 2 ^ k % 2 else kn k
noncomputable def bN (a b c d e:Nat):Nat:=a+2 * b+4 * c+8 * d+16 * e
noncomputable def em3 (a b c d e:Fin 2):Bool:=decide (bN a b c d e < 32) && (bN a b c d e / 2 ^ 0 % 2 == a.1 && (bN a b c d e / 2 ^ 1 % 2 == b.1 && (bN a b c d e / 2 ^ 2 % 2 == c.1 && (bN a b c d e / 2 ^ 3 % 2 == d.1 && bN a b c d e / 2 ^ 4 % 2 == e.1))))
theorem et8:∀ a b c d e:Fin 2,em3 a b c d e=true:=by decide +kernel
include hkn in
theorem el9 (n:Nat):ca8 kn (mB kn n):=⟨fun k=>by
  unfold mB;split
  · exact Nat.mod_lt _ (by decide)
  · exact hkn k,fun k h=>if_neg (Nat.not_lt.mpr h)⟩
theorem em2 {m:Nat→Nat} (hm:ca8 kn m):∃ n,n < 32∧mB kn n=m:=by
  have h:=et8 ⟨_,hm.1 0⟩ ⟨_,hm.1 1⟩ ⟨_,hm.1 2⟩ ⟨_,hm.1 3⟩ ⟨_,hm.1 4⟩
  simp only [em3,Bool.and_eq_true,decide_eq_true_eq,beq_iff_eq] at h
  obtain ⟨hn,h0,h1,h2,h3,h4⟩:=h
  refine ⟨_,hn,funext fun k=>?_⟩
  unfold mB
  by_cases h:k < 5
  · rw [if_pos h]
    rcases k with _ | _ | _ | _ | _ | k
    · exact h0
    · exact h1
    · exact h2
    · exact h3
    · exact h4
    · exact absurd h (by lia)
  · rw [if_neg h,hm.2 k (by exact Nat.not_lt.mp ‹_›)]
end
end
section
open PySem.StrLaws PySem.Builtin PySem.Builtin.Str
noncomputable abbrev It:=Nat×Nat×List Nat
noncomputable def NN (av t:Nat→Nat) (k p m:Nat):Nat:=KS av p fun c=>ind (k≤c) (ind (t c=m) 1)
noncomputable abbrev itB (kn:Nat→Nat) (p m:Nat) (i:It):Bool:=i.1 == p && kn i.2.1 == m
structure bh6 (av:Nat→Nat) (k:Nat) (i:It):Prop where
  p5:i.1 < 5
  e5:5≤i.2.1
  e10:i.2.1≤10
  way:i.2.2 ++ ch av i.1=ch av i.2.1
  low:∀ x∈i.2.2,k≤x
structure Inv (av kn t:Nat→Nat) (k:Nat) (I:List It) (W:List (It×It)):Prop where
  nd:(I.flatMap (·.2.2) ++ W.flatMap fun w=>w.1.2.2 ++ w.2.2.2).Nodup
  ok:∀ i∈I,bh6 av k i
  okW:∀ w∈W,bh6 av k w.1∧bh6 av k w.2∧w.1.1=w.2.1∧kn w.1.2.1=1∧kn w.2.2.1=0
  cnt:∀ p m,p < k→p < 5→m < 2→I.countP (itB kn p m)=NN av t k p m - NN av t k p (1 - m)
  len:W.length=sm (List.range 5) fun p=>min (NN av t k p 0) (NN av t k p 1)
theorem ev7 {a b:Nat} (h:a≤b):a - b=a - (b+1):=(Nat.sub_eq_zero_of_le h).trans (Nat.sub_eq_zero_of_le (Nat.le_succ_of_le h)).symm
theorem ev2 {a b:Nat} (h:b≤a):min (a+1) b=min a b:=(Nat.min_eq_right (Nat.le_succ_of_le h)).trans (Nat.min_eq_right h).symm
theorem eo5 {a b:Nat} (h:a < b):min (a+1) b=min a b+1:=(Nat.min_eq_left h).trans (congrArg (·+1) (Nat.min_eq_left (Nat.le_of_lt h)).symm)
theorem et3 {c a b:Nat} (h:c+1=a - b):c=a - (b+1):=congrArg Nat.pred h
theorem z_1 {c a b:Nat} (h:c=a - b) (q:a < b):c=a+1 - b:=h.trans ((Nat.sub_eq_zero_of_le (Nat.le_of_lt q)).trans (Nat.sub_eq_zero_of_le q).symm)
theorem bo0 {kn:Nat→Nat} {p m:Nat} {i:It} (h:i.1=p→kn i.2.1≠m):itB kn p m i=false:=by
  cases q:itB kn p m i with
  | false=>rfl
  | true=>exact absurd (ad9 (b8 q).2) (h (ad9 (b8 q).1))
theorem ds0 {kn:Nat→Nat} {p m:Nat} {i:It} (h:i.1=p) (h2:kn i.2.1=m):itB kn p m i=true:=f7 (beq_iff_eq.mpr h) (beq_iff_eq.mpr h2)
section
variable {av kn:Nat→Nat} (hav:∀ k,1≤k→av k < k) (ha5:∀ k,av k < 5) (hkn:∀ k,kn k < 2)
theorem bh6.le {k:Nat} {i:It} (h:bh6 av (k+1) i):bh6 av k i:=⟨h.p5,h.e5,h.e10,h.way,fun x hx=>Nat.le_of_succ_le (h.low x hx)⟩
theorem cu9 {t:Nat→Nat} {k p m:Nat} (h1:1≤k) (h2:k≤10):NN av t k p m=NN av t (k+1) p m+ind (av k=p) (ind (t k=m) 1):=by
  have e:KS av p (fun c=>ind (c=k) (ind (t c=m) 1))=ind (av k=p) (ind (t k=m) 1):=by
    have:KS av p (fun c=>ind (c=k) (ind (t c=m) 1))=sm L10 fun c=>ind (c=k) (ind (av c=p) (ind (t c=m) 1)):=n5 fun c ξ=>by
      by_cases q:c=k
      · simp [ind,q]
      · simp [ind,q]
    rw [this,bh1 (g:=fun c=>ind (av c=p) (ind (t c=m) 1)) bg1]
    exact if_pos (am3.mpr ⟨h1,h2⟩)
  unfold NN
  rw [← e,← cf5]
  refine ar4 fun c ξ ξ ξ=>?_
  by_cases q:c=k
  · subst q
    have:¬ c+1≤c:=Nat.not_succ_le_self c
    simp [ind,this]
  · have:k≤c↔k+1≤c:=by lia
    simp [ind,this,q]
include hav in
theorem cc1 {t:Nat→Nat} {k p m:Nat} (h:k≤p+1):NN av t k p m=nn av t p m:=ar4 fun c h1 ξ e=>if_pos (by have:=hav c h1;lia)
theorem ee3 {I:List It} {p m:Nat} (h:0 < I.countP (itB kn p m)):∃ i J,I.Perm (i :: J)∧i.1=p∧kn i.2.1=m:=by
  obtain ⟨i,hi,hq⟩:=List.countP_pos_iff.mp h
  simp only [itB,Bool.and_eq_true,beq_iff_eq] at hq
  exact ⟨i,I.erase i,List.perm_cons_erase hi,hq.1,hq.2⟩
inductive er3 (av kn:Nat→Nat) (k m:Nat) (I:List It):Prop
  | mk (it:It) (J:List It) (h1:it.1=av k) (h2:kn it.2.1=m) (ok:bh6 av k it) (p:(it.2.2 ++ J.flatMap (·.2.2)).Perm (k :: I.flatMap (·.2.2))) (hJ:∀ i∈J,bh6 av (k+1) i) (c:∀ p m,p < k→J.countP (itB kn p m)=I.countP (itB kn p m))
include hav ha5 in
theorem Inv.take {k m:Nat} {I:List It} {W:List (It×It)} (h1:1≤k) (h2:k≤10) (V:Inv av kn (tt av kn) (k+1) I W) (hm:tt av kn k=m) (ht:m < 2):er3 av kn k m I:=by
  by_cases h5:5≤k
  · exact ⟨(av k,k,[k]),I,rfl,(bf4 h5).symm.trans hm,⟨ha5 k,h5,h2,(ay4 hav h1).symm,by simp⟩,.refl _,V.ok,fun p m ξ=>rfl⟩
  · have k5:=Nat.not_le.mp h5
    have c1:=V.cnt k m (Nat.lt_succ_self k) k5 ht
    rw [cc1 hav (Nat.le_refl _),cc1 hav (Nat.le_refl _)] at c1
    have c2:=cf1 (kn:=kn) hav k5 (cy6 m)
    rw [dq3 ht] at c2
    have c3:=mt c2.mpr fun q=>q hm
    obtain ⟨i,J,hp,q1,q2⟩:=ee3 (kn:=kn) (I:=I) (p:=k) (m:=m) (c1▸Nat.sub_pos_of_lt (Nat.not_le.mp c3))
    have o:=V.ok i (hp.mem_iff.mpr List.mem_cons_self)
    refine ⟨(av k,i.2.1,i.2.2 ++ [k]),J,rfl,q2,⟨ha5 k,o.e5,o.e10,?_,fun x hx=>?_⟩,?_,fun j hj=>V.ok j (hp.mem_iff.mpr (List.mem_cons_of_mem _ hj)),fun p m hpk=>?_⟩
    · show (i.2.2 ++ [k]) ++ ch av (av k)=_
      rw [List.append_assoc,List.singleton_append,← ay4 hav h1,← q1];exact o.way
    · rcases List.mem_append.mp hx with q | q
      · exact Nat.le_of_succ_le (o.low x q)
      · rw [List.mem_singleton.mp q];exact Nat.le_refl _
    · refine .trans ?_ ((List.Perm.flatMap_right (fun i:It=>i.2.2) hp).symm.cons k)
      rw [List.flatMap_cons,List.append_assoc]
      exact List.perm_middle
    · rw [hp.countP_eq,List.countP_cons,bo0 fun q=>absurd (q.symm.trans q1) (Nat.ne_of_lt hpk)];rfl
theorem Inv.fresh {t:Nat→Nat} {k:Nat} {I:List It} {W:List (It×It)} (V:Inv av kn t (k+1) I W):k ∉ I.flatMap (·.2.2) ++ W.flatMap fun w=>w.1.2.2 ++ w.2.2.2:=fun q=>by
  have hk:=Nat.not_succ_le_self k
  rcases List.mem_append.mp q with q | q
  · obtain ⟨i,hi,q⟩:=List.mem_flatMap.mp q
    exact hk ((V.ok i hi).low k q)
  · obtain ⟨w,hw,q⟩:=List.mem_flatMap.mp q
    obtain ⟨o1,o2,_⟩:=V.okW w hw
    rcases List.mem_append.mp q with q | q
    · exact hk (o1.low k q)
    · exact hk (o2.low k q)
theorem Inv.oldW {t:Nat→Nat} {k:Nat} {I:List It} {W:List (It×It)} (V:Inv av kn t (k+1) I W):∀ w∈W,bh6 av k w.1∧bh6 av k w.2∧w.1.1=w.2.1∧kn w.1.2.1=1∧kn w.2.2.1=0:=fun w hw=>
  let ⟨o1,o2,o3⟩:=V.okW w hw
  ⟨o1.le,o2.le,o3⟩
theorem eq0 {t:Nat→Nat} {k:Nat} (h1:1≤k) (h2:k≤10):NN av t k (av k) (t k)=NN av t (k+1) (av k) (t k)+1:=(cu9 h1 h2).trans (by simp [ind])
theorem dr1 {t:Nat→Nat} {k p m:Nat} (h1:1≤k) (h2:k≤10) (h:p=av k→t k≠m):NN av t k p m=NN av t (k+1) p m:=(cu9 h1 h2).trans (by
  by_cases e:av k=p
  · simp [ind,e,h e.symm]
  · simp [ind,e])
include hav ha5 hkn in
theorem Inv.step {k:Nat} {I:List It} {W:List (It×It)} (h1:1≤k) (h2:k≤10) (V:Inv av kn (tt av kn) (k+1) I W):∃ I W,Inv av kn (tt av kn) k I W:=by
  by_cases ht:tt av kn k < 2
  · obtain ⟨it,J,hit1,hit2,hok,hperm,hJ,hcnt⟩:=V.take hav ha5 h1 h2 rfl ht
    have hkq:=hav k h1
    have hk5:=ha5 k
    have hlt:=Nat.lt_succ_of_lt hkq
    have hnd:(it.2.2 ++ (J.flatMap (·.2.2) ++ W.flatMap fun w=>w.1.2.2 ++ w.2.2.2)).Nodup:=by
      rw [← List.append_assoc]
      exact ((hperm.append_right _).nodup_iff).mpr (List.nodup_cons.mpr ⟨V.fresh,V.nd⟩)
    have c1:=V.cnt (av k) (1 - tt av kn k) hlt hk5 (cy6 _)
    have c0:=V.cnt (av k) (tt av kn k) hlt hk5 ht
    rw [dq3 ht] at c1
    have n0:=eq0 (av:=av) (t:=tt av kn) h1 h2
    have n1:NN av (tt av kn) k (av k) (1 - tt av kn k)=NN av (tt av kn) (k+1) (av k) (1 - tt av kn k):=dr1 h1 h2 fun ξ=>au2 ht
    have nO:∀ p m,p≠av k→NN av (tt av kn) k p m=NN av (tt av kn) (k+1) p m:=fun p m q=>dr1 h1 h2 fun e=>absurd e q
    by_cases hz:NN av (tt av kn) (k+1) (av k) (1 - tt av kn k)≤NN av (tt av kn) (k+1) (av k) (tt av kn k)
    · refine ⟨it :: J,W,by rw [List.flatMap_cons,List.append_assoc];exact hnd,fun i hi=>?_,V.oldW,fun p x hp hp5 hx=>?_,V.len.trans (n5 fun p ξ=>?_)⟩
      · rcases List.mem_cons.mp hi with rfl | hi
        · exact hok
        · exact (hJ i hi).le
      · rw [List.countP_cons,hcnt p x hp]
        by_cases e:p=av k
        · subst e
          rcases df8 hx ht with rfl | rfl
          · rw [c0,n0,n1,if_pos (ds0 hit1 hit2)];exact (Nat.sub_add_comm hz).symm
          · rw [c1,dq3 ht,n0,n1,bo0 fun ξ=>hit2.symm▸au2 ht];exact ev7 hz
        · rw [V.cnt p x (Nat.lt_succ_of_lt hp) hp5 hx,nO p _ e,nO p _ e,bo0 fun q=>absurd (hit1.symm.trans q).symm e];rfl
      · by_cases e:p=av k
        · subst e
          rw [bg6 ht,bg6 ht (NN av (tt av kn) k (av k)),n0,n1];exact (ev2 hz).symm
        · rw [nO p _ e,nO p _ e]
    · have hz:=Nat.not_le.mp hz
      obtain ⟨j,J2,hp2,q1,q2⟩:=ee3 (kn:=kn) (I:=J) (p:=av k) (m:=1 - tt av kn k) (by rw [hcnt _ _ hkq,c1];exact Nat.sub_pos_of_lt hz)
      have hmem:∀ i,i∈J↔i∈j :: J2:=fun i=>hp2.mem_iff
      have oj:=(hJ j ((hmem j).mpr List.mem_cons_self)).le
      have hlen:W.length+1=sm (List.range 5) fun p=>min (NN av (tt av kn) k p 0) (NN av (tt av kn) k p 1):=by
        rw [show (fun p=>min (NN av (tt av kn) k p 0) (NN av (tt av kn) k p 1))=fun p=>min (NN av (tt av kn) (k+1) p 0) (NN av (tt av kn) (k+1) p 1)+ind (p=av k) 1 from funext fun p=>?_]
        · rw [bg9,bh1 List.nodup_range,V.len,ind,if_pos (List.mem_range.mpr hk5)]
        · by_cases e:p=av k
          · subst e
            rw [bg6 ht,bg6 ht (NN av (tt av kn) (k+1) (av k)),n0,n1,ind,if_pos rfl];exact eo5 hz
          · rw [nO p _ e,nO p _ e,ind,if_neg e];rfl
      have hcn:∀ p x,p < k→p < 5→x < 2→J2.countP (itB kn p x)=NN av (tt av kn) k p x - NN av (tt av kn) k p (1 - x):=fun p x hp hp5 hx=>by
        have e0:=hcnt p x hp
        rw [hp2.countP_eq,List.countP_cons] at e0
        by_cases e:p=av k
        · subst e
          rcases df8 hx ht with rfl | rfl
          · rw [c0,bo0 fun ξ=>q2.symm▸(au2 ht).symm] at e0
            rw [n0,n1];exact z_1 e0 hz
          · rw [c1,if_pos (ds0 q1 q2)] at e0
            rw [dq3 ht,n0,n1];exact et3 e0
        · rw [V.cnt p x (Nat.lt_succ_of_lt hp) hp5 hx,bo0 fun q=>absurd (q1.symm.trans q).symm e] at e0
          rw [nO p _ e,nO p _ e];exact e0
      have hJ2:∀ i∈J2,bh6 av k i:=fun i hi=>(hJ i ((hmem i).mpr (List.mem_cons_of_mem _ hi))).le
      have hnd2:(J2.flatMap (·.2.2) ++ ((it.2.2 ++ j.2.2) ++ W.flatMap fun w=>w.1.2.2 ++ w.2.2.2)).Nodup:=by
        refine (List.Perm.nodup_iff ?_).mp hnd
        refine (((List.Perm.flatMap_right (fun i:It=>i.2.2) hp2).append_right _).append_left _).trans ?_
        rw [List.flatMap_cons,List.append_assoc,← List.append_assoc]
        exact List.perm_append_comm_assoc ..
      rcases lt2 ht with e | e
      · refine ⟨J2,(j,it) :: W,?_,hJ2,fun w hw=>?_,hcn,hlen⟩
        · rw [List.flatMap_cons]
          exact (List.Perm.nodup_iff (List.Perm.append_left _ (List.Perm.append_right _ List.perm_append_comm))).mp hnd2
        · rcases List.mem_cons.mp hw with rfl | hw
          · exact ⟨oj,hok,q1.trans hit1.symm,q2.trans (by rw [e]),hit2.trans e⟩
          · exact V.oldW w hw
      · refine ⟨J2,(it,j) :: W,?_,hJ2,fun w hw=>?_,hcn,hlen⟩
        · rw [List.flatMap_cons];exact hnd2
        · rcases List.mem_cons.mp hw with rfl | hw
          · exact ⟨hok,oj,hit1.trans q1.symm,hit2.trans e,q2.trans (by rw [e])⟩
          · exact V.oldW w hw
  · have hN':∀ p m,m < 2→NN av (tt av kn) k p m=NN av (tt av kn) (k+1) p m:=fun p m hm=>dr1 h1 h2 fun ξ q=>ht (q▸hm)
    refine ⟨I,W,V.nd,fun i hi=>(V.ok i hi).le,V.oldW,fun p m hp hp5 hm=>?_,V.len.trans (n5 fun p ξ=>?_)⟩
    · rw [hN' p m hm,hN' p (1 - m) (cy6 m)];exact V.cnt p m (Nat.lt_succ_of_lt hp) hp5 hm
    · rw [hN' p 0 (by decide),hN' p 1 (by decide)]
include hav ha5 hkn in
theorem Inv.all:∀ n,n≤10→∃ I W,Inv av kn (tt av kn) (11 - n) I W
  | 0,_=>by
    have z:∀ p m,NN av (tt av kn) 11 p m=0:=fun p m=>as5 L10▸n5 fun c hc=>by
      have:=am3.mp hc
      have:¬ 11≤c:=by lia
      simp [ind,this]
    refine ⟨[],[],by simp,by simp,by simp,fun p m ξ ξ ξ=>by rw [z];simp,?_⟩
    have:(fun p=>min (NN av (tt av kn) 11 p 0) (NN av (tt av kn) 11 p 1))=fun ξ=>0:=funext fun p=>by rw [z];simp
    rw [show 11 - 0=11 from rfl,this,as5];rfl
  | n+1,h=>by
    obtain ⟨I,W,V⟩:=Inv.all n (by exact Nat.le_of_lt ‹_›)
    rw [ce5 (Nat.lt_of_lt_of_le h (by decide))] at V
    exact V.step hav ha5 hkn (Nat.sub_pos_of_lt (Nat.lt_succ_of_le h)) (Nat.sub_le_sub_left (Nat.succ_le_succ (Nat.zero_le n)) 11)
end
end
section
open PySem.StrLaws PySem.Builtin PySem.Builtin.Str
noncomputable abbrev free (u w:List Str):Bool:=w.all fun x=>decide (x ∉ u)
noncomputable def mxF (u:List Str) (g:List Str→Nat) (a:Nat) (w:List Str):Nat:=if free u w=true then max a (1+g (u ++ w)) else a
noncomputable def al1:List (List (List Str))→List Str→Nat
  | [],_=>0
  | r :: rs,u=>r.foldl (mxF u (al1 rs)) (al1 rs u)
theorem ed1 {u:List Str} {g:List Str→Nat} {B:Nat}:∀ {r:List (List Str)} {a:Nat},a≤B→(∀ w∈r,free u w=true→1+g (u ++ w)≤B)→r.foldl (mxF u g) a≤B
  | [],_,h,_=>h
  | w :: r,a,h,h2=>by
    refine ed1 (a:=mxF u g a w) ?_ fun v hv=>h2 v (by simp [hv])
    unfold mxF
    split
    · exact Nat.max_le.mpr ⟨h,h2 w (by simp) (by assumption)⟩
    · exact h
theorem ec0 {u:List Str} {g:List Str→Nat}:∀ {r:List (List Str)} {a:Nat},a≤r.foldl (mxF u g) a∧∀ w∈r,free u w=true→1+g (u ++ w)≤r.foldl (mxF u g) a
  | [],a=>⟨Nat.le_refl _,by simp⟩
  | v :: r,a=>by
    obtain ⟨h1,h2⟩:=ec0 (u:=u) (g:=g) (r:=r) (a:=mxF u g a v)
    refine ⟨Nat.le_trans ?_ h1,fun w hw hf=>?_⟩
    · unfold mxF
      split
      · exact Nat.le_max_left ..
      · exact Nat.le_refl _
    · rcases List.mem_cons.mp hw with rfl | hw
      · refine Nat.le_trans ?_ h1
        unfold mxF
        rw [if_pos hf];exact Nat.le_max_right ..
      · exact h2 w hw hf
theorem bn5 {u w:List Str}:free u w=true↔∀ x∈w,x ∉ u:=by simp [free]
theorem cf4 {X:List Str}:∀ {rs:List (List (List Str))} {u:List Str},(∀ r∈rs,∀ w∈r,∃ x∈w,x∈X)→al1 rs u≤(X.filter fun x=>decide (x ∉ u)).length
  | [],u,_=>Nat.zero_le _
  | r :: rs,u,h=>by
    refine ed1 (cf4 fun r' hr=>h r' (by simp [hr])) fun w hw hf=>?_
    obtain ⟨x,hx,hX⟩:=h r (by simp) w hw
    have h1:=cf4 (X:=X) (rs:=rs) (u:=u ++ w) fun r' hr=>h r' (by simp [hr])
    have e:X.filter (fun x=>decide (x ∉ u ++ w))=(X.filter fun x=>decide (x ∉ u)).filter fun x=>decide (x ∉ w):=by
      rw [List.filter_filter]
      refine List.filter_congr fun y ξ=>?_
      rw [Bool.eq_iff_iff];simp [not_or,and_comm]
    have h2:((X.filter fun x=>decide (x ∉ u)).filter fun x=>decide (x ∉ w)).length < (X.filter fun x=>decide (x ∉ u)).length:=
      List.length_filter_lt_length_iff_exists.mpr ⟨x,List.mem_filter.mpr ⟨hX,decide_eq_true (bn5.mp hf x hx)⟩,by simp [hx]⟩
    rw [e] at h1
    lia
theorem cg2 {pe:Nat→Str} {bs:List Nat} {wy:Nat→Nat→List Str}:∀ {es:List Nat} {u:List Str} {V:List ((Nat×Nat)×List Str)},
    (∀ v∈V,v.1.1∈es∧v.1.2∈bs∧pe v.1.1∈v.2∧(∀ x∈wy v.1.1 v.1.2,x∈v.2)∧∀ x∈v.2,x ∉ u)→(V.flatMap (·.2)).Nodup→V.length≤al1 (es.map fun e=>bs.map (wy e)) u
  | [],u,V,h,_=>by
    cases V with
    | nil=>exact Nat.le_refl _
    | cons v V=>exact absurd (h v (by simp)).1 (by simp)
  | e :: es,u,V,h,hn=>by
    rw [List.map_cons]
    show V.length≤(bs.map (wy e)).foldl (mxF u (al1 (es.map fun e=>bs.map (wy e)))) (al1 (es.map fun e=>bs.map (wy e)) u)
    obtain ⟨g1,g2⟩:=ec0 (u:=u) (g:=al1 (es.map fun e=>bs.map (wy e))) (r:=bs.map (wy e)) (a:=al1 (es.map fun e=>bs.map (wy e)) u)
    by_cases q:∃ v∈V,v.1.1=e
    · obtain ⟨v,hv,rfl⟩:=q
      obtain ⟨a1,a2,a3,a4,a5⟩:=h v hv
      have hp:=List.perm_cons_erase hv
      have hn2:(v.2 ++ (V.erase v).flatMap (·.2)).Nodup:=(List.Perm.flatMap_right _ hp).nodup_iff.mp hn
      have hdis:∀ y∈V.erase v,∀ x∈y.2,x ∉ v.2:=fun y hy x hx hx2=>(List.nodup_append.mp hn2).2.2 x hx2 x (List.mem_flatMap.mpr ⟨y,hy,hx⟩) rfl
      have ih:=cg2 (pe:=pe) (bs:=bs) (wy:=wy) (es:=es) (u:=u ++ wy v.1.1 v.1.2) (V:=V.erase v) (fun y hy=>by
        obtain ⟨b1,b2,b3,b4,b5⟩:=h y (List.mem_of_mem_erase hy)
        refine ⟨?_,b2,b3,b4,fun x hx q=>?_⟩
        · rcases List.mem_cons.mp b1 with q | q
          · rw [q] at b3;exact absurd a3 (hdis y hy _ b3)
          · exact q
        · rcases List.mem_append.mp q with q | q
          · exact b5 x hx q
          · exact hdis y hy x hx (a4 x q)) (List.nodup_append.mp hn2).2.1
      have:=g2 _ (List.mem_map.mpr ⟨_,a2,rfl⟩) (bn5.mpr fun x hx=>a5 x (a4 x hx))
      rw [hp.length_eq,List.length_cons]
      lia
    · refine Nat.le_trans (cg2 (pe:=pe) (fun v hv=>?_) hn) g1
      obtain ⟨b1,b2⟩:=h v hv
      exact ⟨(List.mem_cons.mp b1).resolve_left fun e'=>q ⟨v,hv,e'⟩,b2⟩
section
variable {av kn:Nat→Nat} (hav:∀ k,1≤k→av k < k) (ha5:∀ k,av k < 5) (hkn:∀ k,kn k < 2)
noncomputable def stp (av:Nat→Nat) (e b k:Nat):Prop:=(k∈ch av e∧k ∉ ch av b)∨(k∈ch av b∧k ∉ ch av e)
theorem cd3 (k:Nat):k∈ch av k:=by rw [ch];exact List.mem_cons_self
include hav in
theorem az3:∀ k,0∈ch av k:=by
  intro k
  induction k using Nat.strongRecOn with
  | _ k ih=>
    by_cases e:k=0
    · subst e;exact cd3 0
    · rw [ay4 hav (by exact Nat.pos_of_ne_zero ‹_›)];exact List.mem_cons_of_mem _ (ih _ (hav k (by exact Nat.pos_of_ne_zero ‹_›)))
include hav in

theorem bz3 {m:Nat→Nat} {b:Nat}:∀ {e:Nat},(∀ k∈ch av e,k ∉ ch av b→m k=m (av k))→∃ p,p∈ch av e∧p∈ch av b∧m p=m e∧∀ q∈ch av e,q∈ch av b→q≤p:=by
  intro e
  induction e using Nat.strongRecOn with
  | _ e ih=>
    intro h
    by_cases q:e∈ch av b
    · exact ⟨e,cd3 e,q,rfl,fun x hx ξ=>ak3 _ _ hx⟩
    · have h1:1≤e:=by
        rcases Nat.eq_zero_or_pos e with r | r
        · subst r;exact absurd (az3 hav b) q
        · exact r
      have hlt:=hav e h1
      rw [ay4 hav h1] at h⊢
      obtain ⟨p,p1,p2,p3,p4⟩:=ih _ hlt fun k hk=>h k (List.mem_cons_of_mem _ hk)
      refine ⟨p,List.mem_cons_of_mem _ p1,p2,p3.trans (h e (by simp) q).symm,fun x hx hb=>?_⟩
      rcases List.mem_cons.mp hx with r | r
      · rw [r] at hb;exact absurd hb q
      · exact p4 x r hb
include hav in
theorem cr0 {m:Nat→Nat} {e b:Nat} (h:m e≠m b):∃ k,stp av e b k∧m k≠m (av k):=by
  by_cases q:∃ k,stp av e b k∧m k≠m (av k)
  · exact q
  · have q1:∀ k,stp av e b k→m k=m (av k):=fun k hk=>Classical.byContradiction fun hh=>q ⟨k,hk,hh⟩
    obtain ⟨p,p1,p2,p3,p4⟩:=bz3 (m:=m) hav fun k h1 h2=>q1 k (.inl ⟨h1,h2⟩)
    obtain ⟨r,r1,r2,r3,r4⟩:=bz3 (m:=m) hav fun k h1 h2=>q1 k (.inr ⟨h1,h2⟩)
    have:p=r:=Nat.le_antisymm (r4 p p2 p1) (p4 r r2 r1)
    subst this
    exact absurd (p3.symm.trans r3) h
include hav ha5 hkn in
theorem dy0 {pe:Nat→Str} {wy:Nat→Nat→List Str} {es bs:List Nat} (hpe:∀ j k,j < 11→k < 11→pe j=pe k→j=k) (hes:∀ e,e∈es↔5≤e∧e≤10∧kn e=1) (hbs:∀ e,e∈bs↔5≤e∧e≤10∧kn e=0)
    (hwy:∀ e∈es,∀ b∈bs,∀ x,x∈wy e b↔∃ k,x=pe k∧stp av e b k):al1 (es.map fun e=>bs.map (wy e)) []=PH av (mnF av (tt av kn)) 0:=by
  refine Nat.le_antisymm ?_ ?_
  · obtain ⟨m,hm,_,hc⟩:=cu7 (f:=0) (a:=(if tt av kn 0=1 then 1 else 0)) hav hkn (by decide) (by split <;> decide) (by split <;> lia)
    have h1:=cf4 (X:=(L10.filter fun k=>decide (m k≠m (av k))).map pe) (rs:=es.map fun e=>bs.map (wy e)) (u:=[]) fun r hr w hw=>by
      obtain ⟨e,he,rfl⟩:=List.mem_map.mp hr
      obtain ⟨b,hb,rfl⟩:=List.mem_map.mp hw
      have he':=(hes e).mp he
      have hb':=(hbs b).mp hb
      obtain ⟨k,hk,hne⟩:=cr0 (m:=m) hav (e:=e) (b:=b) (by rw [hm.2 e he'.1,hm.2 b hb'.1,he'.2.2,hb'.2.2];decide)
      refine ⟨pe k,(hwy e he b hb _).mpr ⟨k,rfl,hk⟩,List.mem_map.mpr ⟨k,List.mem_filter.mpr ⟨am3.mpr ⟨?_,?_⟩,decide_eq_true hne⟩,rfl⟩⟩
      · rcases Nat.eq_zero_or_pos k with r | r
        · subst r
          rcases hk with q | q
          · exact absurd (az3 hav b) q.2
          · exact absurd (az3 hav e) q.2
        · exact r
      · rcases hk with q | q
        · exact Nat.le_trans (ak3 _ _ q.1) he'.2.1
        · exact Nat.le_trans (ak3 _ _ q.1) hb'.2.1
    refine Nat.le_trans h1 (Nat.le_trans (List.length_filter_le ..) (Nat.le_of_eq ?_))
    rw [List.length_map,← cb5,am6,← hc]
    unfold xF
    rw [← cj7 ha5 (fun k p=>ind (m k≠m p) 1) 0]
    refine n5 fun k ξ=>?_
    simp [ind,az3 hav]
  · obtain ⟨I,W,V⟩:=Inv.all hav ha5 hkn 10 (Nat.le_refl _)
    have hlen:W.length=PH av (mnF av (tt av kn)) 0:=by
      rw [V.len]
      refine n5 fun p ξ=>?_
      rw [cc1 hav (by exact Nat.le_add_left ..),cc1 hav (by exact Nat.le_add_left ..)]
      simp [ind,az3 hav,mnF]
    have hlow:∀ i:It,bh6 av 1 i→∀ x∈i.2.2,x < 11:=fun i o x hx=>by
      have h1:=o.e10
      have:=ak3 _ _ (o.way▸List.mem_append_left _ hx)
      lia
    have hin:∀ i:It,bh6 av 1 i→i.2.1∈i.2.2:=fun i o=>by
      have h1:=o.p5
      have h2:=o.e5
      have:=o.way▸cd3 (av:=av) i.2.1
      rcases List.mem_append.mp this with q | q
      · exact q
      · exact absurd (ak3 _ _ q) (by lia)
    rw [← hlen]
    have:=cg2 (pe:=pe) (bs:=bs) (wy:=wy) (es:=es) (u:=[]) (V:=W.map fun w=>((w.1.2.1,w.2.2.1),(w.1.2.2 ++ w.2.2.2).map pe)) (fun v hv=>by
      obtain ⟨w,hw,rfl⟩:=List.mem_map.mp hv
      obtain ⟨o1,o2,hp,k1,k0⟩:=V.okW w hw
      have he:=(hes _).mpr ⟨o1.e5,o1.e10,k1⟩
      have hb:=(hbs _).mpr ⟨o2.e5,o2.e10,k0⟩
      refine ⟨he,hb,List.mem_map.mpr ⟨_,List.mem_append_left _ (hin _ o1),rfl⟩,fun x hx=>?_,by simp⟩
      obtain ⟨k,rfl,hk⟩:=(hwy _ he _ hb x).mp hx
      refine List.mem_map.mpr ⟨k,?_,rfl⟩
      unfold stp at hk
      rw [← o1.way,← o2.way,← hp] at hk
      simp only [List.mem_append] at hk⊢
      rcases hk with ⟨q | q,r⟩ | ⟨q | q,r⟩
      · exact .inl q
      · exact absurd (.inr q) r
      · exact .inr q
      · exact absurd (.inr q) r) (by
      rw [List.flatMap_map,← List.map_flatMap]
      refine List.pairwise_map.mpr (List.Pairwise.imp_of_mem ?_ (List.nodup_append.mp V.nd).2.1)
      intro a b ha hb hab q
      refine hab (hpe a b ?_ ?_ q)
      · obtain ⟨w,hw,ha⟩:=List.mem_flatMap.mp ha
        obtain ⟨o1,o2,_⟩:=V.okW w hw
        rcases List.mem_append.mp ha with r | r
        · exact hlow _ o1 a r
        · exact hlow _ o2 a r
      · obtain ⟨w,hw,hb⟩:=List.mem_flatMap.mp hb
        obtain ⟨o1,o2,_⟩:=V.okW w hw
        rcases List.mem_append.mp hb with r | r
        · exact hlow _ o1 b r
        · exact hlow _ o2 b r)
    rw [List.length_map] at this
    exact this
end
end
section
open PySem.StrLaws PySem.Builtin PySem.Builtin.Str
set_option tactic.hygienic true in
theorem bs6 {xs:D} {t:List Slot}:∀ (l:List Int) (n:Nat) (c:List Nat) (o2 o3:Slot),n+l.length≤60→c.length=3→(∀ x∈c,x≤2000000+10000000 * n)→frS o2→frS o3→
    ∃ c' v2 v3,c'.length=3∧(∀ x∈c',x < 2 ^ 60)∧frS v2∧frS v3∧y4 (ah1 (c6 []) fr2 [2,3] [.augItem 1 (.bin .Mod (.var 2) (.int 3)) .Add (.bin .Mod (.var 3) (.int 10000000))]) (aa7 n (l.map .int)) (rD xs c o2 o3 t)=some (.next,rD xs c' v2 v3 t)
  | [],n,c,o2,o3,hn,hc,hb,h2,h3=>⟨c,o2,o3,hc,fun x hx=>by have:=hb x hx;simp at hn;lia,h2,h3,rfl⟩
  | x :: l,n,c,o2,o3,hn,hc,hb,h2,h3=>by
    obtain ⟨m,hm,hmod⟩:=dq1 x
    simp only [List.length_cons] at hn
    have hj:n % 3 < c.length:=by rw [hc];lia
    have hcj:c[n % 3]≤2000000+10000000 * n:=hb _ (List.getElem_mem hj)
    obtain ⟨c',v2,v3,k1,k2,k3,k4,ih⟩:=bs6 (xs:=xs) (t:=t) l (n+1) (c.set (n % 3) (c[n % 3]+m)) (some (.fr,nI n)) (some (.fr,.int x)) (by lia) (by simpa using hc) (fun y hy=>by
      rcases List.mem_or_eq_of_mem_set hy with q | q
      · have:=hb y q;lia
      · lia) (f5 _) (f5 _)
    refine ⟨c',v2,v3,k1,k2,k3,k4,?_⟩
    have hbd:ai6 (rD xs c o2 o3 t) [2,3] (.tuple [nI n,.int x])=some (rD xs c (some (.fr,nI n)) (some (.fr,.int x)) t):=by
      exact by2 (k6 (o:=o2) rfl h2 (by simp [rD])) (k6 (o:=o3) rfl h3 (by simp [rD]))
    have st:ah1 (c6 []) fr2 [2,3] [.augItem 1 (.bin .Mod (.var 2) (.int 3)) .Add (.bin .Mod (.var 3) (.int 10000000))] (.tuple [nI n,.int x]) (rD xs c o2 o3 t)=some (.next,rD xs (c.set (n % 3) (c[n % 3]+m)) (some (.fr,nI n)) (some (.fr,.int x)) t):=by
      refine ab7 hbd (y5 (dc2 (j:=n % 3) (l:=c.map nI) (old:=nI (c[n % 3])) (d:=nI m) (v:=((c[n % 3]+m:Nat):Int)) (l_e rfl (ac1 (c8 rfl) j5 (cx5 n 3 (by decide)))) (l_e rfl (ac1 (c8 rfl) j5 hmod)) rfl (by simp [hj]) (by lia) rfl ?_))
      rw [show (PyData.int ((c[n % 3]+m:Nat):Int))=nI (c[n % 3]+m) from rfl,← List.map_set];rfl
    show y4 _ (.tuple [nI n,.int x] :: aa7 (n+1) (l.map .int)) _=_
    rw [w7 st]
    exact ih
theorem bm1 {r r1 r2:Rho} {x y:Nat} {a b:D} (h1:r.put x .fr a=some r1) (h2:r1.put y .fr b=some r2):as8 r [x,y] [a,b]=some r2:=ob h1 (ob h2 rfl)
theorem cm0 {calls:String→List D→Option D} {fr:String→Bool} {x y:Nat} {i:IR} {r r1 r2:Rho} {l m:List D} {j:Nat} {d:D} (h1:look calls i r=some (nI j)) (hx:r.get x=some (.own,.list l)) (hy:r.get y=some (.own,.list m)) (hz:((x != y && sz (l.length+1)) && sz m.length)=true) (hd:m[j]?=some d)
    (hp:r.put y .own (.list (m.eraseIdx j))=some r1) (hp2:r1.put x .own (.list (l ++ [d]))=some r2):exec calls fr (.appendPop x y i) r=some (.next,r2):=by
  obtain ⟨z1,z2⟩:=b8 hz
  have h0:decide ((0:Int)≤(j:Int))=true:=decide_eq_true (Int.natCast_nonneg j)
  exact ob h1 (ob rfl (ob (congrArg ao4 hx) (ob rfl (ob (congrArg ao4 hy) (ob rfl (s8 (f7 z1 (f7 h0 z2)) (ob hd (ob hp (ob hp2 rfl)))))))))
theorem bn4:∀ {l:List Nat} {i:Nat} (h:i < l.length),(l[i] :: l.eraseIdx i).Perm l
  | a :: l,0,h=>.refl _
  | a :: l,i+1,h=>(List.Perm.swap a _ _).trans ((bn4 (Nat.lt_of_succ_lt_succ h)).cons a)
theorem bw6 {f:Nat→D}:∀ (l:List Nat) (i:Nat),(l.map f).eraseIdx i=(l.eraseIdx i).map f
  | [],i=>rfl
  | a :: l,0=>rfl
  | a :: l,i+1=>congrArg (f a :: ·) (bw6 l i)
noncomputable def ab9 (c:Nat):Nat→Nat×List Nat×List Nat
  | 0=>(c,List.range 12,[])
  | i+1=>((ab9 c i).1 / (ab9 c i).2.1.length,(ab9 c i).2.1.eraseIdx ((ab9 c i).1 % (ab9 c i).2.1.length),(ab9 c i).2.2 ++ [(ab9 c i).2.1.getD ((ab9 c i).1 % (ab9 c i).2.1.length) 0])
theorem cw0 (c:Nat):∀ i,(ab9 c i).1≤c
  | 0=>Nat.le_refl _
  | i+1=>Nat.le_trans (Nat.div_le_self _ _) (cw0 c i)
theorem bo8 (c:Nat):∀ i,i≤11→(ab9 c i).2.1.length=12 - i
  | 0,_=>rfl
  | i+1,h=>by
    have:=bo8 c i (by exact Nat.le_of_lt ‹_›)
    show ((ab9 c i).2.1.eraseIdx _).length=_
    rw [List.length_eraseIdx_of_lt (Nat.mod_lt _ (by lia)),this];lia
theorem bg8 (c:Nat):∀ i,(ab9 c i).2.2.length=i
  | 0=>rfl
  | i+1=>by
    show ((ab9 c i).2.2 ++ [_]).length=_
    rw [List.length_append,bg8 c i];rfl
theorem bz0 (c:Nat):∀ i,i≤11→((ab9 c i).2.2 ++ (ab9 c i).2.1).Perm (List.range 12)
  | 0,_=>.refl _
  | i+1,h=>by
    refine .trans ?_ (bz0 c i (by exact Nat.le_of_lt ‹_›))
    have hl:=bo8 c i (by exact Nat.le_of_lt ‹_›)
    have hlt:(ab9 c i).1 % (ab9 c i).2.1.length < (ab9 c i).2.1.length:=Nat.mod_lt _ (by lia)
    show (((ab9 c i).2.2 ++ [_]) ++ (ab9 c i).2.1.eraseIdx _).Perm _
    rw [List.append_assoc,List.getD_eq_getElem?_getD,List.getElem?_eq_getElem hlt]
    exact (bn4 hlt).append_left _
noncomputable def rs5 (c:Nat):Nat→Nat
  | 0=>c
  | i+1=>rs5 c i / 5
theorem do6 (c:Nat):∀ i,rs5 c i≤c
  | 0=>Nat.le_refl _
  | i+1=>Nat.le_trans (Nat.div_le_self _ _) (do6 c i)
noncomputable def avA (c1 c2 k:Nat):Nat:=if k < 5 then avN c1 k else rs5 c2 (k - 5) % 5
theorem dm1 (c1 c2 k:Nat) (h:1≤k):avA c1 c2 k < k:=by
  unfold avA
  split
  · exact ei9 c1 h
  · have:=Nat.mod_lt (rs5 c2 (k - 5)) (show 0 < 5 by decide);lia
theorem em4 (c1 c2 k:Nat):avA c1 c2 k < 5:=by
  by_cases h:k=0
  · subst h;exact Nat.zero_lt_succ 4
  · by_cases h5:k < 5
    · have:=dm1 c1 c2 k (by exact Nat.pos_of_ne_zero ‹_›);exact Nat.lt_trans ‹_› ‹_›
    · unfold avA;rw [if_neg h5];exact Nat.mod_lt _ (by decide)
inductive L3 (l:List Nat):Prop
  | mk (a b c:Nat) (e:l=[a,b,c])
theorem l3 {l:List Nat} (h:l.length=3):L3 l:=an4 h fun a ξ e=>an4 e fun b ξ e=>an4 e fun c ξ e=>bx8 e ⟨a,b,c,rfl⟩
theorem cl5 {l:List D} (h:l.length≤1000000):bfD .len [.list l]=some (nI l.length):=by
  exact ob rfl (cf7 (ob rfl (s8 (szl (Nat.le_trans h (by decide))) rfl)))
inductive en7 (xs:List Int):Prop
  | mk (kind:Nat) (ts:List Nat) (av:Nat→Nat) (hk:kind < 5) (h6:ts.length=6) (hn:ts.Nodup) (ht:∀ t∈ts,t < 12) (hav:∀ k,1≤k→av k < k) (ha5:∀ k,av k < 5)
    (e:ae2 [.list (xs.map .int)]=some (.tuple [nI kind,.list (ts.map fun t=>.str (ai3 t)),.list ((List.range 11).map fun k=>nI (av k))]))
noncomputable abbrev tL (l:List Nat):D:=.list (l.map fun t=>.str (ai3 t))
theorem eg6 (l:List Nat) (t:Nat):tL (l ++ [t]) = .list ((l.map fun t=>.str (ai3 t)) ++ [.str (ai3 t)]):=congrArg PyData.list (List.map_append ..)
theorem at4 {c:Prop} [Decidable c] {o p:Slot} (h:frS o) (h2:frS p):frS (if c then p else o):=by
  split
  · exact h2
  · exact h
noncomputable def rN (x c:D) (o2 o3:Slot) (pl:D) (n:Nat) (tx:D) (o7 o8 o9:Slot):Rho:=[some (.fr,x),some (.own,c),o2,o3,some (.own,pl),some (.fr,nI n),some (.own,tx),o7,o8,o9,none,none,none,none]
section
variable {x c:D} {o2 o3 o7 o8:Slot}
noncomputable abbrev eo8:List SI:=[.unpack [5,8] (.bcall .divmod [(.var 5),(.bcall .len [(.var 4)])]),.appendPop 6 4 (.var 8)]
theorem dk8 {n i:Nat} (hn:n < 2 ^ 60) (hi:i < 6) (h7:frS o7) (h8:frS o8):ah1 (c6 []) fr2 [7] eo8 (nI i) (rN x c o2 o3 (tL (ab9 n i).2.1) (ab9 n i).1 (tL (ab9 n i).2.2) o7 o8 none)=some (.next,rN x c o2 o3 (tL (ab9 n (i+1)).2.1) (ab9 n (i+1)).1 (tL (ab9 n (i+1)).2.2) (some (.fr,nI i)) (some (.fr,nI ((ab9 n i).1 % (ab9 n i).2.1.length))) none):=by
  have hl:=bo8 n i (Nat.le_trans (Nat.le_of_lt hi) (by decide))
  have h2:=bg8 n i
  have hle:=cw0 n i
  obtain ⟨p,hp⟩:∃ p,p=ab9 n i:=⟨_,rfl⟩
  have hs:ab9 n (i+1)=(p.1 / p.2.1.length,p.2.1.eraseIdx (p.1 % p.2.1.length),p.2.2 ++ [p.2.1.getD (p.1 % p.2.1.length) 0]):=by rw [hp];rfl
  rw [hs]
  rw [← hp] at hl h2 hle⊢
  have hpos:0 < p.2.1.length:=hl▸Nat.sub_pos_of_lt (Nat.lt_trans hi (by decide))
  have h12:p.2.1.length≤12:=hl▸Nat.sub_le ..
  have hlt:=Nat.mod_lt p.1 hpos
  have hlen:bfD .len [tL p.2.1]=some (nI p.2.1.length):=by
    have:=cl5 (l:=p.2.1.map fun t=>PyData.str (ai3 t)) (by rw [List.length_map];exact Nat.le_trans h12 (by decide))
    rw [List.length_map] at this;exact this
  refine ab7 (y3 (k6 (o:=o7) rfl h7 (show 7 < 14 by decide))) ?_
  refine (y7 (aq7 (r2:=rN x c o2 o3 (tL p.2.1) (p.1 / p.2.1.length) (tL p.2.2) (some (.fr,nI i)) (some (.fr,nI (p.1 % p.2.1.length))) none) (by decide) (z9 (f8 (c8 rfl) (f8 (l_e rfl (z9 (f8 (ai8 (m:=.own) (d:=tL p.2.1) rfl) l0) hlen)) l0)) (bc4 _ _ hpos (Nat.lt_of_le_of_lt hle hn) (Nat.lt_of_le_of_lt h12 (by decide)))) (bm1 (k6 (o:=some (.fr,nI p.1)) rfl (f5 _) (show 5 < 14 by decide)) (k6 (o:=o8) rfl h8 (show 8 < 14 by decide))))).trans ?_
  refine y5 (cm0 (j:=p.1 % p.2.1.length) (l:=p.2.2.map fun t=>.str (ai3 t)) (m:=p.2.1.map fun t=>.str (ai3 t)) (d:=.str (ai3 (p.2.1.getD (p.1 % p.2.1.length) 0))) (c8 rfl) rfl rfl ?_ ?_ (by rw [bw6];rfl) (by rw [eg6];rfl))
  · rw [List.length_map,List.length_map,h2]
    exact f7 (f7 rfl (szl (Nat.le_trans hi (by decide)))) (szl (Nat.le_trans h12 (by decide)))
  · rw [List.getElem?_map,List.getD_eq_getElem?_getD,List.getElem?_eq_getElem hlt];rfl
noncomputable abbrev avL (c1 c2 n:Nat):D:=.list ((List.range n).map fun k=>nI (avA c1 c2 k))
theorem cn8 (c1 c2 n:Nat):avL c1 c2 (n+1) = .list (((List.range n).map fun k=>nI (avA c1 c2 k)) ++ [nI (avA c1 c2 n)]):=by
  show PyData.list ((List.range (n+1)).map _)=_
  rw [List.range_succ,List.map_append];rfl
theorem dg0 (c1 c2:Nat) {n:Nat} (h:n≤100):sz (((List.range n).map fun k=>nI (avA c1 c2 k)).length+1)=true:=szl (by rw [List.length_map,List.length_range];exact Nat.le_trans (Nat.succ_le_succ h) (by decide))
theorem do8 {pl tx:D} {c1 c2 i:Nat} {o2:Slot} {o7 o8:Slot} (hc:c1 < 2 ^ 60) (hi:i < 4) (h2:frS o2) (h8:frS o8):ah1 (c6 []) fr2 [2] [.unpack [5,8] (.bcall .divmod [(.var 5),(.var 2)]),.append 9 (.var 8)] (nI (i+1)) (rN x c o2 o3 pl (rsN c1 i) tx o7 o8 (some (.own,avL c1 c2 (i+1))))=some (.next,rN x c (some (.fr,nI (i+1))) o3 pl (rsN c1 (i+1)) tx o7 (some (.fr,nI (avN c1 (i+1)))) (some (.own,avL c1 c2 (i+2)))):=by
  refine ab7 (y3 (k6 (o:=o2) rfl h2 (show 2 < 14 by decide))) ?_
  refine (y7 (aq7 (r2:=rN x c (some (.fr,nI (i+1))) o3 pl (rsN c1 (i+1)) tx o7 (some (.fr,nI (avN c1 (i+1)))) (some (.own,avL c1 c2 (i+1)))) (by decide) (z9 (f8 (c8 rfl) (f8 (c8 rfl) l0)) (bc4 (rsN c1 i) (i+1) (Nat.succ_pos i) (Nat.lt_of_le_of_lt (df6 c1 i) hc) (Nat.lt_trans (Nat.succ_lt_succ hi) (by decide)))) (bm1 (k6 (o:=some (.fr,nI (rsN c1 i))) rfl (f5 _) (show 5 < 14 by decide)) (k6 (o:=o8) rfl h8 (show 8 < 14 by decide))))).trans ?_
  refine y5 (al2 (l:=(List.range (i+1)).map fun k=>nI (avA c1 c2 k)) (d:=nI (avN c1 (i+1))) rfl (g9 rfl) rfl (dg0 c1 c2 (Nat.le_trans hi (by decide))) ?_)
  rw [show avL c1 c2 (i+2)=_ from cn8 c1 c2 (i+1),show avA c1 c2 (i+1)=avN c1 (i+1) from if_pos (Nat.succ_lt_succ hi)];rfl
theorem dm2 {pl tx:D} {c1 c2 i:Nat} {o7 o8:Slot} (hc:c2 < 2 ^ 60) (hi:i < 6) (h7:frS o7) (h8:frS o8):ah1 (c6 []) fr2 [7] [.unpack [5,8] (.bcall .divmod [(.var 5),(.int 5)]),.append 9 (.var 8)] (nI i) (rN x c o2 o3 pl (rs5 c2 i) tx o7 o8 (some (.own,avL c1 c2 (i+5))))=some (.next,rN x c o2 o3 pl (rs5 c2 (i+1)) tx (some (.fr,nI i)) (some (.fr,nI (rs5 c2 i % 5))) (some (.own,avL c1 c2 (i+6)))):=by
  refine ab7 (y3 (k6 (o:=o7) rfl h7 (show 7 < 14 by decide))) ?_
  refine (y7 (aq7 (r2:=rN x c o2 o3 pl (rs5 c2 (i+1)) tx (some (.fr,nI i)) (some (.fr,nI (rs5 c2 i % 5))) (some (.own,avL c1 c2 (i+5)))) (by decide) (z9 (f8 (c8 rfl) (f8 j5 l0)) (bc4 (rs5 c2 i) 5 (by decide) (Nat.lt_of_le_of_lt (do6 c2 i) hc) (by decide))) (bm1 (k6 (o:=some (.fr,nI (rs5 c2 i))) rfl (f5 _) (show 5 < 14 by decide)) (k6 (o:=o8) rfl h8 (show 8 < 14 by decide))))).trans ?_
  refine y5 (al2 (l:=(List.range (i+5)).map fun k=>nI (avA c1 c2 k)) (d:=nI (rs5 c2 i % 5)) rfl (g9 rfl) rfl (dg0 c1 c2 (Nat.le_trans (Nat.add_le_add_right (Nat.le_of_lt hi) 5) (by decide))) ?_)
  rw [show avL c1 c2 (i+6)=_ from cn8 c1 c2 (i+5),show avA c1 c2 (i+5)=rs5 c2 i % 5 from (if_neg (Nat.not_lt.mpr (Nat.le_add_left 5 i))).trans (by rw [Nat.add_sub_cancel])];rfl
end
theorem dz5:LS da9=tL (List.range 12):=by kernel_rfl
theorem bk4 (xs:List Int) (hxs:xs.length≤63):en7 xs:=by
  obtain ⟨c,v2,v3,hc,hsm,f2,f3,hloop⟩:=bs6 (xs:=.list (xs.map .int)) (t:=[none,none,none,none,none,none,none,none,none,none]) (xs.take 60) 0 [1715043,3,2962] none none (by rw [List.length_take,Nat.zero_add];exact Nat.min_le_left ..) rfl (by decide) p0 p0
  obtain ⟨c0,c1,c2,rfl⟩:=l3 hc
  have s0:=hsm c0 List.mem_cons_self
  have s1:=hsm c1 (List.mem_cons_of_mem _ List.mem_cons_self)
  have s2:=hsm c2 (List.mem_cons_of_mem _ (List.mem_cons_of_mem _ List.mem_cons_self))
  have hpm:=bz0 (c0 / 5) 6 (by decide)
  refine ⟨c0 % 5,(ab9 (c0 / 5) 6).2.2,avA c1 c2,Nat.mod_lt _ (by decide),bg8 _ 6,(List.nodup_append.mp (hpm.nodup_iff.mpr List.nodup_range)).1,fun t ht=>List.mem_range.mp (hpm.mem_iff.mp (List.mem_append_left _ ht)),dm1 c1 c2,em4 c1 c2,?_⟩
  have hup:aw9 (.list (xs.map .int)) (.int 60)=some (.list ((xs.take 60).map .int)):=by
    rw [List.map_take];exact aq1 (i:=60) (by decide) (by rw [List.length_map];exact Nat.le_trans hxs (by decide))
  unfold ae2 ap9
  refine ac0 rfl ?_
  refine .next (d5 (d:=.list ([1715043,3,2962].map nI)) rfl (y8 (c7 ao1 (c7 ao1 (c7 ao1 f4))) rfl) rfl) ?_
  refine .next (an1 (r':=rD (.list (xs.map .int)) [c0,c1,c2] v2 v3 _) (dr6 (l_e rfl (bi3 (c8 rfl) j5 hup))) hloop rfl) ?_
  obtain ⟨dX,hX⟩:∃ dX,dX=PyData.list (xs.map .int):=⟨_,rfl⟩
  rw [← hX]
  let dC:D:=.list ([c0,c1,c2].map nI)
  refine .next (d5 (d:=tL (List.range 12)) rfl (by rw [← dz5];exact y8 (c7 ae8 (c7 ae8 (c7 ae8 (c7 ae8 (c7 ae8 (c7 ae8 (c7 ae8 (c7 ae8 (c7 ae8 (c7 ae8 (c7 ae8 (c7 ae8 f4)))))))))))) rfl) rfl) ?_
  refine .next (d5 (d:=nI (c0 / 5)) rfl (ac1 (l_e rfl (y9 (ai8 (m:=.own) (d:=dC) rfl) j5 (ak5 (i:=0) rfl (by decide)))) j5 (dz9 c0 5 (by decide) s0 (by decide))) rfl) ?_
  refine .next (d5 (d:=.list []) rfl (y8 f4 rfl) rfl) ?_
  have hl1:=ab3 (f:=ah1 (c6 []) fr2 [7] eo8) (g:=fun (k:Nat)=>.int ((k:Nat):Int)) (R:=fun i=>rN dX dC v2 v3 (tL (ab9 (c0 / 5) i).2.1) (ab9 (c0 / 5) i).1 (tL (ab9 (c0 / 5) i).2.2) (if i=0 then none else some (.fr,nI (i - 1))) (if i=0 then none else some (.fr,nI ((ab9 (c0 / 5) (i - 1)).1 % (ab9 (c0 / 5) (i - 1)).2.1.length))) none) (n:=6) fun i hi=>dk8 (Nat.lt_of_le_of_lt (Nat.div_le_self ..) s0) hi (at4 (f5 _) p0) (at4 (f5 _) p0)
  refine .next (an1 (ad4 (f8 j5 l0) (ao8 6 (by decide))) (f:=.next) hl1 rfl) ?_
  refine .next (d5 (d:=.list [nI 0]) rfl (y8 (c7 ao1 f4) rfl) rfl) ?_
  refine .next (d5 (d:=nI c1) rfl (y9 (ai8 (m:=.own) (d:=dC) rfl) j5 (ak5 (i:=1) rfl (by decide))) rfl) ?_
  obtain ⟨tp,htp⟩:∃ tp,tp=tL (ab9 (c0 / 5) 6).2.1:=⟨_,rfl⟩
  obtain ⟨tt,htt⟩:∃ tt,tt=tL (ab9 (c0 / 5) 6).2.2:=⟨_,rfl⟩
  obtain ⟨v8,hv8⟩:∃ v8,v8=nI ((ab9 (c0 / 5) 5).1 % (ab9 (c0 / 5) 5).2.1.length):=⟨_,rfl⟩
  have hl2:=ab3 (f:=ah1 (c6 []) fr2 [2] [.unpack [5,8] (.bcall .divmod [(.var 5),(.var 2)]),.append 9 (.var 8)]) (g:=fun (k:Nat)=>.int (((k+1:Nat)):Int)) (R:=fun i=>rN dX dC (if i=0 then v2 else some (.fr,nI i)) v3 tp (rsN c1 i) tt (some (.fr,nI 5)) (if i=0 then some (.fr,v8) else some (.fr,nI (avN c1 i))) (some (.own,avL c1 c2 (i+1)))) (n:=4) fun i hi=>do8 s1 hi (at4 (f5 _) f2) (at4 (f5 _) (f5 _))
  refine .next (an1 (ad4 (f8 j5 (f8 j5 l0)) (bs0 4 (by decide))) (f:=.next) (by rw [htp,htt,hv8] at hl2;exact hl2) rfl) ?_
  refine .next (d5 (d:=nI c2) rfl (y9 (ai8 (m:=.own) (d:=dC) rfl) j5 (ak5 (i:=2) rfl (by decide))) rfl) ?_
  have hl3:=ab3 (f:=ah1 (c6 []) fr2 [7] [.unpack [5,8] (.bcall .divmod [(.var 5),(.int 5)]),.append 9 (.var 8)]) (g:=fun (k:Nat)=>.int ((k:Nat):Int)) (R:=fun i=>rN dX dC (some (.fr,nI 4)) v3 tp (rs5 c2 i) tt (if i=0 then some (.fr,nI 5) else some (.fr,nI (i - 1))) (if i=0 then some (.fr,nI (avN c1 4)) else some (.fr,nI (rs5 c2 (i - 1) % 5))) (some (.own,avL c1 c2 (i+5)))) (n:=6) fun i hi=>dm2 s2 hi (at4 (f5 _) (f5 _)) (at4 (f5 _) (f5 _))
  refine .next (an1 (ad4 (f8 j5 l0) (ao8 6 (by decide))) (f:=.next) (by rw [htp,htt] at hl3;exact hl3) rfl) ?_
  refine .ret rfl ?_
  rw [bc6]
  exact cw7 (c7 (ac1 (l_e rfl (y9 (c8 (d:=dC) rfl) j5 (ak5 (i:=0) rfl (by decide)))) j5 (cx5 c0 5 (by decide))) (c7 (g9 rfl) (c7 (g9 rfl) f4))) rfl
end
section
open PySem.StrLaws PySem.Builtin PySem.Builtin.Str
noncomputable def Lay (n:Nat) (d:D):Prop:=d.canLay0=true∧d.depth≤n
theorem Lay.str {x:Str} (h:PyData.strOk x=true) (n:Nat):Lay n (.str x):=⟨by simpa [PyData.canLay0] using h,by simp [PyData.depth]⟩
theorem Lay.int (i:Int) (n:Nat):Lay n (.int i):=⟨by simp [PyData.canLay0],by simp [PyData.depth]⟩
theorem Lay.list {n:Nat} {l:List D} (h:∀ d∈l,Lay n d):Lay (n+1) (.list l):=by
  have h3:PyData.canLayAll0 l=true∧PyData.depthAll l≤n:=by
    induction l with
    | nil=>exact ⟨by simp [PyData.canLayAll0],by simp [PyData.depthAll]⟩
    | cons a l ih=>
      obtain ⟨i1,i2⟩:=ih fun d hd=>h d (by simp [hd])
      obtain ⟨j1,j2⟩:=h a (by simp)
      exact ⟨by simp [PyData.canLayAll0,j1,i1],by simp [PyData.depthAll];lia⟩
  exact ⟨by simp [PyData.canLay0,h3.1],by simp [PyData.depth];exact h3.2⟩
theorem Lay.shaped {n:Nat} {d:D} (h:Lay n d) (hn:n≤64):SeqAt.shaped d=true:=by
  unfold SeqAt.shaped
  rw [h.1,decide_eq_true (Nat.le_trans h.2 hn)];rfl
theorem Lay.maps {α:Type} {n:Nat} {f:α→D} {l:List α} (h:∀ x∈l,Lay n (f x)):Lay (n+1) (.list (l.map f)):=.list fun d hd=>by
  obtain ⟨x,hx,rfl⟩:=List.mem_map.mp hd
  exact h x hx
theorem Lay.LS {l:List Str} (h:∀ x∈l,PyData.strOk x=true) (n:Nat):Lay (n+1) (LS l):=.maps fun x hx=>.str (h x hx) n
theorem Lay.nats (l:List Nat) (n:Nat):Lay (n+1) (.list (l.map nI)):=.maps fun x ξ=>.int _ n
theorem cs5 (a:List D):PyData.eqvAll a []=a.isEmpty:=by cases a <;> simp [PyData.eqvAll]
theorem cs7 {n:Nat} {a:List D} (h1:Lay n (.list a)) (hn:n≤64):bk7 .Eq (.list a) (.list [])=some a.isEmpty:=by
  show eqD (.list a) (.list [])=_
  rw [ch9 (h1.shaped hn) (by decide),cs5]
theorem cy4 (a b:Str):PyData.eqv (.str a) (.str b)=decide (a=b):=by
  simp only [PyData.eqv];rw [Bool.eq_iff_iff];simp
theorem bl2 (a b:Nat):PyData.eqv (nI a) (nI b)=decide (a=b):=by
  simp only [PyData.eqv];rw [Bool.eq_iff_iff,beq_iff_eq,decide_eq_true_eq];exact Int.ofNat_inj
theorem ch6 {α:Type} [DecidableEq α] {f:α→D} (h:∀ a b,PyData.eqv (f a) (f b)=decide (a=b)) (xs ys:List α):PyData.eqv (.list (xs.map f)) (.list (ys.map f))=decide (xs=ys):=by
  have key:∀ xs ys:List α,PyData.eqvAll (xs.map f) (ys.map f)=decide (xs=ys):=by
    intro xs
    induction xs with
    | nil=>intro ys;cases ys <;> simp [PyData.eqvAll]
    | cons x xs ih=>
      intro ys
      cases ys with
      | nil=>simp [PyData.eqvAll]
      | cons y ys=>
        rw [Bool.eq_iff_iff]
        simp [PyData.eqvAll,h,ih ys]
  rw [show PyData.eqv (.list (xs.map f)) (.list (ys.map f))=PyData.eqvAll (xs.map f) (ys.map f) by simp only [PyData.eqv]]
  exact key xs ys
theorem ct7 {α:Type} [DecidableEq α] {n:Nat} {f:α→D} (h:∀ a b,PyData.eqv (f a) (f b)=decide (a=b)) {xs ys:List α} (h1:Lay n (.list (xs.map f))) (h2:Lay n (.list (ys.map f))) (hn:n≤64):eqD (.list (xs.map f)) (.list (ys.map f))=some (decide (xs=ys)):=by
  rw [ch9 (h1.shaped hn) (h2.shaped hn),← ch6 h xs ys]
  simp only [PyData.eqv]
theorem cz1 {α:Type} [DecidableEq α] {n:Nat} {f:α→D} (h:∀ a b,PyData.eqv (f a) (f b)=decide (a=b)) {x:α} {l:List α} (h1:Lay n (f x)) (h2:Lay n (.list (l.map f))) (hn:n≤64) (hs:∀ a,as9 (fun x y=>some (Txt.contains y x)) a (.list (l.map f))=none):inD (f x) (.list (l.map f))=some (decide (x∈l)):=by
  refine (cd9 (hs _) (ob rfl (s8 (f7 (h1.shaped hn) (h2.shaped hn)) (congrArg some ?_))))
  rw [List.any_map,Bool.eq_iff_iff]
  simp only [List.any_eq_true,Function.comp_apply,h,decide_eq_true_eq]
  constructor
  · rintro ⟨y,hy,e⟩;exact e▸hy
  · intro h;exact ⟨x,h,rfl⟩
theorem dy1 {x:Str} {l:List Str} (hx:PyData.strOk x=true) (hl:∀ y∈l,PyData.strOk y=true):inD (.str x) (LS l)=some (decide (x∈l)):=cz1 cy4 (.str hx 1) (.LS hl 0) (by decide) fun a=>cj5
theorem cz5 (k:Nat) (l:List Nat):inD (nI k) (.list (l.map nI))=some (decide (k∈l)):=cz1 bl2 (.int _ 1) (.nats l 0) (by decide) fun a=>cj5
theorem bl9 (a b:Nat):bk7 .Eq (nI a) (nI b)=some (decide (a=b)):=by
  refine cd9 rfl (s8 rfl (congrArg some (bl2 a b)))
noncomputable abbrev kvP (p:Nat→Str) (V:Nat→D) (ks:List Nat):List (D×D):=ks.map fun k=>(.str (p k),V k)
theorem cw5 (p:Nat→Str) (V:Nat→D) (k:Nat) (ks:List Nat):kvP p V (k :: ks)=(.str (p k),V k) :: kvP p V ks:=rfl
theorem dz2 (a b:Str):eqK (.str a) (.str b)=(a == b):=rfl
theorem at6 (p:Nat→Str) (V:Nat→D) (ks:List Nat):(kvP p V ks).all (fun e=>z6 e.1)=true:=by
  rw [List.all_map,List.all_eq_true];exact fun x ξ=>rfl
theorem ay8 {p:Nat→Str} {V:Nat→D} {j:Nat}:∀ {ks:List Nat},j∈ks→(∀ k∈ks,p k=p j→k=j)→aw7 (kvP p V ks) (.str (p j))=some (V j)
  | k :: ks,h,hp=>by
    unfold aw7
    rw [cw5,List.find?_cons]
    dsimp only
    rw [dz2]
    by_cases e:k=j
    · subst e;rw [beq_self_eq_true];rfl
    · rw [beq_eq_false_iff_ne.mpr fun q=>e (hp k (by simp) q)]
      exact ay8 (ks:=ks) ((List.mem_cons.mp h).resolve_left fun q=>e q.symm) fun k hk=>hp k (by simp [hk])
theorem cm5 {p:Nat→Str} {V:Nat→D} {ks:List Nat} {x:Str} {v:D} (h:∀ k∈ks,p k≠x):ax5 (kvP p V ks) (.str x) v=kvP p V ks ++ [(.str x,v)]:=by
  refine if_neg ?_
  rw [List.any_map]
  intro q
  obtain ⟨k,hk,q⟩:=List.any_eq_true.mp q
  exact h k hk (ad9 q)
theorem ck8 {p:Nat→Str} {V:Nat→D}:∀ {ks pre:List Nat},(pre ++ ks).Nodup→(∀ j∈pre ++ ks,∀ k∈pre ++ ks,p j=p k→j=k)→(kvP p V ks).foldl (fun m e=>ax5 m e.1 e.2) (kvP p V pre)=kvP p V (pre ++ ks)
  | [],pre,_,_=>by rw [List.append_nil];rfl
  | k :: ks,pre,hn,hp=>by
    rw [cw5,List.foldl_cons]
    have h1:ax5 (kvP p V pre) (.str (p k)) (V k)=kvP p V (pre ++ [k]):=by
      rw [cm5 fun j hj q=>?_]
      · unfold kvP;rw [List.map_append];rfl
      · have:=hp j (by simp [hj]) k (by simp) q
        exact (List.nodup_append.mp hn).2.2 j hj k (by simp) this
    rw [h1]
    have e:pre ++ k :: ks=(pre ++ [k]) ++ ks:=by simp
    rw [e] at hn hp⊢
    exact ck8 hn hp
theorem bd1 {p:Nat→Str} {V:Nat→D} {ks:List Nat} (hn:ks.Nodup) (hp:∀ j∈ks,∀ k∈ks,p j=p k→j=k):(kvP p V ks).foldl (fun m e=>ax5 m e.1 e.2) []=kvP p V ks:=ck8 (pre:=[]) hn hp
theorem bf1 {l:List (D×D)} {y:Str} {v:D} (hz:l.all (fun e=>z6 e.1)=true) (h:aw7 l (.str y)=some v):bk1 (.dict l) (.str y)=some v:=cd9 rfl (ob rfl (s8 (f7 rfl hz) h))
section
variable {calls:String→List D→Option D} {fr:String→Bool} {r r2:Rho}
theorem bl4 {α:Type} {cap:List (Option Nat)} {tgt:List Nat} {src key elt:IR} {xs:List α} {g kf vf:α→D} {R:α→Rho} {m:List (D×D)} (hi:d7 calls src r=some (xs.map g)) (hb:∀ x∈xs,af0 (ba1 r cap) tgt (g x)=some (R x)) (hk:∀ x∈xs,eval calls key (R x)=some (kf x)) (hv:∀ x∈xs,eval calls elt (R x)=some (vf x))
    (hz:(((xs.map fun x=>(kf x,vf x)).all fun e=>z6 e.1) && decide (xs.length≤60))=true) (hm:(xs.map fun x=>(kf x,vf x)).foldl (fun m e=>ax5 m e.1 e.2) []=m):eval calls (.dcomp cap tgt src [] key elt) r=some (.dict m):=by
  obtain ⟨z1,z2⟩:=b8 hz
  refine ob hi (ob (a:=xs.map fun x=>(kf x,vf x)) ?_ (s8 (f7 z1 (f7 rfl (by rw [List.length_map];exact z2))) (congrArg (fun m=>some (PyData.dict m)) hm)))
  rw [List.mapM_map]
  exact ag4 fun x hx=>ob (hb x hx) (ob (hk x hx) (ob (hv x hx) rfl))
theorem ca5 {x:Nat} {k e:IR} {l:List (D×D)} {y:Str} {v:D} (hv:eval calls e r=some v) (hk:look calls k r=some (.str y)) (hx:r.get x=some (.own,.dict l)) (hz:(l.all (fun e=>z6 e.1) && decide (l.length≤60))=true) (hp:r.put x .own (.dict (ax5 l (.str y) v))=some r2):exec calls fr (.setItem x k e) r=some (.next,r2):=
  ob hv (ob hk (ob (congrArg ao4 hx) (ob rfl (s8 (f7 rfl hz) (ob hp rfl)))))
theorem er0 {a:IR} {l:List D} (h:look calls a r=some (.list l)) (hz:sz l.length=true):eval calls (.rev a) r=some (.list l.reverse):=ob h (ob rfl (s8 hz rfl))
theorem cy7 {c a b:IR} {d:D} (h:ac7 calls c r=some false) (h2:eval calls b r=some d):eval calls (.ite c a b) r=some d:=ob h h2
end
theorem eu0 {n:Nat} {f g:Nat→D}:cg3 [(List.range n).map f,(List.range n).map g]=some ((List.range n).map fun i=>.tuple [f i,g i]):=by
  refine s8 (by simp) (congrArg some ?_)
  rw [List.length_map,List.length_range]
  refine List.map_congr_left fun i hi=>?_
  have:=List.mem_range.mp hi
  simp [this]
theorem eu4 {n:Nat} {f g h:Nat→D}:cg3 [(List.range n).map f,(List.range n).map g,(List.range n).map h]=some ((List.range n).map fun i=>.tuple [f i,g i,h i]):=by
  refine s8 (by simp) (congrArg some ?_)
  rw [List.length_map,List.length_range]
  refine List.map_congr_left fun i hi=>?_
  have:=List.mem_range.mp hi
  simp [this]
theorem ba2 {α:Type} {f:Nat→D} {n i:Nat} (hi:i < n) (hn:n≤1000):bk1 (.list ((List.range n).map f)) (nI i)=some (f i):=by
  refine ak5 ?_ (by lia)
  rw [List.getElem?_map,List.getElem?_range hi];rfl
theorem bc9 {a b:Nat} (h:b≤a):ay1 .Sub (nI a) (nI b)=some (nI (a - b)):=by
  exact congrArg (fun i=>some (PyData.int i)) (Int.ofNat_sub h).symm
theorem bf0 {a b:List D} (h:a.length+b.length≤1000000):ay1 .Add (.list a) (.list b)=some (.list (a ++ b)):=by
  exact cd9 rfl (ob rfl (ob rfl (s8 (szl (Nat.le_trans h (by decide))) rfl)))
theorem cb2 {a b:List Str} (h:a.length+b.length≤1000000):ay1 .Add (LS a) (LS b)=some (LS (a ++ b)):=by
  unfold LS
  rw [bf0 (by simpa using h),List.map_append]
theorem az7 {l:List D} {i:Nat} (hi:i≤1000000) (hz:l.length≤1000000):bj0 (.list l) (.int (i:Int))=some (.list (l.drop i)):=ob rfl (cj6 (Nat.le_trans hi (by decide)) (Nat.le_trans hz (by decide)))
theorem dp1 {l:List Nat} {m:Nat} (hm:m∈l) (hle:∀ x∈l,x≤m):dl5 (l.map nI)=some (nI m):=by
  have key:∀ (r:List Nat) (d:Nat),d≤m→(∀ x∈r,x≤m)→(d=m∨m∈r)→(r.map nI).foldl (fun m x=>if ltD m x then x else m) (nI d)=nI m:=by
    intro r
    induction r with
    | nil=>intro d _ _ h;rcases h with rfl | h;rfl;cases h
    | cons x r ih=>
      intro d hd hr h
      rw [List.map_cons,List.foldl_cons]
      have e:ltD (nI d) (nI x)=decide (d < x):=by
        exact decide_eq_decide.mpr Int.ofNat_lt
      rw [e]
      have hx:=hr x (by simp)
      by_cases q:d < x
      · rw [decide_eq_true q,if_pos rfl]
        refine ih x hx (fun y hy=>hr y (by simp [hy])) ?_
        rcases h with h | h
        · lia
        · rcases List.mem_cons.mp h with h | h
          · exact .inl h.symm
          · exact .inr h
      · rw [decide_eq_false q,if_neg (by decide)]
        refine ih d hd (fun y hy=>hr y (by simp [hy])) ?_
        rcases h with h | h
        · exact .inl h
        · rcases List.mem_cons.mp h with h | h
          · exact .inl (by lia)
          · exact .inr h
  cases l with
  | nil=>cases hm
  | cons d r=>
    have h1:((nI d :: r.map nI).all ar3 || ((nI d :: r.map nI).all ag0 && (nI d :: r.map nI).all SeqAt.shaped))=true:=by simp [ar3]
    rw [List.map_cons]
    refine (if_pos h1).trans ?_
    rw [key r d (hle d (by simp)) (fun x hx=>hle x (by simp [hx])) (by rcases List.mem_cons.mp hm with h | h;exact .inl h.symm;exact .inr h)]
theorem di1 {l:List Nat} {m:Nat} (hm:m∈l) (hle:∀ x∈l,m≤x):dk7 (l.map nI)=some (nI m):=by
  have key:∀ (r:List Nat) (d:Nat),m≤d→(∀ x∈r,m≤x)→(d=m∨m∈r)→(r.map nI).foldl (fun m x=>if ltD x m then x else m) (nI d)=nI m:=by
    intro r
    induction r with
    | nil=>intro d _ _ h;rcases h with rfl | h;rfl;cases h
    | cons x r ih=>
      intro d hd hr h
      rw [List.map_cons,List.foldl_cons]
      have e:ltD (nI x) (nI d)=decide (x < d):=by
        exact decide_eq_decide.mpr Int.ofNat_lt
      rw [e]
      have hx:=hr x (by simp)
      by_cases q:x < d
      · rw [decide_eq_true q,if_pos rfl]
        refine ih x hx (fun y hy=>hr y (by simp [hy])) ?_
        rcases h with h | h
        · lia
        · rcases List.mem_cons.mp h with h | h
          · exact .inl h.symm
          · exact .inr h
      · rw [decide_eq_false q,if_neg (by decide)]
        refine ih d hd (fun y hy=>hr y (by simp [hy])) ?_
        rcases h with h | h
        · exact .inl h
        · rcases List.mem_cons.mp h with h | h
          · exact .inl (by lia)
          · exact .inr h
  cases l with
  | nil=>cases hm
  | cons d r=>
    have h1:((nI d :: r.map nI).all ar3 || ((nI d :: r.map nI).all ag0 && (nI d :: r.map nI).all SeqAt.shaped))=true:=by simp [ar3]
    rw [List.map_cons]
    refine (if_pos h1).trans ?_
    rw [key r d (hle d (by simp)) (fun x hx=>hle x (by simp [hx])) (by rcases List.mem_cons.mp hm with h | h;exact .inl h.symm;exact .inr h)]
theorem cc2 (a b:Nat):bfD .max [nI a,nI b]=some (nI (max a b)):=by
  refine cd9 rfl (ob rfl (ob rfl (ob rfl (congrArg (fun i=>some (PyData.int i)) ?_))))
  rcases Nat.le_total a b with q | q
  · rw [Int.max_eq_right (Int.ofNat_le.mpr q),Nat.max_eq_right q]
  · rw [Int.max_eq_left (Int.ofNat_le.mpr q),Nat.max_eq_left q]
theorem cx0 (a n:Nat) (h:n≤64):ay1 .RShift (nI a) (nI n)=some (nI (a / 2 ^ n)):=
  s8 (f7 (cc8 n) (decide_eq_true (show (n:Int)≤64 from Int.ofNat_le.mpr h))) (congrArg (fun i=>some (PyData.int i)) ((show (a:Int).fdiv (2 ^ n)=(a:Int).fdiv ((2 ^ n:Nat):Int) by rw [Int.natCast_pow];rfl).trans (bt2 a (2 ^ n))))
theorem cl8 (a:Nat):ay1 .BitAnd (nI a) (.int 1)=some (nI (a % 2)):=congrArg (fun i=>some (PyData.int i)) (bm7 a 2)
theorem eg2 {X Y:List Str} (hX:SS X) (hY:SS Y) (hl:X.length+Y.length < 1048576):cj3 [LS X,LS Y]=some (.tuple [LS (X.filter fun x=>decide (x ∉ Y)),LS (Y.filter fun y=>decide (y ∉ X))]):=by
  have h1:∀ l:List Str,(l.map PyData.str).mapM aa8=some l:=fun l=>by
    rw [List.mapM_map,ag4 (f:=aa8 ∘ PyData.str) (g:=fun x=>x) fun x ξ=>rfl];simp
  obtain ⟨e1,e2⟩:=au3 hX hY
  refine ob rfl (ob rfl (ob rfl (ob (h1 X) (ob (h1 Y) (s8 (f7 (decide_eq_true (cm9 hX)) (f7 (decide_eq_true (cm9 hY)) (decide_eq_true hl))) ?_)))))
  rw [e1,e2]
section
variable {av:Nat→Nat} {nm:Nat→Str} (hav:∀ k,1≤k→av k < k) (ha5:∀ k,av k < 5) (hnm:∀ i,ah7 (nm i)) (hinj:∀ i j,i < 10→j < 10→nm i=nm j→i=j)
noncomputable abbrev avD (av:Nat→Nat):D:=.list ((List.range 11).map fun k=>nI (av k))
noncomputable abbrev nmD (nm:Nat→Str):D:=.list ((List.range 10).map fun k=>.str (nm k))
noncomputable abbrev d8 (av:Nat→Nat) (nm:Nat→Str) (k:Nat):Str:=PS (f9 av nm k)
include ha5 in
theorem aj4 (k:Nat):(f9 av nm k).length≤5:=by
  have h:=cn5 (av:=av) (nm:=nm) (av k)
  have h5:=ha5 k
  by_cases q:av k < k
  · rw [ab1 q];simp;lia
  · rw [ae0 q];simp
include hav ha5 hnm
theorem bm5:ak7 [avD av,nmD nm]=some (.list ((List.range 11).map fun k=>.str (d8 av nm k))):=by
  unfold ak7 at8
  refine ac0 rfl ?_
  refine .next (d5 (d:=.list [.str "/"]) rfl (y8 (c7 ae8 f4) rfl) rfl) ?_
  let R:Nat→Rho:=fun i=>[some (.fr,avD av),some (.fr,nmD nm),some (.own,.list ((List.range (i+1)).map fun k=>.str (d8 av nm k))),(if i=0 then none else some (.fr,nI i)),none,none]
  have hl:=ab3 (f:=ah1 (c6 L2b) fr2 [3] [.append 2 (.call "join" [(.idx (.var 2) (.idx (.var 0) (.var 3))),(.idx (.var 1) (.bin .Sub (.var 3) (.int 1)))])]) (g:=fun (k:Nat)=>.int (((k+1:Nat)):Int)) (R:=R) (n:=10) fun i hi=>by
    have hR:R (i+1)=[some (.fr,avD av),some (.fr,nmD nm),some (.own,.list ((List.range (i+2)).map fun k=>.str (d8 av nm k))),some (.fr,nI (i+1)),none,none]:=by simp [R]
    rw [hR]
    have hb:ai6 (R i) [3] (nI (i+1))=some ((R i).set 3 (some (.fr,nI (i+1)))):=by
      refine y3 (k6 rfl ?_ (by simp [R]))
      show frS (if i=0 then none else some (.fr,nI i))
      split
      · exact p0
      · exact f5 _
    refine ab7 hb ?_
    have ha:=hav (i+1) (by exact Nat.le_add_left ..)
    have hj:bs5 [.str (d8 av nm (av (i+1))),.str (nm i)]=some (.str (d8 av nm (i+1))):=by
      have e:f9 av nm (i+1)=f9 av nm (av (i+1)) ++ [nm i]:=ab1 ha
      unfold d8
      rw [e]
      have:=cn5 (av:=av) (nm:=nm) (av (i+1))
      exact dc7 (by rw [← e];exact ad6 hnm _) (by have:=ha5 (i+1);lia)
    refine y5 (al2 (l:=(List.range (i+1)).map fun k=>.str (d8 av nm k)) (d:=.str (d8 av nm (i+1))) rfl (w9 (c7 (y9 (ai8 (m:=.own) (d:=.list ((List.range (i+1)).map fun k=>.str (d8 av nm k))) rfl) (l_e rfl (y9 (c8 rfl) (c8 rfl) (ba2 (α:=Unit) (show i+1 < 11 by lia) (by decide)))) (ba2 (α:=Unit) ha (by lia))) (c7 (y9 (c8 rfl) (l_e rfl (ac1 (c8 rfl) j5 (bc9 (show 1≤i+1 by exact Nat.le_add_left ..)))) (ba2 (α:=Unit) hi (by decide))) f4)) (by rw [dz3];exact hj)) rfl (szl (by simp;lia)) ?_)
    rw [show (List.range (i+2)).map (fun k=>PyData.str (d8 av nm k))=((List.range (i+1)).map fun k=>PyData.str (d8 av nm k)) ++ [PyData.str (d8 av nm (i+1))] by rw [List.range_succ (n:=i+1),List.map_append];rfl]
    rfl
  have e0:d8 av nm 0="/":=by unfold d8;rw [ae0 (by lia),ah5]
  refine .next (an1 (ad4 (f8 j5 (f8 j5 l0)) (bs0 10 (by decide))) (f:=.next) (r':=R 10) ?_ rfl) ?_
  · rw [← hl];simp only [R];rw [show (List.range (0+1)).map (fun k=>PyData.str (d8 av nm k))=[PyData.str (d8 av nm 0)] from rfl,e0];rfl
  exact .retv (m:=.own) rfl (.inl rfl)
end
noncomputable def by6:List Str:=["b","bb","bbb","bbbb"]
noncomputable def nmA (kind:Nat) (ts:List Nat) (i:Nat):Str:=if i < 4 then by6.getD i "b" else wr kind (ts.getD (i - 4) 0)
theorem br8:((List.range 4).all fun i=>nmB (by6.getD i "b") && ((List.range 4).all fun j=>i == j || !(by6.getD i "b" == by6.getD j "b")) && ((List.range 5).all fun k=>(List.range 12).all fun t=>!(by6.getD i "b" == wr k t)))=true:=by decide +kernel
theorem ef9 {kind:Nat} {ts:List Nat} (hk:kind < 5) (i:Nat):ah7 (nmA kind ts i):=by
  unfold nmA
  split
  · have:=List.all_eq_true.mp br8 i (by simp;assumption)
    exact di4 (b8 (b8 this).1).1
  · exact (bn0 hk _).2.2
theorem eg7 (k i:Nat):wr k (i % 12)=wr k i:=by unfold wr ai3;rw [Nat.mod_mod]
theorem dz4 {kind:Nat} {ts:List Nat} (hk:kind < 5) (h6:ts.length=6) (hn:ts.Nodup) (ht:∀ t∈ts,t < 12) {i j:Nat} (hi:i < 10) (hj:j < 10) (h:nmA kind ts i=nmA kind ts j):i=j:=by
  have ne:∀ i t,i < 4→by6.getD i "b"≠wr kind t:=fun i t hi q=>by
    have:=List.all_eq_true.mp br8 i (by simp;assumption)
    have:=List.all_eq_true.mp (List.all_eq_true.mp (b8 this).2 kind (by simpa using hk)) (t % 12) (by simp;lia)
    rw [eg7,q] at this
    simp at this
  unfold nmA at h
  by_cases a:i < 4 <;> by_cases b:j < 4
  · rw [if_pos a,if_pos b] at h
    have:=List.all_eq_true.mp br8 i (by simp;assumption)
    have:=List.all_eq_true.mp (b8 (b8 this).1).2 j (by simp;assumption)
    rw [h] at this
    simpa using this
  · rw [if_pos a,if_neg b] at h;exact absurd h (ne i _ a)
  · rw [if_neg a,if_pos b] at h;exact absurd h.symm (ne j _ b)
  · rw [if_neg a,if_neg b] at h
    have h1:=el8 hk h
    have hs:∀ i,i < 10→¬ i < 4→i - 4 < ts.length:=fun i h1 h2=>h6▸Nat.sub_lt_right_of_lt_add (Nat.not_lt.mp h2) h1
    have hi':=hs i hi a
    have hj':=hs j hj b
    rw [List.getD_eq_getElem?_getD,List.getD_eq_getElem?_getD,List.getElem?_eq_getElem hi',List.getElem?_eq_getElem hj',Option.getD_some,Option.getD_some] at h1
    have l1:=ht _ (List.getElem_mem hi')
    have l2:=ht _ (List.getElem_mem hj')
    rw [Nat.mod_eq_of_lt l1,Nat.mod_eq_of_lt l2] at h1
    have:=(List.getElem_inj hn).mp h1
    rw [← Nat.sub_add_cancel (Nat.not_lt.mp a),this,Nat.sub_add_cancel (Nat.not_lt.mp b)]
end
section
open PySem.StrLaws PySem.Builtin PySem.Builtin.Str
theorem cx3 (n:Nat):be3 (n+1) "_law_most"=bf5 n:=by kernel_rfl
noncomputable abbrev aa5 (rs:List (List (List Str))):D:=.list (rs.map fun r=>.list (r.map LS))
noncomputable abbrev WOK (w:List Str):Prop:=w.length≤20∧∀ x∈w,PyData.strOk x=true
noncomputable abbrev ROK (r:List (List Str)):Prop:=r.length≤20∧∀ w∈r,WOK w
theorem cm8 {rs:List (List (List Str))} (h:∀ r∈rs,ROK r):Lay 3 (aa5 rs):=.maps fun r hr=>.maps fun w hw=>.LS ((h r hr).2 w hw).2 0
noncomputable def rM (d:D) (u:List Str) (a:Nat) (o3:Slot):Rho:=[some (.fr,d),some (.fr,LS u),some (.fr,nI a),o3,none,none]
noncomputable abbrev ed6:List SI:=[.if_ (.cmp .Eq (.comp [none,none,some 1] [1] (.var 3) [(.cmp .In (.var 1) (.var 2))] (.var 1)) (.list [])) [.assign 2 false (.bcall .max [(.var 2),(.bin .Add (.int 1) (.call "_law_most" [(.from (.var 0) (.int 1)),(.bin .Add (.var 1) (.var 3))]))])] []]
theorem bw9 {n:Nat} {r0:List (List Str)} {rs:List (List (List Str))} {u:List Str} (hrs:rs.length≤1000) (hu:u.length≤1000) (hu2:∀ x∈u,PyData.strOk x=true) (hc:∀ w,WOK w→bf5 n [aa5 rs,LS (u ++ w)]=some (nI (al1 rs (u ++ w)))):∀ (r:List (List Str)) (a:Nat) (o3:Slot),(∀ w∈r,WOK w)→frS o3→
    ∃ o,frS o∧y4 (ah1 (be3 (n+1)) fr2 [3] ed6) (r.map LS) (rM (aa5 (r0 :: rs)) u a o3)=some (.next,rM (aa5 (r0 :: rs)) u (r.foldl (mxF u (al1 rs)) a) o)
  | [],a,o3,_,h3=>⟨o3,h3,rfl⟩
  | w :: r,a,o3,hr,h3=>by
    obtain ⟨o,ho,ih⟩:=bw9 (n:=n) (r0:=r0) (rs:=rs) hrs hu hu2 hc r (mxF u (al1 rs) a w) (some (.fr,LS w)) (fun v hv=>hr v (by simp [hv])) (f5 _)
    refine ⟨o,ho,?_⟩
    have hw:=hr w (by simp)
    have hb:ai6 (rM (aa5 (r0 :: rs)) u a o3) [3] (LS w)=some (rM (aa5 (r0 :: rs)) u a (some (.fr,LS w))):=y3 (k6 (o:=o3) rfl h3 (show 3 < 6 by decide))
    have hcomp:eval (be3 (n+1)) (.comp [none,none,some 1] [1] (.var 3) [(.cmp .In (.var 1) (.var 2))] (.var 1)) (rM (aa5 (r0 :: rs)) u a (some (.fr,LS w)))=some (LS (w.filter fun x=>decide (x∈u))):=
      ac9 (xs:=w) (g:=.str) (h:=.str) (p:=fun x=>decide (x∈u)) (R:=fun x=>[none,some (.fr,.str x),some (.fr,LS u)]) (aj2 rfl (c8 rfl)) (fun x ξ=>rfl) (fun x hx=>ae3 (t_b rfl rfl (ac4 (c8 rfl) (c8 rfl) (dy1 (hw.2 x hx) hu2)))) (fun x ξ ξ=>g9 rfl) (szl (by have:=hw.1;exact Nat.le_trans ‹_› (Nat.le_of_ble_eq_true rfl)))
    have hfree:((w.filter fun x=>decide (x∈u)).map PyData.str).isEmpty=free u w:=by
      rw [Bool.eq_iff_iff,List.isEmpty_iff,List.map_eq_nil_iff,List.filter_eq_nil_iff,bn5];simp
    have htest:ac7 (be3 (n+1)) (.cmp .Eq (.comp [none,none,some 1] [1] (.var 3) [(.cmp .In (.var 1) (.var 2))] (.var 1)) (.list [])) (rM (aa5 (r0 :: rs)) u a (some (.fr,LS w)))=some (free u w):=by
      rw [← hfree]
      exact t_b rfl rfl (ac4 (l_e rfl hcomp) (l_e rfl (y8 f4 rfl)) (cs7 (.LS (fun x hx=>hw.2 x (List.mem_filter.mp hx).1) 0) (by decide)))
    have st:ah1 (be3 (n+1)) fr2 [3] ed6 (LS w) (rM (aa5 (r0 :: rs)) u a o3)=some (.next,rM (aa5 (r0 :: rs)) u (mxF u (al1 rs) a w) (some (.fr,LS w))):=by
      refine ab7 hb (y5 ?_)
      unfold mxF
      cases hf:free u w with
      | true=>
        rw [hf] at htest
        have hfrom:bj0 (aa5 (r0 :: rs)) (.int 1)=some (aa5 rs):=az7 (i:=1) (by decide) (by simp;exact Nat.le_trans ‹_› (Nat.le_of_ble_eq_true rfl))
        refine bb6 htest (y5 (d5 (d:=nI (max a (1+al1 rs (u ++ w)))) rfl (z9 (f8 (c8 rfl) (f8 (l_e rfl (ac1 j5 (l_e rfl (w9 (c7 (bq2 (c8 rfl) j5 hfrom) (c7 (ac1 (c8 rfl) (c8 rfl) (cb2 (by have:=hw.1;lia))) f4)) (by rw [cx3];exact hc w hw))) (dw1 1 _))) l0)) (cc2 a _)) rfl))
      | false=>
        rw [hf] at htest
        exact at1 htest bi6
    rw [List.map_cons,w7 st]
    exact ih
theorem dh0:∀ (n:Nat) (rs:List (List (List Str))) (u:List Str),rs.length≤n→n≤100→(∀ r∈rs,ROK r)→u.length+20 * rs.length≤500→(∀ x∈u,PyData.strOk x=true)→bf5 n [aa5 rs,LS u]=some (nI (al1 rs u)):=by
  intro n
  induction n with
  | zero=>
    intro rs u hl _ _ _ _
    cases List.eq_nil_of_length_eq_zero (Nat.le_zero.mp hl)
    unfold bf5 ai0
    refine ac0 rfl ?_
    exact .if_t (t_b rfl rfl (ac4 (c8 rfl) (l_e rfl (y8 f4 rfl)) (cs7 (cm8 (rs:=[]) (by simp)) (by decide)))) (.retN rfl rfl ao1)
  | succ n ih=>
    intro rs u hl hn hr hu hu2
    unfold bf5 ai0
    refine ac0 rfl ?_
    have ht:ac7 (be3 (n+1)) (.cmp .Eq (.var 0) (.list [])) (ct4 6 [0,1] none [aa5 rs,LS u])=some (rs.map fun r=>PyData.list (r.map LS)).isEmpty:=t_b rfl rfl (ac4 (c8 (d:=aa5 rs) rfl) (l_e rfl (y8 f4 rfl)) (cs7 (cm8 hr) (by decide)))
    cases rs with
    | nil=>exact .if_t ht (.retN rfl rfl ao1)
    | cons r0 rs=>
      simp only [List.length_cons] at hl hu
      have hr0:=hr r0 (by simp)
      have hrs:∀ r∈rs,ROK r:=fun r h=>hr r (by simp [h])
      refine .skip ht ?_
      have hfrom:bj0 (aa5 (r0 :: rs)) (.int 1)=some (aa5 rs):=az7 (i:=1) (by decide) (by simp;lia)
      refine .next (d5 (d:=nI (al1 rs u)) rfl (w9 (c7 (bq2 (c8 rfl) j5 hfrom) (c7 (g9 rfl) f4)) (by rw [cx3];exact ih rs u (by exact Nat.le_of_lt_succ ‹_›) (by exact Nat.le_of_lt ‹_›) hrs (by lia) hu2)) rfl) ?_
      obtain ⟨o,ho,hloop⟩:=bw9 (n:=n) (r0:=r0) (rs:=rs) (u:=u) (by lia) (by lia) hu2 (fun w hw=>ih rs (u ++ w) (by exact Nat.le_of_lt_succ ‹_›) (by exact Nat.le_of_lt ‹_›) hrs (by rw [List.length_append];have:=hw.1;lia) fun x hx=>by
        rcases List.mem_append.mp hx with q | q
        · exact hu2 x q
        · exact hw.2 x q) r0 (al1 rs u) none hr0.2 p0
      refine .next (an1 (aj2 rfl (l_e rfl (y9 (c8 rfl) j5 (ak5 (i:=0) rfl (by decide))))) hloop rfl) ?_
      exact .retv (m:=.fr) rfl (.inr rfl)
end
section
open PySem.StrLaws PySem.Builtin PySem.Builtin.Str
theorem dh9:c6 L2c "_law_chain"=ag9:=by kernel_rfl
theorem ej8:c6 L2c "sorted_list_difference"=cj3:=by kernel_rfl
theorem de5:c6 L2c "commonpath"=ah8:=by kernel_rfl
theorem co6:c6 L2c "dirname"=ae5:=by kernel_rfl
noncomputable abbrev lft (A B:List Str):List Str:=(u0 A).filter fun x=>decide (x ∉ u0 B)
inductive es1 (A B:List Str):Prop
  | mk (x:Str) (h:(lft A B).take 1=[PS (lcp A B ++ [x])]) (p:lcp A B ++ [x] <+: A)
theorem bx9 {A B:List Str} (hA:NA A) (hB:NA B) (hl:(lcp A B).length < A.length):es1 A B:=by
  have hp:=bd9 A B
  obtain ⟨t,ht⟩:=hp
  cases t with
  | nil=>rw [List.append_nil] at ht;rw [ht] at hl;exact absurd hl (Nat.lt_irrefl _)
  | cons x t=>
    have hx:lcp A B ++ [x] <+: A:=⟨t,by rw [List.append_assoc];exact ht⟩
    refine ⟨x,?_,hx⟩
    have hin:∀ k,k≤A.length→(PS (A.take k)∈u0 B↔k≤(lcp A B).length):=fun k hk=>by
      rw [dg6 hB (hA.pre (List.take_prefix ..))]
      constructor
      · intro q
        have:=(cc7 (List.take_prefix k A) q).length_le
        rw [List.length_take] at this;lia
      · intro q
        have:A.take k <+: A.take (lcp A B).length:=List.take_prefix_take_left q
        refine this.trans (List.IsPrefix.trans ?_ (ds4 A B))
        rw [← List.prefix_iff_eq_take.mp (bd9 A B)]
        exact List.prefix_refl _
    obtain ⟨m,hm⟩:∃ m,A.length+1=((lcp A B).length+1)+(m+1):=by
      obtain ⟨m,hm⟩:=Nat.exists_eq_add_of_lt hl
      exact ⟨m,by rw [hm,Nat.add_assoc _ m 1,Nat.add_right_comm]⟩
    have e:u0 A=(List.range (A.length+1)).map fun k=>PS (A.take k):=by
      unfold u0 au5;rw [List.map_map];rfl
    show ((u0 A).filter _).take 1=_
    rw [e,hm,List.range_add,List.map_append,List.filter_append,List.filter_eq_nil_iff.mpr ?_,List.nil_append,List.range_succ_eq_map,List.map_cons,List.map_cons,List.filter_cons_of_pos ?_,List.take_succ_cons,List.take_zero]
    · have:A.take ((lcp A B).length+1)=lcp A B ++ [x]:=by
        have:=List.prefix_iff_eq_take.mp hx
        rw [List.length_append,List.length_singleton] at this
        exact this.symm
      rw [Nat.add_zero,this]
    · rw [decide_eq_true_eq,hin _ (by assumption)];lia
    · intro y hy
      obtain ⟨k,hk,rfl⟩:=List.mem_map.mp hy
      have:=List.mem_range.mp hk
      rw [decide_eq_true_eq,hin k (by lia)];lia
theorem ea7 {a:List Str} (ha:∀ x∈a,PyData.strOk x=true):bk7 .NotEq (LS a) (LS a)=some false:=by
  show ((eqD (LS a) (LS a)).or _).map (!·)=_
  rw [show eqD (LS a) (LS a)=some (decide (a=a)) from ct7 cy4 (.LS ha 0) (.LS ha 0) (by decide)]
  simp
theorem da2 {calls:String→List D→Option D} {fr:String→Bool} {r r1 r2:Rho} {x y:Nat} {l:List D} {d:D} (hf:r.frz y=r1) (hy:r1.get y=some (.fr,d)) (hx:r1.get x=some (.own,.list l)) (hz:sz (l.length+1)=true) (hp:r1.put x .own (.list (l ++ [d]))=some r2):exec calls fr (.append x (.var y)) r=some (.next,r2):=by
  have e:an7 r (.var y)=r1:=hf
  show (do let d ← eval calls (.var y) (an7 r (.var y));let l ← w6 (← ao4 ((an7 r (.var y)).get x));gd (sz (l.length+1)) (do some (Fl.next,← (an7 r (.var y)).put x .own (.list (l ++ [d])))))=_
  rw [e]
  exact ob (g9 hy) (ob (congrArg ao4 hx) (ob rfl (s8 hz (ob hp rfl))))
section
variable {av:Nat→Nat} {nm:Nat→Str} (hav:∀ k,1≤k→av k < k) (ha5:∀ k,av k < 5) (hnm:∀ i,ah7 (nm i)) (hinj:∀ i j,i < 10→j < 10→nm i=nm j→i=j)
noncomputable abbrev wyN (av:Nat→Nat) (nm:Nat→Str) (e b:Nat):List Str:=lft (f9 av nm e) (f9 av nm b) ++ lft (f9 av nm b) (f9 av nm e)
include hav in
theorem dt7 {e:Nat} {x:Str}:x∈u0 (f9 av nm e)↔∃ k∈ch av e,x=d8 av nm k:=by
  rw [dc5];simp [eq_comm]
include hav hnm hinj in
theorem cu0 {e b:Nat} (he:e < 11) (hb:b < 11) {x:Str}:x∈lft (f9 av nm e) (f9 av nm b)↔∃ k,x=d8 av nm k∧k∈ch av e∧k ∉ ch av b:=by
  simp only [List.mem_filter,decide_eq_true_eq,dt7 hav]
  constructor
  · rintro ⟨⟨k,hk,rfl⟩,h⟩
    exact ⟨k,rfl,hk,fun q=>h ⟨k,q,rfl⟩⟩
  · rintro ⟨k,rfl,hk,h⟩
    refine ⟨⟨k,hk,rfl⟩,?_⟩
    rintro ⟨j,hj,q⟩
    have h1:=ak3 _ _ hk
    have h2:=ak3 _ _ hj
    have:=ak2 hav hnm hinj (show k < 11 by exact Nat.lt_of_le_of_lt ‹_› ‹_›) (show j < 11 by exact Nat.lt_of_le_of_lt ‹_› ‹_›) q
    rw [this] at h;exact h hj
include hav hnm hinj in
theorem ea4 {e b:Nat} (he:e < 11) (hb:b < 11) {x:Str}:x∈wyN av nm e b↔∃ k,x=d8 av nm k∧stp av e b k:=by
  rw [List.mem_append,cu0 hav hnm hinj he hb,cu0 hav hnm hinj hb he]
  constructor
  · rintro (⟨k,q,h⟩ | ⟨k,q,h⟩)
    · exact ⟨k,q,.inl h⟩
    · exact ⟨k,q,.inr h⟩
  · rintro ⟨k,q,h | h⟩
    · exact .inl ⟨k,q,h⟩
    · exact .inr ⟨k,q,h⟩
include hav ha5 hnm hinj in
theorem by9 {e b:Nat} (he:e < 11) (hb:b < 11) (he5:5≤e) (ne:e≠b):(lcp (f9 av nm e) (f9 av nm b)).length < (f9 av nm e).length:=by
  obtain ⟨m,m1,m2,m3,m4⟩:=dv4 hav hnm hinj he hb
  have hp:=bd9 (f9 av nm e) (f9 av nm b)
  refine Nat.lt_of_le_of_ne hp.length_le fun q=>?_
  have hn:=hp.eq_of_length q
  rw [← m3] at hn
  have l1:=ak3 _ _ m1
  have:=bd8 hav hnm hinj (show m < 11 by exact Nat.lt_of_le_of_lt ‹_› ‹_›) he hn
  subst this
  by_cases q:b=0
  · subst q
    have:=ak3 _ _ m2;lia
  · rw [ay4 hav (by exact Nat.pos_of_ne_zero ‹_›)] at m2
    rcases List.mem_cons.mp m2 with q | q
    · exact ne q
    · have:=ak3 _ _ q
      have:=ha5 b
      lia
noncomputable abbrev FOK (l:List Nat):Prop:=∀ e∈l,5≤e∧e < 11
include hnm in
theorem eo3 {e b:Nat}:∀ x∈wyN av nm e b,PyData.strOk x=true:=fun x hx=>by
  have hA:=ad6 (av:=av) hnm e
  have hB:=ad6 (av:=av) hnm b
  rcases List.mem_append.mp hx with q | q
  · obtain ⟨n,hn,rfl⟩:=bb7.mp (List.mem_filter.mp q).1;exact aw2 (hA.pre hn)
  · obtain ⟨n,hn,rfl⟩:=bb7.mp (List.mem_filter.mp q).1;exact aw2 (hB.pre hn)
include ha5 in
theorem az4 (e b:Nat):(lft (f9 av nm e) (f9 av nm b)).length≤6:=by
  have h1:=List.length_filter_le (fun x=>decide (x ∉ u0 (f9 av nm b))) (u0 (f9 av nm e))
  have h2:=aj4 (nm:=nm) ha5 e
  rw [bb2] at h1
  exact Nat.le_trans h1 (by exact Nat.lt_succ_of_le ‹_›)
noncomputable def rW (a b d rows:D) (o4 o5 o6 o7 o8 o9:Slot):Rho:=[some (.fr,a),some (.fr,b),some (.fr,d),some (.own,rows),o4,o5,o6,o7,o8,o9,none,none]
noncomputable abbrev chV (av:Nat→Nat) (nm:Nat→Str) (k:Nat):D:=LS (u0 (f9 av nm k))
noncomputable abbrev co4:List SI:=[.unpack [7,8] (.call "sorted_list_difference" [(.idx (.var 2) (.var 4)),(.idx (.var 2) (.var 6))]),.assign 9 false (.call "commonpath" [(.list [(.var 4),(.var 6)])]),.if_ (.cmp .NotEq (.comp [none,none,none] [1] (.bin .Add (.upto (.var 7) (.int 1)) (.upto (.var 8) (.int 1))) [] (.call "dirname" [(.var 1)])) (.list [(.var 9),(.var 9)])) [.ret (.list [])] [],.append 5 (.bin .Add (.var 7) (.var 8))]
noncomputable abbrev ed7:List SI:=[.assign 5 true (.list []),.for_ [6] (.var 1) co4,.append 3 (.var 5)]
inductive InW (calls:Calls) (a b d rows:D) (p:D) (row row':D) (its:List D) (o6 o7 o8 o9:Slot):Prop
  | mk (v6 v7 v8 v9:Slot) (h6:frS v6) (h7:frS v7) (h8:frS v8) (h9:frS v9) (h:y4 (ah1 calls fr2 [6] co4) its (rW a b d rows (some (.fr,p)) (some (.own,row)) o6 o7 o8 o9)=some (.next,rW a b d rows (some (.fr,p)) (some (.own,row')) v6 v7 v8 v9))
include hav ha5 hnm hinj in
theorem cx6 {a b rows:D} {ks:List Nat} {e:Nat} (hks:FOK ks) (he:e∈ks):∀ (bl:List Nat) (done:List (List Str)) (o6 o7 o8 o9:Slot),(∀ x∈bl,x∈ks∧x≠e)→done.length+bl.length≤1000→frS o6→frS o7→frS o8→frS o9→
    InW (c6 L2c) a b (.dict (kvP (d8 av nm) (chV av nm) ks)) rows (.str (d8 av nm e)) (.list (done.map LS)) (.list ((done ++ bl.map (wyN av nm e)).map LS)) (bl.map fun k=>.str (d8 av nm k)) o6 o7 o8 o9
  | [],done,o6,o7,o8,o9,_,_,h6,h7,h8,h9=>⟨o6,o7,o8,o9,h6,h7,h8,h9,by rw [show done ++ List.map (wyN av nm e) []=done from List.append_nil _];rfl⟩
  | k :: bl,done,o6,o7,o8,o9,hb,hl,h6,h7,h8,h9=>by
    obtain ⟨hk,hne⟩:=hb k (by simp)
    obtain ⟨e5,e11⟩:=hks e he
    obtain ⟨k5,k11⟩:=hks k hk
    have hA:=ad6 (av:=av) hnm e
    have hB:=ad6 (av:=av) hnm k
    have lA:=aj4 (nm:=nm) ha5 e
    have lB:=aj4 (nm:=nm) ha5 k
    simp only [List.length_cons] at hl
    obtain ⟨v6,v7,v8,v9,q6,q7,q8,q9,ih⟩:=cx6 (a:=a) (b:=b) (rows:=rows) hks he bl (done ++ [wyN av nm e k]) (some (.fr,.str (d8 av nm k))) (some (.fr,LS (lft (f9 av nm e) (f9 av nm k)))) (some (.fr,LS (lft (f9 av nm k) (f9 av nm e)))) (some (.fr,.str (PS (lcp (f9 av nm e) (f9 av nm k))))) (fun x hx=>hb x (by simp [hx])) (by rw [List.length_append,List.length_singleton];lia) (f5 _) (f5 _) (f5 _) (f5 _)
    refine ⟨v6,v7,v8,v9,q6,q7,q8,q9,?_⟩
    have hp:∀ j∈ks,∀ i∈ks,d8 av nm j=d8 av nm i→j=i:=fun j hj i hi q=>ak2 hav hnm hinj (hks j hj).2 (hks i hi).2 q
    have hi:∀ j∈ks,bk1 (.dict (kvP (d8 av nm) (chV av nm) ks)) (.str (d8 av nm j))=some (chV av nm j):=fun j hj=>bf1 (at6 _ _ _) (ay8 hj fun i hi=>hp i hi j hj)
    let r6:Rho:=rW a b (.dict (kvP (d8 av nm) (chV av nm) ks)) rows (some (.fr,.str (d8 av nm e))) (some (.own,.list (done.map LS))) (some (.fr,.str (d8 av nm k))) o7 o8 o9
    have hbd:ai6 (rW a b (.dict (kvP (d8 av nm) (chV av nm) ks)) rows (some (.fr,.str (d8 av nm e))) (some (.own,.list (done.map LS))) o6 o7 o8 o9) [6] (.str (d8 av nm k))=some r6:=y3 (k6 (o:=o6) rfl h6 (show 6 < 12 by decide))
    have hsld:cj3 [chV av nm e,chV av nm k]=some (.tuple [LS (lft (f9 av nm e) (f9 av nm k)),LS (lft (f9 av nm k) (f9 av nm e))]):=eg2 (bi5 hA) (bi5 hB) (by rw [bb2,bb2];lia)
    let r8:Rho:=rW a b (.dict (kvP (d8 av nm) (chV av nm) ks)) rows (some (.fr,.str (d8 av nm e))) (some (.own,.list (done.map LS))) (some (.fr,.str (d8 av nm k))) (some (.fr,LS (lft (f9 av nm e) (f9 av nm k)))) (some (.fr,LS (lft (f9 av nm k) (f9 av nm e)))) o9
    let r9:Rho:=rW a b (.dict (kvP (d8 av nm) (chV av nm) ks)) rows (some (.fr,.str (d8 av nm e))) (some (.own,.list (done.map LS))) (some (.fr,.str (d8 av nm k))) (some (.fr,LS (lft (f9 av nm e) (f9 av nm k)))) (some (.fr,LS (lft (f9 av nm k) (f9 av nm e)))) (some (.fr,.str (PS (lcp (f9 av nm e) (f9 av nm k)))))
    obtain ⟨x,hx,px⟩:=bx9 hA hB (by9 hav ha5 hnm hinj e11 k11 e5 fun q=>hne q.symm)
    obtain ⟨y,hy,py⟩:=bx9 hB hA (by9 hav ha5 hnm hinj k11 e11 k5 hne)
    rw [br6] at hy py
    have hC:(lcp (f9 av nm e) (f9 av nm k)).length≤5:=Nat.le_trans (bd9 _ _).length_le lA
    have d1:ae5 [.str (PS (lcp (f9 av nm e) (f9 av nm k) ++ [x]))]=some (.str (PS (lcp (f9 av nm e) (f9 av nm k)))):=am1 (hA.pre px) (by exact Nat.le_trans ‹_› (Nat.le_of_ble_eq_true rfl))
    have d2:ae5 [.str (PS (lcp (f9 av nm e) (f9 av nm k) ++ [y]))]=some (.str (PS (lcp (f9 av nm e) (f9 av nm k)))):=am1 (hB.pre py) (by exact Nat.le_trans ‹_› (Nat.le_of_ble_eq_true rfl))
    have st:ah1 (c6 L2c) fr2 [6] co4 (.str (d8 av nm k)) (rW a b (.dict (kvP (d8 av nm) (chV av nm) ks)) rows (some (.fr,.str (d8 av nm e))) (some (.own,.list (done.map LS))) o6 o7 o8 o9)=some (.next,rW a b (.dict (kvP (d8 av nm) (chV av nm) ks)) rows (some (.fr,.str (d8 av nm e))) (some (.own,.list ((done ++ [wyN av nm e k]).map LS))) (some (.fr,.str (d8 av nm k))) (some (.fr,LS (lft (f9 av nm e) (f9 av nm k)))) (some (.fr,LS (lft (f9 av nm k) (f9 av nm e)))) (some (.fr,.str (PS (lcp (f9 av nm e) (f9 av nm k)))))):=by
      refine ab7 hbd ?_
      refine (y7 (aq7 (r2:=r8) (by decide) (w9 (c7 (y9 (c8 rfl) (c8 rfl) (hi e he)) (c7 (y9 (c8 rfl) (c8 rfl) (hi k hk)) f4)) (by rw [ej8];exact hsld)) (bm1 (k6 (o:=o7) rfl h7 (show 7 < 12 by decide)) (k6 (o:=o8) rfl h8 (show 8 < 12 by decide))))).trans ?_
      refine (y7 (d5 (r2:=r9) (d:=.str (PS (lcp (f9 av nm e) (f9 av nm k)))) rfl (w9 (c7 (y8 (c7 (g9 (d:=.str (d8 av nm e)) rfl) (c7 (g9 (d:=.str (d8 av nm k)) rfl) f4)) rfl) f4) (by rw [de5];exact bk2 hA hB (by exact Nat.le_trans ‹_› (Nat.le_of_ble_eq_true rfl)) (by exact Nat.le_trans ‹_› (Nat.le_of_ble_eq_true rfl)))) (k6 (o:=o9) rfl h9 (show 9 < 12 by decide)))).trans ?_
      have hcomp:eval (c6 L2c) (.comp [none,none,none] [1] (.bin .Add (.upto (.var 7) (.int 1)) (.upto (.var 8) (.int 1))) [] (.call "dirname" [(.var 1)])) r9=some (LS [PS (lcp (f9 av nm e) (f9 av nm k)),PS (lcp (f9 av nm e) (f9 av nm k))]):=by
        have hu1:aw9 (LS (lft (f9 av nm e) (f9 av nm k))) (.int 1)=some (LS [PS (lcp (f9 av nm e) (f9 av nm k) ++ [x])]):=by
          rw [← hx];unfold LS;rw [List.map_take]
          exact aq1 (i:=1) (by decide) (by rw [List.length_map];have:=az4 (nm:=nm) ha5 e k;exact Nat.le_trans ‹_› (Nat.le_of_ble_eq_true rfl))
        have hu2:aw9 (LS (lft (f9 av nm k) (f9 av nm e))) (.int 1)=some (LS [PS (lcp (f9 av nm e) (f9 av nm k) ++ [y])]):=by
          rw [← hy];unfold LS;rw [List.map_take]
          exact aq1 (i:=1) (by decide) (by rw [List.length_map];have:=az4 (nm:=nm) ha5 k e;exact Nat.le_trans ‹_› (Nat.le_of_ble_eq_true rfl))
        refine ap6 (xs:=[PS (lcp (f9 av nm e) (f9 av nm k) ++ [x]),PS (lcp (f9 av nm e) (f9 av nm k) ++ [y])]) (g:=.str) (h:=fun ξ=>.str (PS (lcp (f9 av nm e) (f9 av nm k)))) (R:=fun z=>[none,some (.fr,.str z),none]) (aj2 rfl (l_e rfl (ac1 (l_e rfl (bi3 (c8 rfl) j5 hu1)) (l_e rfl (bi3 (c8 rfl) j5 hu2)) (cb2 (by simp))))) (fun z ξ=>rfl) (fun z hz=>?_) rfl
        refine w9 (c7 (g9 rfl) f4) ?_
        rw [co6]
        rcases List.mem_cons.mp hz with rfl | hz
        · exact d1
        · rw [List.mem_singleton.mp hz];exact d2
      have hneq:=ea7 (a:=[PS (lcp (f9 av nm e) (f9 av nm k)),PS (lcp (f9 av nm e) (f9 av nm k))]) fun z hz=>by
        have:z=PS (lcp (f9 av nm e) (f9 av nm k)):=by simpa using hz
        rw [this];exact aw2 (hA.pre (bd9 _ _))
      refine (y7 (at1 (t_b rfl rfl (ac4 (l_e rfl hcomp) (l_e rfl (y8 (c7 (g9 rfl) (c7 (g9 rfl) f4)) rfl)) hneq)) bi6)).trans ?_
      refine y5 (al2 (l:=done.map LS) (d:=LS (wyN av nm e k)) rfl (ac1 (c8 rfl) (c8 rfl) (cb2 ?_)) rfl (szl (by rw [List.length_map];lia)) ?_)
      · have:=az4 (nm:=nm) ha5 e k
        have:=az4 (nm:=nm) ha5 k e
        lia
      · rw [List.map_append];rfl
    rw [List.map_cons,w7 st,ih,List.append_assoc];rfl
inductive ev6 (calls:Calls) (a b d rows rows':D) (its:List D) (o4 o5 o6 o7 o8 o9:Slot):Prop
  | mk (v4 v5 v6 v7 v8 v9:Slot) (h:y4 (ah1 calls fr2 [4] ed7) its (rW a b d rows o4 o5 o6 o7 o8 o9)=some (.next,rW a b d rows' v4 v5 v6 v7 v8 v9))
include hav ha5 hnm hinj in
theorem cl7 {a:D} {bs ks:List Nat} (hks:FOK ks) (hbl:bs.length≤100):∀ (el:List Nat) (done:List (List (List Str))) (o4 o5 o6 o7 o8 o9:Slot),(∀ x∈el,x∈ks∧∀ y∈bs,y∈ks∧y≠x)→done.length+el.length≤1000→frS o4→frS o5→frS o6→frS o7→frS o8→frS o9→
    ev6 (c6 L2c) a (LS (bs.map (d8 av nm))) (.dict (kvP (d8 av nm) (chV av nm) ks)) (aa5 done) (aa5 (done ++ el.map fun e=>bs.map (wyN av nm e))) (el.map fun k=>.str (d8 av nm k)) o4 o5 o6 o7 o8 o9
  | [],done,o4,o5,o6,o7,o8,o9,_,_,h4,h5,h6,h7,h8,h9=>⟨o4,o5,o6,o7,o8,o9,by rw [show done ++ List.map (fun e=>bs.map (wyN av nm e)) []=done from List.append_nil _];rfl⟩
  | e :: el,done,o4,o5,o6,o7,o8,o9,hb,hl,h4,h5,h6,h7,h8,h9=>by
    obtain ⟨he,heb⟩:=hb e (by simp)
    simp only [List.length_cons] at hl
    obtain ⟨u6,u7,u8,u9,q6,q7,q8,q9,hin⟩:=cx6 (a:=a) (b:=LS (bs.map (d8 av nm))) (rows:=aa5 done) hav ha5 hnm hinj hks he bs [] o6 o7 o8 o9 heb (by simp;exact Nat.le_trans ‹_› (Nat.le_of_ble_eq_true rfl)) h6 h7 h8 h9
    obtain ⟨v4,v5,v6,v7,v8,v9,ih⟩:=cl7 (a:=a) hks hbl el (done ++ [bs.map (wyN av nm e)]) (some (.fr,.str (d8 av nm e))) (some (.fr,.list ((bs.map (wyN av nm e)).map LS))) u6 u7 u8 u9 (fun x hx=>hb x (by simp [hx])) (by rw [List.length_append,List.length_singleton];lia) (f5 _) (f5 _) q6 q7 q8 q9
    refine ⟨v4,v5,v6,v7,v8,v9,?_⟩
    let d:D:=.dict (kvP (d8 av nm) (chV av nm) ks)
    let bD:D:=LS (bs.map (d8 av nm))
    have hbd:ai6 (rW a bD d (aa5 done) o4 o5 o6 o7 o8 o9) [4] (.str (d8 av nm e))=some (rW a bD d (aa5 done) (some (.fr,.str (d8 av nm e))) o5 o6 o7 o8 o9):=y3 (k6 (o:=o4) rfl h4 (show 4 < 12 by decide))
    have hput:(rW a bD d (aa5 done) (some (.fr,.str (d8 av nm e))) o5 o6 o7 o8 o9).put 5 .own (.list [])=some (rW a bD d (aa5 done) (some (.fr,.str (d8 av nm e))) (some (.own,.list [])) o6 o7 o8 o9):=by
      unfold Rho.put
      match o5,h5 with
      | none,_=>rfl
      | some (m,d),h5=>cases h5 _ _ rfl;rfl
    have st:ah1 (c6 L2c) fr2 [4] ed7 (.str (d8 av nm e)) (rW a bD d (aa5 done) o4 o5 o6 o7 o8 o9)=some (.next,rW a bD d (aa5 (done ++ [bs.map (wyN av nm e)])) (some (.fr,.str (d8 av nm e))) (some (.fr,.list ((bs.map (wyN av nm e)).map LS))) u6 u7 u8 u9):=by
      refine ab7 hbd ?_
      refine (y7 (d5 (d:=.list []) rfl (y8 f4 rfl) hput)).trans ?_
      refine (y7 (an1 (its:=bs.map fun k=>.str (d8 av nm k)) (i_e rfl (c8 (d:=bD) rfl) (congrArg some (List.map_map ..))) hin rfl)).trans ?_
      refine y5 (da2 (l:=done.map fun r=>.list (r.map LS)) (d:=.list ((bs.map (wyN av nm e)).map LS)) rfl rfl rfl (szl (by rw [List.length_map];lia)) ?_)
      show _=some (rW a bD d (.list ((done ++ [bs.map (wyN av nm e)]).map fun r=>.list (r.map LS))) _ _ u6 u7 u8 u9)
      rw [show (done ++ [bs.map (wyN av nm e)]).map (fun r=>PyData.list (r.map LS))=done.map (fun r=>PyData.list (r.map LS)) ++ [PyData.list ((bs.map (wyN av nm e)).map LS)] from List.map_append ..];rfl
    rw [List.map_cons,w7 st,ih,List.append_assoc];rfl
include hav ha5 hnm hinj in
theorem bo2 {es bs:List Nat} (hf:FOK (es ++ bs)) (hn:(es ++ bs).Nodup):al0 [LS (es.map (d8 av nm)),LS (bs.map (d8 av nm))]=some (aa5 (es.map fun e=>bs.map (wyN av nm e))):=by
  have hlen:(es ++ bs).length≤11:=by
    have:=List.Nodup.length_le_of_subset hn (l₂:=List.range 11) fun x hx=>List.mem_range.mpr (hf x hx).2
    simpa using this
  rw [List.length_append] at hlen
  have hp:∀ j∈es ++ bs,∀ i∈es ++ bs,d8 av nm j=d8 av nm i→j=i:=fun j hj i hi q=>ak2 hav hnm hinj (hf j hj).2 (hf i hi).2 q
  unfold al0 at9
  refine ac0 rfl ?_
  refine .next (d5 (d:=.dict (kvP (d8 av nm) (chV av nm) (es ++ bs))) rfl (bl4 (xs:=es ++ bs) (g:=fun k=>.str (d8 av nm k)) (kf:=fun k=>.str (d8 av nm k)) (vf:=chV av nm) (R:=fun k=>[none,some (.fr,.str (d8 av nm k)),none]) (aj2 rfl (l_e rfl (ac1 (c8 rfl) (c8 rfl) ?_))) (fun k ξ=>rfl) (fun k ξ=>g9 rfl) (fun k hk=>w9 (c7 (g9 rfl) f4) ?_) ?_ (bd1 hn hp)) rfl) ?_
  · rw [cb2 (by simp;exact Nat.le_trans ‹_› (Nat.le_of_ble_eq_true rfl)),← List.map_append]
    exact congrArg (fun l=>some (PyData.list l)) (List.map_map ..)
  · rw [dh9]
    exact bk8 (ad6 hnm k) (aj4 ha5 k)
  · rw [decide_eq_true (show (es ++ bs).length≤60 by rw [List.length_append];exact Nat.le_trans ‹_› (Nat.le_of_ble_eq_true rfl)),Bool.and_true]
    exact at6 _ _ _
  refine .next (d5 (d:=aa5 []) rfl (y8 f4 rfl) rfl) ?_
  obtain ⟨v4,v5,v6,v7,v8,v9,hloop⟩:=cl7 (a:=LS (es.map (d8 av nm))) (bs:=bs) hav ha5 hnm hinj hf (by lia) es [] none none none none none none (fun x hx=>⟨List.mem_append_left _ hx,fun y hy=>⟨List.mem_append_right _ hy,fun q=>(List.nodup_append.mp hn).2.2 x hx y hy q.symm⟩⟩) (by simp;lia) p0 p0 p0 p0 p0 p0
  refine .next (an1 (its:=es.map fun k=>.str (d8 av nm k)) (i_e rfl (c8 (d:=LS (es.map (d8 av nm))) rfl) (congrArg some (List.map_map ..))) hloop rfl) ?_
  exact .retv (m:=.own) rfl (.inl rfl)
end
end
section
open PySem.StrLaws PySem.Builtin PySem.Builtin.Str
noncomputable def mkL (t:Nat):List Nat:=(List.range 2).filter fun a=>decide (t≠1 - a)
noncomputable abbrev mkD (t:Nat):D:=.list ((mkL t).map nI)
noncomputable def F6:List Nat:=List.range' 5 6
theorem ah9 {k:Nat}:k∈F6↔5≤k∧k < 11:=List.mem_range'_1
theorem ar6:F6.Nodup:=List.nodup_range'
theorem du3 {t a:Nat}:a∈mkL t↔a < 2∧t≠1 - a:=by unfold mkL;simp
theorem ec2 {l:List D} (h:l.length≤1000000):bfD .len [.list l]=some (nI l.length):=cl5 h
theorem en8 {l:List Nat} {m:Nat} (hm:m∈l) (hle:∀ x∈l,x≤m):bfD .max [.list (l.map nI)]=some (nI m):=by
  refine cf7 ?_
  exact ob rfl (ob rfl (dp1 hm hle))
theorem dz8 (a b:Str):bk7 .Eq (.str a) (.str b)=some (a == b):=rfl
section
variable {av kn:Nat→Nat} {nm:Nat→Str} (hav:∀ k,1≤k→av k < k) (ha5:∀ k,av k < 5) (hkn:∀ k,kn k < 2) (hnm:∀ i,ah7 (nm i)) (hinj:∀ i j,i < 10→j < 10→nm i=nm j→i=j)
include hav in

theorem ei2 (hnm:∀ i,ah7 (nm i)) {c:Nat} (h:1≤c):cl (d8 av nm (av c)) < cl (d8 av nm c):=by
  have e:=ab1 (nm:=nm) (hav c h)
  refine bf8 (ad6 hnm c) ?_ fun q=>?_
  · rw [e];exact List.prefix_append _ _
  · rw [e] at q
    have:=congrArg List.length q
    simp at this
include hav in
theorem dx2 (hnm:∀ i,ah7 (nm i)) {c:Nat} (h:1≤c):cl (d8 av nm 0) < cl (d8 av nm c):=by
  have e:=ab1 (nm:=nm) (hav c h)
  refine bf8 (ad6 hnm c) ?_ fun q=>?_
  · rw [ae0 (by lia)];exact List.nil_prefix
  · rw [ae0 (by lia),e] at q
    have:=congrArg List.length q
    simp at this
theorem cv8 {x y:Str} (h:leS x y=true):¬ cl y < cl x:=by
  simpa [leS] using h
noncomputable abbrev VV (av kn:Nat→Nat) (k:Nat):D:=mkD (tt av kn k)
noncomputable abbrev ax3 (av kn:Nat→Nat) (bl:List Nat) (a:Nat):Nat:=(bl.filter fun k=>decide (a∈mkL (tt av kn k))).length
theorem mx0 {a b c d n:Nat} (h:a≤b) (h0:a+d=n) (h1:b+c=n):n - b=c∧b≤n∧(a=b↔d≤c)∧c≤d:=by
  subst h1
  have hcd:c≤d:=Nat.le_of_add_le_add_left (h0▸Nat.add_le_add_right h d)
  refine ⟨Nat.add_sub_cancel_left ..,Nat.le_add_right ..,⟨fun e=>?_,fun e=>?_⟩,hcd⟩
  · subst e;exact Nat.le_of_eq (Nat.add_left_cancel h0)
  · rw [Nat.le_antisymm hcd e] at h0;exact Nat.add_right_cancel h0
inductive Cts (av kn:Nat→Nat) (f:Nat) (bl:List Nat):Prop
  | mk (M:Nat) (hm:M∈[ax3 av kn bl 0,ax3 av kn bl 1]) (hmax:∀ x∈[ax3 av kn bl 0,ax3 av kn bl 1],x≤M) (hmn:bl.length - M=mnF av (tt av kn) f) (hl:M≤bl.length) (hmay:∀ x,x < 2→(ax3 av kn bl x=M↔nn av (tt av kn) f (1 - x)≤nn av (tt av kn) f x))
theorem cts {f:Nat} {bl:List Nat} (hbl:bl.Perm (L10.filter fun c=>decide (av c=f))):Cts av kn f bl:=by
  have key:∀ a,a < 2→ax3 av kn bl a+nn av (tt av kn) f (1 - a)=bl.length:=fun a ha=>by
    have e1:nn av (tt av kn) f (1 - a)=sm bl fun c=>ind (tt av kn c=1 - a) 1:=by
      rw [cu6 hbl,am6]
      exact n5 fun c ξ=>by simp [ind]
    rw [e1]
    show (bl.filter fun k=>decide (a∈mkL (tt av kn k))).length+_=_
    rw [← cb5 (bl.filter _),am6,← bg9,← cb5]
    refine n5 fun k ξ=>?_
    simp only [ind,decide_eq_true_eq,du3]
    by_cases q:tt av kn k=1 - a
    · simp [q]
    · simp [q,ha]
  have k0:=key 0 (by decide)
  have k1:=key 1 (by decide)
  have hin:∀ x∈[ax3 av kn bl 0,ax3 av kn bl 1],x=ax3 av kn bl 0∨x=ax3 av kn bl 1:=fun x hx=>(List.mem_cons.mp hx).imp id List.mem_singleton.mp
  rcases Nat.le_total (ax3 av kn bl 0) (ax3 av kn bl 1) with q | q
  · obtain ⟨m1,m2,m3,m4⟩:=mx0 q k0 k1
    refine ⟨_,List.mem_cons_of_mem _ List.mem_cons_self,fun x hx=>?_,m1.trans (Nat.min_eq_left m4).symm,m2,fun x hx=>?_⟩
    · rcases hin x hx with rfl | rfl
      · exact q
      · exact Nat.le_refl _
    · rcases lt2 hx with rfl | rfl
      · exact m3
      · exact iff_of_true rfl m4
  · obtain ⟨m1,m2,m3,m4⟩:=mx0 q k1 k0
    refine ⟨_,List.mem_cons_self,fun x hx=>?_,m1.trans (Nat.min_eq_right m4).symm,m2,fun x hx=>?_⟩
    · rcases hin x hx with rfl | rfl
      · exact Nat.le_refl _
      · exact q
    · rcases lt2 hx with rfl | rfl
      · exact iff_of_true rfl m4
      · exact m3
noncomputable def rR (a b m c:D) (o4 o5 o6:Slot):Rho:=[some (.fr,a),some (.fr,b),some (.own,m),some (.fr,c),o4,o5,o6,none,none,none,none]
noncomputable abbrev ed9:List SI:=[.assign 5 false (.comp [none,none,none,some 4,some 2] [1] (.var 2) [(.cmp .Eq (.call "dirname" [(.var 1)]) (.var 3))] (.idx (.var 4) (.var 1))),.assign 6 false (.comp [none,none,none,some 5] [1] (.range [(.int 2)]) [] (.bcall .len [(.comp [none,none,some 1] [1] (.var 3) [(.cmp .In (.var 2) (.var 1))] (.var 1))])),.setItem 2 (.var 4) (.comp [none,none,none,some 6] [1] (.range [(.int 2)]) [(.cmp .Eq (.idx (.var 3) (.var 1)) (.bcall .max [(.var 3)]))] (.var 1)),.aug 3 .Add (.bin .Sub (.bcall .len [(.var 5)]) (.bcall .max [(.var 6)]))]
inductive ev5 (a b m m':D) (c c':Nat) (its:List D) (o4 o5 o6:Slot):Prop
  | mk (v4 v5 v6:Slot) (h4:frS v4) (h5:frS v5) (h6:frS v6) (h:y4 (ah1 (c6 L2b) fr2 [4] ed9) its (rR a b m (nI c) o4 o5 o6)=some (.next,rR a b m' (nI c') v4 v5 v6))
theorem bz5 (p:Nat→Str) (V:Nat→D) (ks:List Nat):co2 (.dict (kvP p V ks))=some (ks.map fun k=>.str (p k)):=s8 (at6 p V ks) (congrArg some (List.map_map ..))
noncomputable abbrev eu1:IR:=.comp [none,none,none,some 4,some 2] [1] (.var 2) [(.cmp .Eq (.call "dirname" [(.var 1)]) (.var 3))] (.idx (.var 4) (.var 1))
noncomputable abbrev eu7:IR:=.comp [none,none,none,some 5] [1] (.range [(.int 2)]) [] (.bcall .len [(.comp [none,none,some 1] [1] (.var 3) [(.cmp .In (.var 2) (.var 1))] (.var 1))])
noncomputable abbrev et2:IR:=.comp [none,none,none,some 6] [1] (.range [(.int 2)]) [(.cmp .Eq (.idx (.var 3) (.var 1)) (.bcall .max [(.var 3)]))] (.var 1)
noncomputable abbrev kvV (av kn:Nat→Nat) (nm:Nat→Str) (ks:List Nat):D:=.dict (kvP (d8 av nm) (VV av kn) ks)
theorem cl0 {α β:Type} {l:List α} {f:α→β} {g:β→D} (h:l.length≤1000):bfD .len [.list ((l.map f).map g)]=some (nI l.length):=by
  have:=ec2 (l:=(l.map f).map g) (by rw [List.length_map,List.length_map];exact Nat.le_trans h (by decide))
  rw [List.length_map,List.length_map] at this;exact this
theorem ce9 {l:List Nat} {f:Nat→D} (h:l.length≤1000):bfD .len [.list (l.map f)]=some (nI l.length):=by
  have:=ec2 (l:=l.map f) (by rw [List.length_map];exact Nat.le_trans h (by decide))
  rw [List.length_map] at this;exact this
noncomputable abbrev KOK (ks:List Nat):Prop:=∀ k∈ks,1≤k∧k < 11
section
variable {a b c:D} {o4 o5 o6:Slot} {f:Nat} {ks bl:List Nat}
include hav ha5 hnm hinj in
theorem do7 (hf5:f < 5) (hks:KOK ks) (hl:ks.length≤11):eval (c6 L2b) eu1 (rR a b (kvV av kn nm ks) c (some (.fr,.str (d8 av nm f))) o5 o6)=some (.list ((ks.filter fun k=>decide (av k=f)).map (VV av kn))):=by
  have hfil:(ks.filter fun k=>d8 av nm (av k) == d8 av nm f)=ks.filter fun k=>decide (av k=f):=List.filter_congr fun k hk=>by
    rw [Bool.eq_iff_iff,beq_iff_eq,decide_eq_true_eq]
    exact ⟨fun q=>ak2 hav hnm hinj (Nat.lt_trans (ha5 k) (by decide)) (Nat.lt_trans hf5 (by decide)) q,fun q=>by rw [q]⟩
  rw [← hfil]
  refine ac9 (xs:=ks) (g:=fun k=>.str (d8 av nm k)) (h:=VV av kn) (p:=fun k=>d8 av nm (av k) == d8 av nm f) (R:=fun k=>[none,some (.fr,.str (d8 av nm k)),none,some (.fr,.str (d8 av nm f)),some (.cap,kvV av kn nm ks)]) (i_e rfl (ai8 (m:=.own) rfl) (bz5 ..)) (fun k ξ=>rfl) (fun k hk=>ae3 (t_b rfl rfl (ac4 (l_e rfl (w9 (c7 (g9 rfl) f4) ?_)) (c8 rfl) (dz8 _ _)))) (fun k hk ξ=>y9 (ai8 (m:=.cap) rfl) (c8 rfl) (bf1 (at6 _ _ _) (ay8 hk fun i hi=>ak2 hav hnm hinj (hks i hi).2 (hks k hk).2))) (szl (Nat.le_trans hl (by decide)))
  rw [br4]
  have e:=ab1 (nm:=nm) (hav k (hks k hk).1)
  unfold d8
  rw [e]
  exact am1 (e▸ad6 hnm k) (Nat.le_trans (aj4 ha5 _) (by decide))
noncomputable abbrev da3 (av kn:Nat→Nat) (bl:List Nat):D:=.list ((List.range 2).map fun x=>nI (ax3 av kn bl x))
theorem dk6 (hl:bl.length≤11):eval (c6 L2b) eu7 (rR a b c d o4 (some (.fr,.list (bl.map (VV av kn)))) o6)=some (da3 av kn bl):=
  ap6 (xs:=List.range 2) (g:=nI) (h:=fun x=>nI (ax3 av kn bl x)) (R:=fun x=>[none,some (.fr,nI x),none,some (.fr,.list (bl.map (VV av kn)))]) (ad4 (f8 j5 l0) (ao8 2 (by decide))) (fun x ξ=>rfl) (fun x ξ=>z9 (f8 (l_e rfl (ac9 (xs:=bl) (g:=VV av kn) (h:=VV av kn) (p:=fun k=>decide (x∈mkL (tt av kn k))) (R:=fun k=>[none,some (.fr,VV av kn k),some (.fr,nI x)]) (aj2 rfl (c8 rfl)) (fun k ξ=>rfl) (fun k ξ=>ae3 (t_b rfl rfl (ac4 (c8 rfl) (c8 rfl) (cz5 x _)))) (fun k ξ ξ=>g9 rfl) (szl (Nat.le_trans hl (by decide))))) l0) (ce9 (Nat.le_trans (List.length_filter_le ..) (Nat.le_trans hl (by decide))))) rfl
include hav in
theorem dr0 {M:Nat} (hf5:f < 5) (hmax:bfD .max [da3 av kn bl]=some (nI M)) (hmay:∀ x,x < 2→(ax3 av kn bl x=M↔nn av (tt av kn) f (1 - x)≤nn av (tt av kn) f x)):eval (c6 L2b) et2 (rR a b c d o4 o5 (some (.fr,da3 av kn bl)))=some (VV av kn f):=by
  have e:mkL (tt av kn f)=(List.range 2).filter fun x=>decide (ax3 av kn bl x=M):=List.filter_congr fun x hx=>decide_eq_decide.mpr ((cf1 (kn:=kn) hav hf5 (List.mem_range.mp hx)).trans (hmay x (List.mem_range.mp hx)).symm)
  unfold VV mkD
  rw [e]
  exact ac9 (xs:=List.range 2) (g:=nI) (h:=nI) (p:=fun x=>decide (ax3 av kn bl x=M)) (R:=fun x=>[none,some (.fr,nI x),none,some (.fr,da3 av kn bl)]) (ad4 (f8 j5 l0) (ao8 2 (by decide))) (fun x ξ=>rfl) (fun x hx=>ae3 (t_b rfl rfl (ac4 (l_e rfl (y9 (c8 rfl) (c8 rfl) (ba2 (α:=Unit) (List.mem_range.mp hx) (by decide)))) (l_e rfl (z9 (f8 (c8 rfl) l0) hmax)) (bl9 _ _)))) (fun x ξ ξ=>g9 rfl) rfl
include hav hnm hinj in
theorem dh4 (hks:∀ k∈ks,k < 11) (hf:f < 11) (hn:f ∉ ks):ax5 (kvP (d8 av nm) (VV av kn) ks) (.str (d8 av nm f)) (VV av kn f)=kvP (d8 av nm) (VV av kn) (ks ++ [f]):=
  (cm5 fun k hk q=>hn (ak2 hav hnm hinj (hks k hk) hf q▸hk)).trans (List.map_append (l₁:=ks) (l₂:=[f])).symm
theorem eb4 (p:Nat→Str) (V:Nat→D) (hl:ks.length≤60):((kvP p V ks).all (fun e=>z6 e.1) && decide ((kvP p V ks).length≤60))=true:=f7 (at6 ..) (decide_eq_true (by rw [List.length_map];exact hl))
include hav ha5 hnm hinj in
theorem da7 {C:Nat} (hf5:f < 5) (hks:KOK ks) (hl:ks.length≤11) (hnf:f ∉ ks) (hbl:bl=ks.filter fun k=>decide (av k=f)) (hp:bl.Perm (L10.filter fun c=>decide (av c=f))) (h4:frS o4) (h5:frS o5) (h6:frS o6) :
    ah1 (c6 L2b) fr2 [4] ed9 (.str (d8 av nm f)) (rR a b (kvV av kn nm ks) (nI C) o4 o5 o6)=some (.next,rR a b (kvV av kn nm (ks ++ [f])) (nI (C+mnF av (tt av kn) f)) (some (.fr,.str (d8 av nm f))) (some (.fr,.list (bl.map (VV av kn)))) (some (.fr,da3 av kn bl))):=by
  obtain ⟨M,hm,hle,hmn,hMl,hmay⟩:=cts (kn:=kn) hp
  have hbll:bl.length≤11:=hbl▸Nat.le_trans (List.length_filter_le ..) hl
  have hmax:bfD .max [da3 av kn bl]=some (nI M):=en8 hm hle
  have hbel:=do7 (kn:=kn) (a:=a) (b:=b) (c:=nI C) (o5:=o5) (o6:=o6) hav ha5 hnm hinj hf5 hks hl
  rw [← hbl] at hbel
  refine ab7 (y3 (k6 (o:=o4) rfl h4 (show 4 < 11 by decide))) ?_
  refine (y7 (d5 rfl hbel (k6 (o:=o5) rfl h5 (show 5 < 11 by decide)))).trans ?_
  refine (y7 (d5 rfl (dk6 hbll) (k6 (o:=o6) rfl h6 (show 6 < 11 by decide)))).trans ?_
  refine (y7 (ca5 (l:=kvP (d8 av nm) (VV av kn) ks) (y:=d8 av nm f) (dr0 hav hf5 hmax hmay) (c8 rfl) rfl (eb4 _ _ (Nat.le_trans hl (by decide))) (by rw [dh4 hav hnm hinj (fun k hk=>(hks k hk).2) (Nat.lt_trans hf5 (by decide)) hnf];rfl))).trans ?_
  exact y5 (de1 (a:=C) (b:=(mnF av (tt av kn) f:Nat)) (l_e rfl (ac1 (l_e rfl (z9 (f8 (c8 rfl) l0) (ce9 (Nat.le_trans hbll (by decide))))) (l_e rfl (z9 (f8 (c8 rfl) l0) hmax)) (hmn▸bc9 hMl))) rfl rfl)
end
include hav ha5 hnm hinj in
theorem db2 {a b:D} {fl:List Nat}:∀ (done:List Nat) (o4 o5 o6:Slot),(done ++ fl).Perm (List.range 5)→(done ++ fl).Pairwise (fun x y=>leS (d8 av nm y) (d8 av nm x)=true)→frS o4→frS o5→frS o6→
    ev5 a b (kvV av kn nm (F6 ++ done)) (kvV av kn nm (F6 ++ (done ++ fl))) (sm done (mnF av (tt av kn))) (sm (done ++ fl) (mnF av (tt av kn))) (fl.map fun k=>.str (d8 av nm k)) o4 o5 o6:=by
  induction fl with
  | nil=>exact fun done o4 o5 o6 _ _ h4 h5 h6=>⟨o4,o5,o6,h4,h5,h6,by rw [List.append_nil];rfl⟩
  | cons f fl ih=>
    intro done o4 o5 o6 hp hw h4 h5 h6
    have hnd:(done ++ f :: fl).Nodup:=hp.nodup_iff.mpr List.nodup_range
    have hlt:∀ x∈done ++ f :: fl,x < 5:=fun x hx=>List.mem_range.mp (hp.mem_iff.mp hx)
    have hf:f∈f :: fl:=List.mem_cons_self
    have hdl:∀ x∈done,x < 5:=fun x hx=>hlt x (List.mem_append_left _ hx)
    obtain ⟨n1,_,n3⟩:=List.nodup_append.mp hnd
    have hnf:f ∉ done:=fun q=>n3 f q f hf rfl
    obtain ⟨_,w2,w3⟩:=List.pairwise_append.mp hw
    have h0:∀ x∈done,1≤x:=fun x q=>Nat.one_le_iff_ne_zero.mpr fun e=>by
      subst e
      exact cv8 (w3 0 q f hf) (dx2 hav hnm (Nat.one_le_iff_ne_zero.mpr fun e=>hnf (e▸q)))
    have hch:∀ c,1≤c→c < 5→av c=f→c∈done:=fun c h1 h2 h3=>by
      rcases List.mem_append.mp (hp.mem_iff.mpr (List.mem_range.mpr h2)) with q | q
      · exact q
      · have hlt':=ei2 hav hnm h1
        rcases List.mem_cons.mp q with q | q
        · exact absurd (h3.trans q.symm) (Nat.ne_of_lt (hav c h1))
        · rw [h3] at hlt'
          exact absurd hlt' (cv8 ((List.pairwise_cons.mp w2).1 c q))
    have hks:KOK (F6 ++ done):=fun k hk=>by
      rcases List.mem_append.mp hk with q | q
      · exact ⟨Nat.le_trans (by decide) (ah9.mp q).1,(ah9.mp q).2⟩
      · exact ⟨h0 k q,Nat.lt_trans (hdl k q) (by decide)⟩
    have hnk:∀ x,x < 5→x ∉ F6:=fun x h q=>Nat.not_le.mpr h (ah9.mp q).1
    have hkn':(F6 ++ done).Nodup:=List.nodup_append.mpr ⟨ar6,n1,fun x hx y hy e=>hnk y (hdl y hy) (e▸hx)⟩
    have hlen:(F6 ++ done).length≤11:=List.length_range (n:=11)▸List.Nodup.length_le_of_subset hkn' fun x hx=>List.mem_range.mpr (hks x hx).2
    have hbl:((F6 ++ done).filter fun k=>decide (av k=f)).Perm (L10.filter fun c=>decide (av c=f)):=by
      refine (List.perm_ext_iff_of_nodup (hkn'.filter _) (bg1.filter _)).mpr fun x=>?_
      simp only [List.mem_filter,decide_eq_true_eq,am3]
      refine and_congr_left fun e=>⟨fun q=>⟨(hks x q).1,Nat.le_of_lt_succ (hks x q).2⟩,fun q=>?_⟩
      by_cases h5:5≤x
      · exact List.mem_append_left _ (ah9.mpr ⟨h5,Nat.lt_succ_of_le q.2⟩)
      · exact List.mem_append_right _ (hch x q.1 (Nat.not_le.mp h5) e)
    have st:=da7 (kn:=kn) (a:=a) (b:=b) (C:=sm done (mnF av (tt av kn))) hav ha5 hnm hinj (hlt f (List.mem_append_right _ hf)) hks hlen (fun q=>(List.mem_append.mp q).elim (hnk f (hlt f (List.mem_append_right _ hf))) hnf) rfl hbl h4 h5 h6
    have hC:sm done (mnF av (tt av kn))+mnF av (tt av kn) f=sm (done ++ [f]) (mnF av (tt av kn)):=by
      show _=((done ++ [f]).map _).sum
      rw [List.map_append,List.sum_append];rfl
    have e1:done ++ f :: fl=(done ++ [f]) ++ fl:=(List.append_assoc done [f] fl).symm
    rw [hC,List.append_assoc] at st
    rw [e1] at hp hw
    obtain ⟨v4,v5,v6,q4,q5,q6,ih⟩:=ih (done ++ [f]) _ _ _ hp hw (f5 _) (f5 _) (f5 _)
    exact ⟨v4,v5,v6,q4,q5,q6,by rw [List.map_cons,w7 st,ih,e1]⟩
inductive er4 (av kn:Nat→Nat) (nm:Nat→Str):Prop
  | mk (ro:List Nat) (h:ro.Perm (List.range 5)) (e:ak6 [LS ((List.range 5).map (d8 av nm)),.dict (kvP (d8 av nm) (VV av kn) F6)]=some (.tuple [nI (PH av (mnF av (tt av kn)) 0),.dict (kvP (d8 av nm) (VV av kn) (F6 ++ ro))]))
include hav ha5 hnm hinj in
theorem bp5:er4 av kn nm:=by
  let le:Nat→Nat→Bool:=fun x y=>leS (d8 av nm x) (d8 av nm y)
  let ord:List Nat:=(List.range 5).mergeSort le
  have hord:ord.map (d8 av nm)=bj2 ((List.range 5).map (d8 av nm)):=List.map_mergeSort fun x ξ y ξ=>rfl
  have hperm:ord.Perm (List.range 5):=List.mergeSort_perm ..
  have hpw:ord.Pairwise fun x y=>leS (d8 av nm x) (d8 av nm y)=true:=List.pairwise_mergeSort (le:=le) (fun x y z=>bw8 _ _ _) (fun x y=>bx6 _ _) _
  have hro:ord.reverse.Perm (List.range 5):=(List.reverse_perm _).trans hperm
  refine ⟨ord.reverse,hro,?_⟩
  have hsum:sm ord.reverse (mnF av (tt av kn))=PH av (mnF av (tt av kn)) 0:=by
    rw [cu6 hro]
    exact n5 fun p ξ=>by simp [ind,az3 hav]
  rw [← hsum]
  obtain ⟨v4,v5,v6,q4,q5,q6,hloop⟩:=db2 (kn:=kn) (a:=LS ((List.range 5).map (d8 av nm))) (b:=.dict (kvP (d8 av nm) (VV av kn) F6)) (fl:=ord.reverse) hav ha5 hnm hinj [] none none none hro (List.pairwise_reverse.mpr hpw) p0 p0 p0
  unfold ak6 as3
  refine ac0 rfl ?_
  have hpi:∀ j∈F6,∀ i∈F6,d8 av nm j=d8 av nm i→j=i:=fun j hj i hi q=>ak2 hav hnm hinj (ah9.mp hj).2 (ah9.mp hi).2 q
  refine .next (d5 (d:=.dict (kvP (d8 av nm) (VV av kn) F6)) rfl (bl4 (xs:=F6) (g:=fun k=>.str (d8 av nm k)) (kf:=fun k=>.str (d8 av nm k)) (vf:=VV av kn) (R:=fun k=>[none,some (.fr,.str (d8 av nm k)),some (.fr,.dict (kvP (d8 av nm) (VV av kn) F6))]) (i_e rfl (c8 rfl) (bz5 ..)) (fun k ξ=>rfl) (fun k ξ=>g9 rfl) (fun k hk=>y9 (c8 rfl) (c8 rfl) (bf1 (at6 _ _ _) (ay8 hk fun i hi=>hpi i hi k hk))) ?_ (bd1 ar6 hpi)) rfl) ?_
  · rw [show F6.length=6 from rfl]
    exact f7 (at6 _ _ _) rfl
  refine .next (d5 (d:=nI 0) rfl ao1 rfl) ?_
  have hs:=bq9 (L:=(List.range 5).map (d8 av nm)) (by simp) fun x hx=>by
    obtain ⟨k,_,rfl⟩:=List.mem_map.mp hx
    exact aw2 (ad6 hnm k)
  rw [← hord] at hs
  have hrev:(((ord.map (d8 av nm)).map PyData.str).reverse)=ord.reverse.map fun k=>.str (d8 av nm k):=by
    rw [List.map_map,List.map_reverse];rfl
  have hol:ord.length=5:=by rw [hperm.length_eq];rfl
  refine .next (an1 (aj2 rfl (l_e rfl (er0 (l_e rfl (z9 (f8 (c8 (d:=LS ((List.range 5).map (d8 av nm))) rfl) l0) (congrArg (Option.map PyData.list) hs))) (szl (by simp [hol]))))) (by rw [hrev];exact hloop) rfl) ?_
  refine .ret rfl ?_
  rw [bc6]
  exact cw7 (c7 (g9 rfl) (c7 (g9 rfl) f4)) rfl
end
end
section
open PySem.StrLaws PySem.Builtin PySem.Builtin.Str
theorem dj9 {l:List Str} (h:NA l) (n:Str):(Txt.rstripChars (PS l) "/" ++ "/") ++ n=PS (l ++ [n]):=by
  by_cases e:l=[]
  · subst e
    refine af5 ?_
    rw [bo4,an0,an0,dr7,ao6,ah3 (by simp)];simp [pl]
  · rw [bw7 h e]
    refine af5 ?_
    rw [an0,an0,ao6,ah3 e,ah3 (by simp),bd0];simp
theorem dx6:ax2 [.int 1,.int 11]=some (L10.map nI):=by kernel_rfl
theorem ef1:ax2 [.int 5,.int 11]=some (F6.map nI):=by kernel_rfl
theorem ek9:ax2 [.int 4,.int (-1),.int (-1)]=some ([4,3,2,1,0].map nI):=by kernel_rfl
theorem ds7 (a b:Nat):bk7 .NotEq (nI a) (nI b)=some (decide (a≠b)):=by
  have h:eqD (nI a) (nI b)=some (decide (a=b)):=bl9 a b
  show ((eqD (nI a) (nI b)).or (eqT (nI a) (nI b))).map (!·)=_
  rw [h];simp
theorem eq7 {l:List Nat} {m:Nat} (hm:m∈l) (hle:∀ x∈l,m≤x):bfD .min [.list (l.map nI)]=some (nI m):=ob rfl (ob rfl (di1 hm hle))
theorem ct1 {xs:List Nat} {t:Nat} (h:∀ x∈xs,x < 2) (h0:0∈xs↔t≠1) (h1:1∈xs↔t≠0):bs7 (xs.map nI)=some (mkD t):=by
  refine ob (a:=xs.map fun (x:Nat)=>(x:Int)) ?_ (s8 ?_ (congrArg (fun l=>some (PyData.list l)) ?_))
  · rw [List.mapM_map];exact ag4 fun x ξ=>rfl
  · rw [List.all_map,List.all_eq_true]
    intro x hx
    rcases lt2 (h x hx) with rfl | rfl <;> rfl
  · have e:∀ a:Nat,((a:Int)∈xs.map fun (x:Nat)=>(x:Int))↔a∈xs:=fun a=>by
      rw [List.mem_map]
      exact ⟨fun ⟨x,hx,q⟩=>Int.ofNat_inj.mp q▸hx,fun q=>⟨a,q,rfl⟩⟩
    have e0:((0:Int)∈xs.map fun (x:Nat)=>(x:Int))↔t≠1:=(e 0).trans h0
    have e1:((1:Int)∈xs.map fun (x:Nat)=>(x:Int))↔t≠0:=(e 1).trans h1
    have em:mkL t=(if t≠1 then [0] else []) ++ (if t≠0 then [1] else []):=by
      unfold mkL
      rw [show List.range 2=[0,1] from rfl,List.filter_cons,List.filter_cons,List.filter_nil]
      by_cases q0:t=1 <;> by_cases q1:t=0 <;> simp [q0,q1]
    rw [em]
    by_cases q0:t≠1
    · rw [if_pos q0,if_pos (e0.mpr q0)]
      by_cases q1:t≠0
      · rw [if_pos q1,if_pos (e1.mpr q1)];rfl
      · rw [if_neg q1,if_neg (mt e1.mp q1)];rfl
    · rw [if_neg q0,if_neg (mt e0.mp q0)]
      by_cases q1:t≠0
      · rw [if_pos q1,if_pos (e1.mpr q1)];rfl
      · rw [if_neg q1,if_neg (mt e1.mp q1)];rfl
theorem de7 {calls:Calls} {r:Rho} {a:IR} {l:List D} {d:D} (h:look calls a r=some (.list l)) (h2:bs7 l=some d):eval calls (.sortset a) r=some d:=ob h (ob rfl h2)
theorem ed3 {calls:Calls} {r:Rho} {es:List IR} {ds:List D} {ls:List (List D)} {l:List D} (h:ab8 calls es r=some ds) (h2:ds.mapM w6=some ls) (h3:(decide (2≤ls.length) && decide (ls.length≤3))=true) (h4:cg3 ls=some l):d7 calls (.zip es) r=some l:=ob h (ob h2 (s8 h3 h4))
section
variable {av kn:Nat→Nat} {nm tx:Nat→Str} (hav:∀ k,1≤k→av k < k) (ha5:∀ k,av k < 5) (hkn:∀ k,kn k < 2) (hnm:∀ i,ah7 (nm i)) (hinj:∀ i j,i < 10→j < 10→nm i=nm j→i=j)
  (hkt:∀ j,j < 6→kn (j+5)=if (nm (j+4) == tx j)=true then 0 else 1)
noncomputable abbrev chD (av:Nat→Nat) (k:Nat):D:=.list ((ch av k).map nI)
noncomputable abbrev ce3 (av kn:Nat→Nat) (n:Nat):List Nat:=L10.filter fun k=>decide (mB kn n k≠mB kn n (av k))
noncomputable abbrev cb9 (av kn:Nat→Nat) (f n:Nat):Nat:=((ce3 av kn n).filter fun k=>decide (f∈ch av (av k))).length
noncomputable abbrev leF (av kn:Nat→Nat) (f:Nat):Nat:=PH av (mnF av (tt av kn)) f
include ha5 in
theorem dq7 (f n:Nat):cb9 av kn f n=PH av (xF av (mB kn n)) f:=by
  show ((ce3 av kn n).filter fun k=>decide (f∈ch av (av k))).length=_
  unfold xF
  rw [← cj7 ha5 (fun k p=>ind (mB kn n k≠mB kn n p) 1) f,← cb5,am6,am6]
  refine n5 fun k ξ=>?_
  by_cases q:mB kn n k=mB kn n (av k) <;> by_cases q2:f∈ch av (av k) <;> simp [ind,q,q2]
include hav ha5 hkn in
theorem do9 (f n:Nat):leF av kn f+ind (tt av kn f=1 - mB kn n f) 1≤cb9 av kn f n:=by
  rw [dq7 ha5];exact dx7 hav (el9 hkn n) f
include hav ha5 hkn in
theorem dq8 {f a:Nat} (hf:f < 5) (ha:a < 2):(∃ n,n < 32∧cb9 av kn f n=leF av kn f∧n / 2 ^ f % 2=a)↔tt av kn f≠1 - a:=by
  constructor
  · rintro ⟨n,hn,e,rfl⟩ q
    have h:=do9 (kn:=kn) hav ha5 hkn f n
    have:mB kn n f=n / 2 ^ f % 2:=if_pos hf
    rw [e,this] at h
    simp only [ind,if_pos q] at h
    lia
  · intro h
    obtain ⟨m,hm,hf',e⟩:=cu7 hav hkn hf ha h
    obtain ⟨n,hn,rfl⟩:=em2 hm
    refine ⟨n,hn,(dq7 ha5 f n).trans e,?_⟩
    rw [← hf'];exact (if_pos hf).symm
noncomputable def rU (a n t p c:D) (o5:Slot) (k w:D) (o8 o9:Slot) (u:D) (o11 o12 o13:Slot):Rho:=[some (.fr,a),some (.fr,n),some (.fr,t),some (.own,p),some (.own,c),o5,some (.fr,k),some (.own,w),o8,o9,some (.own,u),o11,o12,o13,none,none,none,none,none]
noncomputable abbrev ba3 (av:Nat→Nat) (nm:Nat→Str) (n:Nat):D:=.list ((List.range n).map fun k=>.str (d8 av nm k))
noncomputable abbrev ce0 (av:Nat→Nat) (n:Nat):D:=.list ((List.range n).map (chD av))
noncomputable abbrev ek5 (av kn:Nat→Nat) (n:Nat):D:=.list ((List.range n).map fun i=>.list ((ce3 av kn i).map nI))
noncomputable abbrev knD (kn:Nat→Nat):D:=.list ((List.range 6).map fun j=>nI (kn (j+5)))
noncomputable abbrev ed2:List SI:=[.assign 13 false (.comp [none,none,none,some 0,some 4,some 12] [1] (.var 7) [] (.bcall .len [(.comp [none,none,some 3,some 4,some 5] [1] (.var 1) [(.cmp .In (.var 4) (.idx (.var 3) (.idx (.var 2) (.var 1))))] (.var 1))])),.assign 11 false (.bcall .min [(.var 13)]),.setItem 10 (.idx (.var 3) (.var 12)) (.sortset (.comp [none,none,some 13,some 12,some 11] [1] (.range [(.int 32)]) [(.cmp .Eq (.idx (.var 2) (.var 1)) (.var 4))] (.bin .BitAnd (.bin .RShift (.var 1) (.var 3)) (.int 1))))]
noncomputable abbrev cnU:IR:=.comp [none,none,none,some 0,some 4,some 12] [1] (.var 7) [] (.bcall .len [(.comp [none,none,some 3,some 4,some 5] [1] (.var 1) [(.cmp .In (.var 4) (.idx (.var 3) (.idx (.var 2) (.var 1))))] (.var 1))])
noncomputable abbrev vaU:IR:=.sortset (.comp [none,none,some 13,some 12,some 11] [1] (.range [(.int 32)]) [(.cmp .Eq (.idx (.var 2) (.var 1)) (.var 4))] (.bin .BitAnd (.bin .RShift (.var 1) (.var 3)) (.int 1)))
noncomputable abbrev cnD (av kn:Nat→Nat) (f:Nat):D:=.list ((List.range 32).map fun i=>nI (cb9 av kn f i))
noncomputable def rV (av kn:Nat→Nat) (nm:Nat→Str) (n t:D) (o5 o8 o9:Slot) (u:D) (o11 o12 o13:Slot):Rho:=rU (avD av) n t (ba3 av nm 11) (ce0 av 11) o5 (knD kn) (ek5 av kn 32) o8 o9 u o11 o12 o13
theorem cj8 (i:Nat):(ce3 av kn i).length≤10:=List.length_filter_le _ L10
section
variable {n t u:D} {o5 o8 o9 o11 o12 o13:Slot} {f:Nat}
include ha5 in
theorem dy6:eval (c6 []) cnU (rV av kn nm n t o5 o8 o9 u o11 (some (.fr,nI f)) o13)=some (cnD av kn f):=
  ap6 (xs:=List.range 32) (g:=fun i=>.list ((ce3 av kn i).map nI)) (h:=fun i=>nI (cb9 av kn f i)) (R:=fun i=>[none,some (.fr,.list ((ce3 av kn i).map nI)),none,some (.fr,avD av),some (.cap,ce0 av 11),some (.fr,nI f)]) (aj2 rfl (ai8 (m:=.own) rfl)) (fun i ξ=>rfl) (fun i ξ=>z9 (f8 (l_e rfl (ac9 (xs:=ce3 av kn i) (g:=nI) (h:=nI) (p:=fun k=>decide (f∈ch av (av k))) (R:=fun k=>[none,some (.fr,nI k),some (.fr,avD av),some (.cap,ce0 av 11),some (.fr,nI f)]) (aj2 rfl (c8 rfl)) (fun k ξ=>rfl) (fun k hk=>ae3 (t_b rfl rfl (ac4 (c8 rfl) (l_e rfl (y9 (ai8 (m:=.cap) (d:=ce0 av 11) rfl) (l_e rfl (y9 (c8 rfl) (c8 rfl) (ba2 (α:=Unit) (f:=fun k=>nI (av k)) (Nat.lt_succ_of_le (am3.mp (List.mem_filter.mp hk).1).2) (by decide)))) (ba2 (α:=Unit) (f:=chD av) (Nat.lt_trans (ha5 k) (by decide)) (by decide)))) (cz5 f _)))) (fun k ξ ξ=>g9 rfl) (szl (Nat.le_trans (cj8 i) (by decide))))) l0) (ce9 (Nat.le_trans (List.length_filter_le ..) (Nat.le_trans (cj8 i) (by decide))))) rfl
include hav ha5 hkn in
theorem du8 (hf5:f < 5):bfD .min [cnD av kn f]=some (nI (leF av kn f)):=by
  have:=eq7 (l:=(List.range 32).map fun i=>cb9 av kn f i) (m:=leF av kn f) ?_ fun x hx=>?_
  · rw [List.map_map] at this;exact this
  · have hp:∃ a,a < 2∧tt av kn f≠1 - a:=by
      by_cases q:tt av kn f=1
      · exact ⟨1,by decide,by rw [q];decide⟩
      · exact ⟨0,by decide,q⟩
    obtain ⟨a,ha,hq⟩:=hp
    obtain ⟨i,hi,e,_⟩:=(dq8 (kn:=kn) hav ha5 hkn hf5 ha).mpr hq
    exact List.mem_map.mpr ⟨i,List.mem_range.mpr hi,e⟩
  · obtain ⟨i,_,rfl⟩:=List.mem_map.mp hx
    exact Nat.le_trans (Nat.le_add_right _ _) (do9 (kn:=kn) hav ha5 hkn f i)
include hav ha5 hkn in
theorem ea6 (hf5:f < 5):eval (c6 []) vaU (rV av kn nm n t o5 o8 o9 u (some (.fr,nI (leF av kn f))) (some (.fr,nI f)) (some (.fr,cnD av kn f)))=some (VV av kn f):=by
  have hin:∀ a,a < 2→(a∈((List.range 32).filter fun i=>decide (cb9 av kn f i=leF av kn f)).map (fun i=>i / 2 ^ f % 2)↔tt av kn f≠1 - a):=fun a ha=>by
    rw [← dq8 (kn:=kn) hav ha5 hkn hf5 ha,List.mem_map]
    refine exists_congr fun i=>?_
    rw [List.mem_filter,List.mem_range,decide_eq_true_eq,and_assoc]
  have hs:=ct1 (t:=tt av kn f) (fun x hx=>by
    obtain ⟨i,_,rfl⟩:=List.mem_map.mp hx
    exact Nat.mod_lt _ (by decide)) (hin 0 (by decide)) (hin 1 (by decide))
  rw [List.map_map] at hs
  exact de7 (l_e rfl (ac9 (xs:=List.range 32) (g:=nI) (h:=nI ∘ fun i=>i / 2 ^ f % 2) (p:=fun i=>decide (cb9 av kn f i=leF av kn f)) (R:=fun i=>[none,some (.fr,nI i),some (.fr,cnD av kn f),some (.fr,nI f),some (.fr,nI (leF av kn f))]) (ad4 (f8 j5 l0) (ao8 32 (by decide))) (fun i ξ=>rfl) (fun i hi=>ae3 (t_b rfl rfl (ac4 (l_e rfl (y9 (c8 rfl) (c8 rfl) (ba2 (α:=Unit) (f:=fun i=>nI (cb9 av kn f i)) (List.mem_range.mp hi) (by decide)))) (c8 rfl) (bl9 _ _)))) (fun i ξ ξ=>ac1 (l_e rfl (ac1 (c8 rfl) (c8 rfl) (cx0 i f (Nat.le_trans (Nat.le_of_lt hf5) (by decide))))) j5 (cl8 _)) rfl)) hs
include hav ha5 hkn hnm hinj in
theorem dk5 {ks:List Nat} (hf5:f < 5) (hks:∀ k∈ks,k < 11) (hl:ks.length≤60) (hnf:f ∉ ks) (h11:frS o11) (h12:frS o12) (h13:frS o13):ah1 (c6 []) fr2 [12] ed2 (nI f) (rV av kn nm n t o5 o8 o9 (kvV av kn nm ks) o11 o12 o13)=some (.next,rV av kn nm n t o5 o8 o9 (kvV av kn nm (ks ++ [f])) (some (.fr,nI (leF av kn f))) (some (.fr,nI f)) (some (.fr,cnD av kn f))):=by
  have hf:=Nat.lt_trans hf5 (show 5 < 11 by decide)
  refine ab7 (y3 (k6 (o:=o12) rfl h12 (show 12 < 19 by decide))) ?_
  refine (y7 (d5 rfl (dy6 ha5) (k6 (o:=o13) rfl h13 (show 13 < 19 by decide)))).trans ?_
  refine (y7 (d5 rfl (z9 (f8 (c8 rfl) l0) (du8 hav ha5 hkn hf5)) (k6 (o:=o11) rfl h11 (show 11 < 19 by decide)))).trans ?_
  exact y5 (ca5 (l:=kvP (d8 av nm) (VV av kn) ks) (y:=d8 av nm f) (ea6 hav ha5 hkn hf5) (l_e rfl (y9 (ai8 (m:=.own) (d:=ba3 av nm 11) rfl) (c8 rfl) (ba2 (α:=Unit) (f:=fun k=>.str (d8 av nm k)) hf (by decide)))) rfl (eb4 _ _ hl) (by rw [dh4 hav hnm hinj hks hf hnf];rfl))
include hav ha5 hkn hnm hinj in

theorem dp0:y4 (ah1 (c6 []) fr2 [12] ed2) ([4,3,2,1,0].map nI) (rV av kn nm n t o5 o8 o9 (kvV av kn nm F6) (some (.fr,nI 0)) none none)=some (.next,rV av kn nm n t o5 o8 o9 (kvV av kn nm (F6 ++ [4,3,2,1,0])) (some (.fr,nI (leF av kn 0))) (some (.fr,nI 0)) (some (.fr,cnD av kn 0))):=by
  have st:=fun (ks:List Nat) (f:Nat) (hf:f < 5∧(∀ k∈ks,k < 11)∧ks.length≤60∧f ∉ ks) (o11 o12 o13:Slot)=>dk5 (n:=n) (t:=t) (o5:=o5) (o8:=o8) (o9:=o9) (o11:=o11) (o12:=o12) (o13:=o13) hav ha5 hkn hnm hinj hf.1 hf.2.1 hf.2.2.1 hf.2.2.2
  rw [List.map_cons,w7 (st F6 4 (by decide) _ _ _ (f5 _) p0 p0)]
  rw [List.map_cons,w7 (st (F6 ++ [4]) 3 (by decide) _ _ _ (f5 _) (f5 _) (f5 _))]
  rw [List.map_cons,w7 (st (F6 ++ [4] ++ [3]) 2 (by decide) _ _ _ (f5 _) (f5 _) (f5 _))]
  rw [List.map_cons,w7 (st (F6 ++ [4] ++ [3] ++ [2]) 1 (by decide) _ _ _ (f5 _) (f5 _) (f5 _))]
  rw [List.map_cons,w7 (st (F6 ++ [4] ++ [3] ++ [2] ++ [1]) 0 (by decide) _ _ _ (f5 _) (f5 _) (f5 _))]
  rfl
end
noncomputable abbrev ec6:List SI:=[.append 3 (.bin .Add (.bin .Add (.meth .rstrip (.idx (.var 3) (.idx (.var 0) (.var 5))) [(.str "/")]) (.str "/")) (.idx (.var 1) (.bin .Sub (.var 5) (.int 1)))),.append 4 (.bin .Add (.list [(.var 5)]) (.idx (.var 4) (.idx (.var 0) (.var 5))))]
noncomputable def rP (av:Nat→Nat) (nm:Nat→Str) (t:D) (i:Nat) (o:Slot):Rho:=[some (.fr,avD av),some (.fr,nmD nm),some (.fr,t),some (.own,ba3 av nm i),some (.own,ce0 av i),o,none,none,none,none,none,none,none,none,none,none,none,none,none]
theorem cc3 (f:Nat→D) (i:Nat):PyData.list ((List.range (i+1)).map f) = .list ((List.range i).map f ++ [f i]):=by
  rw [List.range_succ,List.map_append];rfl
theorem dp4 (f:Nat→D) {i:Nat} (h:i≤1000):sz (((List.range i).map f).length+1)=true:=szl (by rw [List.length_map,List.length_range];exact Nat.le_trans (Nat.succ_le_succ h) (by decide))
noncomputable abbrev upT (av:Nat→Nat) (nm:Nat→Str) (i:Nat):Str:=Txt.rstripChars (PS (f9 av nm (av (i+1)))) "/"
include hav ha5 hnm in
theorem ea5 (i:Nat):(upT av nm i).length≤600∧(upT av nm i ++ "/") ++ nm i=d8 av nm (i+1):=by
  have hN:=ad6 (av:=av) hnm (av (i+1))
  refine ⟨?_,?_⟩
  · by_cases q:f9 av nm (av (i+1))=[]
    · unfold upT
      rw [q,bo4];simp
    · unfold upT
      rw [bw7 hN q];exact aw6 ⟨hN,Nat.le_trans (aj4 (nm:=nm) ha5 (av (i+1))) (by decide)⟩
  · rw [dj9 hN];unfold d8;rw [ab1 (nm:=nm) (hav (i+1) (Nat.succ_pos i))];rfl
include hav ha5 hnm in
theorem em9 {t:D} {i:Nat} {o:Slot} (hi:i < 10) (ho:frS o):ah1 (c6 []) fr2 [5] ec6 (nI (i+1)) (rP av nm t (i+1) o)=some (.next,rP av nm t (i+2) (some (.fr,nI (i+1)))):=by
  have ha:=hav (i+1) (Nat.succ_pos i)
  have hi':i+1≤1000:=Nat.le_trans hi (by decide)
  have h8:bk1 (avD av) (nI (i+1))=some (nI (av (i+1))):=ba2 (α:=Unit) (Nat.succ_lt_succ hi) (by decide)
  obtain ⟨b1,b2⟩:=ea5 hav ha5 hnm i
  have hni:=(hnm i).2.2.2.1
  have l1:(upT av nm i ++ "/").length≤601:=by rw [cf8,bc1];exact Nat.succ_le_succ b1
  have b3:mfD .rstrip (.str (d8 av nm (av (i+1)))) [.str "/"]=some (.str (upT av nm i)):=
    ob rfl (ob rfl (ob rfl (s8 (szl (Nat.le_trans (aw6 ⟨ad6 hnm _,Nat.le_trans (aj4 (nm:=nm) ha5 _) (by decide)⟩) (by decide))) rfl)))
  refine ab7 (y3 (k6 (o:=o) rfl ho (show 5 < 19 by decide))) ?_
  refine (y7 (al2 (l:=(List.range (i+1)).map fun k=>.str (d8 av nm k)) (d:=.str (d8 av nm (i+1))) rfl (ac1 (l_e rfl (ac1 (l_e rfl (bt4 rfl rfl (l_e rfl (y9 (ai8 (m:=.own) (d:=ba3 av nm (i+1)) rfl) (l_e rfl (y9 (c8 rfl) (c8 rfl) h8)) (ba2 (α:=Unit) (f:=fun k=>.str (d8 av nm k)) ha hi'))) (c7 ae8 f4) b3)) bw5 (bl7 (by rw [bc1];exact Nat.le_trans (Nat.succ_le_succ b1) (by decide))))) (l_e rfl (y9 (c8 rfl) (l_e rfl (ac1 (c8 rfl) j5 (bc9 (Nat.succ_le_succ (Nat.zero_le i))))) (ba2 (α:=Unit) hi (by decide)))) ((bl7 (Nat.le_trans (Nat.add_le_add l1 hni) (by decide))).trans (by rw [b2]))) rfl (dp4 _ hi') rfl)).trans ?_
  refine y5 (al2 (l:=(List.range (i+1)).map (chD av)) (d:=chD av (i+1)) rfl (ac1 (l_e rfl (y8 (c7 (g9 (d:=nI (i+1)) rfl) f4) rfl)) (l_e rfl (y9 (ai8 (m:=.own) (d:=ce0 av (i+1)) rfl) (l_e rfl (y9 (c8 rfl) (c8 rfl) h8)) (ba2 (α:=Unit) ha hi'))) ?_) rfl (dp4 _ hi') ?_)
  · rw [bf0 (by have:=eg1 (av:=av) (av (i+1));simp;lia)]
    show _=some (PyData.list ((ch av (i+1)).map nI))
    rw [bq8 ha];rfl
  · unfold rP
    rw [show ba3 av nm (i+2)=_ from cc3 _ (i+1),show ce0 av (i+2)=_ from cc3 _ (i+1)];rfl
noncomputable abbrev ee1:List SI:=[.assign 9 false (.bin .Add (.comp [none,none,some 8] [1] (.range [(.int 5)]) [] (.bin .BitAnd (.bin .RShift (.var 2) (.var 1)) (.int 1))) (.var 6)),.append 7 (.comp [none,none,some 0,some 9] [1] (.range [(.int 1),(.int 11)]) [(.cmp .NotEq (.idx (.var 3) (.var 1)) (.idx (.var 3) (.idx (.var 2) (.var 1))))] (.var 1))]
noncomputable abbrev mkB (kn:Nat→Nat) (i:Nat):D:=.list ((List.range 11).map fun k=>nI (mB kn i k))
noncomputable def rQ (av kn:Nat→Nat) (nm:Nat→Str) (t:D) (i:Nat) (o8 o9:Slot):Rho:=[some (.fr,avD av),some (.fr,nmD nm),some (.fr,t),some (.own,ba3 av nm 11),some (.own,ce0 av 11),some (.fr,nI 10),some (.fr,knD kn),some (.own,ek5 av kn i),o8,o9,none,none,none,none,none,none,none,none,none]
theorem eq5 (i:Nat):PyData.list (((List.range 5).map fun k=>nI (i / 2 ^ k % 2)) ++ (List.range 6).map fun j=>nI (kn (j+5)))=mkB kn i:=by
  refine congrArg PyData.list ?_
  rw [show List.range 11=List.range 5 ++ (List.range 6).map fun j=>j+5 from rfl,List.map_append,List.map_map]
  rw [show (List.range 5).map (fun k=>nI (i / 2 ^ k % 2))=(List.range 5).map fun k=>nI (mB kn i k) from List.map_congr_left fun k hk=>by rw [mB,if_pos (List.mem_range.mp hk)]]
  rw [show (List.range 6).map (fun j=>nI (kn (j+5)))=(List.range 6).map ((fun k=>nI (mB kn i k)) ∘ fun j=>j+5) from List.map_congr_left fun j ξ=>?_]
  show _=nI (mB kn i (j+5))
  rw [mB,if_neg (Nat.not_lt.mpr (Nat.le_add_left 5 j))]
include ha5 in
theorem ep9 {t:D} {i:Nat} {o8 o9:Slot} (hi:i≤1000) (h8:frS o8) (h9:frS o9):ah1 (c6 []) fr2 [8] ee1 (nI i) (rQ av kn nm t i o8 o9)=some (.next,rQ av kn nm t (i+1) (some (.fr,nI i)) (some (.fr,mkB kn i))):=by
  refine ab7 (y3 (k6 (o:=o8) rfl h8 (show 8 < 19 by decide))) ?_
  refine (y7 (d5 rfl (ac1 (l_e rfl (ap6 (xs:=List.range 5) (g:=nI) (h:=fun k=>nI (i / 2 ^ k % 2)) (R:=fun k=>[none,some (.fr,nI k),some (.fr,nI i)]) (ad4 (f8 j5 l0) (ao8 5 (by decide))) (fun k ξ=>rfl) (fun k hk=>ac1 (l_e rfl (ac1 (c8 rfl) (c8 rfl) (cx0 i k (Nat.le_trans (Nat.le_of_lt (List.mem_range.mp hk)) (by decide))))) j5 (cl8 _)) rfl)) (c8 rfl) ((bf0 (by simp)).trans (congrArg some (eq5 i)))) (k6 (o:=o9) rfl h9 (show 9 < 19 by decide)))).trans ?_
  have hix:∀ j,j < 11→bk1 (mkB kn i) (nI j)=some (nI (mB kn i j)):=fun j hj=>ba2 (α:=Unit) (f:=fun k=>nI (mB kn i k)) hj (by decide)
  have hk11:∀ k,k∈L10→k < 11:=fun k hk=>Nat.lt_succ_of_le (am3.mp hk).2
  refine y5 (al2 (l:=(List.range i).map fun i=>.list ((ce3 av kn i).map nI)) (d:=.list ((ce3 av kn i).map nI)) rfl (ac9 (xs:=L10) (g:=nI) (h:=nI) (p:=fun k=>decide (mB kn i k≠mB kn i (av k))) (R:=fun k=>[none,some (.fr,nI k),some (.fr,avD av),some (.fr,mkB kn i)]) (ad4 (f8 j5 (f8 j5 l0)) dx6) (fun k ξ=>rfl) (fun k hk=>ae3 (t_b rfl rfl (ac4 (l_e rfl (y9 (c8 rfl) (c8 rfl) (hix k (hk11 k hk)))) (l_e rfl (y9 (c8 rfl) (l_e rfl (y9 (c8 rfl) (c8 rfl) (ba2 (α:=Unit) (f:=fun k=>nI (av k)) (hk11 k hk) (by decide)))) (hix (av k) (Nat.lt_trans (ha5 k) (by decide))))) (ds7 _ _)))) (fun k ξ ξ=>g9 rfl) rfl) rfl (dp4 _ hi) ?_)
  unfold rQ
  rw [show ek5 av kn (i+1)=_ from cc3 _ i];rfl
theorem ed8 {k:Nat} (h:k < 2):mkL k=[k]:=by
  rcases lt2 h with rfl | rfl <;> rfl
include hkn in
theorem cv4 {k:Nat} (h5:5≤k):VV av kn k = .list [nI (kn k)]:=by
  show PyData.list ((mkL (tt av kn k)).map nI)=_
  rw [bf4 h5,ed8 (hkn k)];rfl
include hav hnm hinj in
theorem cs2:∀ j∈F6,∀ i∈F6,d8 av nm j=d8 av nm i→j=i:=fun j hj i hi q=>ak2 hav hnm hinj (ah9.mp hj).2 (ah9.mp hi).2 q
include hav ha5 hkn hnm hinj hkt in
theorem bv3:an6 [avD av,nmD nm,.list ((List.range 6).map fun j=>.str (tx j))]=some (.tuple [nI (leF av kn 0),.dict (kvP (d8 av nm) (VV av kn) (F6 ++ [4,3,2,1,0]))]):=by
  let tD:D:=.list ((List.range 6).map fun j=>.str (tx j))
  unfold an6 aw4
  refine ac0 rfl ?_
  refine .next (d5 (d:=.list [.str "/"]) rfl (y8 (c7 ae8 f4) rfl) rfl) ?_
  refine .next (d5 (d:=.list [.list [nI 0]]) rfl (y8 (c7 (y8 (c7 ao1 f4) rfl) f4) rfl) rfl) ?_
  have hl:=ab3 (f:=ah1 (c6 []) fr2 [5] ec6) (g:=fun (k:Nat)=>.int (((k+1:Nat)):Int)) (R:=fun i=>rP av nm tD (i+1) (if i=0 then none else some (.fr,nI i))) (n:=10) fun i hi=>em9 hav ha5 hnm hi (at4 (f5 _) p0)
  have p1:ba3 av nm (0+1) = .list [.str "/"]:=by
    show PyData.list [.str (PS (f9 av nm 0))]=_
    rw [ae0 (Nat.not_lt_zero _),ah5]
  have c1:ce0 av (0+1) = .list [.list [nI 0]]:=by
    show PyData.list [.list ((ch av 0).map nI)]=_
    rw [bn2 (Nat.not_lt_zero _)];rfl
  refine .next (an1 (ad4 (f8 j5 (f8 j5 l0)) (bs0 10 (by decide))) (f:=.next) (r':=rP av nm tD 11 (some (.fr,nI 10))) (by rw [← p1,← c1];exact hl) rfl) ?_
  have hfrom:bj0 (nmD nm) (.int 4)=some (.list ((List.range 6).map fun j=>.str (nm (j+4)))):=az7 (i:=4) (by decide) (by simp)
  refine .next (d5 (d:=knD kn) rfl (ap6 (xs:=List.range 6) (g:=fun j=>.tuple [.str (nm (j+4)),.str (tx j)]) (h:=fun j=>nI (kn (j+5))) (R:=fun j=>[none,some (.fr,.str (nm (j+4))),some (.fr,.str (tx j))]) (ed3 (c7 (bq2 (c8 rfl) j5 hfrom) (c7 (g9 (d:=tD) rfl) f4)) (ls:=[(List.range 6).map fun j=>.str (nm (j+4)),(List.range 6).map fun j=>.str (tx j)]) rfl rfl eu0) (fun j ξ=>rfl) (fun j hj=>?_) rfl) rfl) ?_
  · rw [hkt j (List.mem_range.mp hj)]
    have ht:ac7 (c6 []) (.cmp .Eq (.var 1) (.var 2)) [none,some (.fr,.str (nm (j+4))),some (.fr,.str (tx j))]=some (nm (j+4) == tx j):=t_b rfl rfl (ac4 (c8 rfl) (c8 rfl) rfl)
    cases hq:(nm (j+4) == tx j) with
    | true=>rw [hq] at ht;exact cb4 ht ao1
    | false=>rw [hq] at ht;exact cy7 ht ao1
  refine .next (d5 (d:=.list []) rfl (y8 f4 rfl) rfl) ?_
  have hl2:=ab3 (f:=ah1 (c6 []) fr2 [8] ee1) (g:=fun (k:Nat)=>.int ((k:Nat):Int)) (R:=fun i=>rQ av kn nm tD i (if i=0 then none else some (.fr,nI (i - 1))) (if i=0 then none else some (.fr,mkB kn (i - 1)))) (n:=32) fun i hi=>ep9 ha5 (Nat.le_trans (Nat.le_of_lt hi) (by decide)) (at4 (f5 _) p0) (at4 (f5 _) p0)
  refine .next (an1 (ad4 (f8 j5 l0) (ao8 32 (by decide))) (f:=.next) (r':=rQ av kn nm tD 32 (some (.fr,nI 31)) (some (.fr,mkB kn 31))) hl2 rfl) ?_
  refine .next (d5 (d:=kvV av kn nm F6) rfl (bl4 (xs:=F6) (g:=nI) (kf:=fun k=>.str (d8 av nm k)) (vf:=VV av kn) (R:=fun k=>[none,some (.fr,nI k),some (.fr,knD kn),some (.cap,ba3 av nm 11)]) (ad4 (f8 j5 (f8 j5 l0)) ef1) (fun k ξ=>rfl) (fun k hk=>y9 (ai8 (m:=.cap) (d:=ba3 av nm 11) rfl) (c8 rfl) (ba2 (α:=Unit) (f:=fun k=>.str (d8 av nm k)) (ah9.mp hk).2 (by decide))) (fun k hk=>?_) (f7 (at6 _ _ _) rfl) (bd1 ar6 (cs2 hav hnm hinj))) rfl) ?_
  · obtain ⟨k5,k11⟩:=ah9.mp hk
    rw [cv4 hkn k5]
    refine y8 (c7 (y9 (c8 rfl) (l_e rfl (ac1 (c8 rfl) j5 (bc9 k5))) ((ba2 (α:=Unit) (f:=fun j=>nI (kn (j+5))) (Nat.sub_lt_right_of_lt_add k5 k11) (by decide)).trans ?_)) f4) rfl
    rw [Nat.sub_add_cancel k5]
  refine .next (d5 (d:=nI 0) rfl ao1 rfl) ?_
  refine .next (an1 (ad4 (f8 j5 (f8 j5 (f8 j5 l0))) ek9) (dp0 hav ha5 hkn hnm hinj) rfl) ?_
  refine .ret rfl ?_
  rw [bc6]
  exact cw7 (c7 (g9 rfl) (c7 (g9 rfl) f4)) rfl
end
end
section
open PySem.StrLaws PySem.Builtin PySem.Builtin.Str
theorem do4:c6 L2d "_law_drawn"=ae2:=by kernel_rfl
theorem dv7:c6 L2d "_law_laid"=ak7:=by kernel_rfl
theorem cq7:c6 L2d "_law_written"=z8:=by kernel_rfl
theorem dt1:c6 L2d "_law_told"=ad7:=by kernel_rfl
theorem dv6:c6 L2d "_law_rule"=ak6:=by kernel_rfl
theorem eh6:c6 L2d "_law_due"=an6:=by kernel_rfl
theorem dt9:c6 L2d "_law_ways"=al0:=by kernel_rfl
theorem dy4:c6 L2d "_law_most"=bf5 6:=by kernel_rfl
noncomputable def fL (l:List D):Rho:=(l.map fun d=>(some (.fr,d):Slot)) ++ List.replicate (22 - l.length) none
theorem ds1 (l:List D):cl4 (fL l)=true:=by
  unfold cl4 fL
  rw [List.all_append,List.all_map,Bool.and_eq_true]
  constructor
  · rw [List.all_eq_true];intro d _;rfl
  · rw [List.all_eq_true];intro d hd
    rw [List.mem_replicate] at hd
    rw [hd.2]
theorem dd8 (t:Nat):SeqAt.shaped (mkD t)=true:=(Lay.nats _ 0).shaped (by decide)
theorem ct8 {p:Nat→Str} {f:Nat→Nat} {ks:List Nat}:ak8 (kvP p (fun k=>mkD (f k)) ks)=true:=by
  unfold ak8
  rw [List.all_map,List.all_eq_true]
  intro k ξ
  show (z6 (.str (p k)) && SeqAt.shaped (mkD (f k)))=true
  rw [dd8];rfl
theorem df5 {p:Nat→Str} {f:Nat→Nat} {ks js:List Nat} (h:ks.Perm js) (hp:∀ j∈js,∀ k∈js,p j=p k→j=k):ae6 (kvP p (fun k=>mkD (f k)) ks) (kvP p (fun k=>mkD (f k)) js)=true:=by
  refine f7 ?_ ?_
  · rw [List.length_map,List.length_map,h.length_eq];exact beq_self_eq_true _
  · rw [List.all_map,List.all_eq_true]
    intro k hk
    have hj:=h.mem_iff.mp hk
    show ((aw7 (kvP p (fun k=>mkD (f k)) js) (.str (p k))).map (PyData.eqv (mkD (f k)))).getD false=true
    rw [ay8 (V:=fun k=>mkD (f k)) hj fun i hi=>hp i hi k hj]
    show PyData.eqv (mkD (f k)) (mkD (f k))=true
    rw [ch6 bl2];simp
theorem cg4 {n:Nat} {p:Nat→Str} {f:Nat→Nat} {ks js:List Nat} (h:ks.Perm js) (hp:∀ j∈js,∀ k∈js,p j=p k→j=k):bk7 .NotEq (.tuple [nI n,.dict (kvP p (fun k=>mkD (f k)) ks)]) (.tuple [nI n,.dict (kvP p (fun k=>mkD (f k)) js)])=some false:=by
  have h1:eqT (.tuple [nI n,.dict (kvP p (fun k=>mkD (f k)) ks)]) (.tuple [nI n,.dict (kvP p (fun k=>mkD (f k)) js)])=some true:=by
    refine ob rfl (ob rfl (ob rfl (ob rfl (ob rfl (ob rfl (ob rfl (ob rfl (s8 (f7 ct8 ct8) (congrArg some ?_)))))))))
    exact f7 (beq_self_eq_true _) (df5 h hp)
  have h2:eqD (.tuple [nI n,.dict (kvP p (fun k=>mkD (f k)) ks)]) (.tuple [nI n,.dict (kvP p (fun k=>mkD (f k)) js)])=none:=by
    have:SeqAt.shaped (.tuple [nI n,.dict (kvP p (fun k=>mkD (f k)) ks)])=false:=by simp [SeqAt.shaped,PyData.canLay0,PyData.canLayAll0]
    refine cd9 rfl ?_
    rw [this];rfl
  show ((eqD _ _).or (eqT _ _)).map (!·)=_
  rw [h1,h2];rfl
section
variable {kind:Nat} {av kn:Nat→Nat} {nm tx:Nat→Str} (hav:∀ k,1≤k→av k < k) (ha5:∀ k,av k < 5) (hkn:∀ k,kn k < 2) (hnm:∀ i,ah7 (nm i)) (hinj:∀ i j,i < 10→j < 10→nm i=nm j→i=j)
  (hkt:∀ j,j < 6→kn (j+5)=if (nm (j+4) == tx j)=true then 0 else 1)
noncomputable abbrev dTx (tx:Nat→Str):D:=.list ((List.range 6).map fun j=>.str (tx j))
noncomputable abbrev dWr (nm:Nat→Str):D:=.list ((List.range 6).map fun j=>.str (nm (j+4)))
noncomputable abbrev dNm:D:=.list [.str "b",.str "bb",.str "bbb",.str "bbbb"]
noncomputable abbrev bs1 (kn:Nat→Nat) (m:Nat):List Nat:=F6.filter fun k=>decide (kn k=m)
theorem az0 {m e:Nat}:e∈bs1 kn m↔5≤e∧e≤10∧kn e=m:=by
  rw [List.mem_filter,ah9,decide_eq_true_eq,and_assoc,Nat.lt_succ_iff]
theorem ca7 (m:Nat):(bs1 kn m).length≤6:=List.length_filter_le _ F6
theorem cl1:bj0 (ba3 av nm 11) (.int 5)=some (.list (F6.map fun k=>.str (d8 av nm k))):=az7 (i:=5) (by decide) (by simp)
include hav hkn hnm hinj in
theorem cv3 (m:Nat) {r:Rho} (h8:r.get 8=some (.fr,kvV av kn nm F6)) (h7:r.get 7=some (.fr,ba3 av nm 11)):eval (c6 L2d) (.comp [none,none,some 8] [1] (.from (.var 7) (.int 5)) [(.cmp .Eq (.idx (.var 2) (.var 1)) (.list [(.int (m:Int))]))] (.var 1)) r=some (LS ((bs1 kn m).map (d8 av nm))):=by
  have hc:ba1 r [none,none,some 8]=[none,none,some (.fr,kvV av kn nm F6)]:=by
    show [none,none,dv5 (r.get 8)]=_
    rw [h8];rfl
  refine (ac9 (xs:=F6) (g:=fun k=>.str (d8 av nm k)) (h:=fun k=>.str (d8 av nm k)) (p:=fun k=>decide (kn k=m)) (R:=fun k=>[none,some (.fr,.str (d8 av nm k)),some (.fr,kvV av kn nm F6)]) (aj2 rfl (l_e rfl (bq2 (c8 h7) j5 cl1))) (fun k ξ=>by rw [hc];rfl) (fun k hk=>ae3 (t_b rfl rfl (ac4 (l_e rfl (y9 (c8 rfl) (c8 rfl) (bf1 (at6 _ _ _) (ay8 hk fun i hi=>cs2 hav hnm hinj i hi k hk)))) (l_e rfl (y8 (c7 ao1 f4) rfl)) ?_))) (fun k ξ ξ=>g9 rfl) rfl).trans (congrArg (fun l=>some (PyData.list l)) (List.map_map ..).symm)
  refine (ct7 bl2 (xs:=mkL (tt av kn k)) (ys:=[m]) (.nats _ 0) (.nats _ 0) (by decide)).trans (congrArg some (decide_eq_decide.mpr ?_))
  rw [bf4 (ah9.mp hk).1,ed8 (hkn k)];simp
include hav ha5 hkn hnm hinj in
theorem dm8:bf5 6 [aa5 ((bs1 kn 1).map fun e=>(bs1 kn 0).map (wyN av nm e)),LS []]=some (nI (leF av kn 0)):=by
  have hl:((bs1 kn 1).map fun e=>(bs1 kn 0).map (wyN av nm e)).length≤6:=by rw [List.length_map];exact ca7 1
  rw [dh0 6 _ [] hl (by decide) (fun r hr=>?_) (Nat.le_trans (Nat.add_le_add_left (Nat.mul_le_mul_left 20 hl) 0) (by decide)) (fun x hx=>nomatch hx)]
  · exact congrArg (fun n=>some (nI n)) (dy0 (pe:=d8 av nm) hav ha5 hkn (fun j k hj hk q=>ak2 hav hnm hinj hj hk q) (fun e=>az0) (fun e=>az0) fun e he b hb x=>ea4 hav hnm hinj (Nat.lt_succ_of_le (az0.mp he).2.1) (Nat.lt_succ_of_le (az0.mp hb).2.1))
  · obtain ⟨e,he,rfl⟩:=List.mem_map.mp hr
    refine ⟨by rw [List.length_map];exact Nat.le_trans (ca7 0) (by decide),fun w hw=>?_⟩
    obtain ⟨b,hb,rfl⟩:=List.mem_map.mp hw
    refine ⟨?_,eo3 hnm⟩
    rw [List.length_append]
    exact Nat.le_trans (Nat.add_le_add (az4 (nm:=nm) ha5 e b) (az4 (nm:=nm) ha5 b e)) (by decide)
include hkn hav hnm hinj hkt in
theorem df4 {r:Rho} (h7:r.get 7=some (.fr,ba3 av nm 11)) (h4:r.get 4=some (.fr,dWr nm)) (h2:r.get 2=some (.fr,dTx tx)):eval (c6 L2d) (.dcomp [none,none,none,none] [1,2,3] (.zip [(.from (.var 7) (.int 5)),(.var 4),(.var 2)]) [] (.var 1) (.list [(.ite (.cmp .Eq (.var 2) (.var 3)) (.int 0) (.int 1))])) r=some (kvV av kn nm F6):=by
  refine bl4 (xs:=List.range 6) (g:=fun j=>.tuple [.str (d8 av nm (j+5)),.str (nm (j+4)),.str (tx j)]) (kf:=fun j=>.str (d8 av nm (j+5))) (vf:=fun j=>VV av kn (j+5)) (R:=fun j=>[none,some (.fr,.str (d8 av nm (j+5))),some (.fr,.str (nm (j+4))),some (.fr,.str (tx j))]) (ed3 (c7 (bq2 (c8 h7) j5 cl1) (c7 (g9 h4) (c7 (g9 h2) f4))) (ls:=[(List.range 6).map fun j=>.str (d8 av nm (j+5)),(List.range 6).map fun j=>.str (nm (j+4)),(List.range 6).map fun j=>.str (tx j)]) rfl rfl eu4) (fun j ξ=>rfl) (fun j ξ=>g9 rfl) (fun j hj=>?_) rfl ?_
  · rw [cv4 hkn (Nat.le_add_left 5 j),hkt j (List.mem_range.mp hj)]
    have hq:ac7 (c6 L2d) (.cmp .Eq (.var 2) (.var 3)) [none,some (.fr,.str (d8 av nm (j+5))),some (.fr,.str (nm (j+4))),some (.fr,.str (tx j))]=some (nm (j+4) == tx j):=t_b rfl rfl (ac4 (c8 rfl) (c8 rfl) rfl)
    refine y8 (c7 ?_ f4) rfl
    cases hb:(nm (j+4) == tx j) with
    | true=>rw [hb] at hq;exact cb4 hq ao1
    | false=>rw [hb] at hq;exact cy7 hq ao1
  · have:=bd1 (p:=d8 av nm) (V:=VV av kn) (ks:=F6) ar6 (cs2 hav hnm hinj)
    exact this
theorem db1 (hf:[PyData.str "b",.str "bb",.str "bbb",.str "bbbb"]=(List.range 4).map fun k=>.str (nm k)):ay1 .Add dNm (dWr nm)=some (nmD nm):=by
  refine (bf0 (by simp)).trans (congrArg (fun l=>some (PyData.list l)) ?_)
  rw [hf,show List.range 10=List.range 4 ++ (List.range 6).map fun j=>j+4 from rfl,List.map_append,List.map_map];rfl
include hav ha5 hkn hnm hinj hkt in
theorem dt8 {x0:D} (hdr:ae2 [x0]=some (.tuple [nI kind,dTx tx,avD av])) (hw:∀ j,z8 [.str (tx j),nI kind]=some (.str (nm (j+4)))) (ht:∀ j,ad7 [.str (tx j),nI kind]=some (.str (nm (j+4)))) (hf:[PyData.str "b",.str "bb",.str "bbb",.str "bbbb"]=(List.range 4).map fun k=>.str (nm k)):cu4 [x0]=some (.bool true):=by
  have hadd:=db1 hf
  unfold cu4 cr4
  refine ac0 rfl ?_
  show am4 (c6 L2d) fr2 _ (fL [x0]) _
  refine .next (r':=fL [x0,nI kind,dTx tx,avD av]) (aq7 (by decide) (w9 (c7 (g9 rfl) f4) (by rw [do4];exact hdr)) rfl) ?_
  refine .next (r':=fL [x0,nI kind,dTx tx,avD av,dWr nm]) (d5 rfl (ap6 (xs:=List.range 6) (g:=fun j=>.str (tx j)) (h:=fun j=>.str (nm (j+4))) (R:=fun j=>[none,some (.fr,.str (tx j)),none,some (.fr,nI kind)]) (aj2 rfl (c8 rfl)) (fun j ξ=>rfl) (fun j ξ=>w9 (c7 (g9 rfl) (c7 (g9 rfl) f4)) (by rw [cq7];exact hw j)) rfl) rfl) ?_
  refine .next (r':=fL [x0,nI kind,dTx tx,avD av,dWr nm,dWr nm]) (d5 rfl (ap6 (xs:=List.range 6) (g:=fun j=>.str (tx j)) (h:=fun j=>.str (nm (j+4))) (R:=fun j=>[none,some (.fr,.str (tx j)),none,some (.fr,nI kind)]) (aj2 rfl (c8 rfl)) (fun j ξ=>rfl) (fun j ξ=>w9 (c7 (g9 rfl) (c7 (g9 rfl) f4)) (by rw [dt1];exact ht j)) rfl) rfl) ?_
  refine .next (r':=fL [x0,nI kind,dTx tx,avD av,dWr nm,dWr nm,dNm]) (d5 rfl (y8 (c7 ae8 (c7 ae8 (c7 ae8 (c7 ae8 f4)))) rfl) rfl) ?_
  refine .next (r':=fL [x0,nI kind,dTx tx,avD av,dWr nm,dWr nm,dNm,ba3 av nm 11]) (d5 rfl (w9 (c7 (g9 rfl) (c7 (ac1 (c8 rfl) (c8 rfl) hadd) f4)) (by rw [dv7];exact bm5 hav ha5 hnm)) rfl) ?_
  refine .next (r':=fL [x0,nI kind,dTx tx,avD av,dWr nm,dWr nm,dNm,ba3 av nm 11,kvV av kn nm F6]) (d5 rfl (df4 hav hkn hnm hinj hkt rfl rfl rfl) rfl) ?_
  refine .next (r':=fL [x0,nI kind,dTx tx,avD av,dWr nm,dWr nm,dNm,ba3 av nm 11,kvV av kn nm F6,nI (leF av kn 0),kvV av kn nm (F6 ++ [4,3,2,1,0])]) (aq7 (by decide) (w9 (c7 (g9 rfl) (c7 (ac1 (c8 rfl) (c8 rfl) hadd) (c7 (g9 rfl) f4))) (by rw [eh6];exact bv3 hav ha5 hkn hnm hinj hkt)) rfl) ?_
  obtain ⟨ro,hro,hrule⟩:=bp5 (kn:=kn) hav ha5 hnm hinj
  refine .skip (t_b rfl rfl (ac4 (l_e rfl (w9 (c7 (bi3 (c8 rfl) j5 (aq1 (i:=5) (by decide) (by simp))) (c7 (g9 rfl) f4)) (by rw [dv6];exact hrule))) (l_e rfl (cw7 (c7 (g9 rfl) (c7 (g9 rfl) f4)) rfl)) (cg4 ((hro.trans (List.reverse_perm [4,3,2,1,0])).append_left F6) fun j hj i hi=>ak2 hav hnm hinj ((by decide:∀ k∈F6 ++ [4,3,2,1,0],k < 11) j hj) ((by decide:∀ k∈F6 ++ [4,3,2,1,0],k < 11) i hi)))) ?_
  refine .next (d5 rfl (cv3 hav hkn hnm hinj 1 rfl rfl) rfl) ?_
  refine .next (d5 rfl (cv3 hav hkn hnm hinj 0 rfl rfl) rfl) ?_
  refine .next (r':=fL [x0,nI kind,dTx tx,avD av,dWr nm,dWr nm,dNm,ba3 av nm 11,kvV av kn nm F6,nI (leF av kn 0),kvV av kn nm (F6 ++ [4,3,2,1,0]),LS ((bs1 kn 1).map (d8 av nm)),LS ((bs1 kn 0).map (d8 av nm)),aa5 ((bs1 kn 1).map fun e=>(bs1 kn 0).map (wyN av nm e))]) (d5 rfl (w9 (c7 (g9 rfl) (c7 (g9 rfl) f4)) (by
    rw [dt9]
    refine bo2 hav ha5 hnm hinj (fun e he=>?_) (List.nodup_append.mpr ⟨ar6.filter _,ar6.filter _,fun x hx y hy q=>?_⟩)
    · rcases List.mem_append.mp he with q | q
      · exact ah9.mp (List.mem_filter.mp q).1
      · exact ah9.mp (List.mem_filter.mp q).1
    · exact absurd ((az0.mp hx).2.2.symm.trans ((congrArg kn q).trans (az0.mp hy).2.2)) (by decide))) rfl) ?_
  have em:∀ n,bk7 .Eq (nI n) (nI n)=some true:=fun n=>by rw [bl9,decide_eq_true rfl]
  have hs:=Nat.le_trans (ca7 (kn:=kn) 1) (show 6≤1000 by decide)
  exact .retN rfl (ds1 _) (cz2 (t_b rfl rfl (ac4 (l_e rfl (z9 (f8 (c8 rfl) l0) (cl0 hs))) (l_e rfl (z9 (f8 (c8 rfl) l0) (cl0 hs))) (em _))) (cz2 (t_b rfl rfl (ac4 (l_e rfl (w9 (c7 (g9 rfl) (c7 (y8 f4 rfl) f4)) (by rw [dy4];exact dm8 hav ha5 hkn hnm hinj))) (c8 rfl) (em _))) cz6))
end
theorem en9 (xs:List Int) (hxs:xs.length≤63):cu4 [.list (xs.map .int)]=some (.bool true):=by
  obtain ⟨kind,ts,av,hk,h6,hn,ht,hav,ha5,hdr⟩:=bk4 xs hxs
  have hnw:∀ j,nmA kind ts (j+4)=wr kind (ts.getD j 0):=fun j=>if_neg (Nat.not_lt.mpr (Nat.le_add_left 4 j))
  have htD:(ts.map fun t=>PyData.str (ai3 t))=(List.range 6).map fun j=>.str (ai3 (ts.getD j 0)):=by
    refine List.ext_getElem (by simp [h6]) fun i h1 h2=>?_
    have:i < ts.length:=by simpa using h1
    simp [List.getD_eq_getElem?_getD,List.getElem?_eq_getElem this]
  rw [htD] at hdr
  refine dt8 (kn:=fun k=>if (nmA kind ts (k - 5+4) == ai3 (ts.getD (k - 5) 0))=true then 0 else 1) (nm:=nmA kind ts) (tx:=fun j=>ai3 (ts.getD j 0)) hav ha5 (fun k=>?_) (ef9 hk) (fun i j=>dz4 hk h6 hn ht) (fun j ξ=>rfl) hdr (fun j=>?_) (fun j=>?_) rfl
  · split <;> decide
  · rw [hnw];exact (bn0 hk _).1
  · rw [hnw];exact (bn0 hk _).2.1
end
section
open PySem.Calls PySem.SeqAt
section
variable {w:World} {h0:Heap} {B0 B:FM} {sc:Scope} {env:Env} {r:Rho} {Y:Addr→Prop} {A:Around} {E:Value→Shared→Prop} {s:Shared}
theorem Sim.storeLt {x:Str} {i:Nat} {d:D} {v:Value} {Q:Unit→Shared→Prop} (S:Sim prog w h0 B0 env sc r B Y s.heap) (ek:t9 env sc) (hs:d6 sc x=some i) (hx:sc.names.lookup x=some .local) (hv:Rd prog w B d v)
    (h:∀ h' tk a,s.toks < tk→isOwn env sc a→Heap.SameBut a s.heap h'→Sim prog w h0 B0 env sc (r.set i (some (.fr,d))) B Y h'→(∀ y,y≠x→∀ u,At env s.heap y u→At env h' y u)→Q () { s with heap:=h',toks:=tk }) :
    wpAny (model prog w) A (storeName env x v) Q E s:=S.storeG ek hs (.inl hx) hv fun h' tk a ξ q=>h h' tk a (q hx)
end
section
variable {w:World} {h₀:Heap} {mg mb:Str→Option Value} {k:Nat} {calls:String→List D→Option D} {fresh:String→Bool} {sc:Scope}
theorem ds8 {f:String} {d:DefRec} {x1:Str} {n:Nat} {ir:List SI} (G:Glb h₀ mg mb) (H:bs9 mg h₀ d) (hB:cn2 d f [0] n=true) (hp:cc4 d=[x1]) (hx:d.scope.names.lookup x1=some .local) (hbind:bw1 d 1)
    (hbody:aa4 prog w h₀ k calls fresh d.scope d.body ir) {A:Around} {s:Shared} {B:FM} {v:Value} {dv e:D} {fa:Addr} (rm:Rm (k+1) A) (stk:Stk A B s.heap) (kp:i9 B s.heap) (hb:∀ a o,h₀.get? a=some o→B a=some o) (hr:Rd prog w B dv v) (hs:ad2 calls fresh n [0] none ir [dv]=some e) (hfa:mg d.name=some (.ref fa)) :
    codeAny (model prog w) A (.call (.ref fa) ⟨[v],[]⟩) (fun r s'=>∃ u,r = .ok (.ret u)∧EvP prog w B s e u s') s:=by
  have T:=cg0 hB
  obtain ⟨fa',o,pm,code,doc,h1,h2,h3,h4⟩:=H
  rw [hfa] at h1
  cases h1
  have pa:=T.pars
  rw [hp] at pa
  cases pa with
  | cons p1 pa=>
  obtain ⟨hsl,_⟩:=e9 p1
  obtain ⟨_,hs⟩:=g6 hs
  obtain ⟨⟨fl,r2⟩,he,hs⟩:=a6 hs
  obtain ⟨bb,rfl⟩:=bt5 hs
  have e0:ct4 n [0] none [dv]=(al6 d.scope).set 0 (some (.fr,dv)):=by rw [bb3 T];rfl
  rw [e0] at he
  refine ce4 G h2 h3 h4 T.fs T.co T.gen rm hb (Gr.refl kp) stk (fun Q E hQ=>?_) (bx3 (is:=[0]) (ds:=[dv]) rfl) hbody he fun v s' q=>⟨v,rfl,cq8 q⟩
  rw [hbind pm code doc [v] rfl,hp]
  refine wpAny_pure (hQ _ s B (Gr.refl kp) (.refl s) fun env A E s2 Q ek S old ξ ξ hQ2=>?_)
  show wpAny (model prog w) A (forIn [(x1,v)] PUnit.unit _) Q E s2
  rw [List.forIn_cons]
  refine wpAny_bind (wpAny_bind (S.storeLt ek hsl hx hr fun h' tk a htk ha hsb S' hoth=>wpAny_pure ?_))
  dsimp only
  rw [List.forIn_nil]
  exact wpAny_pure (hQ2 h' tk (Nat.le_of_lt htk) (Nat.lt_of_le_of_lt (Nat.zero_le _) htk) S')
end
end
section
open PySem.Calls PySem.SeqAt
section
variable {w:World} {h₀:Heap} {mg mb:Str→Option Value} {k:Nat}
theorem ch0:∃ x1:Str,cc4 (i0 P2 36)=[x1]∧(i0 P2 36).scope.names.lookup x1=some .local:=⟨_,rfl,by kernel_rfl⟩
theorem eq4 (G:Glb h₀ mg mb) (H:am5 mg h₀) {A:Around} {s:Shared} {B:FM} {v:Value} {dv e:D} {fa:Addr} (rm:Rm 8 A) (stk:Stk A B s.heap) (kp:i9 B s.heap) (hb:∀ a o,h₀.get? a=some o→B a=some o) (hr:Rd prog w B dv v) (hs:cu4 [dv]=some e) (hfa:mg (i0 P2 36).name=some (.ref fa)) :
    codeAny (model prog w) A (.call (.ref fa) ⟨[v],[]⟩) (fun r s'=>∃ u,r = .ok (.ret u)∧EvP prog w B s e u s') s:=by
  obtain ⟨x1,hp,hx⟩:=ch0
  exact ds8 (f:="law") G (H 36 (by decide)) (by kernel_rfl) hp hx (au7 fun ξ ξ ξ ξ=>by kernel_rfl) (dt3 G (l2d (k:=0) G H)) rm stk kp hb hr hs hfa
end
end
section
noncomputable abbrev P2x:Program:=PySem.Challenge.pw_rt0078_01
noncomputable def al8:Program:={ P2x with main:={ P2x.main with body:=[0,2,4,6,7,9,11,13,14,15,16,18,20,21,22,23,24,25,27,28,29,30,31,32,33,34,35,36].filterMap fun i=>P2x.main.body[i]? } }
theorem ev9:PySem.Challenge.rw_rt0078_01.wellSaid=true:=by
  first
    | (delta OpenLaw.wellSaid OpenRow.wellSaid OpenRow.partSaid looksOpen
       rewrite [Fast.te8326940854005059898, Fast.te17119622794617984870, Fast.te8377067652309620493]
       repeat' with_reducible refine Bool.and_eq_true_iff.mpr ⟨?_, ?_⟩
       all_goals decide +kernel)
    | kernel_rfl
noncomputable abbrev Xt2:Shared→Bool:=fun s=>xlAt al8 [] s && recOk (RowW.records PySem.Challenge.rw_rt0078_01.row.toRowW) s
theorem ev8:LeftO P2x al8 [] Xt2 (Hook.obs Hook.none) (Hook.val Hook.none) 2956:=fun w=>by
  first
    | (delta openEnds fencedOpening topFrom
       rewrite [Fast.te4187177175401517315, Fast.te10274390034422433532, Fast.te14364793385576792824, Fast.te1435165496053646825, Fast.te14289696077712309145, Fast.te14082659384304107361]
       kernel_rfl)
    | kernel_rfl
theorem es3:(chainsOk al8 && opensWell P2x && (frees PySem.Challenge.rw_rt0078_01.row.toRowW && PySem.Challenge.rw_rt0078_01.row.within.isEmpty))=true:=by kernel_rfl
theorem ew0:∀ i∈[9,13,14,15,16,18,21,22,23,24,25,27,28,29,30,31,32,33,34,35,36],i0 P2 i∈recsOf al8:=by
  intro i hi
  simp only [List.mem_cons,List.not_mem_nil,or_false] at hi
  rcases hi with rfl | rfl | rfl | rfl | rfl | rfl | rfl | rfl | rfl | rfl | rfl | rfl | rfl | rfl | rfl | rfl | rfl | rfl | rfl | rfl | rfl
  · exact List.mem_of_find?_eq_some (p:=fun d=>d.name == (i0 P2 9).name) (by kernel_rfl)
  · exact List.mem_of_find?_eq_some (p:=fun d=>d.name == (i0 P2 13).name) (by kernel_rfl)
  · exact List.mem_of_find?_eq_some (p:=fun d=>d.name == (i0 P2 14).name) (by kernel_rfl)
  · exact List.mem_of_find?_eq_some (p:=fun d=>d.name == (i0 P2 15).name) (by kernel_rfl)
  · exact List.mem_of_find?_eq_some (p:=fun d=>d.name == (i0 P2 16).name) (by kernel_rfl)
  · exact List.mem_of_find?_eq_some (p:=fun d=>d.name == (i0 P2 18).name) (by kernel_rfl)
  · exact List.mem_of_find?_eq_some (p:=fun d=>d.name == (i0 P2 21).name) (by kernel_rfl)
  · exact List.mem_of_find?_eq_some (p:=fun d=>d.name == (i0 P2 22).name) (by kernel_rfl)
  · exact List.mem_of_find?_eq_some (p:=fun d=>d.name == (i0 P2 23).name) (by kernel_rfl)
  · exact List.mem_of_find?_eq_some (p:=fun d=>d.name == (i0 P2 24).name) (by kernel_rfl)
  · exact List.mem_of_find?_eq_some (p:=fun d=>d.name == (i0 P2 25).name) (by kernel_rfl)
  · exact List.mem_of_find?_eq_some (p:=fun d=>d.name == (i0 P2 27).name) (by kernel_rfl)
  · exact List.mem_of_find?_eq_some (p:=fun d=>d.name == (i0 P2 28).name) (by kernel_rfl)
  · exact List.mem_of_find?_eq_some (p:=fun d=>d.name == (i0 P2 29).name) (by kernel_rfl)
  · exact List.mem_of_find?_eq_some (p:=fun d=>d.name == (i0 P2 30).name) (by kernel_rfl)
  · exact List.mem_of_find?_eq_some (p:=fun d=>d.name == (i0 P2 31).name) (by kernel_rfl)
  · exact List.mem_of_find?_eq_some (p:=fun d=>d.name == (i0 P2 32).name) (by kernel_rfl)
  · exact List.mem_of_find?_eq_some (p:=fun d=>d.name == (i0 P2 33).name) (by kernel_rfl)
  · exact List.mem_of_find?_eq_some (p:=fun d=>d.name == (i0 P2 34).name) (by kernel_rfl)
  · exact List.mem_of_find?_eq_some (p:=fun d=>d.name == (i0 P2 35).name) (by kernel_rfl)
  · exact List.mem_of_find?_eq_some (p:=fun d=>d.name == (i0 P2 36).name) (by kernel_rfl)
noncomputable def biL:List (Str×Value):=[("len",.builtin "len"),("sorted",.builtin "sorted"),("min",.builtin "min"),("max",.builtin "max"),("sum",.builtin "sum"),("divmod",.builtin "divmod"),("isinstance",.builtin "isinstance"),
    ("range",.type "range"),("enumerate",.type "enumerate"),("zip",.type "zip"),("tuple",.type "tuple"),("map",.type "map"),("set",.type "set"),("bytes",.type "bytes"),("type",.type "type"),("issubclass",.builtin "issubclass"),("str",.type "str"),("IndexError",.type "IndexError")]
theorem el3:(biL.all fun p=>!(startupNames ++ looseW al8 [] ++ (recsOf al8).map (·.name) ++ (litsOf al8).map (·.1) ++ (clssOf al8 (looseW al8 [])).map (·.name)).contains p.1)=true:=by decide +kernel
theorem eg5:∀ p∈biL,p.1≠"__name__"∧bootBuiltins p.1=some p.2:=by
  intro p hp
  simp only [biL,List.mem_cons,List.not_mem_nil,or_false] at hp
  rcases hp with rfl | rfl | rfl | rfl | rfl | rfl | rfl | rfl | rfl | rfl | rfl | rfl | rfl | rfl | rfl | rfl | rfl | rfl <;> exact ⟨by decide +kernel,by kernel_rfl⟩
theorem ew1 {mean:ExcName→Option Value} {mg mb:Str→Option Value} {h:Heap} (T:Top al8 (looseW al8 []) mean mg mb h):Glb h mg mb:=by
  refine ⟨T.g,T.b,T.nolimit,fun x v hm=>?_⟩
  have hm':(x,v)∈biL:=hm
  have h1:=List.all_eq_true.mp el3 _ hm'
  obtain ⟨h2,h3⟩:=eg5 _ hm'
  have h4:x ∉ (startupNames ++ looseW al8 [] ++ (recsOf al8).map (·.name) ++ (litsOf al8).map (·.1) ++ (clssOf al8 (looseW al8 [])).map (·.name)):=fun q=>by
    rw [List.contains_iff_mem.mpr q] at h1;cases h1
  simp only [List.mem_append,not_or] at h4
  obtain ⟨⟨⟨⟨a1,a2⟩,a3⟩,a4⟩,a5⟩:=h4
  exact ⟨T.free x a1 a2 a3 a4 a5,(T.builtins x h2).trans h3⟩
end
end Mine
theorem PySem.Challenge.cw_rt0078_01_holds : PySem.Challenge.rw_rt0078_01.Holds := by
  refine holds_law Mine.ev9 fun said => ?_
  refine holds_open (q := Mine.al8) (loose := []) (Xt := Mine.Xt2) (XP := XL Mine.al8 []) (Yf := Hook.obs Hook.none) (Ya := Hook.val Hook.none) (YP := Hook.says Hook.none) (N := 2956) Mine.ev8 (Hook.of _) (Hook.keeps _) (fun s e => xl_of s (Bool.and_eq_true_iff.mp e).1) XL.keeps (by rfl) (by rfl) (by rfl) (fun s e => recFacts_of (Bool.and_eq_true_iff.mp e).2) (by rfl) said Mine.es3 ⟨rfl, rfl, rfl, rfl, rfl, by decide +kernel⟩ ?hw ?hc
  case hw => w_witness2
  intro w s₀ s₁ mg mb G Y fa o pm cd doc dV kV ho hd hcd hD hmg hg args vals as hpre hlay hrd hwl hlo
  refine Ground.open G ?_
  intro T B D TE TW
  wrow_args hpre hlay hrd hwl hlo
  rename_i xs hs _ _ _ _ _ _ l vs _ hL _ _ _ hI _ hlen _
  have H : Mine.am5 mg s₁.heap := fun i hi => let ⟨a, o, pm, code, doc, h1, h2, h3, h4⟩ := T.fn _ (Mine.ew0 i hi); ⟨a, o, pm, code, doc, h1, h2, h3, h4⟩
  have Gl := Mine.ew1 T
  obtain ⟨ob, hob, hcls, nn, hdat⟩ := hL
  have hxs : xs.length ≤ 63 := by omega
  have hr : Mine.Rd Mine.prog w (fun a => s₁.heap.get? a) (.list (xs.map .int)) (.ref l) := Mine.cy1.mpr ⟨l, ob, vs, rfl, hob, ⟨hcls, nn, hdat⟩, Mine.dz0 hI⟩
  have key := Mine.eq4 (w := w) (A := callerA) (s := s₁) (B := fun a => s₁.heap.get? a) Gl H ⟨rfl, by decide, by decide⟩ ⟨[], rfl, fun e he => by cases he⟩ (fun a o e => e) (fun a o e => e) hr (Mine.en9 xs hxs) hmg
  refine wpAny_call (codeAny_mono key fun r s' q => ?_)
  obtain ⟨u, rfl, B', g, hu, m⟩ := q
  rw [Mine.cx1] at hu
  subst hu
  refine ⟨.inl ⟨.bool true, .bool true, [], rfl, fun _ => ?_, .bool true, ?_, fun _ => ⟨by simp, by simp⟩⟩, .of_keep fun a o e => g.keep a o (g.le a o e), m.os, .of_eq (m.gens.trans hg)⟩
  · first | rfl | wrow_none_raised | trace_state
  · first | rfl | wrow_post | trace_state
