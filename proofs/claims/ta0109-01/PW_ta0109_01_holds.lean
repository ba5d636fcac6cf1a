import PyProof.Rows.All
import Wide.All
import OpenK.AllK
import Wide.FinOn
import Lean
import PySem.Challenge.RW_ta0109_01
open PySem PySem.W PyProof.Rows
set_option Elab.async false
set_option linter.all false
set_option genSizeOf false
set_option genInjectivity false
namespace Mine
theorem ai {α:Type} {a:α} {P:Prop} (h:none=some a):P:=nomatch h
theorem sm {α:Type} {a b:α} (h:some a=some b):a=b:=Option.some.inj h
theorem ae {α β:Type} {o:Option α} {f:α->Option β} {r:β} {P:Prop} (h:o.bind f=some r) (k:∀ a,o=some a->f a=some r->P):P:=by
 cases o with
 |none=>exact ai h
 |some a=>exact k a rfl h
theorem ay {α β:Type} {o:Option α} {f:α->β} {r:β} {P:Prop} (h:o.map f=some r) (k:∀ a,o=some a->f a=r->P):P:=by
 cases o with
 |none=>exact ai h
 |some a=>exact k a rfl (sm h)
theorem gd {α:Type} {c:Prop} [i:Decidable c] {o:Option α} {r:α} {P:Prop} (h:(if c then o else none)=some r) (k:c->o=some r->P):P:=by
 cases i with
 |isTrue hc=>exact k hc h
 |isFalse hc=>exact ai h
theorem fD {α:Type} {c:Prop} [i:Decidable c] {o:Option α} {r:α} {P:Prop} (h:(if c then none else o)=some r) (k:¬ c->o=some r->P):P:=by
 cases i with
 |isTrue hc=>exact ai h
 |isFalse hc=>exact k hc h
theorem ad {α β:Type} {o:Option α} {f:α->Option β} {a:α} {r:Option β} (h:o=some a) (k:f a=r):o.bind f=r:=by rw [h];exact k
theorem aQ {α β:Type} {o:Option α} {f:α->β} {a:α} {b:β} (h:o=some a) (k:f a=b):o.map f=some b:=by rw [h,<- k];rfl
theorem aq {α:Type} {c:Prop} [Decidable c] {o:Option α} {r:Option α} (hc:c) (k:o=r):(if c then o else none)=r:=by rw [if_pos hc];exact k
theorem gH {α:Type} {c:Prop} [Decidable c] {o:Option α} {r:Option α} (hc:¬ c) (k:o=r):(if c then none else o)=r:=by rw [if_neg hc];exact k
theorem aa {a b:Bool} {P:Prop} (h:(a&&b)=true) (k:a=true->b=true->P):P:=by
 cases a with
 |false=>cases h
 |true=>exact k rfl h
noncomputable def one? {α:Type}:List α->Option α
 | []=>none
 |a :: r=>match r with
  | []=>some a
  |_ :: _=>none
noncomputable def two? {α:Type}:List α->Option (α×α)
 | []=>none
 |a :: r=>(one? r).map λb=>(a,b)
theorem lP {α:Type} {P:List α->Prop} {l:List α} {a:α} (h:one? l=some a) (k:P [a]):P l:=by
 cases l with
 |nil=>exact ai h
 |cons b r =>
  cases r with
  |nil=>exact sm h▸k
  |cons _ _=>exact ai h
theorem iM {α:Type} {P:List α->Prop} {l:List α} {p:α×α} (h:two? l=some p) (k:P [p.1,p.2]):P l:=by
 cases l with
 |nil=>exact ai h
 |cons b r=>exact ay h λa h1 h2=>lP (P:=λr=>P (b :: r)) h1 (by rw [<- h2] at k;exact k)
inductive D where
 |none
 |bool (b:Bool)
 |int (i:Int)
 |str (s:Str)
 |list (xs:List D)
 |tup (xs:List D)
noncomputable def D.scalar:D->Bool
 | .none=>true
 | .bool _=>true
 | .int _=>true
 | .str _=>true
 | .list _=>false
 | .tup _=>false
noncomputable def D.int? : D->Option Int
 | .int i=>some i
 |_=>Option.none
noncomputable def D.str? : D->Option Str
 | .str i=>some i
 |_=>Option.none
noncomputable def D.list? : D->Option (List D)
 | .list i=>some i
 |_=>Option.none
noncomputable def D.tup? : D->Option (List D)
 | .tup i=>some i
 |_=>Option.none
noncomputable def D.bool? : D->Option Bool
 | .bool i=>some i
 |_=>Option.none
noncomputable def D.nil? : D->Bool
 | .none=>true
 |_=>false
theorem aS {P:D->Prop} {d:D} {i:Int} (h:d.int? = some i) (k:P (.int i)):P d:=by
 cases d with
 |int j=>exact sm h▸k
 |_=>exact ai h
theorem ez {P:D->Prop} {d:D} {i:Str} (h:d.str? = some i) (k:P (.str i)):P d:=by
 cases d with
 |str j=>exact sm h▸k
 |_=>exact ai h
theorem bH {P:D->Prop} {d:D} {i:List D} (h:d.list? = some i) (k:P (.list i)):P d:=by
 cases d with
 |list j=>exact sm h▸k
 |_=>exact ai h
theorem iT {P:D->Prop} {d:D} {i:Bool} (h:d.bool? = some i) (k:P (.bool i)):P d:=by
 cases d with
 |bool j=>exact sm h▸k
 |_=>exact ai h
theorem hS {α:Type} {o:Option α} {f:α->Bool} {P:Prop} (h:o.any f=true) (k:∀ a,o=some a->f a=true->P):P:=by
 cases o with
 |none=>exact nomatch h
 |some a=>exact k a rfl h
theorem lK {P:D->Prop} {d:D} (h:d.nil? = true) (k:P .none):P d:=by
 cases d with
 |none=>exact k
 |_=>exact nomatch h
theorem my {a b:List D} (h:D.tup a=D.tup b):a=b:=sm (congrArg D.tup? h)
theorem vU {a b:List D} (h:D.list a=D.list b):a=b:=sm (congrArg D.list? h)
theorem BN {a b:Int} (h:D.int a=D.int b):a=b:=sm (congrArg D.int? h)
theorem eA {P:D->Prop} {d:D} {i:List D} (h:d.tup? = some i) (k:P (.tup i)):P d:=by
 cases d with
 |tup j=>exact sm h▸k
 |_=>exact ai h
noncomputable def allEq (f:D->D->Option Bool):List D->List D->Option Bool
 | [],[]=>some true
 |x :: xs,y :: ys=>(f x y).bind λa=>(allEq f xs ys).map λb=>a&&b
 | [],_ :: _=>none
 |_ :: _,[]=>none
noncomputable def eqS (r:List D->List D->Option Bool) (a b:D):Option Bool:=match a with
 | .none=>if b.nil? then some true else none
 | .bool a=>b.bool?.map (a == ·)
 | .int a=>b.int?.map (a == ·)
 | .str a=>b.str?.map (a == ·)
 | .list xs=>b.list?.bind λys=>if xs.length=ys.length then r xs ys else some false
 | .tup xs=>b.tup?.bind λys=>if xs.length=ys.length then r xs ys else none
noncomputable def eqN:Nat->D->D->Option Bool
 |0=>eqS λZz Zz=>none
 |n+1=>eqS (allEq (eqN n))
noncomputable def eqD (a b:D):Option Bool:=eqN 4 a b
inductive BF where
 |len |ord |chr |sum |max2 |min2 |max1 |hex |divmod
inductive MF where
 |split |startswith |endswith |find3 |lower |join |count |bitlen
inductive IK where
 |plain |range1 |range2 |enum |rev
inductive T where
 |var (i:Nat)
 |glob (x:Str)
 |cst (d:D)
 |bin (op:Operator) (a b:T)
 |un (op:UnaryOp) (a:T)
 |cmp (op:CmpOp) (a b:T)
 |bop (op:BoolOp) (a b:T)
 |ite (c a b:T)
 |nil
 |cons (a r:T)
 |list (es:T)
 |tup (es:T)
 |idx (a i:T)
 |sli (a l u st:T)
 |comp (elt:T) (tg:List Nat) (one:Bool) (k:IK) (it it2 cond:T) (locs:List Nat)
 |lrange (a b:T)
 |call (f:Str) (args:T)
 |callb (f:Str) (args:T)
 |blt (f:BF) (args:T)
 |meth (m:MF) (o args:T)
 |inset (x:Str) (a:T)
 |dget (x:Str) (a:T) (dflt:T)
inductive S where
 |skip
 |seq (a b:S)
 |asg (i:Nat) (x:Bool) (e:T)
 |unp (is:List Nat) (e:T)
 |multi (is:List (Nat×Bool)) (es:T)
 |aug (i:Nat) (op:Operator) (e:T)
 |app (i:Nat) (e:T)
 |ext (i:Nat) (e:T)
 |revm (i:Nat)
 |del (i:Nat) (e:T)
 |set2 (i:Nat) (a:T) (j:Nat) (b es:T)
 |ifs (c:T) (a b:S)
 |fors (tg:List Nat) (one:Bool) (k:IK) (it it2:T) (body els:S)
 |ret (e:T)
 |retv (i:Nat)
 |brk
 |asrt (e:T)
 |bad
noncomputable abbrev MEnv:=List (Option (D×Bool))
noncomputable abbrev FEnv:=Str->List D->Option D
structure ag where
 const:Str->Option D
 iset:Str->Option (List Int)
 idict:Str->Option (List (Int×Str))
@[irreducible] noncomputable def BIG:Nat:=2 ^ 4000
noncomputable def small (a:Int):Bool:=decide (a.natAbs<BIG)
noncomputable def idxOk (i:Int):Bool:=decide (i.natAbs<4611686018427387904)
noncomputable def sizeOk (n:Nat):Bool:=decide (n<=1048576)
noncomputable def truthy:D->Option Bool
 | .none=>some false
 | .bool b=>some b
 | .int i=>some (!(i==0))
 | .str s=>if sizeOk s.length then some (!(s.length==0)) else none
 | .list xs=>if sizeOk xs.length then some (!xs.isEmpty) else none
 | .tup xs=>if sizeOk xs.length then some (!xs.isEmpty) else none
noncomputable def rep (x:Str):Nat->Str
 |0=>Str.empty
 |n+1=>x++rep x n
noncomputable def ii {α:Type} (f:Int->Int->Option α) (x y:D):Option α:=x.int?.bind λa=>y.int?.bind λb=>f a b
theorem pK {α:Type} {f:Int->Int->Option α} {x y:D} {d:α} {P:D->D->Prop} (h:ii f x y=some d) (k:∀ a b,f a b=some d->P (.int a) (.int b)):P x y :=
 ae h λa h1 h=>ae h λb h2 h=>aS (P:=(P · y)) h1 (aS (P:=P (.int a)) h2 (k a b h))
noncomputable def addD (x y:D):Option D:=match x with
 | .int a=>y.int?.map λb=> .int (a+b)
 | .str a=>y.str?.bind λb=>if sizeOk a.length&&sizeOk b.length then some (.str (a++b)) else none
 | .list a=>y.list?.bind λb=>if sizeOk a.length&&sizeOk b.length then some (.list (a++b)) else none
 |_=>none
noncomputable def mulD (x y:D):Option D:=y.int?.bind λb=>match x with
 | .int a=>if small a&&small b then some (.int (a * b)) else none
 | .str a=>if sizeOk (a.length * b.toNat)&&idxOk b then some (.str (rep a b.toNat)) else none
 | .list a=>if sizeOk (a.length * b.toNat)&&idxOk b then some (.list ((List.replicate b.toNat a).flatten)) else none
 |_=>none
noncomputable def binD (op:Operator) (x y:D):Option D:=match op with
 | .Add=>addD x y
 | .Sub=>ii (λa b=>some (.int (a - b))) x y
 | .Mult=>mulD x y
 | .FloorDiv=>ii (λa b=>if b==0 || !small b then none else some (.int (a.fdiv b))) x y
 | .Mod=>ii (λa b=>if b==0 then none else some (.int (a.fmod b))) x y
 | .Pow=>ii (λa b=>if decide (0<=b)&&decide (b.toNat<=1000000)&&decide (a.natAbs<18446744073709551616) then some (.int (a ^ b.toNat)) else none) x y
 | .LShift=>ii (λa b=>if decide (0<=b)&&decide (b.toNat<=1000000)&&small a then some (.int (a * 2 ^ b.toNat)) else none) x y
 | .RShift=>ii (λa b=>if decide (0<=b) then some (.int (a.fdiv (2 ^ b.toNat))) else none) x y
 | .BitAnd=>ii (λa b=>some (.int (Builtin.bitAnd a b))) x y
 | .BitOr=>ii (λa b=>some (.int (Builtin.bitOr a b))) x y
 | .BitXor=>ii (λa b=>some (.int (Builtin.bitXor a b))) x y
 |_=>none
noncomputable def unD (op:UnaryOp) (d:D):Option D:=match op with
 | .Not=>(truthy d).map λb=> .bool (!b)
 | .USub=>d.int?.map λa=> .int (-a)
 | .Invert=>d.int?.map λa=> .int (Builtin.bitNot a)
 | .UAdd=>none
noncomputable def memD (d:D):List D->Option Bool
 | []=>some false
 |x :: xs=>(eqD x d).bind λa=>(memD d xs).map λb=>a || b
noncomputable def strIn (y x:Str):Bool:= !(Builtin.Str.occurrences x y 0 x.length 1).isEmpty
noncomputable def isD (a b:D):Option Bool:=match b with
 | .none=>some a.nil?
 | .bool c=>some (match a with | .bool e=>e==c |_=>false)
 |_=>none
noncomputable def inD (d b:D):Option Bool:=match b with
 | .str x=>d.str?.map (strIn · x)
 | .list xs=>memD d xs
 | .tup xs=>memD d xs
 |_=>none
noncomputable def cmpD (op:CmpOp) (a b:D):Option Bool:=match op with
 | .Eq=>eqD a b
 | .NotEq=>(eqD a b).map (!·)
 | .Lt=>ii (λa b=>some (decide (a<b))) a b
 | .LtE=>ii (λa b=>some (decide (a<=b))) a b
 | .Gt=>ii (λa b=>some (decide (b<a))) a b
 | .GtE=>ii (λa b=>some (decide (b<=a))) a b
 | .In=>inD a b
 | .NotIn=>(inD a b).map (!·)
 | .Is=>isD a b
 | .IsNot=>(isD a b).map (!·)
noncomputable def idxL (xs:List D) (i:Int):Option D :=
 if idxOk i then
  if 0<=i then xs[i.toNat]? else if 0<=i+xs.length then xs[(i+xs.length).toNat]? else none
 else none
noncomputable def idxD (a i:D):Option D:=match a with
 | .list xs=>i.int?.bind (idxL xs)
 | .tup xs=>i.int?.bind (idxL xs)
 | .str x=>i.int?.bind (idxL (x.cps.toList.map λc=> .str ⟨#[c]⟩))
 |_=>none
noncomputable def part? : D->Option (Option Int)
 | .none=>some none
 | .int i=>if idxOk i then some (some i) else none
 |_=>none
noncomputable def pickL {α:Type} (xs:List α) (lo hi st:Option Int):List α :=
 (sliceRange (sliceBounds lo hi st xs.length).1 (sliceBounds lo hi st xs.length).2.1 (sliceBounds lo hi st xs.length).2.2).filterMap (xs[·]?)
noncomputable def sliD (a l u st:D):Option D :=
 (part? l).bind λl=>(part? u).bind λu=>(part? st).bind λst =>
  if st==some 0 then none else match a with
  | .list xs=>if sizeOk xs.length then some (.list (pickL xs l u st)) else none
  | .str x=>if sizeOk x.length then some (.str ⟨(pickL x.cps.toList l u st).toArray⟩) else none
  |_=>none
noncomputable def ints? : List D->Option (List Int)
 | []=>some []
 |d :: r=>d.int?.bind λi=>(ints? r).map (i :: ·)
noncomputable def strs? : List D->Option (List Str)
 | []=>some []
 |d :: r=>d.str?.bind λi=>(strs? r).map (i :: ·)
noncomputable def cntD (d:D):List D->Option Nat
 | []=>some 0
 |x :: xs=>(eqD x d).bind λb=>(cntD d xs).map λn=>n+if b then 1 else 0
noncomputable def hexS (i:Int):Str:=PySem.baseText "0x" 16 i
noncomputable def lenD (d:D):Option D:=match d with
 | .list xs=>if sizeOk xs.length then some (.int xs.length) else none
 | .str x=>if sizeOk x.length then some (.int x.length) else none
 |_=>none
noncomputable def bestD (f:Int->Int->Int) (d:D):Option D:=d.list?.bind λxs=>(ints? xs).bind λns=>match ns with
 | []=>none
 |n :: ns=>if sizeOk ns.length then some (.int (ns.foldl f n)) else none
noncomputable def bltD (f:BF) (ds:List D):Option D:=match f with
 | .len=>(one? ds).bind lenD
 | .ord=>(one? ds).bind λd=>d.str?.bind λx=>if x.length==1 then some (.int (x.cps.getD 0 0:Nat)) else none
 | .chr=>(one? ds).bind λd=>d.int?.bind λi=>if decide (0<=i)&&decide (i.toNat<=1114111) then some (.str ⟨#[i.toNat]⟩) else none
 | .sum=>(one? ds).bind λd=>d.list?.bind λxs=>if sizeOk xs.length then (ints? xs).map λns=> .int ns.sum else none
 | .max2=>(two? ds).bind λp=>ii (λa b=>some (.int (if b > a then b else a))) p.1 p.2
 | .min2=>(two? ds).bind λp=>ii (λa b=>some (.int (if b<a then b else a))) p.1 p.2
 | .max1=>(one? ds).bind (bestD λa b=>if b > a then b else a)
 | .hex=>(one? ds).bind λd=>d.int?.bind λi=>if decide (i.natAbs<18446744073709551616) then some (.str (hexS i)) else none
 | .divmod=>(two? ds).bind λp=>ii (λa b=>if b==0 || !small b then none else some (.tup [.int (a.fdiv b),.int (a.fmod b)])) p.1 p.2
noncomputable def findIn (x y:Str) (lo hi:Int):Option Int :=
 if idxOk lo&&idxOk hi&&decide (0<=lo)&&decide (0<=hi) then
  some (match Builtin.Str.occurrences x y lo.toNat (min hi.toNat x.length) 1 with
   |i :: _=>(i:Int)
   | []=> -1)
 else none
noncomputable def ss {α:Type} (f:Str->Str->Option α) (d:D) (ds:List D):Option α:=d.str?.bind λx=>(one? ds).bind λe=>e.str?.bind λy=>f x y
noncomputable def findD3 (x:Str):List D->Option D
 | []=>none
 |y :: r=>y.str?.bind λy=>(two? r).bind λp=>p.1.int?.bind λlo=>p.2.int?.bind λhi=>(findIn x y lo hi).map .int
noncomputable def joinD (x:Str) (d:D):Option D:=d.list?.bind λys=>(strs? ys).bind λts=>if sizeOk (x.length * ts.length+(ts.map (·.length)).sum) then some (.str (Txt.join x ts)) else none
noncomputable def methD (f:MF) (d:D) (ds:List D):Option D:=match f with
 | .split=>ss (λx y=>if sizeOk x.length&&decide (0<y.length) then some (.list ((Txt.split x y).map .str)) else none) d ds
 | .startswith=>ss (λx y=>some (.bool (Txt.startswith x y))) d ds
 | .endswith=>ss (λx y=>some (.bool (Txt.endswith x y))) d ds
 | .find3=>d.str?.bind λx=>findD3 x ds
 | .lower=>d.str?.bind λx=>if ds.isEmpty&&sizeOk x.length then some (.str (Txt.lower x)) else none
 | .join=>d.str?.bind λx=>(one? ds).bind (joinD x)
 | .count=>d.list?.bind λxs=>(one? ds).bind λe=>if sizeOk xs.length then (cntD e xs).map λ(n:Nat)=> .int (n:Int) else none
 | .bitlen=>d.int?.bind λi=>if ds.isEmpty then some (.int (Builtin.Int.intBits i)) else none
noncomputable def setE (O:MEnv) (i:Nat) (d:D) (x:Bool):MEnv:=O.set i (some (d,x))
noncomputable def clearE (O:MEnv) (is:List Nat):MEnv:=is.foldl (λO i=>O.set i none) O
noncomputable def getE (O:MEnv) (i:Nat):Option (D×Bool):=(O[i]?).join
noncomputable def setAll (O:MEnv):List Nat->List D->Option MEnv
 | [],[]=>some O
 |i :: is,d :: ds=>setAll (setE O i d false) is ds
 | [],_ :: _=>none
 |_ :: _,[]=>none
noncomputable def enumOk (one:Bool):IK->Bool
 | .enum=> !one
 |_=>true
noncomputable def isL:D->Bool
 | .list _=>true
 |_=>false
noncomputable def freshBin (op:Operator) (d:D):Bool:=match op with
 | .Add=>isL d
 | .Mult=>isL d
 |_=>false
noncomputable def freshSli (d:D):Bool:=isL d
noncomputable def freshM:MF->Bool
 | .split=>true
 |_=>false
noncomputable def freshT (t:T) (d:D):Bool:=match t with
 | .list _=>true
 | .lrange _ _=>true
 | .comp .. =>true
 | .bin op _ _=>freshBin op d
 | .sli .. =>freshSli d
 | .meth m _ _=>freshM m
 |_=>false
noncomputable def bindT (O:MEnv) (tg:List Nat) (one:Bool) (d:D):Option MEnv :=
 if one then (one? tg).map λi=>setE O i d false else d.tup?.bind λds=>setAll O tg ds
noncomputable def compL (f:D->Option (Option D)):List D->Option (List D)
 | []=>some []
 |x :: xs=>(f x).bind λo=>(compL f xs).map λys=>o.elim ys (· :: ys)
noncomputable def enumD (k:Nat):List D->List D
 | []=>[]
 |x :: xs=> .tup [.int k,x] :: enumD (k+1) xs
noncomputable def rangeD (a:Int):Nat->List D
 |0=>[]
 |n+1=> .int a :: rangeD (a+1) n
noncomputable def iterD (d:D):Option (List D):=match d with
 | .list xs=>if sizeOk xs.length then some xs else none
 | .tup xs=>if sizeOk xs.length then some xs else none
 | .str x=>if sizeOk x.length then some (x.cps.toList.map λc=> .str ⟨#[c]⟩) else none
 |_=>none
noncomputable def rngD (m n:Int):Option (List D):=if sizeOk (n - m).toNat&&idxOk n&&idxOk m then some (rangeD m (n - m).toNat) else none
noncomputable def feedD (k:IK) (o p:Option D):Option (List D):=match k with
 | .plain=>o.bind iterD
 | .range1=>o.bind λd=>d.int?.bind (rngD 0)
 | .range2=>o.bind λd=>d.int?.bind λm=>p.bind λe=>e.int?.bind (rngD m)
 | .enum=>o.bind λd=>(iterD d).map (enumD 0)
 | .rev=>o.bind λd=>d.list?.bind λxs=>if sizeOk xs.length then some xs.reverse else none
noncomputable def stops:BoolOp->Bool->Bool
 | .And,b=> !b
 | .Or,b=>b
variable (G:ag) (F:FEnv)
noncomputable def ev (O:MEnv) (b:Bool):T->Option D
 | .var i=>(getE O i).bind λp=>if p.2 && !b then none else some p.1
 | .glob x=>G.const x
 | .cst d=>if d.scalar then some d else none
 | .bin op a c=>(ev O true a).bind λx=>(ev O true c).bind λy=>binD op x y
 | .un op a=>(ev O true a).bind λx=>unD op x
 | .cmp op a c=>(ev O true a).bind λx=>(ev O true c).bind λy=>(cmpD op x y).map .bool
 | .bop op a c=>(ev O b a).bind λx=>(truthy x).bind λr=>cond (stops op r) (some x) (ev O b c)
 | .ite c a d=>(ev O true c).bind λx=>(truthy x).bind λr=>cond r (ev O b a) (ev O b d)
 | .nil=>some (.tup [])
 | .cons a r=>(ev O b a).bind λx=>(ev O b r).bind λy=>y.tup?.map λxs=> .tup (x :: xs)
 | .list es=>(ev O false es).bind λy=>y.tup?.bind λxs=>if sizeOk xs.length then some (.list xs) else none
 | .tup es=>(ev O false es).bind λy=>y.tup?.bind λxs=>if sizeOk xs.length then some (.tup xs) else none
 | .idx a i=>(ev O true a).bind λx=>(ev O true i).bind λy=>idxD x y
 | .sli a l u st=>(ev O true a).bind λx=>(ev O true l).bind λl=>(ev O true u).bind λu=>(ev O true st).bind λst=>sliD x l u st
 | .comp elt tg one k it it2 c locs=>if !enumOk one k then none else
   (feedD k (ev O true it) (ev O true it2)).bind λxs =>
    (compL (λd=>(bindT (clearE O locs) tg one d).bind λO'=>(ev O' true c).bind λx=>(truthy x).bind λr=>cond r ((ev O' false elt).map some) (some none)) xs).map .list
 | .lrange a c=>(ev O true a).bind λd=>d.int?.bind λm=>(ev O true c).bind λe=>e.int?.bind λn=>(rngD m n).map .list
 | .call f args=>(ev O false args).bind λy=>y.tup?.bind λds=>F f ds
 | .callb f args=>(ev O true args).bind λy=>y.tup?.bind λds=>(F f ds).bind λr=>if r.scalar then some r else none
 | .blt f args=>(ev O true args).bind λy=>y.tup?.bind λds=>bltD f ds
 | .meth m o args=>(ev O true o).bind λd=>(ev O true args).bind λy=>y.tup?.bind λds=>methD m d ds
 | .inset x a=>(ev O true a).bind λd=>d.int?.bind λi=>(G.iset x).map λl=> .bool (l.contains i)
 | .dget x a dflt=>(ev O true a).bind λd=>d.int?.bind λi=>(ev O true dflt).bind λd=>(G.idict x).bind λl =>
   if d.scalar then some ((l.lookup i).elim d .str) else none
noncomputable def isRange:IK->Bool
 | .range1=>true
 | .range2=>true
 |_=>false
noncomputable def evI (O:MEnv) (b:Bool) (k:IK) (it it2:T):Option (List D):=feedD k (ev G F O (b || isRange k) it) (ev G F O true it2)
inductive Out where
 |next |brk |ret (d:D)
noncomputable def Out.isNext:Out->Bool
 | .next=>true
 | .brk=>false
 | .ret _=>false
noncomputable def Out.aft (e:Option (MEnv×Out)) (O:MEnv):Out->Option (MEnv×Out)
 | .next=>e
 | .brk=>some (O,.next)
 | .ret d=>some (O,.ret d)
noncomputable def Out.fin:Out->Option D
 | .next=>some .none
 | .brk=>none
 | .ret d=>some d
noncomputable def loopL (f:MEnv->D->Option (MEnv×Out)):MEnv->List D->Option (MEnv×Out)
 |O,[]=>some (O,.next)
 |O,x :: xs=>(f O x).bind λp=>cond p.2.isNext (loopL f p.1 xs) (some p)
noncomputable def freeze (O:MEnv):T->MEnv
 | .var i=>(getE O i).elim O λp=>setE O i p.1 false
 |_=>O
noncomputable def setMulti (O:MEnv):List (Nat×Bool)->List D->Option MEnv
 | [],[]=>some O
 |p :: is,d :: ds=>setMulti (setE O p.1 d p.2) is ds
 | [],_ :: _=>none
 |_ :: _,[]=>none
noncomputable def scalL:D->Bool
 | .list xs=>xs.all D.scalar
 |_=>false
noncomputable def rowOk (o:Bool):List (Nat×Bool)->T->List D->Bool
 | [],.nil,[]=>true
 |p :: is,.cons e r,d :: ds=>cond p.2 (freshT e d&&scalL d) (!o || d.scalar)&&rowOk o is r ds
 |_,_,_=>false
noncomputable def freshAll (is:List (Nat×Bool)) (t:T) (ds:List D):Bool:=rowOk (is.any (·.2)) is t ds
noncomputable def augOk:Operator->Bool
 | .Add=>true
 | .Sub=>true
 | .BitXor=>true
 |_=>false
noncomputable def own? (O:MEnv) (i:Nat):Option (List D):=(getE O i).bind λp=>p.1.list?.bind λxs=>if p.2&&sizeOk xs.length then some xs else none
noncomputable def putI (O:MEnv) (i:Nat) (k:T) (d:D):Option MEnv:=(own? O i).bind λxs=>(ev G F O true k).bind λy=>y.int?.bind λk =>
 if decide (0<=k)&&decide (k<xs.length) then some (setE O i (.list (xs.set k.toNat d)) true) else none
noncomputable def ex (O:MEnv):S->Option (MEnv×Out)
 | .skip=>some (O,.next)
 | .seq a c=>(ex O a).bind λp=>cond p.2.isNext (ex p.1 c) (some p)
 | .asg i x e=>(ev G F O false e).bind λd=>if x && !freshT e d then none else some (setE O i d x,.next)
 | .unp is e=>(ev G F O false e).bind λd=>d.tup?.bind λds=>(setAll O is ds).map λO'=>(O',.next)
 | .multi is es=>(ev G F O false es).bind λy=>y.tup?.bind λds=>if freshAll is es ds then (setMulti O is ds).map λO'=>(O',.next) else none
 | .aug i op e=>(getE O i).bind λp=>p.1.int?.bind λa=>(ev G F O true e).bind λy=>y.int?.bind λc =>
   if p.2 || !augOk op then none else (binD op (.int a) (.int c)).map λd=>(setE O i d false,.next)
 | .app i e=>(own? O i).bind λxs=>(ev G F O false e).map λd=>(setE O i (.list (xs++[d])) true,.next)
 | .ext i e=>(own? O i).bind λxs=>(ev G F O false e).bind λy=>y.list?.bind λys=>if sizeOk ys.length then some (setE O i (.list (xs++ys)) true,.next) else none
 | .revm i=>(own? O i).map λxs=>(setE O i (.list xs.reverse) true,.next)
 | .del i e=>(own? O i).bind λxs=>(ev G F O true e).bind λy=>y.int?.bind λk =>
   if decide (0<=k)&&decide (k<xs.length) then some (setE O i (.list (xs.eraseIdx k.toNat)) true,.next)
   else if decide (k = -1)&&decide (0<xs.length) then some (setE O i (.list (xs.eraseIdx (xs.length - 1))) true,.next) else none
 | .set2 i a j c es=>(ev G F O false es).bind λy=>y.tup?.bind λds=>(two? ds).bind λp=>(putI G F O i a p.1).bind λO1=>(putI G F O1 j c p.2).map λO2=>(O2,.next)
 | .ifs c a e=>(ev G F O true c).bind λx=>(truthy x).bind λr=>cond r (ex O a) (ex O e)
 | .fors tg one k it it2 body els=>if !enumOk one k then none else (evI G F (freeze O it) false k it it2).bind λxs =>
   (loopL (λO d=>(bindT O tg one d).bind λO'=>ex O' body) (freeze O it) xs).bind λp=>p.2.aft (ex p.1 els) p.1
 | .ret e=>(ev G F O false e).map λd=>(O,.ret d)
 | .retv i=>(getE O i).map λp=>(O,.ret p.1)
 | .brk=>some (O,.brk)
 | .asrt e=>(ev G F O true e).bind λx=>(truthy x).bind λr=>cond r (some (O,.next)) none
 | .bad=>none
noncomputable def run (n:Nat) (body:S) (ds:List D):Option D :=
 (ex G F (ds.map (λd=>some (d,false))++List.replicate (n - ds.length) none) body).bind λp=>p.2.fin
theorem zu {a b c:Bool} {P:Prop} (h:(a&&b&&c)=true) (k:a=true->b=true->c=true->P):P:=aa h λh hc=>aa h λha hb=>k ha hb hc
theorem de {p:Prop} [Decidable p] (h:decide p=true):p:=of_decide_eq_true h
theorem jN {a b:Bool} {P:Prop} (h:¬ (a || b)=true) (k:a=false->b=false->P):P:=by
 cases a with
 |true=>exact absurd rfl h
 |false=>exact k rfl (Bool.eq_false_iff.mpr h)
theorem nz {b:Int} (h:(b==0)=false):b≠0:=λe=>by rw [e] at h;cases h
theorem cZ {n:Nat} (h:n<=1048576):(n:Int)<2 ^ 63:=Int.lt_of_le_of_lt (Int.ofNat_le.mpr h) (by decide)
theorem aF {n:Nat} (h:sizeOk n=true):n<=1048576:=of_decide_eq_true h
theorem nt {b:Bool} (h:(!b)=true):b=false:=Bool.not_eq_true' _▸h
theorem oq {l:List Str} {x:Str} (h:(!l.contains x)=true):x∉l:=λq=>nomatch (List.contains_iff_mem.mpr q).symm.trans (nt h)
theorem fI {l:List Str} {x:Str} (h:l.contains x=true):x∈l:=List.contains_iff_mem.mp h
theorem BE {b:Int} (h:b.toNat<=1000000):b<=1000000:=Int.toNat_le.mp h
theorem BC {a b:Nat} (h1:sizeOk a=true) (h2:sizeOk b=true):a+b<=16777216:=Nat.le_trans (Nat.add_le_add (aF h1) (aF h2)) (by decide)
theorem bG {n:Nat} (h:n<=1048576):n<=sizeLine:=by rw [sizeLine_eq];exact Nat.le_trans h (by decide)
theorem eL {l:List Str} {i:Nat} (h:i<l.length):l[i]? = some (l.getD i Str.empty):=by
 rw [List.getD_eq_getElem?_getD,List.getElem?_eq_getElem h];rfl
theorem ni {a:Array Value} {j:Nat} {v:Value} (g:a.toList[j]? = some v) (h:j<a.size):a[j]=v:=by
 rw [Array.getElem?_toList,Array.getElem?_eq_getElem h] at g
 exact Option.some.inj g
theorem zd {i:Int} (h:i.toNat<=1114111):i<=1114111:=Int.toNat_le.mp h
theorem jW {j:Int} {n:Nat} (h0:0<=j) (h:j<n) (hn:n<=1048576) : -(2 ^ 63:Int)<=j/\j<2 ^ 63:=⟨Int.le_trans (by decide) h0,Int.lt_trans h (Int.lt_of_le_of_lt (Int.ofNat_le.mpr hn) (by decide))⟩
theorem jc {n:Nat} (h:0<n):0 <= -1+(n:Int)/\(-1+(n:Int)).toNat=n - 1:=by
 cases n with
 |zero=>exact absurd h (Nat.lt_irrefl 0)
 |succ m=>exact (show -1+((m+1:Nat):Int)=(m:Int) from (Int.add_comm _ _).trans (Int.add_sub_cancel (m:Int) 1))▸⟨Int.natCast_nonneg m,rfl⟩
theorem m6 {a b c d:Nat} (ha:a<=1048576) (hb:b<=1048576) (z:c=a) (z2:d=b):c+d<=2097152:=z▸z2▸Nat.add_le_add ha hb
theorem bq {α:Type} [BEq α] [ReflBEq α] {a:α} {b:Bool} (h:(some a).map (a == ·)=some b):b=true:=by rw [<- sm h];exact BEq.rfl
end Mine
namespace Mine
structure Cx where
 tbl:List Str
 fns:List Str
 consts:List Str
 sets:List Str
 dicts:List Str
noncomputable def idOf (l:List Str) (x:Str):Option Nat:=l.findIdx? (· == x)
noncomputable def seeK:Option NameKind->Bool
 |some .local=>true
 |some .cell=>true
 |some .free=>true
 |_=>false
noncomputable def stoK:Option NameKind->Bool
 |some .local=>true
 |some .cell=>true
 |_=>false
noncomputable def celK:Option NameKind->Bool
 |some .cell=>true
 |some .free=>true
 |_=>false
noncomputable def seen (sc:Scope) (x:Str):Bool:=seeK (sc.names.lookup x)
noncomputable def storable (sc:Scope) (x:Str):Bool:=stoK (sc.names.lookup x)
noncomputable def isGlob (sc:Scope) (x:Str):Bool:=sc.names.lookup x==some .globalImplicit
noncomputable def dbg (x:Str):Bool:= !(x==("__debug__":Str))
noncomputable def dcl (x:Str):Bool:= !(x==("__classdict__":Str))
noncomputable def bNm:BF->Str
 | .len=>"len" | .ord=>"ord" | .chr=>"chr" | .sum=>"sum" | .max2=>"max" | .min2=>"min" | .max1=>"max" | .hex=>"hex" | .divmod=>"divmod"
noncomputable def mNm:MF->Str
 | .split=>"split" | .startswith=>"startswith" | .endswith=>"endswith" | .find3=>"find" | .lower=>"lower" | .join=>"join" | .count=>"count" | .bitlen=>"bit_length"
noncomputable def locsOf (c:Cx) (sc:Scope):List Nat:=sc.names.filterMap λp=>if p.2 == .local || p.2 == .cell then idOf c.tbl p.1 else none
noncomputable def distinctN:List (Str×NameKind)->Bool
 | []=>true
 |p :: r=> !(r.any λq=>q.1==p.1)&&distinctN r
noncomputable def cellish (sc:Scope) (x:Str):Bool:=celK (sc.names.lookup x)
noncomputable def scOk (sc sc':Scope):Bool:=sc'.kind == .function&&distinctN sc'.names&&sc'.names.all λp=> !(p.2 == .free) || cellish sc p.1
noncomputable def genK:Comprehension->List Expr
 |⟨t,i,fs,_⟩=>t :: i :: fs
noncomputable def info (sc:Scope):Expr->List Expr×Nat×Scope×List (Option Expr)
 | .BinOp l _ r _=>([l,r],0,sc,[])
 | .UnaryOp _ a _=>([a],0,sc,[])
 | .BoolOp _ vs _=>(vs,0,sc,[])
 | .IfExp t a b _=>([t,a,b],0,sc,[])
 | .Compare l _ cs _=>(l :: cs,0,sc,[])
 | .Call f as _ _=>(f :: as,0,sc,[])
 | .Attribute o _ _=>([o],0,sc,[])
 | .Subscript a i _=>([a,i],0,sc,[])
 | .Slice l u st _=>([l.getD default,u.getD default,st.getD default],0,sc,[l,u,st])
 | .List es _=>(es,0,sc,[])
 | .Tuple es k _=>(es,k,sc,[])
 | .Constant _ k _=>([],k,sc,[])
 | .ListComp elt gens sc' _=>(elt :: gens.flatMap genK,0,sc',[])
 | .Dict ks vs _=>(ks.filterMap id++vs,ks.length,sc,[])
 |_=>([],0,sc,[])
noncomputable def noSc:Scope:=default
noncomputable def kids (e:Expr):List Expr:=(info noSc e).1
noncomputable def isCall (e:Expr):Bool:=e.ctorIdx==16
noncomputable def nmE:Expr->Option Str
 | .Name id _=>some id
 |_=>none
noncomputable def hd (l:List Expr):Expr:=l.headD default
noncomputable def kid (k:Nat) (e:Expr):Expr:=(kids e).getD k default
noncomputable def badBase (e:Expr):Bool:=isCall e && !((nmE (kid 0 e)).any λ(id:Str)=> !(id==("super":Str)))
noncomputable def numE (e:Expr):Nat:=(info noSc e).2.1
noncomputable def scE (sc:Scope) (e:Expr):Scope:=(info sc e).2.2.1
noncomputable def part3 (e:Expr):List (Option Expr):=(info noSc e).2.2.2
noncomputable def constE:D->Const
 | .bool b=> .bool b
 | .int i=> .int i
 | .str x=> .str x
 |_=> .none
noncomputable def isLst:T->Bool
 | .nil=>true
 | .cons _ _=>true
 |_=>false
noncomputable def tailM (op:BoolOp) (m:Option BoolOp) (es:List Expr):Bool:=m==some op && !es.tail.isEmpty
noncomputable def tailB (t:T) (m:Option BoolOp) (es:List Expr):Bool:=match t with
 | .bop op _ _=>tailM op m es
 |_=>false
noncomputable def IK.bare:IK->Bool
 | .plain=>true
 |_=>false
noncomputable def isSetE (e:Expr):Bool:=e.ctorIdx==7
noncomputable def isSliceE (e:Expr):Bool:=e.ctorIdx==26
noncomputable def cstD:T->Option D
 | .cst d=>some d
 |_=>none
theorem qC {P:T->Prop} {t:T} {d:D} (h:cstD t=some d) (k:P (.cst d)):P t:=by
 cases t with
 |cst e=>exact sm h▸k
 |_=>exact ai h
noncomputable def isTrueT (t:T):Bool:=(cstD t).any λd=>d.bool?.any id
noncomputable def isNoneT (t:T):Bool:=(cstD t).any D.nil?
noncomputable def nameE (c:Cx) (i:Nat) (e:Expr):Expr:= .Name (c.tbl.getD i Str.empty) e.pos
noncomputable def tgE (c:Cx) (tg:List Nat) (one:Bool) (e:Expr):Expr:=cond one (nameE c (tg.headD 0) e) (.Tuple (List.zipWith (nameE c) tg (kids e)) (numE e) e.pos)
noncomputable def stoI (c:Cx) (sc:Scope) (i:Nat):Bool:=decide (i<c.tbl.length)&&storable sc (c.tbl.getD i Str.empty)
noncomputable def tgB (c:Cx) (sc:Scope) (tg:List Nat) (one:Bool) (e:Expr):Bool:=cond one (tg.length==1) ((kids e).length==tg.length)&&tg.all (stoI c sc)
noncomputable def callE (f:Str) (args:List Expr) (e:Expr):Expr:= .Call (.Name f (kid 0 e).pos) args [] e.pos
noncomputable def rangeS:Str:="range"
noncomputable def enumS:Str:="enumerate"
noncomputable def revS:Str:="reversed"
noncomputable def listS:Str:="list"
noncomputable def getS:Str:="get"
noncomputable def gl (sc:Scope) (f:Str):Bool:=isGlob sc f&&dbg f
noncomputable def slE (t:T) (r:Bool×Expr) (o:Option Expr):Bool×Option Expr:=(cond o.isSome r.1 (isNoneT t),o.map λZz=>r.2)
noncomputable def e1 (t:T) (r:Bool×List Expr):Bool×Expr:=(!isLst t&&r.1,hd r.2)
noncomputable def el (t:T) (r:Bool×List Expr):Bool×List Expr:=(isLst t&&r.1,r.2)
noncomputable def argsE (e:Expr):List Expr:=(kids e).tail
noncomputable def bopE (op:BoolOp) (b:T) (t:Bool) (x:Bool×Expr) (y:Bool×List Expr) (x':Bool×Expr) (y':Bool×List Expr) (pos:Pos):Bool×List Expr :=
 cond t (x.1 && !isLst b&&y.1,x.2 :: y.2) (x'.1 && !isLst b&&y'.1,[.BoolOp op (x'.2 :: y'.2) pos])
noncomputable def itE (sc:Scope) (k:IK) (y:Expr) (z:Bool×Expr) (i:Expr):Bool×Expr:=match k with
 | .plain=>(!isSetE y,y)
 | .range1=>(gl sc rangeS,callE rangeS [y] i)
 | .range2=>(gl sc rangeS&&z.1,callE rangeS [y,z.2] i)
 | .enum=>(gl sc enumS,callE enumS [y] i)
 | .rev=>(gl sc revS,callE revS [y] i)
noncomputable def un (c:Cx) (sc:Scope):T->Option BoolOp->List Expr->Bool×List Expr
 | .var i,_,es=>(decide (i<c.tbl.length)&&seen sc (c.tbl.getD i Str.empty)&&dbg (c.tbl.getD i Str.empty)&&dcl (c.tbl.getD i Str.empty),[nameE c i (hd es)])
 | .glob x,_,es=>(isGlob sc x&&c.consts.contains x&&dbg x,[.Name x (hd es).pos])
 | .cst d,_,es=>(d.scalar,[.Constant (constE d) (numE (hd es)) (hd es).pos])
 | .bin op a b,_,es =>
  let x:=e1 a (un c sc a none [kid 0 (hd es)]);let y:=e1 b (un c sc b none [kid 1 (hd es)])
  (x.1&&y.1,[.BinOp x.2 op y.2 (hd es).pos])
 | .un op a,_,es=>let x:=e1 a (un c sc a none [kid 0 (hd es)]);(x.1,[.UnaryOp op x.2 (hd es).pos])
 | .cmp op a b,_,es =>
  let x:=e1 a (un c sc a none [kid 0 (hd es)]);let y:=e1 b (un c sc b none [kid 1 (hd es)])
  (x.1&&y.1 && !behindInMarks op y.2,[.Compare x.2 [op] [y.2] (hd es).pos])
 | .bop op a b,m,es=>bopE op b (tailM op m es) (e1 a (un c sc a none [hd es])) (un c sc b (some op) es.tail) (e1 a (un c sc a none [kid 0 (hd es)])) (un c sc b (some op) (argsE (hd es))) (hd es).pos
 | .ite d a b,_,es =>
  let z:=e1 d (un c sc d none [kid 0 (hd es)]);let x:=e1 a (un c sc a none [kid 1 (hd es)]);let y:=e1 b (un c sc b none [kid 2 (hd es)])
  (z.1&&x.1&&y.1,[.IfExp z.2 x.2 y.2 (hd es).pos])
 | .nil,_,_=>(true,[])
 | .cons a r,_,es=>let x:=e1 a (un c sc a none [hd es]);let y:=el r (un c sc r none es.tail);(x.1&&y.1,x.2 :: y.2)
 | .list t,_,es=>let x:=el t (un c sc t none (kids (hd es)));(x.1,[.List x.2 (hd es).pos])
 | .tup t,_,es=>let x:=el t (un c sc t none (kids (hd es)));(x.1,[.Tuple x.2 (numE (hd es)) (hd es).pos])
 | .idx a i,_,es =>
  let x:=e1 a (un c sc a none [kid 0 (hd es)]);let y:=e1 i (un c sc i none [kid 1 (hd es)])
  (x.1&&y.1 && !isSliceE y.2,[.Subscript x.2 y.2 (hd es).pos])
 | .sli a l u st,_,es =>
  let s:=kid 1 (hd es);let p:=part3 s
  let x:=e1 a (un c sc a none [kid 0 (hd es)])
  let l:=slE l (e1 l (un c sc l none [kid 0 s])) (p.getD 0 none);let u:=slE u (e1 u (un c sc u none [kid 1 s])) (p.getD 1 none);let st:=slE st (e1 st (un c sc st none [kid 2 s])) (p.getD 2 none)
  (x.1&&l.1&&u.1&&st.1,[.Subscript x.2 (.Slice l.2 u.2 st.2 s.pos) (hd es).pos])
 | .comp elt tg one k it it2 cnd locs,_,es =>
  let e:=hd es;let sc':=scE sc e;let i:=kid 2 e
  let x:=e1 elt (un c sc' elt none [kid 0 e])
  let y:=e1 it (un c sc it none [cond k.bare i (kid 1 i)]);let z:=e1 it2 (un c sc it2 none [kid 2 i])
  let w:=e1 cnd (un c sc' cnd none [kid 3 e])
  let iter:=itE sc k y.2 z i
  let nc:=isTrueT cnd&&(kids e).tail.tail.tail.isEmpty
  (x.1&&y.1&&iter.1&&(nc || w.1)&&tgB c sc' tg one (kid 1 e)&&scOk sc sc'&&locs==locsOf c sc',[.ListComp x.2 [⟨tgE c tg one (kid 1 e),iter.2,cond nc [] [w.2],0⟩] sc' e.pos])
 | .lrange a b,_,es =>
  let r:=kid 1 (hd es)
  let x:=e1 a (un c sc a none [kid 1 r]);let y:=e1 b (un c sc b none [kid 2 r])
  (x.1&&y.1&&gl sc listS&&gl sc rangeS,[callE listS [callE rangeS [x.2,y.2] r] (hd es)])
 | .call f t,_,es=>let x:=el t (un c sc t none (argsE (hd es)));(x.1&&gl sc f&&c.fns.contains f,[callE f x.2 (hd es)])
 | .callb f t,_,es=>let x:=el t (un c sc t none (argsE (hd es)));(x.1&&gl sc f&&c.fns.contains f,[callE f x.2 (hd es)])
 | .blt f t,_,es=>let x:=el t (un c sc t none (argsE (hd es)));(x.1&&gl sc (bNm f),[callE (bNm f) x.2 (hd es)])
 | .meth m o t,_,es =>
  let p:=kid 0 (hd es)
  let x:=el t (un c sc t none (argsE (hd es)));let y:=e1 o (un c sc o none [kid 0 p])
  (x.1&&y.1&&p.pos.endLine==(hd es).pos.line && !badBase y.2&&decide (x.2.length<30),[.Call (.Attribute y.2 (mNm m) p.pos) x.2 [] (hd es).pos])
 | .inset x a,_,es=>let y:=e1 a (un c sc a none [kid 0 (hd es)]);(y.1&&isGlob sc x&&c.sets.contains x,[.Compare y.2 [.In] [.Name x (kid 1 (hd es)).pos] (hd es).pos])
 | .dget x a d,_,es =>
  let p:=kid 0 (hd es);let two:=(kids (hd es)).tail.tail.isEmpty
  let y:=e1 a (un c sc a none [kid 1 (hd es)]);let z:=e1 d (un c sc d none [kid 2 (hd es)])
  (y.1&&cond two (isNoneT d) z.1&&p.pos.endLine==(hd es).pos.line&&isGlob sc x&&c.dicts.contains x,[.Call (.Attribute (.Name x (kid 0 p).pos) getS p.pos) (y.2 :: cond two [] [z.2]) [] (hd es).pos])
noncomputable def sinfo:Stmt->List Expr×List Stmt×List Stmt×Option Expr
 | .Assign ts v _=>(v :: ts,[],[],none)
 | .AugAssign t _ v _=>([v,t],[],[],none)
 | .Expr e _=>([e],[],[],none)
 | .Delete ts _=>(ts,[],[],none)
 | .If t a b _=>([t],a,b,none)
 | .For t i a b _=>([i,t],a,b,none)
 | .Return e _=>(e.toList,[],[],none)
 | .Assert t m _=>([t],[],[],m)
 |_=>([],[],[],none)
noncomputable def skids (s:Stmt):List Expr:=(sinfo s).1
noncomputable def sbod (s:Stmt):List Stmt:=(sinfo s).2.1
noncomputable def sels (s:Stmt):List Stmt:=(sinfo s).2.2.1
noncomputable def smsg (s:Stmt):Option Expr:=(sinfo s).2.2.2
noncomputable def skid (k:Nat) (st:Stmt):Expr:=(skids st).getD k default
noncomputable def hs (l:List Stmt):Stmt:=l.headD default
noncomputable def isSeq:S->Bool
 | .skip=>true
 | .seq _ _=>true
 |_=>false
noncomputable def appendS:Str:="append"
noncomputable def extendS:Str:="extend"
noncomputable def reverseS:Str:="reverse"
noncomputable def isTupE (e:Expr):Bool:=e.ctorIdx==25
noncomputable def isBadC (e:Expr):Bool:=e.ctorIdx==9 || e.ctorIdx==10
noncomputable def unE (c:Cx) (sc:Scope) (t:T) (e:Expr):Bool×Expr:=e1 t (un c sc t none [e])
noncomputable def ownM (c:Cx) (i:Nat) (m:Str) (as:List Expr) (st:Stmt):Stmt:= .Expr (.Call (.Attribute (nameE c i (kid 0 (kid 0 (skid 0 st)))) m (kid 0 (skid 0 st)).pos) as [] (skid 0 st).pos) st.pos
noncomputable def ownB (st:Stmt):Bool:=(kid 0 (skid 0 st)).pos.endLine==(skid 0 st).pos.line
noncomputable def vars (c:Cx) (is:List Nat) (e:Expr):Expr:= .Tuple (List.zipWith (nameE c) is (kids e)) (numE e) e.pos
noncomputable def varsB (c:Cx) (sc:Scope) (is:List Nat) (e:Expr):Bool:=(kids e).length==is.length&&is.all (stoI c sc)
noncomputable def isStar:Expr->Bool
 | .Starred .. =>true
 |_=>false
noncomputable def nmAt (sc:Scope) (line:Nat):Expr->Option Str
 | .Name id pos=>if sc.names.lookup id==some .local&&pos.line==line then some id else none
 |_=>none
noncomputable def line0 (ts:List Expr):Nat:=(ts.head?.map (·.pos.line)).getD 0
noncomputable def swB (sc:Scope) (ts vs:List Expr):Bool:=(ts.length==2 || ts.length==3)&&vs.length==ts.length && !(vs.any isStar)&&(ts.filterMap (nmAt sc (line0 ts))).length==ts.length&&(ts.filterMap (nmAt sc (line0 ts))).eraseDups.length==(ts.filterMap (nmAt sc (line0 ts))).length && !(vs.all (foldedForSure 8)) && !(vs.all (constantsAlone 8))
noncomputable def sub1 (c:Cx) (i:Nat) (k e:Expr):Expr:= .Subscript (nameE c i (kid 0 e)) k e.pos
noncomputable def unS (c:Cx) (sc:Scope):S->List Stmt->Bool×List Stmt
 | .skip,_=>(true,[])
 | .seq a b,ss =>
  let x:=unS c sc a [hs ss];let y:=unS c sc b ss.tail
  (!isSeq a&&isSeq b&&x.1&&y.1,hs x.2 :: y.2)
 | .asg i _ e,ss=>let s:=hs ss;let x:=unE c sc e (skid 0 s);(x.1&&stoI c sc i && !isBadC x.2,[.Assign [nameE c i (skid 1 s)] x.2 s.pos])
 | .unp is e,ss=>let s:=hs ss;let x:=unE c sc e (skid 0 s);(x.1&&varsB c sc is (skid 1 s) && !isTupE x.2,[.Assign [vars c is (skid 1 s)] x.2 s.pos])
 | .multi is es,ss =>
  let s:=hs ss;let v:=skid 0 s;let x:=el es (un c sc es none (kids v))
  (x.1&&varsB c sc (is.map (·.1)) (skid 1 s)&&(is.all (λp=> !p.2) && !(x.2.all (constantsAlone 8)) || swB sc (List.zipWith (nameE c) (is.map (·.1)) (kids (skid 1 s))) x.2)&&decide (is.length<30),[.Assign [vars c (is.map (·.1)) (skid 1 s)] (.Tuple x.2 (numE v) v.pos) s.pos])
 | .aug i op e,ss=>let s:=hs ss;let x:=unE c sc e (skid 0 s);(x.1&&stoI c sc i,[.AugAssign (nameE c i (skid 1 s)) op x.2 s.pos])
 | .app i e,ss=>let s:=hs ss;let x:=unE c sc e (kid 1 (skid 0 s));(x.1&&stoI c sc i&&ownB s,[ownM c i appendS [x.2] s])
 | .ext i e,ss=>let s:=hs ss;let x:=unE c sc e (kid 1 (skid 0 s));(x.1&&stoI c sc i&&ownB s,[ownM c i extendS [x.2] s])
 | .revm i,ss=>let s:=hs ss;(stoI c sc i&&ownB s,[ownM c i reverseS [] s])
 | .del i e,ss=>let s:=hs ss;let x:=unE c sc e (kid 1 (skid 0 s));(x.1&&stoI c sc i,[.Delete [.Subscript (nameE c i (kid 0 (skid 0 s))) x.2 (skid 0 s).pos] s.pos])
 | .set2 i a j b es,ss =>
  let s:=hs ss;let v:=skid 0 s;let g:=skid 1 s;let x:=el es (un c sc es none (kids v));let y:=unE c sc a (kid 1 (kid 0 g));let z:=unE c sc b (kid 1 (kid 1 g))
  (x.1&&y.1&&z.1&&stoI c sc i&&stoI c sc j,[.Assign [.Tuple [sub1 c i y.2 (kid 0 g),sub1 c j z.2 (kid 1 g)] (numE g) g.pos] (.Tuple x.2 (numE v) v.pos) s.pos])
 | .ifs t a b,ss =>
  let s:=hs ss;let x:=unE c sc t (skid 0 s);let y:=unS c sc a (sbod s);let z:=unS c sc b (sels s)
  (x.1&&isSeq a&&y.1&&isSeq b&&z.1,[.If x.2 y.2 z.2 s.pos])
 | .fors tg one k it it2 a b,ss =>
  let s:=hs ss;let i:=skid 0 s;let u:=unE c sc it (cond k.bare i (kid 1 i));let v:=unE c sc it2 (kid 2 i)
  let x:=itE sc k u.2 v i;let y:=unS c sc a (sbod s);let z:=unS c sc b (sels s)
  (u.1&&x.1&&tgB c sc tg one (skid 1 s)&&isSeq a&&y.1&&isSeq b&&z.1,[.For (tgE c tg one (skid 1 s)) x.2 y.2 z.2 s.pos])
 | .ret e,ss=>let s:=hs ss;let x:=unE c sc e (skid 0 s);let n:=(skids s).isEmpty;(cond n (isNoneT e) x.1,[.Return (cond n none (some x.2)) s.pos])
 | .retv i,ss=>let s:=hs ss;(decide (i<c.tbl.length)&&seen sc (c.tbl.getD i Str.empty),[.Return (some (nameE c i (skid 0 s))) s.pos])
 | .brk,ss=>(true,[.Break (hs ss).pos])
 | .asrt e,ss=>let s:=hs ss;let x:=unE c sc e (skid 0 s);(x.1,[.Assert x.2 (smsg s) s.pos])
 | .bad,ss=>(true,[hs ss])
noncomputable def codeB (c:Cx) (sc:Scope) (code:S) (body:List Stmt):Bool:=isSeq code&&(unS c sc code body).1
end Mine
namespace Mine
def TupAt (h:Heap) (a:Addr) (items:Array Value):Prop:=∃ n,h.get? a=some {cls:= .type "tuple",data:= .seq items n}
noncomputable def dicD:Data->Bool
 | .dict _ _=>true
 |_=>false
noncomputable def fldD:Data->Bool
 | .fields _=>true
 |_=>false
noncomputable def nonC:Value->Bool
 | .none=>true
 |_=>false
noncomputable def isTab (o:Obj):Bool:=dicD o.data || (nonC o.cls&&fldD o.data)
theorem cP {o:Obj} {v:Option Value} (h:o.data = .cell v):isTab o=false:=by
 unfold isTab;rw [h];exact Bool.and_false _
theorem bi {o:Obj} {v:FuncData} (h:o.data = .func v):isTab o=false:=by
 unfold isTab;rw [h];exact Bool.and_false _
theorem dA {o:Obj} {t:String} (h:o.cls = .type t) (hd:dicD o.data=false):isTab o=false:=by
 unfold isTab;rw [h,hd];rfl
theorem bh {o:Obj} {t:String} {vs:Array Value} (h:o.cls = .type t) (hd:o.data = .fields vs):isTab o=false:=dA h (by rw [hd];rfl)
theorem rk {o:Obj} {t:String} (h:o.cls = .type t) (hd:o.data = .plain):isTab o=false:=dA h (by rw [hd];rfl)
theorem TupAt.at' {h h':Heap} {a:Addr} {items:Array Value} (x:TupAt h a items) (e:∀ o,isTab o=false->h.get? a=some o->h'.get? a=some o):TupAt h' a items :=
 let ⟨n,ho⟩:=x;⟨n,e _ rfl ho⟩
theorem PL.at' {h h':Heap} {a:Addr} {items:Array Value} (x:h.PlainList a items) (e:∀ o,isTab o=false->h.get? a=some o->h'.get? a=some o):h'.PlainList a items :=
 let ⟨n,ho⟩:=x;⟨n,e _ rfl ho⟩
theorem PL.al {h:Heap} {a:Addr} {items:Array Value} (x:h.PlainList a items):∃ o,h.get? a=some o:=let ⟨_,ho⟩:=x;⟨_,ho⟩
theorem PL.lt {h:Heap} {a:Addr} {items:Array Value} (x:h.PlainList a items):a<h.objs.size:=let ⟨_,ho⟩:=x;Heap.lt_size ho
theorem PL.isList {h:Heap} {a:Addr} {items:Array Value} (x:h.PlainList a items):h.IsList a items:=let ⟨n,ho⟩:=x;⟨_,ho,rfl,n,rfl⟩
theorem TupAt.al {h:Heap} {a:Addr} {items:Array Value} (x:TupAt h a items):∃ o,h.get? a=some o:=let ⟨_,ho⟩:=x;⟨_,ho⟩
theorem TupAt.lt {h:Heap} {a:Addr} {items:Array Value} (x:TupAt h a items):a<h.objs.size:=let ⟨_,ho⟩:=x;Heap.lt_size ho
theorem TupAt.isTup {h:Heap} {a:Addr} {items:Array Value} (x:TupAt h a items):IsTup h a items:=let ⟨n,ho⟩:=x;⟨_,ho,rfl,n,rfl⟩
def Kq (h h':Heap):Prop:=∀ b o,h.get? b=some o->h'.get? b=some o
theorem Kq.trans {a b c:Heap} (x:Kq a b) (y:Kq b c):Kq a c:=λi o e=>y i o (x i o e)
theorem Kq.push (h:Heap) (o:Obj):Kq h (h.push o):=λZz Zz e=>Heap.get?_push_of_some _ e
theorem aI (h:Heap):h.get? h.objs.size=none:=by
 cases e:h.get? h.objs.size with
 |none=>rfl
 |some o=>exact absurd (Heap.lt_size e) (Nat.lt_irrefl _)
def Al (h:Heap) (b:Addr):Prop:=∃ o,h.get? b=some o
def Dt (h:Heap) (b:Addr):Prop:=∃ o es n,h.get? b=some o/\o.data = .dict es n
theorem Dt.kq {h h':Heap} {b:Addr} (d:Dt h b) (k:∀ o,h.get? b=some o->h'.get? b=some o):Dt h' b:=let ⟨o,es,n,e1,e2⟩:=d;⟨o,es,n,k o e1,e2⟩
theorem Ns.dt {h:Heap} {a:Addr} {m:Str->Option Value} (x:h.Ns a m):Dt h a:=let ⟨o,es,ep,e1,e2,_⟩:=x;⟨o,es,ep,e1,e2⟩
theorem PL.nodt {h:Heap} {a:Addr} {items:Array Value} (x:h.PlainList a items):¬ Dt h a:=λ⟨o,es,n,e1,e2⟩=>by
 obtain ⟨k,ho⟩:=x;rw [ho] at e1;cases e1;cases e2
theorem Cell.nodt {h:Heap} {a:Addr} {v:Option Value} (x:h.IsCell a v):¬ Dt h a:=λ⟨o,es,n,e1,e2⟩=>by
 obtain ⟨o',h1,h2⟩:=x;rw [h1] at e1;cases e1;rw [h2] at e2;cases e2
class Tabs where
 tb:Addr->Prop
 q:Int->Int->Str
 fa:Addr->Prop
variable [Jt:Tabs]
inductive TabV (h:Heap) (b:Addr):List Value->Prop
 |nil:TabV h b []
 |cons {l c:Int} {t u:Tok} {a:Addr} {o:Obj} {vs:Array Value} {tq:Tok} {r:List Value}:h.get? a=some o->o.cls = .type "code"->o.data = .fields vs->vs[1]? = some (.str (Tabs.q l c) tq)->TabV h b r->TabV h b (.int l t :: .int c u :: .ref a :: r)
def NT (b:Addr) (o:Obj):Prop:=isTab o=false\/(dicD o.data=true/\¬ Tabs.fa b)
def Gw (h':Heap) (b:Addr) (o:Obj):Prop :=
 h'.get? b=some o\/(Tabs.tb b/\∃ vs more:Array Value,o.cls = .none/\o.data = .fields vs/\h'.get? b=some {o with data:= .fields (vs++more)}/\TabV h' b more.toList) \/
  (Tabs.fa b/\∃ es n sl,o.data = .dict es n/\h'.get? b=some {o with slots:=sl})
theorem Gw.ob {h':Heap} {b:Addr} {o:Obj} (g:Gw h' b o) (t:NT b o):h'.get? b=some o:=by
 rcases g with g |⟨_,vs,more,e1,e2,_⟩ |⟨f,es,n,sl,e1,_⟩
 ·exact g
 ·rcases t with t |t
  ·unfold isTab at t;rw [e1,e2] at t;cases t
  ·rw [e2] at t;exact nomatch t.1
 ·rcases t with t |t
  ·unfold isTab at t;rw [e1] at t;cases t
  ·exact absurd f t.2
theorem Gw.al {h':Heap} {b:Addr} {o:Obj} (g:Gw h' b o):Al h' b:=by
 rcases g with g |⟨_,vs,more,_,_,e,_⟩ |⟨_,es,n,sl,_,e⟩
 ·exact ⟨_,g⟩
 ·exact ⟨_,e⟩
 ·exact ⟨_,e⟩
theorem Gw.dict {h':Heap} {b:Addr} {o:Obj} {es:Array DictEntry} {n:Nat} (g:Gw h' b o) (hd:o.data = .dict es n):∃ sl,h'.get? b=some {o with slots:=sl}:=by
 rcases g with g |⟨_,vs,more,_,e2,_⟩ |⟨_,es',n',sl,_,e⟩
 ·exact ⟨o.slots,g⟩
 ·rw [hd] at e2;cases e2
 ·exact ⟨sl,e⟩
theorem Gw.obF {h':Heap} {b:Addr} {o:Obj} {es:Array DictEntry} {n:Nat} (g:Gw h' b o) (hd:o.data = .dict es n) (hf:¬ Tabs.fa b):h'.get? b=some o:=by
 rcases g with g |⟨_,vs,more,_,e2,_⟩ |⟨f,_⟩
 ·exact g
 ·rw [hd] at e2;cases e2
 ·exact absurd f hf
theorem Dt.gw {h h':Heap} {b:Addr} (d:Dt h b) (k:∀ o,h.get? b=some o->Gw h' b o):Dt h' b:=by
 obtain ⟨o,es,n,e1,e2⟩:=d
 obtain ⟨sl,e3⟩:=(k o e1).dict e2
 exact ⟨_,es,n,e3,e2⟩
def Kp (h h':Heap):Prop:=∀ b o,h.get? b=some o->Gw h' b o
theorem Kp.of {h h':Heap} (k:∀ b o,h.get? b=some o->h'.get? b=some o):Kp h h':=λb o e=> .inl (k b o e)
theorem Kp.refl (h:Heap):Kp h h:=λZz Zz e=> .inl e
theorem Kp.ob {h h':Heap} {b:Addr} {o:Obj} (k:Kp h h') (e:h.get? b=some o) (t:NT b o):h'.get? b=some o:=(k b o e).ob t
theorem Kp.at {h h':Heap} (k:Kp h h') (a:Addr):∀ o,isTab o=false->h.get? a=some o->h'.get? a=some o:=λZz t e=>k.ob e (.inl t)
def Cd (h h':Heap):Prop:=(∀ a o vs,o.cls = .type "code"->o.data = .fields vs->h.get? a=some o->h'.get? a=some o)/\∀ b,Dt h b->Dt h' b
theorem Cd.refl (h:Heap):Cd h h:=⟨λZz Zz Zz Zz Zz e=>e,λZz e=>e⟩
theorem Cd.trans {a b c:Heap} (x:Cd a b) (y:Cd b c):Cd a c:=⟨λi o vs h1 h2 e=>y.1 i o vs h1 h2 (x.1 i o vs h1 h2 e),λb d=>y.2 b (x.2 b d)⟩
theorem Kp.cd {h h':Heap} (k:Kp h h'):Cd h h':=⟨λZz Zz Zz h1 h2 e=>k.ob e (.inl (bh h1 h2)),λb d=>d.gw (k b)⟩
def Cc (h h':Heap):Prop:=∀ a o vs,o.cls = .type "code"->o.data = .fields vs->h.get? a=some o->h'.get? a=some o
theorem TabV.up {h h':Heap} {b:Addr} (k:Cc h h'):∀ {l:List Value},TabV h b l->TabV h' b l
 |_,.nil=> .nil
 |_,.cons e1 e2 e3 e4 r=> .cons (k _ _ _ e2 e3 e1) e2 e3 e4 (r.up k)
theorem TabV.app {h:Heap} {b:Addr} {m:List Value} (y:TabV h b m):∀ {l:List Value},TabV h b l->TabV h b (l++m)
 |_,.nil=>y
 |_,.cons e1 e2 e3 e4 r=> .cons e1 e2 e3 e4 (TabV.app y r)
theorem Gw.thenC {h1 h2:Heap} {b:Addr} {o:Obj} (g:Gw h1 b o) (k:∀ o,h1.get? b=some o->Gw h2 b o) (kk:Cc h1 h2):Gw h2 b o:=by
 rcases g with g |⟨t,vs,more,e1,e2,e3,e4⟩ |⟨t,es,n,sl,e1,e2⟩
 ·exact k _ g
 ·rcases k _ e3 with g |⟨_,vs',more',f1,f2,f3,f4⟩ |⟨_,es,n,sl,f1,_⟩
  ·exact .inr (.inl ⟨t,vs,more,e1,e2,g,e4.up kk⟩)
  ·cases f2
   refine .inr (.inl ⟨t,vs,more++more',e1,e2,?_,?_⟩)
   ·rw [<- Array.append_assoc];exact f3
   ·rw [Array.toList_append];exact TabV.app f4 (e4.up kk)
  ·cases f1
 ·obtain ⟨sl',e3⟩:=(k _ e2).dict e1
  exact .inr (.inr ⟨t,es,n,sl',e1,e3⟩)
theorem Gw.then {h1 h2:Heap} {b:Addr} {o:Obj} (g:Gw h1 b o) (k:∀ o,h1.get? b=some o->Gw h2 b o) (kk:Cd h1 h2):Gw h2 b o:=g.thenC k kk.1
theorem Kp.trans {a b c:Heap} (x:Kp a b) (y:Kp b c):Kp a c:=λi o e=>(x i o e).then (y i) y.cd
theorem Kp.push (h:Heap) (o:Obj):Kp h (h.push o):= .of λZz Zz e=>Heap.get?_push_of_some _ e
theorem Cc.sb {b c:Heap} {D:Addr} (sb:∀ x o,x≠D->b.get? x=some o->c.get? x=some o) (hd:∀ o,b.get? D=some o->∀ vs,o.data ≠ .fields vs):Cc b c:=λx o vs Zz h2 e=>sb x o (λq=>hd o (q▸e) vs h2) e
theorem Cd.sb {b c:Heap} {D:Addr} (sb:∀ x o,x≠D->b.get? x=some o->c.get? x=some o) (hd:∀ o,b.get? D=some o->∀ vs,o.data ≠ .fields vs) (hdt:Dt b D->Dt c D):Cd b c :=
 ⟨λx o vs Zz h2 e=>sb x o (λq=>hd o (q▸e) vs h2) e,λx d=>by
  by_cases q:x=D
  ·subst q;exact hdt d
  ·exact d.kq λo e=>sb x o q e⟩
theorem Kp.sb {a b c:Heap} {D:Addr} (k:Kp a b) (hn:a.get? D=none) (sb:∀ x o,x≠D->b.get? x=some o->c.get? x=some o) (hd:∀ o,b.get? D=some o->∀ vs,o.data ≠ .fields vs):Kp a c :=
 λx o e=>(k x o e).thenC (λo' e'=> .inl (sb x o' (λq=>by rw [q,hn] at e;cases e) e')) (Cc.sb sb hd)
theorem Dt.al {h:Heap} {b:Addr} (d:Dt h b):Al h b:=let ⟨o,_,_,e,_⟩:=d;⟨o,e⟩
theorem Cd.sbn {a b c:Heap} {D:Addr} (x:Cd a b) (hn:a.get? D=none) (sb:∀ x o,x≠D->b.get? x=some o->c.get? x=some o) (hd:∀ o,b.get? D=some o->∀ vs,o.data ≠ .fields vs):Cd a c :=
 ⟨λi o vs h1 h2 e=>Cc.sb sb hd i o vs h1 h2 (x.1 i o vs h1 h2 e),λi d=>(x.2 i d).kq λo e=>sb i o (λq=>by obtain ⟨o',e'⟩:=d.al;rw [q,hn] at e';cases e') e⟩
theorem PL.nofields {h:Heap} {a:Addr} {items:Array Value} (x:h.PlainList a items):∀ o,h.get? a=some o->∀ vs,o.data ≠ .fields vs:=λo e vs q=>by
 obtain ⟨n,ho⟩:=x;rw [e] at ho;cases ho;cases q
theorem Ns.nofields {h:Heap} {a:Addr} {m:Str->Option Value} (x:h.Ns a m):∀ o,h.get? a=some o->∀ vs,o.data ≠ .fields vs:=λo e vs q=>by
 obtain ⟨o',es,ep,ho,hd,Zz⟩:=x;rw [e] at ho;cases ho;rw [hd] at q;cases q
theorem Kp.none {h h':Heap} {b:Addr} (k:Kp h h') (e:h'.get? b=none):h.get? b=none:=by
 cases q:h.get? b with
 |none=>rfl
 |some o=>obtain ⟨o',e'⟩:=(k _ _ q).al;rw [e] at e';cases e'
theorem Kp.ns {h h':Heap} {a:Addr} {m:Str->Option Value} (k:Kp h h') (n:h.Ns a m):h'.Ns a m:=by
 obtain ⟨o,es,ep,e1,e2,e3⟩:=n
 obtain ⟨sl,e4⟩:=(k a o e1).dict e2
 exact ⟨_,es,ep,e4,e2,e3⟩
theorem Ns.gw {h h':Heap} {a:Addr} {m:Str->Option Value} (n:h.Ns a m) (k:∀ o,h.get? a=some o->Gw h' a o):h'.Ns a m:=by
 obtain ⟨o,es,ep,e1,e2,e3⟩:=n
 obtain ⟨sl,e4⟩:=(k o e1).dict e2
 exact ⟨_,es,ep,e4,e2,e3⟩
theorem Kp.cell {h h':Heap} {a:Addr} {v:Option Value} (k:Kp h h') (n:h.IsCell a v):h'.IsCell a v:=by
 obtain ⟨o,e1,e2⟩:=n
 exact ⟨o,k.ob e1 (.inl (cP e2)),e2⟩
class Frk where
 fs:Option (List Env)
structure KB [Jf:Frk] (hB h:Heap):Prop where
 kp:Kp hB h
 al:∀ l,Frk.fs=some l->∀ e∈l,e.scope.kind ≠ .module/\∃ L,e.frame=some L/\Tabs.fa L/\Dt h L
section
variable [Jf:Frk]
theorem KB.cdt {hB h h':Heap} (k:KB hB h) (kp:Kp hB h') (c:Cd h h'):KB hB h':=⟨kp,λl hl e he=>let ⟨h1,L,h2,h3,h4⟩:=k.al l hl e he;⟨h1,L,h2,h3,c.2 L h4⟩⟩
theorem KB.trans {hB h h':Heap} (k:KB hB h) (y:Kp h h'):KB hB h':=k.cdt (k.kp.trans y) y.cd
theorem KB.ob {h h':Heap} {b:Addr} {o:Obj} (k:KB h h') (e:h.get? b=some o) (t:NT b o):h'.get? b=some o:=k.kp.ob e t
theorem KB.none {h h':Heap} {b:Addr} (k:KB h h') (e:h'.get? b=Option.none):h.get? b=Option.none:=k.kp.none e
theorem KB.ns {h h':Heap} {a:Addr} {m:Str->Option Value} (k:KB h h') (n:h.Ns a m):h'.Ns a m:=k.kp.ns n
end
theorem Al.keep {h h':Heap} {b:Addr} (k:Kp h h') (a:Al h b):Al h' b:=let ⟨o,e⟩:=a;(k _ _ e).al
theorem Al.ne {h:Heap} {a b:Addr} (x:Al h a) (y:h.get? b=none):a≠b:=by
 rintro rfl;obtain ⟨o,e⟩:=x;rw [y] at e;cases e
mutual
def Den (h:Heap) (X:Addr->Prop):D->Value->Prop
 | .none,v=>v = .none
 | .bool b,v=>v = .bool b
 | .int i,v=>∃ t,v = .int i t
 | .str x,v=>∃ t,v = .str x t
 | .list ds,v=>∃ a items,v = .ref a/\¬ X a/\h.PlainList a items/\DenL h X ds items.toList
 | .tup ds,v=>∃ a items,v = .ref a/\¬ X a/\TupAt h a items/\DenL h X ds items.toList
def DenL (h:Heap) (X:Addr->Prop):List D->List Value->Prop
 | [],vs=>vs=[]
 |d :: ds,vs=>∃ v r,vs=v :: r/\Den h X d v/\DenL h X ds r
end
mutual
theorem Den.mono {h h':Heap} {X X':Addr->Prop} (hk:∀ b o,¬ X b->NT b o->h.get? b=some o->h'.get? b=some o) (hx:∀ b,Al h b->¬ X b->¬ X' b) :
  ∀ (d:D) (v:Value),Den h X d v->Den h' X' d v
 | .none,v,e=>e
 | .bool b,v,e=>e
 | .int i,v,e=>e
 | .str x,v,e=>e
 | .list ds,v,⟨a,items,e,n,l,r⟩=>⟨a,items,e,hx a (PL.al l) n,PL.at' l λo t=>hk a o n (.inl t),DenL.mono hk hx ds _ r⟩
 | .tup ds,v,⟨a,items,e,n,l,r⟩=>⟨a,items,e,hx a (TupAt.al l) n,TupAt.at' l λo t=>hk a o n (.inl t),DenL.mono hk hx ds _ r⟩
theorem DenL.mono {h h':Heap} {X X':Addr->Prop} (hk:∀ b o,¬ X b->NT b o->h.get? b=some o->h'.get? b=some o) (hx:∀ b,Al h b->¬ X b->¬ X' b) :
  ∀ (ds:List D) (vs:List Value),DenL h X ds vs->DenL h' X' ds vs
 | [],vs,e=>e
 |d :: ds,vs,⟨v,r,e,a,b⟩=>⟨v,r,e,Den.mono hk hx d v a,DenL.mono hk hx ds r b⟩
end
theorem Den.keep {h h':Heap} {X:Addr->Prop} {d:D} {v:Value} (k:Kp h h') (e:Den h X d v):Den h' X d v:=Den.mono (λb o Zz t e=>k.ob e t) (λZz Zz n=>n) d v e
theorem DenL.keep {h h':Heap} {X:Addr->Prop} {ds:List D} {vs:List Value} (k:Kp h h') (e:DenL h X ds vs):DenL h' X ds vs:=DenL.mono (λb o Zz t e=>k.ob e t) (λZz Zz n=>n) ds vs e
def DenT (h:Heap) (X:Addr->Prop):D->Value->Prop
 | .list ds,v=>∃ a items,v = .ref a/\h.PlainList a items/\DenL h X ds items.toList
 |d,v=>Den h X d v
theorem Den.top {h:Heap} {X:Addr->Prop} {d:D} {v:Value} (e:Den h X d v):DenT h X d v:=by
 cases d with
 |list ds=>obtain ⟨a,items,e,Zz,l,r⟩:=e;exact ⟨a,items,e,l,r⟩
 |_=>exact e
theorem DenT.keep {h h':Heap} {X:Addr->Prop} {d:D} {v:Value} (k:Kp h h') (e:DenT h X d v):DenT h' X d v:=by
 cases d with
 |list ds=>obtain ⟨a,items,e,l,r⟩:=e;exact ⟨a,items,e,PL.at' l (k.at a),r.keep k⟩
 |_=>exact Den.keep k e
def DenR (h:Heap) (X:Addr->Prop) (b:Bool) (d:D) (v:Value):Prop:=if b then DenT h X d v else Den h X d v
theorem DenR.top {h:Heap} {X:Addr->Prop} {b:Bool} {d:D} {v:Value} (e:DenR h X b d v):DenT h X d v:=by
 cases b
 ·exact Den.top e
 ·exact e
theorem DenR.keep {h h':Heap} {X:Addr->Prop} {b:Bool} {d:D} {v:Value} (k:Kp h h') (e:DenR h X b d v):DenR h' X b d v:=by
 cases b
 ·exact Den.keep k e
 ·exact DenT.keep k e
theorem Den.toR {h:Heap} {X:Addr->Prop} {b:Bool} {d:D} {v:Value} (e:Den h X d v):DenR h X b d v:=by
 cases b
 ·exact e
 ·exact Den.top e
theorem Den.scal {h h':Heap} {X X':Addr->Prop} {d:D} {v:Value} (hs:d.scalar=true) (e:Den h X d v):Den h' X' d v:=by
 cases d<;>first |exact e |cases hs
theorem DenL.length {h:Heap} {X:Addr->Prop}:∀ {ds:List D} {vs:List Value},DenL h X ds vs->vs.length=ds.length
 | [],vs,e=>by rw [show vs=[] from e];rfl
 |d :: ds,vs,⟨v,r,e,_,b⟩=>by rw [e,List.length_cons,List.length_cons,b.length]
theorem DenL.get {h:Heap} {X:Addr->Prop}:∀ {ds:List D} {vs:List Value} {i:Nat} {d:D},DenL h X ds vs->ds[i]? = some d->∃ v,vs[i]? = some v/\Den h X d v
 |d :: ds,vs,0,_,⟨v,r,e,a,_⟩,hi=>by
  cases hi;exact ⟨v,by rw [e];rfl,a⟩
 |d :: ds,vs,i+1,_,⟨v,r,e,_,b⟩,hi=>by
  obtain ⟨v',h1,h2⟩:=b.get (i:=i) (by simpa using hi)
  exact ⟨v',by rw [e];simpa using h1,h2⟩
theorem DenL.get' {h:Heap} {X:Addr->Prop} {ds:List D} {vs:List Value} {i:Nat} {v:Value} (x:DenL h X ds vs) (hv:vs[i]? = some v):∃ d,ds[i]? = some d/\Den h X d v:=by
 have hi:i<vs.length:=(List.getElem?_eq_some_iff.mp hv).1
 rw [x.length] at hi
 obtain ⟨v',h1,h2⟩:=x.get (List.getElem?_eq_getElem hi)
 rw [hv] at h1;cases h1
 exact ⟨_,List.getElem?_eq_getElem hi,h2⟩
theorem DenL.append {h:Heap} {X:Addr->Prop}:∀ {ds es:List D} {vs ws:List Value},DenL h X ds vs->DenL h X es ws->DenL h X (ds++es) (vs++ws)
 | [],es,vs,ws,e,f=>by rw [show vs=[] from e];exact f
 |d :: ds,es,vs,ws,⟨v,r,e,a,b⟩,f=>⟨v,r++ws,by rw [e];rfl,a,b.append f⟩
theorem DenL.single {h:Heap} {X:Addr->Prop} {d:D} {v:Value} (e:Den h X d v):DenL h X [d] [v]:=⟨v,[],rfl,e,rfl⟩
theorem DenL.of_get {h:Heap} {X:Addr->Prop}:∀ {ds:List D} {vs:List Value},vs.length=ds.length->(∀ (i:Nat) d,ds[i]? = some d->∃ v,vs[i]? = some v/\Den h X d v)->DenL h X ds vs
 | [],vs,hl,_=>List.eq_nil_of_length_eq_zero hl
 |d :: ds,[],hl,_=>by cases hl
 |d :: ds,v :: r,hl,hg=>by
  obtain ⟨v',h1,h2⟩:=hg 0 d rfl
  cases h1
  exact ⟨v,r,rfl,h2,DenL.of_get (by simpa using hl) λi d hd=>by
   obtain ⟨v',h1,h2⟩:=hg (i+1) d (by simpa using hd)
   exact ⟨v',by simpa using h1,h2⟩⟩
theorem DenL.reverse {h:Heap} {X:Addr->Prop}:∀ {ds:List D} {vs:List Value},DenL h X ds vs->DenL h X ds.reverse vs.reverse
 | [],vs,e=>by rw [show vs=[] from e];exact rfl
 |d :: ds,vs,⟨v,r,e,a,b⟩=>by
  rw [e,List.reverse_cons,List.reverse_cons]
  exact b.reverse.append (.single a)
theorem DenL.set {h:Heap} {X:Addr->Prop} {d:D} {v:Value} (hd:Den h X d v):∀ {ds:List D} {vs:List Value} {i:Nat},DenL h X ds vs->DenL h X (ds.set i d) (vs.set i v)
 | [],vs,i,e=>by rw [show vs=[] from e];exact rfl
 |e :: ds,vs,0,⟨v',r,e',a,b⟩=>⟨v,r,by rw [e'];rfl,hd,b⟩
 |e :: ds,vs,i+1,⟨v',r,e',a,b⟩=>⟨v',r.set i v,by rw [e'];rfl,a,b.set hd⟩
theorem DenL.erase {h:Heap} {X:Addr->Prop}:∀ {ds:List D} {vs:List Value} {i:Nat},DenL h X ds vs->DenL h X (ds.eraseIdx i) (vs.eraseIdx i)
 | [],vs,i,e=>by rw [show vs=[] from e];exact rfl
 |e :: ds,vs,0,⟨v',r,e',a,b⟩=>by rw [e'];exact b
 |e :: ds,vs,i+1,⟨v',r,e',a,b⟩=>⟨v',r.eraseIdx i,by rw [e'];rfl,a,b.erase⟩
theorem DenL.pick {h:Heap} {X:Addr->Prop} {ds:List D} {vs:List Value} (x:DenL h X ds vs):∀ (is:List Nat),DenL h X (is.filterMap (ds[·]?)) (is.filterMap (vs[·]?))
 | []=>rfl
 |i :: is=>by
  have ih:=x.pick is
  simp only [List.filterMap_cons]
  cases hd:ds[i]? with
  |none =>
   have:vs[i]? = none:=by
    rw [List.getElem?_eq_none_iff] at hd ⊢;rw [x.length];exact hd
   rw [this];exact ih
  |some d =>
   obtain ⟨v,h1,h2⟩:=x.get hd
   rw [h1];exact ⟨v,_,rfl,h2,ih⟩
theorem DenL.tail_mem {h:Heap} {X:Addr->Prop} {ds:List D} {vs:List Value} (x:DenL h X ds vs):∀ d∈ds,∃ v,v∈vs/\Den h X d v:=λd hd=>by
 obtain ⟨i,hi⟩:=List.getElem?_of_mem hd
 obtain ⟨v,h1,h2⟩:=x.get hi
 exact ⟨v,List.mem_of_getElem? h1,h2⟩
theorem gM {h:Heap} {X:Addr->Prop}:∀ {ds:List D} {ns:List Int} {vs:List Value},ints? ds=some ns->DenL h X ds vs->IntsAre vs ns/\ns.length=ds.length
 | [],ns,vs,e,x=>by rw [<- sm e,show vs=[] from x];exact ⟨.nil,rfl⟩
 |d :: ds,ns,vs,e,⟨v,r,e',a,b⟩=>ae e λi hi e=>ay e λns' e1 e2=>aS (P:=λd=>Den h X d v->_) hi (λ⟨t,ht⟩=>by
  have ⟨h1,h2⟩:=gM e1 b
  rw [e',ht,<- e2]
  exact ⟨by constructor;exact h1,congrArg (· + 1) h2⟩) a
theorem mj {h:Heap} {X:Addr->Prop}:∀ {ds:List D} {ts:List Str} {vs:List Value},strs? ds=some ts->DenL h X ds vs->∃ l:List (Str×Tok),vs=strValues l/\l.map (·.1)=ts
 | [],ts,vs,e,x=>⟨[],x,sm e⟩
 |d :: ds,ts,vs,e,⟨v,r,e',a,b⟩=>ae e λy hi e=>ay e λts' e1 e2=>ez (P:=λd=>Den h X d v->_) hi (λ⟨t,ht⟩=>by
  have ⟨l,h1,h2⟩:=mj e1 b
  exact ⟨(y,t) :: l,by rw [e',ht,h1];rfl,by rw [<- e2,<- h2];rfl⟩) a
structure FrM (env:Env) (h:Heap) (m cm:Str->Option Value):Prop where
 ns:h.Ns env.locals m
 cell:∀ n c,env.cells.lookup n=some c->h.IsCell c (cm n)
 offL:∀ n c,env.cells.lookup n=some c->c≠env.locals
 inj:∀ n n' c,env.cells.lookup n=some c->env.cells.lookup n'=some c->n=n'
 has:∀ x,env.kindOf x=some .cell\/env.kindOf x=some .free->∃ c,env.cells.lookup x=some c
noncomputable def valK (l c:Option Value):Option NameKind->Option Value
 |some .local=>l
 |some .cell=>c
 |some .free=>c
 |_=>none
noncomputable def valOf (env:Env) (m cm:Str->Option Value) (x:Str):Option Value:=valK (m x) (cm x) (env.kindOf x)
theorem FrM.keep {env:Env} {h h':Heap} {m cm:Str->Option Value} (F:FrM env h m cm) (k:Kp h h'):FrM env h' m cm :=
 ⟨k.ns F.ns,λn c e=>k.cell (F.cell n c e),F.offL,F.inj,F.has⟩
def DenV (h:Heap) (X:Addr->Prop) (x:Bool) (d:D) (v:Value):Prop :=
 if x then ∃ a items ds,v = .ref a/\d = .list ds/\h.PlainList a items/\DenL h X ds items.toList else Den h X d v
theorem DenV.keep {h h':Heap} {X:Addr->Prop} {x:Bool} {d:D} {v:Value} (k:Kp h h') (e:DenV h X x d v):DenV h' X x d v:=by
 cases x
 ·exact Den.keep k e
 ·obtain ⟨a,items,ds,e1,e2,l,r⟩:=e
  exact ⟨a,items,ds,e1,e2,PL.at' l (k.at a),r.keep k⟩
theorem DenV.top {h:Heap} {X:Addr->Prop} {x:Bool} {d:D} {v:Value} (e:DenV h X x d v):DenT h X d v:=by
 cases x
 ·exact Den.top e
 ·obtain ⟨a,items,ds,e1,e2,l,r⟩:=e
  subst e2;exact ⟨a,items,e1,l,r⟩
structure j8 (env:Env):Prop where
 kind:env.scope.kind = .function
 glob:env.globals=mainGlobals
 blt:env.builtins=builtinsNs
structure RR (env:Env) (tbl:List Str) (Ex:Addr->Prop) (ow:Nat->Addr) (O:MEnv) (h:Heap):Prop where
 ok:j8 env
 nd:tbl.Nodup
 lt:∀ b,Ex b->Al h b
 own:Ex env.locals/\∀ n c,env.cells.lookup n=some c->Ex c
 fr:∃ m cm,FrM env h m cm/\∀ i x d b,tbl[i]? = some x->getE O i=some (d,b)->seen env.scope x=true->∃ v,valOf env m cm x=some v/\DenV h Ex b d v/\(b=true->v = .ref (ow i))
theorem RR.keep {env:Env} {tbl:List Str} {Ex:Addr->Prop} {ow:Nat->Addr} {O:MEnv} {h h':Heap} (R:RR env tbl Ex ow O h) (k:Kp h h'):RR env tbl Ex ow O h':=by
 obtain ⟨ok,nd,lt,own,m,cm,F,hv⟩:=R
 refine ⟨ok,nd,λb hb=>(lt b hb).keep k,own,m,cm,F.keep k,λi x d b h1 h2 h3=> ?_⟩
 obtain ⟨v,e,dv,hw⟩:=hv i x d b h1 h2 h3
 exact ⟨v,e,dv.keep k,hw⟩
theorem fM {sc:Scope} {x:Str} (h:seen sc x=true):sc.names.lookup x=some .local\/sc.names.lookup x=some .cell\/sc.names.lookup x=some .free:=by
 unfold seen at h
 cases hk:sc.names.lookup x with
 |none=>rw [hk] at h;cases h
 |some k=>cases k<;>first |exact .inl rfl |exact .inr (.inl rfl) |exact .inr (.inr rfl) |(rw [hk] at h;cases h)
section
variable {M:Model} {A:Around} {E:Value->Shared->Prop} {s:Shared} {env:Env} {tbl:List Str} {Ex:Addr->Prop} {ow:Nat->Addr} {O:MEnv}
theorem dB {x:Str} {i:Nat} {d:D} {b:Bool} {Q:Value->Shared->Prop} (R:RR env tbl Ex ow O s.heap) (hs:seen env.scope x=true) (hi:tbl[i]? = some x)
  (hg:getE O i=some (d,b)) (hcd:(x==("__classdict__":Str))=false) (h:∀ v,DenV s.heap Ex b d v->(b=true->v = .ref (ow i))->Q v s):wpAny M A (loadName env x) Q E s:=by
 obtain ⟨ok,nd,lt,own,m,cm,F,hv⟩:=R
 obtain ⟨v,e,dv,hw⟩:=hv i x d b hi hg hs
 have hk:=fM hs
 unfold valOf Env.kindOf at e
 rcases hk with hk |hk |hk
 ·rw [hk] at e
  exact wpAny_loadName_local ok.kind hk F.ns e (h v dv hw)
 ·rw [hk] at e
  obtain ⟨c,hc⟩:=F.has x (.inl hk)
  exact wpAny_loadName_cell ok.kind hk hc (e▸F.cell x c hc) (h v dv hw)
 ·rw [hk] at e
  obtain ⟨c,hc⟩:=F.has x (.inr hk)
  exact wpAny_loadName_free ok.kind hk hc (e▸F.cell x c hc) (h v dv hw) hcd
theorem uz {x:Str} {i:Nat} {pos:Pos} {d:D} {b:Bool} {Q:Value->Shared->Prop} (R:RR env tbl Ex ow O s.heap) (hs:seen env.scope x=true) (hi:tbl[i]? = some x)
  (hg:getE O i=some (d,b)) (hd:(x==("__debug__":Str))=false) (hcd:(x==("__classdict__":Str))=false) (h:∀ v,DenV s.heap Ex b d v->Q v s):wpAny M A (eval (.Name x pos) env) Q E s :=
 wpAny_Name (dB R hs hi hg hcd λv dv Zz=>h v dv) hd
end
end Mine
namespace Mine
variable [Jt:Tabs] [Jf:Frk]
theorem cQ {a:Int} (h:small a=true):Builtin.Int.intBits a<=4000:=PySem.intBits_le_iff.mpr (by unfold small BIG at h;simpa using h)
theorem dE {x y:Int} (h:small y=true):Builtin.divisionGoesByPylong x y=false:=by
 refine PyProof.noPylong_of_log2 ?_
 have h2:y.natAbs<2 ^ 4000:=by unfold small BIG at h;simpa using h
 by_cases h0:y.natAbs=0
 ·rw [h0];decide
 ·exact Nat.lt_trans ((Nat.log2_lt h0).mpr h2) (by decide)
def FrV (h h':Heap) (Ex:Addr->Prop) (d:D) (v:Value):Prop :=
 ∃ a items ds,v = .ref a/\h.get? a=none/\d = .list ds/\h'.PlainList a items/\DenL h' (λb=>Ex b\/b=a) ds items.toList
def Ps (s:Shared) (Ex:Addr->Prop) (d:D) (fr:Bool) (Q:Value->Shared->Prop):Prop :=
 ∀ v h' tk,Kp s.heap h'->Den h' Ex d v->(fr=true->FrV s.heap h' Ex d v)->Q v {s with heap:=h',toks:=tk}
theorem Ps.now {s:Shared} {Ex:Addr->Prop} {d:D} {Q:Value->Shared->Prop} {v:Value} (P:Ps s Ex d false Q) (tk:Nat) (hd:Den s.heap Ex d v):Q v {s with toks:=tk} :=
 P v s.heap tk (Kp.refl _) hd (λh=>by cases h)
theorem Ps.here {s:Shared} {Ex:Addr->Prop} {d:D} {Q:Value->Shared->Prop} {v:Value} (P:Ps s Ex d false Q) (hd:Den s.heap Ex d v):Q v s:=P.now s.toks hd
structure Ar (n:Nat) (A:Around):Prop where
 hd:A.handled=none
 depth:A.depth+n<=900
 units:A.units+4 * n<=9000
 fr:∀ l,Frk.fs=some l->A.frames=some l
theorem Ar.mono {n m:Nat} {A:Around} (h:Ar n A) (l:m<=n):Ar m A:=⟨h.hd,Nat.le_trans (Nat.add_le_add_left l _) h.depth,Nat.le_trans (Nat.add_le_add_left (Nat.mul_le_mul_left 4 l) _) h.units,h.fr⟩
theorem Ar.deep (off:Frk.fs=none) {n:Nat} {A:Around} (h:Ar (n+1) A) (env:Env):Ar n (A.deeper env) :=
 ⟨h.hd,Nat.le_trans (Nat.le_of_eq ((Nat.add_assoc _ _ _).trans (congrArg _ (Nat.add_comm 1 n)))) h.depth,Nat.le_trans (show A.units+3+4 * n<=A.units+(4 * n+4) from Nat.le_trans (Nat.le_of_eq ((Nat.add_assoc _ _ _).trans (congrArg _ (Nat.add_comm 3 _)))) (Nat.add_le_add_left (Nat.add_le_add_left (by decide) _) _)) h.units,λl hl=>ai (off.symm.trans hl)⟩
section
variable {prog:Program} {w:World} {A:Around} {E:Value->Shared->Prop} {s:Shared} {Ex:Addr->Prop}
theorem Ps.newList {ds:List D} {items:List Value} {fr:Bool} {Q:Value->Shared->Prop} (P:Ps s Ex (.list ds) fr Q) (lt:∀ b,Ex b->Al s.heap b) (hd:DenL s.heap Ex ds items) (tk:Nat) :
  Q (.ref s.heap.objs.size) {s with heap:=s.heap.push {cls:= .type "list",data:= .seq items.toArray},toks:=tk}:=by
 have k:=Kp.push s.heap {cls:= .type "list",data:= .seq items.toArray}
 have pl:(s.heap.push {cls:= .type "list",data:= .seq items.toArray}).PlainList s.heap.objs.size items.toArray:=⟨0,Heap.get?_push_size _ rfl⟩
 refine P _ _ tk k ⟨_,_,rfl,λe=>(lt _ e).ne (aI _) rfl,pl,hd.keep k⟩ λZz=>⟨_,_,ds,rfl,aI _,rfl,pl,?_⟩
 exact DenL.mono (λb o Zz t e=>k.ob e t) (λb hb n e=>e.elim n λe=>hb.ne (aI _) e) _ _ hd
theorem Ps.int {i:Int} {d:D} {Q:Value->Shared->Prop} (P:Ps s Ex d false Q) (h:some (D.int i)=some d) (t:Tok) (tk:Nat):Q (.int i t) {s with toks:=tk}:=P.now tk (sm h▸⟨t,rfl⟩)
theorem Ps.str {i:Str} {d:D} {Q:Value->Shared->Prop} (P:Ps s Ex d false Q) (h:some (D.str i)=some d) (t:Tok) (tk:Nat):Q (.str i t) {s with toks:=tk}:=P.now tk (sm h▸⟨t,rfl⟩)
theorem aT {op:Operator} {a b d:D} {va vb:Value} {Q:Value->Shared->Prop} {f:Int->Int->Option D} (ha:DenT s.heap Ex a va) (hb:DenT s.heap Ex b vb) (hd:ii f a b=some d)
  (h:∀ i j t u,f i j=some d->wpAny (model prog w) A (binaryOp op (.int i t) (.int j u)) Q E s):wpAny (model prog w) A (binaryOp op va vb) Q E s :=
 pK (P:=λa b=>DenT s.heap Ex a va->DenT s.heap Ex b vb->_) hd (λi j hf ⟨t,ha⟩ ⟨u,hb⟩=>by rw [ha,hb];exact h i j t u hf) ha hb
end
noncomputable def vkd:Value->Nat
 | .none=>0
 | .bool _=>1
 | .int _ _=>2
 | .str _ _=>3
 |_=>4
noncomputable def dkd:D->Nat
 | .none=>0
 | .bool _=>1
 | .int _=>2
 | .str _=>3
 | .list _=>4
 | .tup _=>4
theorem qF {h:Heap} {X:Addr->Prop} {d:D} {v:Value} (e:DenT h X d v):vkd v=dkd d:=by
 cases d with
 |none=>rw [show v=_ from e];rfl
 |bool b=>rw [show v=_ from e];rfl
 |int i=>obtain ⟨t,e⟩:=e;rw [e];rfl
 |str i=>obtain ⟨t,e⟩:=e;rw [e];rfl
 |list ds=>obtain ⟨a,Zz,e,Zz⟩:=e;rw [e];rfl
 |tup ds=>obtain ⟨a,Zz,e,Zz⟩:=e;rw [e];rfl
theorem ga {h:Heap} {X X':Addr->Prop} {d d':D} {v:Value} {P:Prop} (e:DenT h X d v) (f:DenT h X' d' v) (n:Nat.beq (dkd d) (dkd d')=false):P :=
 absurd ((qF e).symm.trans (qF f)) (Nat.ne_of_beq_eq_false n)
theorem sa {h:Heap} {a:Addr} {i j:Array Value} {P:Prop} (l:h.PlainList a i) (t:TupAt h a j):P:=by
 obtain ⟨n,l⟩:=l
 obtain ⟨m,t⟩:=t
 rw [l] at t
 exact absurd (Value.type.inj (congrArg Obj.cls (sm t))) (by decide)
theorem Bk {h:Heap} {a:Addr} {i j:Array Value} (l:h.PlainList a i) (t:h.PlainList a j):i=j:=by
 obtain ⟨n,l⟩:=l
 obtain ⟨m,t⟩:=t
 rw [l] at t
 exact (Data.seq.inj (congrArg Obj.data (sm t))).1
theorem Aq {h:Heap} {a:Addr} {i j:Array Value} (l:TupAt h a i) (t:TupAt h a j):i=j:=by
 obtain ⟨n,l⟩:=l
 obtain ⟨m,t⟩:=t
 rw [l] at t
 exact (Data.seq.inj (congrArg Obj.data (sm t))).1
mutual
theorem Den.fn {h:Heap} {X X':Addr->Prop}:∀ (d d':D) (v:Value),DenT h X d v->DenT h X' d' v->d=d'
 | .none,d',v,e,f=>by
  cases d' with
  |none=>rfl
  |_=>exact ga e f rfl
 | .bool b,d',v,e,f=>by
  cases d' with
  |bool b'=>exact congrArg D.bool (Value.bool.inj ((show v=_ from e).symm.trans f))
  |_=>exact ga e f rfl
 | .int b,d',v,e,f=>by
  cases d' with
  |int b' =>
   obtain ⟨t,e⟩:=e
   obtain ⟨u,f⟩:=f
   exact congrArg D.int (Value.int.inj (e.symm.trans f)).1
  |_=>exact ga e f rfl
 | .str b,d',v,e,f=>by
  cases d' with
  |str b' =>
   obtain ⟨t,e⟩:=e
   obtain ⟨u,f⟩:=f
   exact congrArg D.str (Value.str.inj (e.symm.trans f)).1
  |_=>exact ga e f rfl
 | .list ds,d',v,e,f=>by
  cases d' with
  |list ds' =>
   obtain ⟨a,items,e,l,r⟩:=e
   obtain ⟨a',items',e',l',r'⟩:=f
   obtain rfl:=Value.ref.inj (e.symm.trans e')
   obtain rfl:=Bk l l'
   rw [DenL.fn ds ds' _ r r']
  |tup ds' =>
   obtain ⟨a,items,e,l,r⟩:=e
   obtain ⟨a',items',e',Zz,l',Zz⟩:=f
   obtain rfl:=Value.ref.inj (e.symm.trans e')
   exact sa l l'
  |_=>exact ga (d:= .list ds) e f rfl
 | .tup ds,d',v,e,f=>by
  cases d' with
  |tup ds' =>
   obtain ⟨a,items,e,Zz,l,r⟩:=e
   obtain ⟨a',items',e',Zz,l',r'⟩:=f
   obtain rfl:=Value.ref.inj (e.symm.trans e')
   obtain rfl:=Aq l l'
   rw [DenL.fn ds ds' _ r r']
  |list ds' =>
   obtain ⟨a,items,e,Zz,l,Zz⟩:=e
   obtain ⟨a',items',e',l',r'⟩:=f
   obtain rfl:=Value.ref.inj (e.symm.trans e')
   exact sa l' l
  |_=>exact ga (d:= .tup ds) e f rfl
theorem DenL.fn {h:Heap} {X X':Addr->Prop}:∀ (ds ds':List D) (vs:List Value),DenL h X ds vs->DenL h X' ds' vs->ds=ds'
 | [],ds',vs,e,f=>by
  cases ds' with
  |nil=>rfl
  |cons d' ds' =>
   obtain ⟨v',r',e',Zz⟩:=f
   exact nomatch (show vs=[] from e).symm.trans e'
 |d :: ds,ds',vs,e,f=>by
  obtain ⟨v,r,e,a,b⟩:=e
  cases ds' with
  |nil=>exact nomatch (show vs=[] from f).symm.trans e
  |cons d' ds' =>
   obtain ⟨v',r',e',a',b'⟩:=f
   obtain ⟨rfl,rfl⟩:=List.cons.inj (e.symm.trans e')
   rw [Den.fn d d' v a.top a'.top,DenL.fn ds ds' r b b']
end
theorem qn {f:D->D->Option Bool}:∀ {xs ys:List D} {b:Bool},allEq f xs ys=some b->xs.length=ys.length/\∃ e:Nat->Bool,(∀ i x y,xs[i]? = some x->ys[i]? = some y->f x y=some (e i))/\(List.range xs.length).all e=b:=by
 intro xs
 induction xs with
 |nil =>
  intro ys b h
  cases ys with
  |nil=>exact ⟨rfl,λZz=>true,λi x y h=>(nomatch (List.getElem?_nil (i:=i)).symm.trans h),sm h⟩
  |cons _ _=>exact ai h
 |cons x xs ih =>
  intro ys b h
  cases ys with
  |nil=>exact ai h
  |cons y ys =>
   refine ae h λa h1 h=>ay h λc h2 h3=> ?_
   obtain ⟨hl,e,he,ha⟩:=ih h2
   refine ⟨congrArg (· + 1) hl,λi=>Nat.casesOn i a e,λi x' y' hx hy=> ?_,?_⟩
   ·cases i with
    |zero=>rw [<- sm hx,<- sm hy];exact h1
    |succ i=>exact he i x' y' hx hy
   ·rw [List.length_cons,List.range_succ_eq_map,List.all_cons,List.all_map,<- h3,<- ha];rfl
theorem gC {r:List D->List D->Option Bool} (hr:∀ ds b,r ds ds=some b->b=true) (d:D) (b:Bool) (h:eqS r d d=some b):b=true:=by
 cases d with
 |none=>exact (sm h).symm
 |bool c=>exact bq (a:=c) h
 |int c=>exact bq (a:=c) h
 |str c=>exact bq (a:=c) h
 |list ds=>exact hr ds b ((if_pos rfl).symm.trans h)
 |tup ds=>exact hr ds b ((if_pos rfl).symm.trans h)
theorem eC {f:D->D->Option Bool} (hf:∀ d b,f d d=some b->b=true):∀ (ds:List D) (b:Bool),allEq f ds ds=some b->b=true
 | [],b,h=>(sm h).symm
 |d :: ds,b,h=>ae h λa h1 h=>ay h λc h2 h3=>by rw [<- h3,hf d a h1,eC hf ds c h2];rfl
theorem kT:∀ (n:Nat) (d:D) (b:Bool),eqN n d d=some b->b=true
 |0=>gC λZz Zz h=>ai h
 |n+1=>gC (eC (kT n))
open PySem.SeqAt
def iQ (s:Shared) (A:Around) (r:List D->List D->Option Bool):Prop:=∀ X Y (xs ys:List D) (its its2:Array Value) (b:Bool),DenL s.heap X xs its.toList->DenL s.heap Y ys its2.toList->r xs ys=some b ->
 xs.length=ys.length/\∃ e:Nat->Bool,(∀ j (h1:j<its.size) (h2:j<its2.size),EqAt A.in1 s its[j] its2[j] (e j))/\(List.range xs.length).all e=b
theorem am {h:Heap} {X:Addr->Prop} {xs:List D} {its:Array Value} (r:DenL h X xs its.toList):its.size=xs.length:=Array.length_toList.symm.trans r.length
theorem oK {X Y:Addr->Prop} {s:Shared} {a b:D} {va vb:Value} {r:Bool} {A:Around} {f:List D->List D->Option Bool} (hu:A.units<cLine) (F:iQ s A f) (ha:DenT s.heap X a va) (hb:DenT s.heap Y b vb) (h:eqS f a b=some r):RcAt A s va vb r/\RcNeAt A s va vb (!r):=by
 revert hb
 cases a with
 |none=>exact gd h λhb e=>lK (P:=λb=>DenT s.heap Y b vb->_) hb λhb=>by rw [show va=_ from ha,show vb=_ from hb,<- sm e];exact ⟨RcAt.none_none,RcNeAt.none_none⟩
 |bool x=>exact ay h λy hb e=>iT (P:=λb=>DenT s.heap Y b vb->_) hb λhb=>by rw [show va=_ from ha,show vb=_ from hb,<- e];exact ⟨RcAt.bool_bool _ _,RcNeAt.bool_bool _ _⟩
 |int x=>exact ay h λy hb e=>aS (P:=λb=>DenT s.heap Y b vb->_) hb λ⟨u,hb⟩=>by obtain ⟨t,ha⟩:=ha;rw [ha,hb,<- e];exact ⟨RcAt.int_int _ _ _ _,RcNeAt.int_int _ _ _ _⟩
 |str x=>exact ay h λy hb e=>ez (P:=λb=>DenT s.heap Y b vb->_) hb λ⟨u,hb⟩=>by obtain ⟨t,ha⟩:=ha;rw [ha,hb,<- e];exact ⟨RcAt.str_str _ _ _ _,RcNeAt.str_str _ _ _ _⟩
 |list xs =>
  refine ae h λys hb h=>bH (P:=λb=>DenT s.heap Y b vb->_) hb λhb=> ?_
  obtain ⟨p,its,e1,l1,r1⟩:=ha
  obtain ⟨q,its2,e2,l2,r2⟩:=hb
  have z1:=am r1
  have z2:=am r2
  rw [e1,e2]
  by_cases hl:xs.length=ys.length
  ·rw [if_pos hl] at h
   obtain ⟨Zz,e,he,hall⟩:=F X Y xs ys its its2 r r1 r2 h
   rw [<- hall,<- z1]
   have z:=z1.trans (hl.trans z2.symm)
   exact ⟨RcAt.lists (PL.isList l1) (PL.isList l2) z hu he,RcNeAt.lists (PL.isList l1) (PL.isList l2) z hu he⟩
  ·rw [if_neg hl] at h
   rw [<- sm h]
   have z:(its.size != its2.size)=true:=by rw [z1,z2];exact bne_iff_ne.mpr hl
   exact ⟨RcAt.lists_lengths (PL.isList l1) (PL.isList l2) z hu,RcNeAt.lists_lengths (PL.isList l1) (PL.isList l2) z hu⟩
 |tup xs =>
  refine ae h λys hb h=>eA (P:=λb=>DenT s.heap Y b vb->_) hb λhb=>gd h λhl h=> ?_
  obtain ⟨p,its,e1,Zz,l1,r1⟩:=ha
  obtain ⟨q,its2,e2,Zz,l2,r2⟩:=hb
  have z1:=am r1
  have z2:=am r2
  rw [e1,e2]
  obtain ⟨Zz,e,he,hall⟩:=F X Y xs ys its its2 r r1 r2 h
  have z:=z1.trans (hl.trans z2.symm)
  have k1:=RcAt.tuples (A:=A) (e:=e) (TupAt.isTup l1) (TupAt.isTup l2) hu he
  have k2:=RcNeAt.tuples (A:=A) (e:=e) (TupAt.isTup l1) (TupAt.isTup l2) hu he
  have q1:min its.size its2.size=xs.length:=by rw [<- z,Nat.min_self,z1]
  rw [q1,z,beq_self_eq_true,Bool.and_true,hall] at k1 k2
  exact ⟨k1,k2⟩
theorem nH {X Y:Addr->Prop} {s:Shared} {a b:D} {va vb:Value} {r:Bool} {A:Around} {f:List D->List D->Option Bool} (hu:A.units<cLine) (F:iQ s A f) (hr:∀ ds b,f ds ds=some b->b=true) (ha:DenT s.heap X a va) (hb:DenT s.heap Y b vb) (h:eqS f a b=some r):EqAt A s va vb r:=by
 have refs:∀ p q,va = .ref p->vb = .ref q->EqAt A s va vb r:=λp q e1 e2=>by
  subst e1 e2
  by_cases hpq:p=q
  ·subst hpq
   obtain rfl:=Den.fn _ _ _ ha hb
   rw [gC hr _ r h]
   exact EqAt.same _
  ·exact EqAt.of_refs hpq (oK hu F ha hb h).1
 revert hb refs
 cases a with
 |none=>exact gd h λhb e=>lK (P:=λb=>DenT s.heap Y b vb->_) hb λhb Zz=>by rw [show va=_ from ha,show vb=_ from hb,<- sm e];exact EqAt.same _
 |bool x=>exact ay h λy hb e=>iT (P:=λb=>DenT s.heap Y b vb->_) hb λhb Zz=>by rw [show va=_ from ha,show vb=_ from hb,<- e];exact EqAt.bool_bool _ _
 |int x=>exact ay h λy hb e=>aS (P:=λb=>DenT s.heap Y b vb->_) hb λ⟨u,hb⟩ Zz=>by obtain ⟨t,ha⟩:=ha;rw [ha,hb,<- e];exact EqAt.int_int _ _ _ _
 |str x=>exact ay h λy hb e=>ez (P:=λb=>DenT s.heap Y b vb->_) hb λ⟨u,hb⟩ Zz=>by obtain ⟨t,ha⟩:=ha;rw [ha,hb,<- e];exact EqAt.str_str _ _ _ _
 |list xs =>
  refine ae h λys hb h=>bH (P:=λb=>DenT s.heap Y b vb->_) hb λhb refs=> ?_
  obtain ⟨p,Zz,e1,Zz⟩:=ha
  obtain ⟨q,Zz,e2,Zz⟩:=hb
  exact refs p q e1 e2
 |tup xs =>
  refine ae h λys hb h=>eA (P:=λb=>DenT s.heap Y b vb->_) hb λhb refs=> ?_
  obtain ⟨p,Zz,e1,Zz⟩:=ha
  obtain ⟨q,Zz,e2,Zz⟩:=hb
  exact refs p q e1 e2
theorem lw {s:Shared} {A:Around} {f:D->D->Option Bool} (hf:∀ X Y a b va vb r,DenT s.heap X a va->DenT s.heap Y b vb->f a b=some r->EqAt A.in1 s va vb r):iQ s A (allEq f):=λX Y xs ys its its2 b r1 r2 h=>by
 obtain ⟨hl,e,he,hall⟩:=qn h
 refine ⟨hl,e,λj h1 h2=> ?_,hall⟩
 have hx:=List.getElem?_eq_getElem (l:=xs) (i:=j) (am r1▸h1)
 have hy:=List.getElem?_eq_getElem (l:=ys) (i:=j) (am r2▸h2)
 obtain ⟨v1,g1,d1⟩:=r1.get hx
 obtain ⟨v2,g2,d2⟩:=r2.get hy
 rw [ni g1 h1,ni g2 h2]
 exact hf X Y _ _ _ _ _ d1.top d2.top (he j _ _ hx hy)
theorem eI {s:Shared}:∀ (n:Nat) (A:Around),A.units+n<cLine->∀ (X Y:Addr->Prop) (a b:D) (va vb:Value) (r:Bool),DenT s.heap X a va->DenT s.heap Y b vb->eqN n a b=some r->EqAt A s va vb r
 |0,A,hu,X,Y,a,b,va,vb,r,ha,hb,h=>nH hu (λZz Zz Zz Zz Zz Zz Zz Zz Zz h=>ai h) (λZz Zz h=>ai h) ha hb h
 |n+1,A,hu,X,Y,a,b,va,vb,r,ha,hb,h =>
  nH (Nat.lt_of_le_of_lt (Nat.le_add_right _ _) hu) (lw (eI n A.in1 (Nat.lt_of_le_of_lt (Nat.le_of_eq (Nat.succ_add_eq_add_succ _ _)) hu))) (eC (kT n)) ha hb h
theorem su {X Y:Addr->Prop} {s:Shared} {a b:D} {va vb:Value} {r:Bool} {A:Around} (hu:A.units+5<cLine) (ha:DenT s.heap X a va) (hb:DenT s.heap Y b vb) (h:eqD a b=some r):RcAt A s va vb r/\RcNeAt A s va vb (!r) :=
 oK (Nat.lt_of_le_of_lt (Nat.le_add_right _ _) hu) (lw (eI 3 A.in1 (Nat.lt_of_le_of_lt (Nat.le_of_eq (Nat.add_assoc A.units 1 3)) (Nat.lt_of_succ_lt hu)))) ha hb h
end Mine
namespace Mine
variable [Jt:Tabs] [Jf:Frk]
open PySem.SeqAt
noncomputable def hitV (h:Heap) (X:Addr->Prop) (d:D) (xs:List D) (y:Value):Bool :=
 @decide (∃ x∈xs,Den h X x y/\eqD x d=some true) (Classical.propDecidable _)
theorem lh {h:Heap} {X:Addr->Prop} {d x:D} {xs:List D} {y:Value} {b:Bool} (hm:x∈xs) (hx:Den h X x y) (hb:eqD x d=some b):hitV h X d xs y=b:=by
 unfold hitV
 cases b with
 |true=>exact @decide_eq_true _ (Classical.propDecidable _) ⟨x,hm,hx,hb⟩
 |false =>
  refine @decide_eq_false _ (Classical.propDecidable _) λ⟨x',_,hx',he⟩=> ?_
  rw [Den.fn _ _ _ hx.top hx'.top,he] at hb
  exact nomatch sm hb
theorem lG {d:D}:∀ {xs:List D} {r:Bool},memD d xs=some r->(∀ x∈xs,∃ b,eqD x d=some b)/\(r=true↔∃ x∈xs,eqD x d=some true)
 | [],r,h=>by rw [<- sm h];exact ⟨λZz hx=>(nomatch hx),⟨λq=>(nomatch q),λ⟨_,hx,_⟩=>(nomatch hx)⟩⟩
 |x :: xs,r,h=>ae h λa h1 h=>ay h λb h2 h3=>by
  obtain ⟨i1,i2⟩:=lG h2
  refine ⟨λy hy=> ?_,?_⟩
  ·rcases List.mem_cons.mp hy with rfl |hy
   ·exact ⟨a,h1⟩
   ·exact i1 y hy
  ·rw [<- h3]
   simp only [Bool.or_eq_true,List.mem_cons,exists_eq_or_imp,h1,i2,Option.some.injEq]
theorem zw {X Y:Addr->Prop} {s:Shared} {A:Around} {d:D} {v:Value} {xs:List D} {its:List Value} {r:Bool} (hu:A.units+4<cLine) (hv:DenT s.heap Y d v) (hx:DenL s.heap X xs its) (h:memD d xs=some r) :
  (∀ y,y∈its->EqAt A s y v (hitV s.heap X d xs y))/\its.any (hitV s.heap X d xs)=r:=by
 obtain ⟨h1,h2⟩:=lG h
 constructor
 ·intro y hy
  obtain ⟨i,hi⟩:=List.getElem?_of_mem hy
  obtain ⟨x,hx1,hx2⟩:=hx.get' hi
  obtain ⟨b,hb⟩:=h1 x (List.mem_of_getElem? hx1)
  rw [lh (List.mem_of_getElem? hx1) hx2 hb]
  exact eI 4 _ hu _ _ _ _ _ _ _ hx2.top hv hb
 ·rw [Bool.eq_iff_iff,h2,List.any_eq_true]
  constructor
  ·rintro ⟨y,hy,he⟩
   obtain ⟨x,hx1,Zz,hx2⟩:= @of_decide_eq_true _ (Classical.propDecidable _) he
   exact ⟨x,hx1,hx2⟩
  ·rintro ⟨x,hx1,hx2⟩
   obtain ⟨y,hy,hd⟩:=hx.tail_mem x hx1
   exact ⟨y,hy,lh hx1 hd hx2⟩
theorem gt {h:Heap} {X:Addr->Prop} {xs:List D} {its:Array Value} (r:DenL h X xs its.toList):its.isEmpty=xs.isEmpty:=by
 have z:=am r
 rw [Array.isEmpty,z]
 cases xs<;>rfl
section
variable {prog:Program} {w:World} {A:Around} {E:Value->Shared->Prop} {s:Shared} {Ex:Addr->Prop}
theorem rc {A:Around} (hu:A.units+6<cLine):A.in1.units+4<cLine:=Nat.lt_of_le_of_lt (Nat.le_of_eq (Nat.add_assoc A.units 1 4)) (Nat.lt_of_succ_lt hu)
theorem jI {a b:D} {va vb:Value} {r:Bool} (hu:A.units+6<cLine) (ha:DenT s.heap Ex a va) (hb:DenT s.heap Ex b vb) (h:inD a b=some r) :
  (∀ {Q:Value->Shared->Prop},Q (.bool r) s->wpAny (model prog w) A (compareOp .In va vb) Q E s)/\(∀ {Q:Value->Shared->Prop},Q (.bool (!r)) s->wpAny (model prog w) A (compareOp .NotIn va vb) Q E s):=by
 have hu:=rc hu
 cases b with
 |str x =>
  obtain ⟨u,hb⟩:=hb
  revert ha
  refine ay h λy hy e=>ez (P:=λa=>DenT s.heap Ex a va->_) hy λ⟨t,ha⟩=> ?_
  rw [ha,hb,<- e]
  exact ⟨P.in_str,P.notIn_str⟩
 |list xs =>
  obtain ⟨p,its,e1,l1,r1⟩:=hb
  obtain ⟨k1,k2⟩:=zw (A:=A.in1) hu ha r1 h
  rw [e1]
  rw [Array.any_toList] at k2
  exact ⟨λhq=>in_listAt _ (PL.isList l1) (λy hy=>k1 y (Array.mem_toList_iff.mpr hy)) (by rw [k2];exact hq),λhq=>notIn_listAt _ (PL.isList l1) (λy hy=>k1 y (Array.mem_toList_iff.mpr hy)) (by rw [k2];exact hq)⟩
 |tup xs =>
  obtain ⟨p,its,e1,Zz,l1,r1⟩:=hb
  obtain ⟨k1,k2⟩:=zw (A:=A.in1) hu ha r1 h
  rw [e1]
  rw [Array.any_toList] at k2
  exact ⟨λhq=>in_tupleAt _ (TupAt.isTup l1) (λy hy=>k1 y (Array.mem_toList_iff.mpr hy)) (by rw [k2];exact hq),λhq=>notIn_tupleAt _ (TupAt.isTup l1) (λy hy=>k1 y (Array.mem_toList_iff.mpr hy)) (by rw [k2];exact hq)⟩
 |_=>exact ai h
theorem jJ {X Y:Addr->Prop} {h:Heap} {a b:D} {va vb:Value} {r:Bool} (ha:DenT h X a va) (hb:DenT h Y b vb) (hr:isD a b=some r):plainIs va vb=true/\(va==vb)=r:=by
 cases b with
 |none =>
  rw [show vb=_ from hb,<- sm hr]
  cases a with
  |none=>rw [show va=_ from ha];exact ⟨rfl,rfl⟩
  |bool _=>rw [show va=_ from ha];exact ⟨rfl,rfl⟩
  |int _=>obtain ⟨t,ha⟩:=ha;rw [ha];exact ⟨rfl,rfl⟩
  |str _=>obtain ⟨t,ha⟩:=ha;rw [ha];exact ⟨rfl,rfl⟩
  |list _=>obtain ⟨p,Zz,ha,Zz⟩:=ha;rw [ha];exact ⟨rfl,rfl⟩
  |tup _=>obtain ⟨p,Zz,ha,Zz⟩:=ha;rw [ha];exact ⟨rfl,rfl⟩
 |bool c =>
  rw [show vb=_ from hb,<- sm hr]
  cases a with
  |none=>rw [show va=_ from ha];exact ⟨rfl,rfl⟩
  |bool b'=>rw [show va=_ from ha];exact ⟨rfl,by cases b'<;>cases c<;>rfl⟩
  |int _=>obtain ⟨t,ha⟩:=ha;rw [ha];exact ⟨rfl,rfl⟩
  |str _=>obtain ⟨t,ha⟩:=ha;rw [ha];exact ⟨rfl,rfl⟩
  |list _=>obtain ⟨p,Zz,ha,Zz⟩:=ha;rw [ha];exact ⟨rfl,rfl⟩
  |tup _=>obtain ⟨p,Zz,ha,Zz⟩:=ha;rw [ha];exact ⟨rfl,rfl⟩
 |_=>exact ai hr
theorem dF {op:CmpOp} {a b:D} {va vb:Value} {r:Bool} {f:Int->Int->Bool} {Q:Value->Shared->Prop} (ha:DenT s.heap Ex a va) (hb:DenT s.heap Ex b vb) (h:ii (λa b=>some (f a b)) a b=some r) (hq:Q (.bool r) s)
  (k:∀ i j t u,Q (.bool (f i j)) s->wpAny (model prog w) A (compareOp op (.int i t) (.int j u)) Q E s):wpAny (model prog w) A (compareOp op va vb) Q E s :=
 pK (P:=λa b=>DenT s.heap Ex a va->DenT s.heap Ex b vb->_) h (λi j hf ⟨t,ha⟩ ⟨u,hb⟩=>by rw [ha,hb];exact k i j t u (sm hf▸hq)) ha hb
theorem pz {op:CmpOp} {a b:D} {va vb:Value} {r:Bool} {Q:Value->Shared->Prop} (hu:A.units+6<cLine) (ha:DenT s.heap Ex a va) (hb:DenT s.heap Ex b vb) (h:cmpD op a b=some r)
  (hq:Q (.bool r) s):wpAny (model prog w) A (compareOp op va vb) Q E s:=by
 cases op with
 |Eq=>exact (su (Nat.lt_of_succ_lt hu) ha hb h).1 prog w E Q hq
 |NotEq=>exact ay h λb' h e=>(su (Nat.lt_of_succ_lt hu) ha hb h).2 prog w E Q (e▸hq)
 |Lt=>exact dF ha hb h hq λZz Zz Zz Zz=>PyProof.Rows.lt_int
 |LtE=>exact dF ha hb h hq λZz Zz Zz Zz=>PyProof.Rows.le_int
 |Gt=>exact dF ha hb h hq λZz Zz Zz Zz=>PyProof.Rows.gt_int
 |GtE=>exact dF ha hb h hq λZz Zz Zz Zz=>PyProof.Rows.ge_int
 |In=>exact (jI hu ha hb h).1 hq
 |NotIn=>exact ay h λb' h e=>(jI hu ha hb h).2 (e▸hq)
 |Is=>exact have ⟨h1,h2⟩:=jJ ha hb h;wpAny_is_plain h1 (h2▸hq)
 |IsNot=>exact ay h λb' h e=>have ⟨h1,h2⟩:=jJ ha hb h;wpAny_isNot_plain h1 (by rw [h2,e];exact hq)
theorem dp {a:D} {va:Value} {r:Bool} {Q:Bool->Shared->Prop} (ha:DenT s.heap Ex a va) (h:truthy a=some r) (hq:∀ tk,Q r {s with toks:=tk}):wpAny (model prog w) A (PySem.truthy va) Q E s:=by
 cases a with
 |none=>obtain rfl:=sm h;rw [show va = .none from ha];exact λZz Zz Zz=>hq s.toks
 |bool b=>rw [show va = .bool _ from ha];exact wpAny_truthy_bool (sm h▸hq s.toks)
 |int i=>obtain ⟨t,ha⟩:=ha;rw [ha];exact PyProof.Rows.truthy_int (show Q (!(i==0)) s from sm h▸hq s.toks)
 |str x =>
  refine gd h λhs h=> ?_
  obtain ⟨t,ha⟩:=ha;rw [ha]
  refine PySem.P.truthy_str (Int.not_le.mpr (cZ (aF hs))) ?_
  have e:((x.length:Int) != 0) = !(x.length==0):=by
   cases x.length with
   |zero=>rfl
   |succ n=>rfl
  rw [e,sm h]
  exact hq (s.toks+1+1)
 |list xs =>
  refine gd h λhs h=> ?_
  obtain ⟨p,its,e1,l1,r1⟩:=ha
  rw [e1]
  refine wpAny_truthy_list (PL.isList l1) (by rw [am r1];exact cZ (aF hs)) ?_
  rw [gt r1,sm h]
  exact hq _
 |tup xs =>
  refine gd h λhs h=> ?_
  obtain ⟨p,its,e1,Zz,l1,r1⟩:=ha
  rw [e1]
  refine PyProof.Rows.truthy_tuple (TupAt.isTup l1) (by rw [am r1];exact cZ (aF hs)) ?_
  rw [gt r1,sm h]
  exact hq _
theorem s7 {op:UnaryOp} {a d:D} {va:Value} {Q:Value->Shared->Prop} (ha:DenT s.heap Ex a va) (h:unD op a=some d) (P:Ps s Ex d false Q):wpAny (model prog w) A (unaryOp op va) Q E s:=by
 cases op with
 |Not=>exact ay h λb h e=>PyProof.Rows.not_of (dp ha h λtk=>P.now tk (e▸rfl))
 |USub=>exact ay h λi hi e=>aS (P:=λa=>DenT s.heap Ex a va->_) hi (λ⟨t,ha⟩=>by rw [ha];exact PyProof.Rows.neg_int (P.int (congrArg some e) _ _)) ha
 |Invert=>exact ay h λi hi e=>aS (P:=λa=>DenT s.heap Ex a va->_) hi (λ⟨t,ha⟩=>by rw [ha];exact PyProof.Rows.invert_int (P.int (congrArg some e) _ _)) ha
 |UAdd=>exact ai h
end
end Mine
namespace Mine
variable [Jt:Tabs] [Jf:Frk]
open Builtin Builtin.Str
section
variable {prog:Program} {w:World} {A:Around} {E:Value->Shared->Prop} {s:Shared} {Ex:Addr->Prop}
theorem lW (x:Str):∀ n,(rep x n).cps.toList=(List.replicate n x.cps.toList).flatten
 |0=>rfl
 |n+1=>by
  show (x.cps++(rep x n).cps).toList=_
  rw [Array.toList_append,lW x n];rfl
theorem jG:∀ (l:List (Array Nat)) (acc:Array Nat),(l.foldl (· ++ ·) acc).toList=acc.toList++(l.map Array.toList).flatten
 | [],acc=>by simp
 |a :: l,acc=>by rw [List.foldl_cons,jG l];simp
theorem xM (x:Str) (n:Int):Txt.mul x n=rep x n.toNat:=by
 have ext:∀ a b:Str,a.cps.toList=b.cps.toList->a=b:=λa b h=>by
  cases a;cases b;simp only [Str.mk.injEq];exact Array.toList_inj.mp h
 apply ext
 rw [lW]
 unfold Txt.mul
 by_cases h1:n<1
 ·rw [if_pos h1,Int.toNat_of_nonpos (Int.le_of_lt_add_one h1)];rfl
 ·rw [if_neg h1]
  split
  ·rename_i h
   simp only [Bool.or_eq_true,beq_iff_eq] at h
   rcases h with h |h
   ·subst h;simp
   ·have:x.cps.toList=[]:=by have h':x.cps.size=0:=h;simpa using h'
    rw [this];simp
  ·show ((List.replicate n.toNat x.cps).foldl (· ++ ·) #[]).toList=_
   rw [jG];simp
theorem cV {i:Int} (h:idxOk i=true) : -(2 ^ 63:Int)<=i/\i<2 ^ 63 :=
 have h:(i.natAbs:Int)<(4611686018427387904:Nat):=Int.ofNat_lt.mpr (of_decide_eq_true h)
 have h:(i.natAbs:Int)<2 ^ 63:=Int.lt_trans h (by decide)
 ⟨Int.neg_le_of_neg_le (Int.le_trans (by rw [<- Int.natAbs_neg];exact Int.le_natAbs) (Int.le_of_lt h)),Int.lt_of_le_of_lt Int.le_natAbs h⟩
theorem uC {x:Str} {n:Int} (h:sizeOk (x.length * n.toNat)=true) (hi:idxOk n=true):MulOk x n:=by
 have hs:=aF h
 refine ⟨?_,λh1 Zz=> ?_,λZz Zz=>decide_eq_false (Nat.not_lt.mpr (bG hs))⟩
 ·rw [decide_eq_false (Int.not_lt.mpr (cV hi).1),decide_eq_false (Int.not_le.mpr (cV hi).2)];rfl
 ·refine Int.not_lt.mpr (Int.le_ediv_of_mul_le (Int.lt_of_lt_of_le Int.zero_lt_one (Int.not_lt.mp h1)) ?_)
  rw [<- Int.toNat_of_nonneg (Int.le_trans (by decide) (Int.not_lt.mp h1))]
  exact Int.le_trans (Int.ofNat_le.mpr hs) (by decide)
theorem uT {a b:Int} (h:b.toNat<=1000000) (h3:small a=true):(Builtin.Int.intBits a:Int)+b<=2 ^ 27:=Int.le_trans (Int.add_le_add (Int.ofNat_le.mpr (cQ h3)) (BE h)) (by decide)
theorem uD {k:Nat} {n:Int} (h1:sizeOk (k * n.toNat)=true) (h2:idxOk n=true):¬(!Builtin.List.listFitsIndex n)=true/\¬k * n.toNat > (2 ^ 63 - 1) / 8/\¬Builtin.List.listTooLong (k * n.toNat)=true:=by
 have h1:=aF h1
 refine ⟨?_,Nat.not_lt.mpr (Nat.le_trans h1 (by decide)),λq=>Nat.not_lt.mpr (bG h1) (of_decide_eq_true q)⟩
 unfold Builtin.List.listFitsIndex
 rw [decide_eq_true (cV h2).1,decide_eq_true (cV h2).2];exact Bool.false_ne_true
theorem io:∀ (l:List (Array Value)) (acc:Array Value),(l.foldl (λx1 x2=>x1++x2) acc).toList=acc.toList++(l.map Array.toList).flatten
 | [],acc=>by simp
 |a :: l,acc=>by rw [List.foldl_cons,io l];simp
theorem qa (its:Array Value) (n:Nat):List.foldl (λx1 x2=>x1++x2) #[] (List.replicate (if its.isEmpty=true then 0 else n) its)=((List.replicate n its.toList).flatten).toArray:=by
 apply Array.toList_inj.mp
 rw [io]
 split
 ·rename_i h
  have:its.toList=[]:=by simpa using h
  rw [this];simp
 ·simp
theorem DenL.flat {h:Heap} {X:Addr->Prop} {ds:List D} {vs:List Value} (x:DenL h X ds vs):∀ n,DenL h X (List.replicate n ds).flatten (List.replicate n vs).flatten
 |0=>rfl
 |n+1=>by rw [List.replicate_succ,List.replicate_succ,List.flatten_cons,List.flatten_cons];exact x.append (x.flat n)
theorem pg {a b d:D} {va vb:Value} {Q:Value->Shared->Prop} (lt:∀ b,Ex b->Al s.heap b) (ha:DenT s.heap Ex a va) (hb:DenT s.heap Ex b vb) (hd:addD a b=some d) (P:Ps s Ex d (isL d) Q) :
  wpAny (model prog w) A (binaryOp .Add va vb) Q E s:=by
 revert hb
 cases a with
 |int i =>
  obtain ⟨t,ha⟩:=ha
  exact ay hd λj hj e=>aS (P:=λb=>DenT s.heap Ex b vb->_) hj λ⟨u,hb⟩=>by subst e;rw [ha,hb];exact PyProof.Rows.add_int (P.now _ ⟨_,rfl⟩)
 |str x =>
  obtain ⟨t,ha⟩:=ha
  refine ae hd λy hy hd=>ez (P:=λb=>DenT s.heap Ex b vb->_) hy λ⟨u,hb⟩=>gd hd λhs e=> ?_
  obtain rfl:=sm e
  rw [ha,hb]
  exact PyProof.Rows.add_str (λt' tk=>P.now tk ⟨_,rfl⟩) (aa hs λh1 h2=>by rw [sizeLine_eq];exact BC h1 h2)
 |list xs =>
  refine ae hd λys hy hd=>bH (P:=λb=>DenT s.heap Ex b vb->_) hy λhb=>gd hd λhs e=> ?_
  obtain rfl:=sm e
  obtain ⟨p,its,e1,⟨n1,l1⟩,r1⟩:=ha
  obtain ⟨q,its2,e2,⟨n2,l2⟩,r2⟩:=hb
  rw [e1,e2]
  refine PySem.P.add_list l1 l2 ?_ (aa hs λh1 h2=>by rw [sizeLine_eq,am r1,am r2];exact BC h1 h2)
  have:=P.newList (ds:=xs++ys) (items:=its.toList++its2.toList) lt (r1.append r2) s.toks
  rw [show (its.toList++its2.toList).toArray=its++its2 from Array.toList_inj.mp (by simp)] at this
  exact this
 |_=>exact ai hd
theorem pR {a b d:D} {va vb:Value} {Q:Value->Shared->Prop} (lt:∀ b,Ex b->Al s.heap b) (ha:DenT s.heap Ex a va) (hb:DenT s.heap Ex b vb) (hd:mulD a b=some d) (P:Ps s Ex d (isL d) Q) :
  wpAny (model prog w) A (binaryOp .Mult va vb) Q E s:=by
 revert hb
 refine ae hd λn hn hd=>aS (P:=λb=>DenT s.heap Ex b vb->_) hn λ⟨u,hb⟩=> ?_
 rw [hb]
 cases a with
 |int i =>
  obtain ⟨t,ha⟩:=ha
  refine gd hd λhs e=> ?_
  obtain rfl:=sm e
  rw [ha]
  exact aa hs λh1 h2=>PyProof.Rows.mul_int (P.now _ ⟨_,rfl⟩) (IntMulOk.of_bits (Nat.le_trans (cQ h1) (by decide)) (Nat.le_trans (cQ h2) (by decide)))
 |str x =>
  obtain ⟨t,ha⟩:=ha
  refine gd hd λhs e=> ?_
  obtain rfl:=sm e
  rw [ha]
  exact aa hs λh1 h2=>SB.mul (uC h1 h2) λt' k=>P.now k ⟨_,by rw [xM]⟩
 |list xs =>
  obtain ⟨p,its,e1,⟨n1,l1⟩,r1⟩:=ha
  refine gd hd λhs e=>aa hs λh1 h2=> ?_
  obtain rfl:=sm e
  obtain ⟨g1,g2,g3⟩:=uD (am r1▸h1) h2
  rw [e1]
  refine wpAny_binaryOp_repeat_ref (T:="list") (U:="int") (by decide) ⟨_,l1,rfl⟩ (λs'=>typeIs_int s' n u) noFill_list_mul F.fills_int_mul F.slot_int_rmul repeat_list F.slot_int_index.lookup
   (call_meets F.slot_int_rmul (typeIs_int s n u) F.entry_int_rmul (F.args_int_rmul_2 _ _) (int___rmul___int_list n u p its n1) ⟨l1,rfl,⟨_,l1,rfl⟩,?_⟩)
  refine call_meets F.slot_list_mul ⟨_,l1,rfl⟩ F.entry_list_mul (F.args_list_mul_2 _ _) (AutoListH.list___mul___list_int_3 p its n1 n u g1 g2 g3) ⟨l1,?_⟩
  have:=P.newList (ds:=(List.replicate n.toNat xs).flatten) (items:=(List.replicate n.toNat its.toList).flatten) lt (r1.flat _) s.toks
  rw [<- qa] at this
  exact this
 |_=>exact ai hd
theorem eD {op:Operator} {a b d:D} {va vb:Value} {Q:Value->Shared->Prop} (lt:∀ b,Ex b->Al s.heap b) (ha:DenT s.heap Ex a va) (hb:DenT s.heap Ex b vb) (hd:binD op a b=some d) (P:Ps s Ex d (freshBin op d) Q) :
  wpAny (model prog w) A (binaryOp op va vb) Q E s:=by
 cases op with
 |Add=>exact pg lt ha hb hd P
 |Mult=>exact pR lt ha hb hd P
 |Sub=>exact aT ha hb hd λZz Zz Zz Zz e=>PyProof.Rows.sub_int (P.int e _ _)
 |Mod=>exact aT ha hb hd λZz Zz Zz Zz e=>fD e λhb e=>PyProof.Rows.mod_int (nz (Bool.eq_false_iff.mpr hb)) (P.int e _ _)
 |Pow=>exact aT ha hb hd λZz Zz Zz Zz e=>gd e λhs e=>zu hs λh1 h2 h3=>PyProof.Rows.pow_int_small (de h1) (BE (de h2)) (de h3) (P.int e _ _)
 |LShift=>exact aT ha hb hd λZz Zz Zz Zz e=>gd e λhs e=>zu hs λh1 h2 h3=>PyProof.Rows.lshift_int (de h1) (uT (de h2) h3) (P.int e _ _)
 |RShift=>exact aT ha hb hd λZz Zz Zz Zz e=>gd e λhs e=>PyProof.Rows.rshift_int (de hs) (P.int e _ _)
 |BitAnd=>exact aT ha hb hd λZz Zz Zz Zz e=>PyProof.Rows.and_int (P.int e _ _)
 |BitOr=>exact aT ha hb hd λZz Zz Zz Zz e=>PyProof.Rows.or_int (P.int e _ _)
 |BitXor=>exact aT ha hb hd λZz Zz Zz Zz e=>PyProof.Rows.xor_int (P.int e _ _)
 |FloorDiv=>exact aT ha hb hd λZz Zz Zz Zz e=>fD e λhb e=>jN hb λh1 h2=>PyProof.Rows.floordiv_int (nz h1) (P.int e _ _) (.inl (dE (by rw [<- Bool.not_eq_false',h2])))
 |_=>exact ai hd
end
end Mine
namespace Mine
variable [Jt:Tabs] [Jf:Frk]
open Builtin Builtin.Str
theorem je {d:D} {v:Value} {h:Heap} {X:Addr->Prop} {l:Option Int} (hd:DenT h X d v) (hp:part? d=some l):IsPart v l/\∃ l':Option (Int×Tok),v=partValue l'/\l'.map (·.1)=l:=by
 cases d with
 |none=>rw [show v = .none from hd,<- sm hp];exact ⟨.none,none,rfl,rfl⟩
 |int i =>
  obtain ⟨t,hd⟩:=hd
  exact gd hp λZz e=>by rw [hd,<- sm e];exact ⟨.int i t,some (i,t),rfl,rfl⟩
 |_=>exact ai hp
theorem jO {α β:Type} {xs:List α} {ys:List β} (h:xs.length=ys.length) (lo hi st:Option Int):∃ is:List Nat,pickL xs lo hi st=is.filterMap (xs[·]?)/\pickL ys lo hi st=is.filterMap (ys[·]?):=by
 unfold pickL
 rw [h]
 exact ⟨_,rfl,rfl⟩
theorem lR (items:Array Value) (lo hi st:Option Int):slicePick items lo hi st=(pickL items.toList lo hi st).toArray:=by
 unfold slicePick pickL
 rw [Array.length_toList]
 congr 1
 congr 1
 funext i
 simp
theorem jS (x:Str) (l u st:Option (Int×Tok)):slicePicked x l u st=sliceRange (sliceBounds (l.map (·.1)) (u.map (·.1)) (st.map (·.1)) x.length).1 (sliceBounds (l.map (·.1)) (u.map (·.1)) (st.map (·.1)) x.length).2.1 (sliceBounds (l.map (·.1)) (u.map (·.1)) (st.map (·.1)) x.length).2.2:=rfl
theorem im {α:Type} (xs:List α):(List.range xs.length).filterMap (xs[·]?)=xs:=by
 induction xs with
 |nil=>rfl
 |cons x xs ih =>
  rw [List.length_cons,List.range_succ_eq_map,List.filterMap_cons]
  simp only [List.getElem?_cons_zero,List.filterMap_map]
  congr 1
theorem wI (n:Nat) (i:Int):clipAt n i<=n:=Int.toNat_le.mpr (Int.max_le.mpr ⟨Int.natCast_nonneg n,Int.min_le_right _ _⟩)
theorem pr {lo hi st:Option Int} {n:Nat} (hs:st.getD 1=1):sliceBounds lo hi st n=(((lo.elim 0 (clipAt n):Nat):Int),((hi.elim n (clipAt n):Nat):Int),1):=by
 cases st with
 |none=>exact sliceBounds_plain lo hi n
 |some k =>
  obtain rfl:k=1:=hs
  exact sliceBounds_plain lo hi n
theorem so {a b n:Nat} (hb:b<=n) (h:b - a=n):(List.range (b - a)).map (a + ·)=List.range n:=by
 rw [h]
 cases n with
 |zero=>rfl
 |succ n =>
  cases a with
  |zero=>exact (List.map_congr_left λk Zz=>Nat.zero_add k).trans (List.map_id' _)
  |succ a=>exact absurd (h▸Nat.sub_lt (Nat.pos_of_ne_zero λq=>by rw [q,Nat.zero_sub] at h;exact nomatch h) (Nat.succ_pos a)) (Nat.not_lt.mpr hb)
theorem pH {lo hi:Option Int} {st:Option Int} {n:Nat} (hs:st.getD 1=1) (hl:(sliceRange (sliceBounds lo hi st n).1 (sliceBounds lo hi st n).2.1 (sliceBounds lo hi st n).2.2).length=n) :
  sliceRange (sliceBounds lo hi st n).1 (sliceBounds lo hi st n).2.1 (sliceBounds lo hi st n).2.2=List.range n:=by
 rw [pr hs] at hl ⊢
 have hb:hi.elim n (clipAt n)<=n:=by
  cases hi with
  |none=>exact Nat.le_refl n
  |some i=>exact wI n i
 rw [show sliceRange (((lo.elim 0 (clipAt n):Nat):Int),((hi.elim n (clipAt n):Nat):Int),(1:Int)).1 (((lo.elim 0 (clipAt n):Nat):Int),((hi.elim n (clipAt n):Nat):Int),(1:Int)).2.1 (((lo.elim 0 (clipAt n):Nat):Int),((hi.elim n (clipAt n):Nat):Int),(1:Int)).2.2=_ from sliceRange_one _ _] at hl ⊢
 rw [List.length_map,List.length_range] at hl
 exact so hb hl
section
variable {prog:Program} {w:World} {A:Around} {E:Value->Shared->Prop} {s:Shared} {Ex:Addr->Prop}
theorem oS {i:Int} {k:Nat} (h0:0<=i) (h1:i.toNat<k):seqIndex? i k=some i.toNat:=by
 unfold seqIndex?
 simp only [if_neg (Int.not_lt.mpr h0)]
 rw [if_pos (by simp only [Bool.and_eq_true,decide_eq_true_eq];exact ⟨h0,(Int.toNat_lt h0).mp h1⟩)]
theorem oR {i:Int} {k:Nat} (h:i<0) (h0:0<=i+k):seqIndex? i k=some (i+k).toNat:=by
 unfold seqIndex?
 simp only [if_pos h]
 rw [if_pos (by simp only [Bool.and_eq_true,decide_eq_true_eq];exact ⟨h0,by have:=Int.add_lt_add_right h k;rw [Int.zero_add] at this;exact this⟩)]
theorem gL {xs:List D} {i:Int} {d:D} {P:Prop} (h:idxL xs i=some d) (k:(-(2 ^ 63:Int)<=i/\i<2 ^ 63)->∀ j,seqIndex? i xs.length=some j->xs[j]? = some d->(0<=i->j=i.toNat)->P):P :=
 gd h λh1 h=>by
  by_cases h0:0<=i
  ·rw [if_pos h0] at h
   exact k (cV h1) _ (oS h0 (List.getElem?_eq_some_iff.mp h).1) h λZz=>rfl
  ·rw [if_neg h0] at h
   exact gd h λh2 h=>k (cV h1) _ (oR (Int.not_le.mp h0) h2) h λq=>absurd q h0
theorem xg {i:Int} (h : -(2 ^ 63:Int)<=i/\i<2 ^ 63):(decide (i < -(2 ^ 63:Int)) || decide (i≥2 ^ 63))=false:=by
 rw [decide_eq_false (Int.not_lt.mpr h.1),decide_eq_false (Int.not_le.mpr h.2)];rfl
theorem rN {i:Int} {k j:Nat} (h:seqIndex? i k=some j) (q:i<0) : -(k:Int)<=i/\j=(i+k).toNat:=by
 unfold seqIndex? at h
 simp only [if_pos q] at h
 exact gd h λh1 e=>⟨aa h1 λh1 Zz=>Int.le_of_sub_nonneg (by rw [Int.sub_neg];exact de h1),(sm e).symm⟩
theorem pI {a i d:D} {va vi:Value} {Q:Value->Shared->Prop} (ha:DenT s.heap Ex a va) (hi:DenT s.heap Ex i vi) (hd:idxD a i=some d) (P:Ps s Ex d false Q) :
  wpAny (model prog w) A (getItem va vi) Q E s:=by
 revert hi
 cases a with
 |list xs =>
  obtain ⟨p,its,e1,l1,r1⟩:=ha
  rw [e1]
  refine ae hd λn hn hd=>aS (P:=λi=>DenT s.heap Ex i vi->_) hn λ⟨t,hi⟩=>gL hd λhb j hj hx h0=> ?_
  rw [hi]
  obtain ⟨v,g,dv⟩:=r1.get hx
  rw [<- am r1] at hj
  rw [Array.getElem?_toList] at g
  by_cases q:0<=n
  ·exact wpAny_getItem_list (PL.isList l1) q hb.2 (h0 q▸g) (P.here dv)
  ·exact wpAny_getItem_list_neg (PL.isList l1) (Int.not_le.mp q) (rN hj (Int.not_le.mp q)).1 hb.1 ((rN hj (Int.not_le.mp q)).2▸g) (P.here dv)
 |tup xs =>
  obtain ⟨p,its,e1,Zz,l1,r1⟩:=ha
  rw [e1]
  refine ae hd λn hn hd=>aS (P:=λi=>DenT s.heap Ex i vi->_) hn λ⟨t,hi⟩=>gL hd λhb j hj hx h0=> ?_
  rw [hi]
  obtain ⟨v,g,dv⟩:=r1.get hx
  rw [<- am r1] at hj
  rw [Array.getElem?_toList] at g
  exact PyProof.Rows.getItem_tuple (j:=j) (TupAt.isTup l1) hb.1 hb.2 hj g (P.here dv)
 |str x =>
  obtain ⟨u,ha⟩:=ha
  rw [ha]
  refine ae hd λn hn hd=>aS (P:=λi=>DenT s.heap Ex i vi->_) hn λ⟨t,hi⟩=>gL hd λhb j hj hx h0=> ?_
  rw [hi]
  rw [List.length_map,Array.length_toList] at hj
  rw [List.getElem?_map,Array.getElem?_toList] at hx
  refine ay hx λc hc e=>PySem.P.getItem_str (xg hb) (c:=c) ?_ (P.now _ (e▸⟨_,rfl⟩))
  show (seqIndex? n x.cps.size).bind _=_
  rw [hj];exact hc
 |_=>exact ai hd
theorem iE {α β:Type} {xs:List α} {ys:List β} (h:xs.length=ys.length):∀ is:List Nat,(is.filterMap (xs[·]?)).length=(is.filterMap (ys[·]?)).length
 | []=>rfl
 |i :: is=>by
  have ih:=iE h is
  simp only [List.filterMap_cons]
  by_cases hi:i<xs.length
  ·rw [List.getElem?_eq_getElem hi,List.getElem?_eq_getElem (h▸hi)]
   exact congrArg (· + 1) ih
  ·rw [List.getElem?_eq_none (Nat.not_lt.mp hi),List.getElem?_eq_none (h▸Nat.not_lt.mp hi)]
   exact ih
theorem uL {α:Type} (xs:List α) (lo hi st:Option Int):(pickL xs lo hi st).length<=xs.length:=by
 have:=slicePick_size_le (Array.replicate xs.length Value.none) lo hi st
 rw [lR] at this
 obtain ⟨is,q1,q2⟩:=jO (xs:=(Array.replicate xs.length Value.none).toList) (ys:=xs) (by simp) lo hi st
 rw [q1,List.size_toArray,iE (ys:=xs) (by simp),<- q2] at this
 simpa using this
theorem sL {x:Str} {t:Tok} {l u st:Option (Int×Tok)} {sl:Addr} {Q:Value->Shared->Prop} (hx:x.length<=1048576) (hsl:s.heap.IsSliceOf sl (partValue l) (partValue u) (partValue st)) (h0:st.map (·.1)≠some 0)
  (P:Ps s Ex (.str ⟨(pickL x.cps.toList (l.map (·.1)) (u.map (·.1)) (st.map (·.1))).toArray⟩) false Q):wpAny (model prog w) A (getItem (.str x t) (.ref sl)) Q E s:=by
 have e2:pickL x.cps.toList (l.map (·.1)) (u.map (·.1)) (st.map (·.1))=(slicePicked x l u st).filterMap (x.cps[·]?):=by
  rw [jS];unfold pickL;rw [Array.length_toList]
  show List.filterMap _ (sliceRange (sliceBounds _ _ _ x.length).1 _ _)=_
  congr 1;funext i;exact Array.getElem?_toList
 refine wpAny_getItem_str_slice (l:=l) (u:=u) (st:=st) hsl ?_ ?_
 ·cases st with
  |none=>rfl
  |some c=>exact decide_eq_false λe=>h0 (congrArg some e)
 ·unfold sliceMade
  split
  ·rename_i hc
   refine aa hc λh1 h2=> ?_
   refine P.now s.toks ⟨t,?_⟩
   rw [e2,jS,pH (beq_iff_eq.mp h1) (beq_iff_eq.mp h2)]
   have:=im x.cps.toList
   rw [Array.length_toList] at this
   show Value.str x t=Value.str ⟨(List.filterMap _ (List.range x.cps.size)).toArray⟩ t
   rw [show (λi=>x.cps[i]?)=(λi=>x.cps.toList[i]?) from funext λi=>Array.getElem?_toList.symm,this]
  ·rw [<- e2]
   refine ⟨?_,P.now _ ⟨_,rfl⟩⟩
   show (pickL x.cps.toList _ _ _).toArray.size<=sizeLine
   rw [List.size_toArray,sizeLine_eq]
   exact Nat.le_trans (uL _ _ _ _) (Nat.le_trans (Nat.le_of_eq Array.length_toList) (Nat.le_trans hx (by decide)))
theorem qd {a l u st d:D} {va vl vu vs:Value} {sl:Addr} {Q:Value->Shared->Prop} (lt:∀ b,Ex b->Al s.heap b) (ha:DenT s.heap Ex a va) (hl:DenT s.heap Ex l vl) (hu:DenT s.heap Ex u vu) (hs:DenT s.heap Ex st vs)
  (hsl:s.heap.IsSliceOf sl vl vu vs) (hd:sliD a l u st=some d) (P:Ps s Ex d (freshSli d) Q) :
  wpAny (model prog w) A (getItem va (.ref sl)) Q E s:=by
 refine ae hd λl' hl' hd=>ae hd λu' hu' hd=>ae hd λst' hs' hd=>fD hd λh0 hd=> ?_
 have h0:st'≠some 0:=λe=>h0 (by rw [e];rfl)
 obtain ⟨pl,l2,el,ml⟩:=je hl hl'
 obtain ⟨pu,u2,eu,mu⟩:=je hu hu'
 obtain ⟨ps,s2,es,ms⟩:=je hs hs'
 cases a with
 |list xs =>
  refine gd hd λhsz e=> ?_
  obtain rfl:=sm e
  obtain ⟨p,its,e1,l1,r1⟩:=ha
  rw [e1]
  obtain ⟨is,q1,q2⟩:=jO r1.length l' u' st'
  refine wpAny_getItem_list_slice (PL.isList l1) hsl pl pu ps h0 ?_ (by rw [sizeLine_eq,am r1];exact Nat.le_trans (aF hsz) (by decide))
  rw [lR,q1]
  exact P.newList (ds:=pickL xs l' u' st') (items:=is.filterMap (its.toList[·]?)) lt (by rw [q2];exact r1.pick is) s.toks
 |str x =>
  refine gd hd λhsz e=> ?_
  obtain rfl:=sm e
  obtain ⟨t,ha⟩:=ha
  subst ha el eu es ml mu ms
  exact sL (aF hsz) hsl h0 P
 |_=>exact ai hd
end
end Mine
namespace Mine
variable [Jt:Tabs] [Jf:Frk]
open Builtin Builtin.Str
def DenRL (h:Heap) (X:Addr->Prop) (b:Bool):List D->List Value->Prop
 | [],vs=>vs=[]
 |d :: ds,vs=>∃ v r,vs=v :: r/\DenR h X b d v/\DenRL h X b ds r
theorem DenRL.denL {h:Heap} {X:Addr->Prop}:∀ {ds:List D} {vs:List Value},DenRL h X false ds vs->DenL h X ds vs
 | [],_,e=>e
 |d :: ds,vs,⟨v,r,e,a,q⟩=>⟨v,r,e,a,DenRL.denL q⟩
theorem DenT.free {h:Heap} {X:Addr->Prop} {d:D} {v:Value} (e:DenT h X d v):Den h (λZz=>False) d v:=by
 cases d with
 |list ds =>
  obtain ⟨a,items,e,l,r⟩:=e
  exact ⟨a,items,e,id,l,r.mono (λZz Zz Zz Zz e=>e) (λZz Zz Zz=>id)⟩
 |none=>exact e
 |bool _=>exact e
 |int _=>exact e
 |str _=>exact e
 |tup _=>exact Den.mono (λZz Zz Zz Zz e=>e) (λZz Zz Zz=>id) _ _ e
theorem DenRL.free {h:Heap} {X:Addr->Prop} {b:Bool}:∀ {ds:List D} {vs:List Value},DenRL h X b ds vs->DenL h (λZz=>False) ds vs
 | [],_,e=>e
 |d :: ds,vs,⟨v,r,e,a,q⟩=>⟨v,r,e,a.top.free,DenRL.free q⟩
theorem DenRL.one {h:Heap} {X:Addr->Prop} {b:Bool} {d:D} {vs:List Value} (e:DenRL h X b [d] vs):∃ v,vs=[v]/\DenR h X b d v:=by
 obtain ⟨v,r,e,a,q⟩:=e
 exact ⟨v,by rw [e,show r=[] from q],a⟩
theorem DenRL.two {h:Heap} {X:Addr->Prop} {b:Bool} {d e:D} {vs:List Value} (x:DenRL h X b [d,e] vs):∃ v u,vs=[v,u]/\DenR h X b d v/\DenR h X b e u:=by
 obtain ⟨v,r,e,a,q⟩:=x
 obtain ⟨u,e',a'⟩:=q.one
 exact ⟨v,u,by rw [e,e'],a,a'⟩
noncomputable def bName:BF->String
 | .len=>"len" | .ord=>"ord" | .chr=>"chr" | .sum=>"sum" | .max2=>"max" | .min2=>"min" | .max1=>"max" | .hex=>"hex" | .divmod=>"divmod"
theorem vM {le:Int->Int->Prop} (rf:∀ a,le a a) (tr:∀ a b c,le a b->le b c->le a c) {f:Int->Int->Int} (hf:∀ a b,(f a b=a\/f a b=b)/\le a (f a b)/\le b (f a b)):∀ (ns:List Int) (n:Int),ns.foldl f n∈n :: ns/\∀ m∈n :: ns,le m (ns.foldl f n)
 | [],n=>⟨List.mem_cons_self,λm hm=>List.mem_singleton.mp hm▸rf _⟩
 |k :: ns,n=>by
  obtain ⟨h1,h2⟩:=vM rf tr hf ns (f n k)
  obtain ⟨g1,g2,g3⟩:=hf n k
  have h3:=h2 _ List.mem_cons_self
  refine ⟨?_,λm hm=> ?_⟩
  ·rcases List.mem_cons.mp h1 with e |e
   ·rw [List.foldl_cons,e]
    rcases g1 with g1 |g1<;>rw [g1]
    ·exact List.mem_cons_self
    ·exact List.mem_cons_of_mem _ List.mem_cons_self
   ·exact List.mem_cons_of_mem _ (List.mem_cons_of_mem _ e)
  ·rcases List.mem_cons.mp hm with rfl |hm
   ·exact tr _ _ _ g2 h3
   ·rcases List.mem_cons.mp hm with rfl |hm
    ·exact tr _ _ _ g3 h3
    ·exact h2 m (List.mem_cons_of_mem _ hm)
theorem BL (ns:List Int) (n:Int):ns.foldl (λa b=>if b > a then b else a) n∈n :: ns/\∀ m∈n :: ns,m<=ns.foldl (λa b=>if b > a then b else a) n :=
 vM (le:=(· <= ·)) Int.le_refl (λZz Zz Zz=>Int.le_trans) (λa b=>by
  by_cases h:b > a
  ·rw [if_pos h];exact ⟨.inr rfl,Int.le_of_lt h,Int.le_refl _⟩
  ·rw [if_neg h];exact ⟨.inl rfl,Int.le_refl _,Int.not_lt.mp h⟩) ns n
theorem rj {h:Heap} {X:Addr->Prop} {ds:List D} {ns:List Int} {its:Array Value} (e:ints? ds=some ns) (r:DenL h X ds its.toList) :
  ∃ xs:Array (Int×Tok),its=intItems xs/\ns=xs.toList.map (·.1):=by
 obtain ⟨h1,h2⟩:=gM e r
 obtain ⟨xs,hx⟩:=h1.allInts.items
 have hx':its=intItems xs:=hx
 subst hx'
 exact ⟨xs,rfl,by rw [<- nums_intItems,h1.numsOf]⟩
section
variable {prog:Program} {w:World} {A:Around} {E:Value->Shared->Prop} {s:Shared} {Ex:Addr->Prop}
theorem lS {c:Prop} [Decidable c] {i j:Int} {t u:Tok} {P:Value->Prop} (h:∀ t,P (.int (if c then i else j) t)):P (if c then .int i t else .int j u):=by
 by_cases hc:c
 ·rw [if_pos hc] at h ⊢;exact h _
 ·rw [if_neg hc] at h ⊢;exact h _
theorem lp {d:D} {v:Value} {ns:List Int} {xs:List D} (hd:DenT s.heap Ex d v) (hl:d.list? = some xs) (hn:ints? xs=some ns):∃ p ys,v = .ref p/\s.heap.PlainList p (intItems ys)/\ns=ys.toList.map (·.1):=by
 revert hd
 refine bH (P:=λd=>DenT s.heap Ex d v->_) hl λ⟨p,its,e1,l1,r1⟩=> ?_
 obtain ⟨ys,e2,e3⟩:=rj hn r1
 exact ⟨p,ys,e1,e2▸l1,e3⟩
theorem tD {le:Int->Int->Prop} (anti:∀ a b,le a b->le b a->a=b) {ys:Array (Int×Tok)} {v:Value} {j:Nat} {m:Int} (hv:(intItems ys)[j]? = some v) (hj:j<ys.size) (b2:∀ i,i<=ys.size - 1->le (numAt ys i) (numAt ys j)) (m1:m∈ys.toList.map (·.1)) (m2:∀ k∈ys.toList.map (·.1),le k m):∃ t,v = .int m t:=by
 have hv':v = .int (numAt ys j) ys[j].2:=by
  unfold intItems at hv
  rw [Array.getElem?_map,Array.getElem?_eq_getElem hj] at hv
  rw [<- sm hv]
  unfold numAt
  rw [Array.getElem?_eq_getElem hj];rfl
 have hl:(ys.toList.map (·.1)).length=ys.size:=by rw [List.length_map,Array.length_toList]
 refine ⟨_,hv'.trans (congrArg (Value.int · _) (anti _ _ ?_ ?_))⟩
 ·apply m2
  rw [numAt_eq]
  exact PySem.getD_mem (by rw [hl];exact hj)
 ·obtain ⟨i,hi,he⟩:=PySem.mem_getD m1
  rw [<- he,<- numAt_eq]
  exact b2 i (Nat.le_sub_one_of_lt (hl▸hi))
theorem pn {nm:String} {d e:D} {v:Value} {Q:Value->Shared->Prop} {le:Int->Int->Prop} {f:Int->Int->Int} (anti:∀ a b,le a b->le b a->a=b) (hd:DenT s.heap Ex d v) (h:bestD f d=some e) (P:Ps s Ex e false Q)
  (hf:∀ ns n,ns.foldl f n∈n :: ns/\∀ m∈n :: ns,le m (ns.foldl f n))
  (call':∀ (p:Addr) (ys:Array (Int×Tok)),s.heap.PlainList p (intItems ys)->0<ys.size->ys.size<=1048577->(∀ v h' tk j,j<ys.size->(∀ i,i<=ys.size - 1->le (numAt ys i) (numAt ys j))->(intItems ys)[j]? = some v->Kp s.heap h'->Q v {s with heap:=h',toks:=tk})->wpAny (model prog w) A (call (.builtin nm) [.ref p]) Q E s) :
  wpAny (model prog w) A (call (.builtin nm) [v]) Q E s:=by
 refine ae h λxs hx h=>ae h λns hn h=> ?_
 obtain ⟨p,ys,e1,l1,e3⟩:=lp hd hx hn
 cases ns with
 |nil=>exact ai h
 |cons n ns =>
  refine gd h λhs h=> ?_
  have hl:ys.size=ns.length+1:=by
   have:=congrArg List.length e3
   rw [List.length_map,Array.length_toList] at this
   exact this.symm
  rw [e1]
  refine call' p ys l1 (hl▸Nat.succ_pos _) (hl▸Nat.succ_le_succ (aF hs)) λv h' tk j hj b2 hv hk=> ?_
  obtain ⟨m1,m2⟩:=hf ns n
  rw [e3] at m1 m2
  obtain ⟨t,e⟩:=tD anti hv hj b2 m1 m2
  rw [e]
  exact P _ _ _ hk (sm h▸⟨_,rfl⟩) λh=>nomatch h
@[elab_as_elim] theorem bJ {hp:Heap} {ds:List D} {d:D} {vs:List Value} {P:List Value->Prop} (hd:one? ds=some d) (h:DenRL hp Ex true ds vs) (k:∀ v,DenT hp Ex d v->P [v]):P vs :=
 lP (P:=λds=>DenRL hp Ex true ds vs->P vs) hd (λh=>let ⟨v,e,hv⟩:=h.one;e▸k v hv.top) h
@[elab_as_elim] theorem gi {hp:Heap} {ds:List D} {d:D×D} {vs:List Value} {P:List Value->Prop} (hd:two? ds=some d) (h:DenRL hp Ex true ds vs) (k:∀ v u,DenT hp Ex d.1 v->DenT hp Ex d.2 u->P [v,u]):P vs :=
 iM (P:=λds=>DenRL hp Ex true ds vs->P vs) hd (λh=>let ⟨v,u,e,hv,hu⟩:=h.two;e▸k v u hv.top hu.top) h
@[elab_as_elim] theorem aP {hp:Heap} {d:D} {i:Int} {v:Value} {P:Value->Prop} (hd:d.int? = some i) (h:DenT hp Ex d v) (k:∀ t,P (.int i t)):P v :=
 aS (P:=λd=>DenT hp Ex d v->P v) hd (λ⟨t,e⟩=>e▸k t) h
@[elab_as_elim] theorem bY {hp:Heap} {d:D} {i:Str} {v:Value} {P:Value->Prop} (hd:d.str? = some i) (h:DenT hp Ex d v) (k:∀ t,P (.str i t)):P v :=
 ez (P:=λd=>DenT hp Ex d v->P v) hd (λ⟨t,e⟩=>e▸k t) h
@[elab_as_elim] theorem eG {hp:Heap} {d:D} {xs:List D} {v:Value} {P:Value->Prop} (hd:d.list? = some xs) (h:DenT hp Ex d v) (k:∀ p its,hp.PlainList p its->DenL hp Ex xs its.toList->P (.ref p)):P v :=
 bH (P:=λd=>DenT hp Ex d v->P v) hd (λ⟨p,its,e,l,r⟩=>e▸k p its l r) h
@[elab_as_elim] theorem kM {hp:Heap} {α:Type} {a b:D} {f:Int->Int->Option α} {r:α} {v u:Value} {P:Value->Value->Prop} (hd:ii f a b=some r) (h:DenT hp Ex a v) (h2:DenT hp Ex b u) (k:∀ i j t t',f i j=some r->P (.int i t) (.int j t')):P v u :=
 ae hd λi hi hd=>ae hd λj hj hd=>aP (P:=(P · u)) hi h λt=>aP (P:=P (.int i t)) hj h2 λt'=>k i j t t' hd
theorem rB {d e:D} {v:Value} {Q:Value->Shared->Prop} (hd:DenT s.heap Ex d v) (h:lenD d=some e) (P:Ps s Ex e false Q):wpAny (model prog w) A (call (.builtin "len") [v]) Q E s:=by
 cases d with
 |list xs =>
  obtain ⟨p,its,e1,l1,r1⟩:=hd
  refine gd h λhs e=> ?_
  rw [e1]
  refine len_list (PL.isList l1) (by rw [am r1];exact cZ (aF hs)) ?_
  rw [am r1];exact P.int e _ _
 |str x =>
  obtain ⟨t,e1⟩:=hd
  refine gd h λhs e=> ?_
  rw [e1]
  exact PySem.P.len_str (Int.not_le.mpr (cZ (aF hs))) (P.int e _ _)
 |_=>exact ai h
theorem pp {f:BF} {ds:List D} {vs:List Value} {d:D} {Q:Value->Shared->Prop} (hh:A.handled=none) (lt:∀ b,Ex b->Al s.heap b) (h:DenRL s.heap Ex true ds vs) (hd:bltD f ds=some d) (P:Ps s Ex d false Q) :
  wpAny (model prog w) A (call (.builtin (bName f)) vs) Q E s:=by
 have kp:∀ (i:Int) (h':Heap) (tk:Nat) (t:Tok),some (D.int i)=some d->(∀ b o,s.heap.get? b=some o->h'.get? b=some o)->Q (.int i t) {s with heap:=h',toks:=tk}:=λi h' tk t e hk=>P _ _ _ (.of hk) (sm e▸⟨_,rfl⟩) λh=>nomatch h
 cases f with
 |len =>
  refine ae hd λa ha hd=> ?_
  refine bJ ha h λv hv=> ?_
  exact rB hv hd P
 |ord =>
  refine ae hd λa ha hd=>ae hd λx hx hd=>gd hd λhs e=> ?_
  refine bJ ha h λv hv=> ?_
  refine bY hx hv λt=> ?_
  exact ord_of_one (beq_iff_eq.mp hs) (P.int e _ _)
 |chr =>
  refine ae hd λa ha hd=>ae hd λi hi hd=>gd hd λhs e=>aa hs λh1 h2=> ?_
  refine bJ ha h λv hv=> ?_
  refine aP hi hv λt=> ?_
  exact chr_of_range (de h1) (zd (de h2)) (P.str e _ _)
 |sum =>
  refine ae hd λa ha hd=>ae hd λxs hx hd=>gd hd λZz hd=>ay hd λns hn e=> ?_
  refine bJ ha h λv hv=> ?_
  obtain ⟨p,ys,e1,l1,e3⟩:=lp hv hx hn
  rw [e1]
  refine sum_intListG hh (PL.isList l1) λh' tk t' hk=>kp _ _ _ _ ?_ hk
  rw [preSum_eq,List.take_of_length_le (by rw [List.length_map,Array.length_toList];exact Nat.le_refl _),<- e3,e]
 |max2 =>
  refine ae hd λa ha hd=> ?_
  refine gi ha h λv u hv hu=> ?_
  refine kM hd hv hu λi j t t' e=>max_two_ints hh λh' tk hk=> ?_
  exact lS (P:=λv=>Q v {s with heap:=h',toks:=tk}) (λt=>kp _ _ _ t e hk)
 |min2 =>
  refine ae hd λa ha hd=> ?_
  refine gi ha h λv u hv hu=> ?_
  refine kM hd hv hu λi j t t' e=>min_two_ints hh λh' tk hk=> ?_
  exact lS (P:=λv=>Q v {s with heap:=h',toks:=tk}) (λt=>kp _ _ _ t e hk)
 |max1 =>
  refine ae hd λa ha hd=> ?_
  refine bJ ha h λv hv=> ?_
  exact pn (le:=(· <= ·)) (λZz Zz=>Int.le_antisymm) hv hd P (λns n=>BL ns n) λp ys l1 h0 hz k =>
   max_intList hh (PL.isList l1) h0 λv h' tk hv hk=>let ⟨b1,b2⟩:=argBest_gt (numAt ys) (ys.size - 1);k v h' tk _ (Nat.lt_of_le_of_lt b1 (Nat.sub_one_lt_of_lt h0)) b2 hv (.of hk)
 |hex =>
  refine ae hd λa ha hd=>ae hd λi hi hd=>gd hd λhs e=> ?_
  refine bJ ha h λv hv=> ?_
  refine aP hi hv λt=> ?_
  exact PySem.P.hex_of_int (P.str e _ _) (PySem.baseText_under (by decide) (by decide) (de hs))
 |divmod =>
  refine ae hd λa ha hd=> ?_
  refine gi ha h λv u hv hu=> ?_
  refine kM hd hv hu λi j t t' e=>fD e λhb e=>jN hb λh1 h2=> ?_
  obtain rfl:=sm e
  refine divmod_int (nz h1) ?_ (.inl (dE (by rw [<- Bool.not_eq_false',h2])))
  have k:=Kp.push s.heap {cls:= .type "tuple",data:= .seq #[.int (i.fdiv j) s.toks,.int (i.fmod j) (s.toks+1)]}
  exact P _ _ _ k ⟨_,_,rfl,λe=>(lt _ e).ne (aI _) rfl,⟨0,Heap.get?_push_size _ rfl⟩,⟨_,_,rfl,⟨_,rfl⟩,_,_,rfl,⟨_,rfl⟩,rfl⟩⟩ λh=>nomatch h
end
end Mine
namespace Mine
variable [Jt:Tabs] [Jf:Frk]
open Builtin Builtin.Str
noncomputable def mId:MF->String
 | .split=>"str.split" | .startswith=>"str.startswith" | .endswith=>"str.endswith" | .find3=>"str.find" | .lower=>"str.lower" | .join=>"str.join" | .count=>"list.count" | .bitlen=>"int.bit_length"
noncomputable def mTy:MF->String
 | .count=>"list" | .bitlen=>"int" |_=>"str"
theorem zP (f:MF):PlainAttrs (mTy f)/\Slot (mTy f) (mNm f) (mId f)/\typeOf (.builtin (mId f))=pure (.type "method_descriptor"):=by
 cases f
 ·exact ⟨F.plainAttrs_str,F.slot_str_split,F.type_str_split⟩
 ·exact ⟨F.plainAttrs_str,F.slot_str_startswith,F.type_str_startswith⟩
 ·exact ⟨F.plainAttrs_str,F.slot_str_endswith,F.type_str_endswith⟩
 ·exact ⟨F.plainAttrs_str,F.slot_str_find,F.type_str_find⟩
 ·exact ⟨F.plainAttrs_str,F.slot_str_lower,F.type_str_lower⟩
 ·exact ⟨F.plainAttrs_str,F.slot_str_join,F.type_str_join⟩
 ·exact ⟨F.plainAttrs_list,F.slot_list_count,F.type_list_count⟩
 ·exact ⟨F.plainAttrs_int,PyProof.Rows.slot_int_bit_length,PyProof.Rows.type_int_bit_length⟩
theorem Bh {f:MF} {d r:D} {ds:List D} {s:Shared} {Ex:Addr->Prop} {v:Value} (h:methD f d ds=some r) (hd:DenT s.heap Ex d v):s.TypeIs v (mTy f)/\(∀ a,v = .ref a->∃ ob,s.heap.get? a=some ob/\ob.dict=none):=by
 have st:∀ {x},d.str? = some x->s.TypeIs v "str"/\(∀ a,v = .ref a->∃ ob,s.heap.get? a=some ob/\ob.dict=none):=λhx=>by
  refine bY hx hd λt=> ?_
  exact ⟨typeIs_str _ _ _,λZz e=>nomatch e⟩
 cases f with
 |count =>
  refine ae h λxs hx Zz=> ?_
  refine eG hx hd λp its l r=> ?_
  exact ⟨(PL.isList l).typeIs,λa e=>let ⟨n,ho⟩:=l;⟨_,Value.ref.inj e▸ho,rfl⟩⟩
 |bitlen =>
  refine ae h λxs hx Zz=> ?_
  refine aP hx hd λt=> ?_
  exact ⟨typeIs_int _ _ _,λZz e=>nomatch e⟩
 |_=>exact ae h λx hx Zz=>st hx
theorem mQ (x y:Str) (i j:Int) (t u v w:Tok):Gives («str.find» ⟨[.str x t,.str y u,.int i v,.int j w],[]⟩)
  (.int (match occurrences x y (fromIndex x.length i) (min (fromIndex x.length j) x.length) 1 with |k :: _=>(k:Int) | []=> -1)):=by
 show Gives (match occurrences x y (fromIndex x.length i) (min (fromIndex x.length j) x.length) 1 with |k :: _=>retInt k | []=>(do rule "str.find.not-found";retInt (-1))) _
 cases occurrences x y (fromIndex x.length i) (min (fromIndex x.length j) x.length) 1 with
 |nil=>exact .rule (.of_eq rfl)
 |cons k l=>exact .of_eq rfl
theorem fA {n:Nat} {i:Int} (h:0<=i):fromIndex n i=i.toNat:=by
 unfold fromIndex
 rw [if_neg (Int.not_lt.mpr h),Int.max_eq_right h]
theorem nC {X Y:Addr->Prop} {s:Shared} {A:Around} {d:D} {v:Value} (hu:A.units+5<cLine) (hv:DenT s.heap Y d v):∀ {xs:List D} {its:List Value} {n:Nat},DenL s.heap X xs its->cntD d xs=some n ->
  (∀ y,y∈its->∃ x b,Den s.heap X x y/\eqD x d=some b)/\∀ e:Value->Bool,(∀ y x b,y∈its->Den s.heap X x y->eqD x d=some b->e y=b)->its.countP e=n
 | [],its,n,hx,h=>by
  rw [show its=[] from hx,<- sm h]
  exact ⟨λy hy=>(nomatch hy),λe Zz=>rfl⟩
 |x :: xs,its,n,⟨y,r,e',a,b⟩,h=>ae h λbb h1 h=>ay h λm h2 h3=>by
  rw [e',<- h3]
  obtain ⟨i1,i2⟩:=nC hu hv b h2
  refine ⟨λz hz=> ?_,λe he=> ?_⟩
  ·rcases List.mem_cons.mp hz with rfl |hz
   ·exact ⟨x,bb,a,h1⟩
   ·exact i1 z hz
  ·rw [List.countP_cons,i2 e λy x b hy=>he y x b (List.mem_cons_of_mem _ hy),he y x bb List.mem_cons_self a h1]
theorem yr {x:Str} {ts:List Str} (h:x.length * ts.length+(ts.map (·.length)).sum<=1048576):JoinOk x ts=true:=by
 unfold JoinOk
 rw [StrLaws.joinTotal]
 rw [Nat.mul_comm] at h
 have:tooLong ((ts.map (·.length)).sum+ts.length * x.length)=false:=by
  unfold tooLong
  rw [sizeLine_eq]
  exact decide_eq_false (by omega)
 rw [this];rfl
theorem mi {h:Heap} {X:Addr->Prop}:∀ (l:List (Str×Tok)),DenL h X ((l.map (·.1)).map .str) (strValues l)
 | []=>rfl
 |p :: l=>⟨_,_,rfl,⟨_,rfl⟩,mi l⟩
section
variable {prog:Program} {w:World} {A:Around} {E:Value->Shared->Prop} {s:Shared} {Ex:Addr->Prop}
theorem mZ {x y:Str} {t u:Tok} {Q:Value->Shared->Prop} {fr:Bool} (lt:∀ b,Ex b->Al s.heap b) (hx:x.length<=1048576) (hy:0<y.length) (P:Ps s Ex (.list ((Txt.split x y).map .str)) fr Q) :
  wpAny (model prog w) A (call (.builtin "str.split") [.str x t,.str y u]) Q E s:=by
 have hy0:(y.length==0)=false:=by simp;omega
 have key:∀ (l:List (Str×Tok)) tk,l.map (·.1)=Txt.split x y->Q (.ref s.heap.objs.size) {s with heap:=s.heap.push {cls:= .type "list",data:= .seq (strValues l).toArray},toks:=tk}:=λl tk hl=>by
  refine P.newList lt ?_ tk
  rw [<- hl];exact mi l
 have ho:=StrLaws.occ_length_le x y 0 x.length (x.length+1)
 cases h1:(decide (x.length<y.length) || decide (strKind x<strKind y))
 ·cases hf:(occurrences x y 0 x.length (x.length+1)).isEmpty
  ·refine call_meets F.slot_str_split (typeIs_str _ _ _) F.entry_str_split (F.args_str_split_2 _ _) (meets_str_split_sep x y t u h1 hy0 hf (by rw [sizeLine_eq];omega) (by rw [length_partsBetween,sizeLine_eq];omega)) ?_
   show wants Q E _ {s with toks:=_,heap:=s.heap.push {cls:= .type "list",data:= .seq (strsFrom s.toks (partsBetween x (occurrences x y 0 x.length (x.length+1)) y.length)).toArray}}
   rw [strsFrom_eq]
   exact key (numbered s.toks _) _ ((numbered_texts _ _).trans ((if_neg (ne_true_of_eq_false h1)).trans (if_neg (ne_true_of_eq_false hf))).symm)
  ·exact call_meets F.slot_str_split (typeIs_str _ _ _) F.entry_str_split (F.args_str_split_2 _ _) (meets_str_split_not_found x y t u h1 hy0 hf)
    (key [(x,t)] _ ((if_neg (ne_true_of_eq_false h1)).trans (if_pos hf)).symm)
 ·exact call_meets F.slot_str_split (typeIs_str _ _ _) F.entry_str_split (F.args_str_split_2 _ _) (meets_str_split_cannot_occur x y t u h1)
   (key [(x,t)] _ (if_pos h1).symm)
theorem s5 {x:Str} {ds:List D} {r:D} {vs:List Value} {P:List Value->Prop} (hd:findD3 x ds=some r) (h:DenRL s.heap Ex true ds vs) (k:∀ y lo hi t u v,(findIn x y lo hi).map .int=some r->P [.str y t,.int lo u,.int hi v]):P vs:=by
 cases ds with
 |nil=>exact ai hd
 |cons d ds =>
  obtain ⟨v,w,e,hv,hw⟩:=h
  refine ae hd λy hy hd=>ae hd λp hp hd=>ae hd λlo hl hd=>ae hd λhi hh hd=> ?_
  rw [e]
  refine bY hy hv.top λt=> ?_
  refine gi hp hw λa b ha hb=> ?_
  refine aP hl ha λu=> ?_
  refine aP hh hb λq=> ?_
  exact k y lo hi t u q hd
theorem mh {f:Str->Str->Option D} {d r:D} {ds:List D} {v:Value} {vs:List Value} {P:Value->List Value->Prop} (hd:ss f d ds=some r) (hv:DenT s.heap Ex d v) (h:DenRL s.heap Ex true ds vs) (k:∀ x y t u,f x y=some r->P (.str x t) [.str y u]):P v vs :=
 ae hd λx hx hd=>ae hd λe he hd=>ae hd λy hy hd=>bJ (P:=P v) he h λw hw=>bY (P:=λv=>P v [w]) hx hv λt=>bY (P:=λw=>P (.str x t) [w]) hy hw λu=>k x y t u hd
theorem om {ds:List D} {vs:List Value} (hd:ds.isEmpty=true) (h:DenRL s.heap Ex true ds vs):vs=[]:=by
 cases ds with
 |nil=>exact h
 |cons _ _=>exact nomatch hd
theorem mM {d e r:D} {xs:List D} {v u:Value} {Q:Value->Shared->Prop} (hu:A.units+6<cLine) (hv:DenT s.heap Ex d v) (hx:d.list? = some xs) (h:DenT s.heap Ex e u) (hd:(cntD e xs).map (λ(n:Nat)=>D.int (n:Int))=some r) (P:Ps s Ex r false Q) :
  wpAny (model prog w) A (call (.builtin "list.count") [v,u]) Q E s:=by
 refine ay hd λn hn e1=> ?_
 refine eG hx hv λp its l r1=> ?_
 obtain ⟨n0,l1⟩:=l
 have hu1:A.in1.units+5<cLine:=Nat.lt_of_le_of_lt (Nat.le_of_eq (Nat.add_assoc A.units 1 5)) hu
 obtain ⟨k1,k2⟩:=nC (A:=A.in1) hu1 h r1 hn
 have hit:∀ y x b,y∈its.toList->Den s.heap Ex x y->eqD x e=some b->hitV s.heap Ex e xs y=b:=λy x b hy hx hb=>by
  obtain ⟨i,hi⟩:=List.getElem?_of_mem hy
  obtain ⟨x',hx1,hx2⟩:=r1.get' hi
  rw [Den.fn _ _ _ hx.top hx2.top] at hb
  exact lh (List.mem_of_getElem? hx1) hx2 hb
 refine call_meets F.slot_list_count ⟨_,l1,rfl⟩ F.entry_list_count (F.args_list_count_2 _ _) (PySem.SeqAt.list_countAt p its n0 none #[] u (hitV s.heap Ex e xs)) ⟨l1,λy hy=> ?_,?_⟩
 ·obtain ⟨x,b,hx,hb⟩:=k1 y (Array.mem_toList_iff.mpr hy)
  rw [hit y x b (Array.mem_toList_iff.mpr hy) hx hb]
  exact eI 4 _ (Nat.lt_of_succ_lt hu1) _ _ _ _ _ _ _ hx.top h hb
 ·rw [k2 _ hit]
  exact P.int (congrArg some e1) _ _
theorem pL {x:Str} {t:Tok} {e r:D} {u:Value} {Q:Value->Shared->Prop} (h:DenT s.heap Ex e u) (hd:joinD x e=some r) (P:Ps s Ex r false Q):wpAny (model prog w) A (call (.builtin "str.join") [.str x t,u]) Q E s:=by
 refine ae hd λys hy hd=>ae hd λts ht hd=>gd hd λhs hd=> ?_
 refine eG hy h λp its l1 r1=> ?_
 obtain ⟨l,h1,h2⟩:=mj ht r1
 exact SC.join (l:=l) (by rw [<- h1];exact PL.isList l1) h2 (yr (aF hs)) λt' k=>P.str hd _ _
theorem mU {f:MF} {d:D} {ds:List D} {v:Value} {vs:List Value} {r:D} {Q:Value->Shared->Prop} (hu:A.units+6<cLine) (lt:∀ b,Ex b->Al s.heap b) (hv:DenT s.heap Ex d v) (h:DenRL s.heap Ex true ds vs) (hd:methD f d ds=some r) (P:Ps s Ex r (freshM f) Q) :
  wpAny (model prog w) A (call (.builtin (mId f)) (v :: vs)) Q E s:=by
 cases f with
 |split=>exact mh (P:=λv vs=>wpAny (model prog w) A (call (.builtin "str.split") (v :: vs)) Q E s) hd hv h λx y t u e=>gd e λhs e=>aa hs λh1 h2=>by obtain rfl:=sm e;exact mZ lt (aF h1) (de h2) P
 |startswith=>exact mh (P:=λv vs=>wpAny (model prog w) A (call (.builtin "str.startswith") (v :: vs)) Q E s) hd hv h λx y t u e=>SC.startswith (P.here (sm e▸rfl))
 |endswith=>exact mh (P:=λv vs=>wpAny (model prog w) A (call (.builtin "str.endswith") (v :: vs)) Q E s) hd hv h λx y t u e=>SC.endswith (P.here (sm e▸rfl))
 |find3 =>
  refine ae hd λx hx hd=> ?_
  refine bY hx hv λt0=> ?_
  refine s5 (P:=λvs=>wpAny (model prog w) A (call (.builtin "str.find") (.str x t0 :: vs)) Q E s) hd h λy lo hi t u v e=>ay e λi hf e=>gd hf λhs hf=> ?_
  refine aa hs λhs h4=>aa hs λhs h3=> ?_
  refine call_gives F.slot_str_find (typeIs_str _ _ _) F.entry_str_find (F.args_str_find_4 _ _ _ _) (mQ _ _ _ _ _ _ _ _) ?_
  rw [fA (de h3),fA (de h4)]
  exact P.int (congrArg some ((congrArg D.int (sm hf)).trans e)) _ _
 |lower =>
  refine ae hd λx hx hd=>gd hd λhs hd=>aa hs λh1 h2=> ?_
  rw [om h1 h]
  refine bY hx hv λt0=> ?_
  exact SC.lower (fit_lower (Nat.le_trans (aF h2) (by decide))) (P.str hd _ _)
 |join =>
  refine ae hd λx hx hd=>ae hd λe he hd=> ?_
  refine bJ he h λu hu=> ?_
  refine bY hx hv λt0=> ?_
  exact pL hu hd P
 |count =>
  refine ae hd λxs hx hd=>ae hd λe he hd=>gd hd λZz hd=> ?_
  refine bJ he h λu hu'=> ?_
  exact mM hu hv hx hu' hd P
 |bitlen =>
  refine ae hd λx hx hd=>gd hd λh1 hd=> ?_
  rw [om h1 h]
  refine aP hx hv λt0=> ?_
  exact PyProof.Rows.call_int_bit_length (P.int hd _ _)
end
end Mine
namespace Mine
variable [Jt:Tabs] [Jf:Frk]
def ScEq (env:Env) (sc:Scope):Prop:=∀ x,env.scope.names.lookup x=sc.names.lookup x\/(sc.names.lookup x=some .free/\env.scope.names.lookup x=some .cell)
theorem ScEq.seen {env:Env} {sc:Scope} {x:Str} (h:ScEq env sc) (hs:seen sc x=true):Mine.seen env.scope x=true:=by
 unfold Mine.seen at hs ⊢
 rcases h x with h |⟨h1,h2⟩
 ·rw [h];exact hs
 ·rw [h2];rfl
theorem ScEq.glob {env:Env} {sc:Scope} {x:Str} (h:ScEq env sc) (hs:isGlob sc x=true):env.kindOf x=some .globalImplicit:=by
 have hs:(sc.names.lookup x==_)=true:=hs
 rcases h x with h |⟨h1,h2⟩
 ·exact h.trans (beq_iff_eq.mp hs)
 ·rw [h1] at hs;exact absurd hs (by decide)
noncomputable def bnames:List Str:=["len","ord","chr","sum","max","min","hex","divmod","range","enumerate","reversed","list","next","iter","StopIteration"]
structure Base (prog:Program) (w:World) (c:Cx) (G:ag) (hB:Heap) (mg mb:Str->Option Value):Prop where
 ns:hB.Ns mainGlobals mg
 bn:hB.Ns builtinsNs mb
 blt:∀ x,x∈bnames->mg x=none/\mb x=bootBuiltins x
 cst:∀ x d,x∈c.consts->G.const x=some d->d.scalar=true/\∃ v,mg x=some v/\Den hB (λZz=>False) d v
 iset:∀ x l,x∈c.sets->G.iset x=some l->∃ a,mg x=some (.ref a)/\∀ (A:Around) (E:Value->Shared->Prop) (s:Shared) (i:Int) (t:Tok) (Q:Value->Shared->Prop),KB hB s.heap->A.units+12<cLine->(∀ tk,Q (.bool (l.contains i)) {s with toks:=tk}) ->
  wpAny (model prog w) A (compareOp .In (.int i t) (.ref a)) Q E s
 idict:∀ x l,x∈c.dicts->G.idict x=some l->∃ a,mg x=some (.ref a)/\∀ (s:Shared),KB hB s.heap->s.TypeIs (.ref a) "dict"/\(∃ ob,s.heap.get? a=some ob/\ob.dict=none) /\
  ∀ (A:Around) (E:Value->Shared->Prop) (i:Int) (t:Tok) (Q:Value->Shared->Prop) (dv:Value),A.units+12<cLine->(∀ tk,match l.lookup i with |some v=>∀ t',Q (.str v t') {s with toks:=tk} |none=>Q dv {s with toks:=tk}) ->
   wpAny (model prog w) A (call (.builtin "dict.get") [.ref a,.int i t,dv]) Q E s/\(dv = .none->wpAny (model prog w) A (call (.builtin "dict.get") [.ref a,.int i t]) Q E s)
 ndb:∀ x,x∈c.sets\/x∈c.dicts->(x==("__debug__":Str))=false
 fn:∀ x,x∈c.fns->∃ a o fd,mg x=some (.ref a)/\hB.get? a=some o/\o.data = .func fd
def Ctr (prog:Program) (w:World) (hB:Heap) (n:Nat) (F:FEnv) (f:Str) (a:Addr):Prop :=
 ∀ (A:Around) (E:Value->Shared->Prop) (s:Shared) (X:Addr->Prop) (ds:List D) (vs:List Value) (r:D) (Q:Value->Shared->Prop),Ar n A->KB hB s.heap->(∀ b,X b->Al s.heap b)->DenL s.heap X ds vs->F f ds=some r ->
  (∀ v h' tk,Kp s.heap h'->Den h' X r v->Q v {s with heap:=h',toks:=tk})->wpAny (model prog w) A (call (.ref a) vs) Q E s
def Pe (s:Shared) (Ex:Addr->Prop) (b:Bool) (d:D) (fr:Bool) (Q:Value->Shared->Prop):Prop :=
 ∀ v h' tk,Kp s.heap h'->DenR h' Ex b d v->(fr=true->FrV s.heap h' Ex d v)->Q v {s with heap:=h',toks:=tk}
theorem FrV.from {h h₁ h':Heap} {Ex:Addr->Prop} {d:D} {v:Value} (k:Kp h h₁) (e:FrV h₁ h' Ex d v):FrV h h' Ex d v:=by
 obtain ⟨a,items,ds,e1,e2,r⟩:=e
 exact ⟨a,items,ds,e1,k.none e2,r⟩
theorem Pe.from {s:Shared} {Ex:Addr->Prop} {b:Bool} {d:D} {fr:Bool} {Q:Value->Shared->Prop} (P:Pe s Ex b d fr Q) {h₁:Heap} {tk:Nat} (k:Kp s.heap h₁):Ps {s with heap:=h₁,toks:=tk} Ex d fr Q :=
 λv h' tk' k' hd hf=>P v h' tk' (k.trans k') (hd.toR) λe=>(hf e).from k
structure Wd where
 P:Program
 w:World
 c:Cx
 G:ag
 F:FEnv
 hB:Heap
 n:Nat
abbrev Wd.Ok (X:Wd) (mg mb:Str->Option Value):Prop:=Base X.P X.w X.c X.G X.hB mg mb
def Wd.Ct (X:Wd) (mg:Str->Option Value):Prop:=∀ f a,f∈X.c.fns->mg f=some (.ref a)->Ctr X.P X.w X.hB X.n X.F f a
structure At (X:Wd) (sc:Scope) (O:MEnv) where
 A:Around
 s:Shared
 env:Env
 Ex:Addr->Prop
 ow:Nat->Addr
 hsc:ScEq env sc
 R:RR env X.c.tbl Ex ow O s.heap
 k:KB X.hB s.heap
 ar:Ar X.n A
noncomputable abbrev At.to {X:Wd} {sc:Scope} {O:MEnv} (p:At X sc O) {h:Heap} (k:Kp p.s.heap h) (tk:Nat):At X sc O where
 A:=p.A
 s:={p.s with heap:=h,toks:=tk}
 env:=p.env
 Ex:=p.Ex
 ow:=p.ow
 hsc:=p.hsc
 R:=p.R.keep k
 k:=p.k.trans k
 ar:=p.ar
section
variable (X:Wd) (sc:Scope)
def VS (t:T) (e:Expr):Prop:=∀ (O:MEnv) (p:At X sc O) (E:Value->Shared->Prop) (b:Bool) (d:D) (Q:Value->Shared->Prop),ev X.G X.F O b t=some d ->
 Pe p.s p.Ex b d (freshT t d) Q->wpAny (model X.P X.w) p.A (eval e p.env) Q E p.s
def cf (t:T) (e:Expr):Prop:=∀ (O:MEnv) (p:At X sc O) (E:Value->Shared->Prop) (d:D) (r:Bool) (Q:Bool->Shared->Prop),ev X.G X.F O true t=some d->truthy d=some r ->
 (∀ h' tk,Kp p.s.heap h'->Q r {p.s with heap:=h',toks:=tk})->wpAny (model X.P X.w) p.A (isTrue e p.env (eval e p.env)) Q E p.s
def AS (t:T) (es:List Expr):Prop :=
 (∀ env pos,(backTo pos (starEach es env)).any (·.1)=false/\(backTo pos (starEach es env)).all (λx=> !x.1)=true/\(es=[]/\t = .nil/\backTo pos (starEach es env)=[]\/∃ x r,backTo pos (starEach es env)=(false,x) :: r)) /\
 ∀ (O:MEnv) (p:At X sc O) (E:Value->Shared->Prop) (b:Bool) (ds:List D) (pos:Pos) (Q:List Value->Shared->Prop),ev X.G X.F O b t=some (.tup ds) ->
  (∀ vs h' tk,Kp p.s.heap h'->DenRL h' p.Ex b ds vs->Q vs {p.s with heap:=h',toks:=tk})->wpAny (model X.P X.w) p.A (spliced (backTo pos (starEach es p.env))) Q E p.s
end
theorem Ar.cl {n:Nat} {A:Around} (h:Ar n A):A.units+12<cLine :=
 Nat.lt_of_le_of_lt (Nat.add_le_add_right (Nat.le_trans (Nat.le_add_right _ _) h.units) 12) (by decide)
theorem Ar.cl6 {n:Nat} {A:Around} (h:Ar n A):A.units+6<cLine:=Nat.lt_of_le_of_lt (Nat.add_le_add_left (by decide) _) h.cl
section
variable {X:Wd} {sc:Scope}
theorem At.here {O:MEnv} {p:At X sc O} {b:Bool} {d:D} {Q:Value->Shared->Prop} {v:Value} (P:Pe p.s p.Ex b d false Q) (hd:Den p.s.heap p.Ex d v) (tk:Nat):Q v {p.s with toks:=tk} :=
 P v p.s.heap tk (Kp.refl _) hd.toR λe=>nomatch e
theorem AC {x:Str} {i:Nat} {pos:Pos} (hs:seen sc x=true) (hi:X.c.tbl[i]? = some x) (hd:(x==("__debug__":Str))=false) (hcd:(x==("__classdict__":Str))=false):VS X sc (.var i) (.Name x pos):=λO p E b d Q h P=>by
 refine ae h λq hg h=>fD h λhx h=> ?_
 refine uz p.R (p.hsc.seen hs) hi hg hd hcd λv hv=>P v p.s.heap p.s.toks (Kp.refl _) ?_ (λe=>nomatch e)
 rw [<- sm h]
 cases b with
 |true=>exact hv.top
 |false =>
  rw [Bool.not_false,Bool.and_true,Bool.not_eq_true] at hx
  rw [hx] at hv
  exact hv
theorem yE {x:Str} {pos:Pos} {mg mb:Str->Option Value} (B:X.Ok mg mb) (hs:isGlob sc x=true) (hi:x∈X.c.consts) (hd:(x==("__debug__":Str))=false):VS X sc (.glob x) (.Name x pos):=λO p E b d Q h P=>by
 obtain ⟨h1,v,h2,h3⟩:=B.cst x d hi h
 exact PySem.Calls.Name_function_global p.R.ok.kind (p.hsc.glob hs) (PySem.Calls.loadGlobal_global (by rw [p.R.ok.glob];exact p.k.ns B.ns) h2 (At.here P (h3.scal h1) _)) hd
theorem Ay {k:D} {kd:Nat} {pos:Pos}:VS X sc (.cst k) (.Constant (constE k) kd pos):=λO p E b d Q h P=>by
 refine gd h λhs h=> ?_
 obtain rfl:=sm h
 cases k with
 |none=>exact wpAny_Constant_none (At.here P rfl _)
 |bool _=>exact wpAny_Constant_bool (At.here P rfl _)
 |int _=>exact wpAny_Constant_int (At.here P ⟨_,rfl⟩ _)
 |str _=>exact wpAny_Constant_str (At.here P ⟨_,rfl⟩ _)
 |list _=>exact nomatch hs
 |tup _=>exact nomatch hs
theorem Av {op:Operator} {ta tb:T} {a b:Expr} {pos:Pos} (ha:VS X sc ta a) (hb:VS X sc tb b):VS X sc (.bin op ta tb) (.BinOp a op b pos):=λO p E bb d Q h P=>by
 refine ae h λx hx h=>ae h λy hy h=> ?_
 refine wpAny_BinOp (ha O p E true x _ hx λva h1 tk1 k1 d1 Zz=>hb O (p.to k1 tk1) E true y _ hy λvb h2 tk2 k2 d2 Zz=> ?_)
 exact eD (p.R.keep (k1.trans k2)).lt (d1.keep k2).top d2.top h (P.from (k1.trans k2))
theorem wf {op:UnaryOp} {ta:T} {a:Expr} {pos:Pos} (ha:VS X sc ta a):VS X sc (.un op ta) (.UnaryOp op a pos):=λO p E bb d Q h P=>by
 refine ae h λx hx h=> ?_
 exact wpAny_UnaryOp (ha O p E true x _ hx λva h1 tk1 k1 d1 Zz=>s7 d1.top h (P.from k1))
theorem nB {op:CmpOp} {ta tb:T} {a b:Expr} (ha:VS X sc ta a) (hb:VS X sc tb b) {O:MEnv} (p:At X sc O) {E:Value->Shared->Prop} {x y:D} {r:Bool} {Q:Value->Shared->Prop} (hx:ev X.G X.F O true ta=some x) (hy:ev X.G X.F O true tb=some y) (hr:cmpD op x y=some r)
  (P:∀ h' tk,Kp p.s.heap h'->Q (.bool r) {p.s with heap:=h',toks:=tk}):wpAny (model X.P X.w) p.A (eval a p.env) (λva s₁=>wpAny (model X.P X.w) p.A (eval b p.env) (λvb s₂=>wpAny (model X.P X.w) p.A (compareOp op va vb) Q E s₂) E s₁) E p.s :=
 ha O p E true x _ hx λva h1 tk1 k1 d1 Zz=>hb O (p.to k1 tk1) E true y _ hy λvb h2 tk2 k2 d2 Zz=>pz p.ar.cl6 (d1.keep k2).top d2.top hr (P h2 tk2 (k1.trans k2))
theorem Ax {op:CmpOp} {ta tb:T} {a b:Expr} {pos:Pos} (ha:VS X sc ta a) (hb:VS X sc tb b) (hm:behindInMarks op b=false):VS X sc (.cmp op ta tb) (.Compare a [op] [b] pos):=λO p E bb d Q h P=>by
 refine ae h λx hx h=>ae h λy hy h=>ay h λr hr e=> ?_
 exact wpAny_Compare1 (nB ha hb p hx hy hr λh' tk k=>P _ h' tk k (Den.toR (e▸rfl)) λe=>nomatch e) hm
theorem zD {op:CmpOp} {ta tb:T} {a b:Expr} {pos:Pos} (ha:VS X sc ta a) (hb:VS X sc tb b) (hm:behindInMarks op b=false):cf X sc (.cmp op ta tb) (.Compare a [op] [b] pos):=λO p E d r0 Q h ht P=>by
 refine ae h λx hx h=>ae h λy hy h=>ay h λr hr e=> ?_
 obtain rfl:r=r0:=sm ((congrArg truthy e).trans ht)
 exact wpAny_isTrue_Compare1 (nB ha hb p hx hy hr λh' tk k=>wpAny_truthy_bool (P h' tk k)) hm
end
section
variable {X:Wd} {sc:Scope}
theorem gO {t:T} {e:Expr} (h:VS X sc t e) (he:∀ env whole,isTrue e env whole=(do let v <- whole;standAt e.pos;holding [v] (PySem.truthy v))):cf X sc t e:=λO p E d r Q hd ht P =>
 wpAny_isTrue_value (h O p E true d _ hd λv h1 tk1 k1 d1 Zz=>dp d1.top ht λtk=>P h1 tk k1) (he _ _)
theorem zF {ta:T} {a:Expr} {pos:Pos} (ha:cf X sc ta a):cf X sc (.un .Not ta) (.UnaryOp .Not a pos):=λO p E d r Q h ht P=>by
 refine ae h λx hx h=>ay h λb hb e=> ?_
 obtain rfl:(!b)=r:=sm ((congrArg truthy e).trans ht)
 exact wpAny_isTrue_Not (ha O p E x b _ hx hb P)
theorem AA {tc ta tb:T} {e a b:Expr} {pos:Pos} (hc:cf X sc tc e) (ha:VS X sc ta a) (hb:VS X sc tb b):VS X sc (.ite tc ta tb) (.IfExp e a b pos):=λO p E bb d Q h P=>by
 refine ae h λx hx h=>ae h λr ht h=> ?_
 refine wpAny_IfExp (hc O p E x r _ hx ht λh1 tk1 k1=> ?_)
 cases r with
 |true =>
  rw [if_pos rfl]
  exact ha O (p.to k1 tk1) E bb d Q h λv h' tk k' hd Zz=>P v h' tk (k1.trans k') hd λe=>nomatch e
 |false =>
  rw [if_neg (by decide)]
  exact hb O (p.to k1 tk1) E bb d Q h λv h' tk k' hd Zz=>P v h' tk (k1.trans k') hd λe=>nomatch e
theorem zE {tc ta tb:T} {e a b:Expr} {pos:Pos} (hc:cf X sc tc e) (ha:cf X sc ta a) (hb:cf X sc tb b):cf X sc (.ite tc ta tb) (.IfExp e a b pos):=λO p E d r0 Q h hr P=>by
 refine ae h λx hx h=>ae h λr ht h=> ?_
 rw [arm_isTrue_IfExp]
 refine wpAny_bind (hc O p E x r _ hx ht λh1 tk1 k1=> ?_)
 cases r with
 |true =>
  rw [if_pos rfl]
  exact ha O (p.to k1 tk1) E d r0 Q h hr λh' tk k'=>P h' tk (k1.trans k')
 |false =>
  rw [if_neg (by decide)]
  exact hb O (p.to k1 tk1) E d r0 Q h hr λh' tk k'=>P h' tk (k1.trans k')
def BS (X:Wd) (sc:Scope) (t:T) (op:BoolOp) (es:List Expr):Prop :=
 (∀ (O:MEnv) (p:At X sc O) (E:Value->Shared->Prop) (b:Bool) (d:D) (pos:Pos) (Q:Value->Shared->Prop),ev X.G X.F O b t=some d->Pe p.s p.Ex b d false Q->wpAny (model X.P X.w) p.A (boolOp pos op (evalEach es p.env)) Q E p.s) /\
 (∀ (O:MEnv) (p:At X sc O) (E:Value->Shared->Prop) (d:D) (r:Bool) (Q:Bool->Shared->Prop),ev X.G X.F O true t=some d->truthy d=some r->(∀ h' tk,Kp p.s.heap h'->Q r {p.s with heap:=h',toks:=tk})->wpAny (model X.P X.w) p.A (allTrue op es p.env) Q E p.s)
theorem za {t:T} {e:Expr} {op:BoolOp} (h:VS X sc t e) (hi:cf X sc t e):BS X sc t op [e]:=by
 refine ⟨λO p E b d pos Q hd P=> ?_,λO p E d r Q hd ht P=> ?_⟩
 ·rw [arm_evalEach_cons,arm_evalEach_nil]
  exact h O p E b d Q hd λv h' tk k' hd Zz=>P v h' tk k' hd λe=>nomatch e
 ·rw [arm_allTrue_cons]
  refine wpAny_bind (hi O p E d r _ hd ht λh1 tk1 k1=> ?_)
  have:=P h1 tk1 k1
  cases op<;>cases r<;>exact wpAny_pure this
theorem wE {ta tr:T} {a:Expr} {r1:Expr} {rest:List Expr} {op:BoolOp} (h:VS X sc ta a) (hi:cf X sc ta a) (hr:BS X sc tr op (r1 :: rest)):BS X sc (.bop op ta tr) op (a :: r1 :: rest):=by
 refine ⟨λO p E b d pos Q hd P=> ?_,λO p E d r0 Q hd ht0 P=> ?_⟩
 ·refine ae hd λx hx hd=>ae hd λr ht hd=> ?_
  rw [arm_evalEach_cons,arm_evalEach_cons]
  refine wpAny_bind (h O p E b x _ hx λv h1 tk1 k1 d1 Zz=> ?_)
  refine wpAny_bind (wpAny_standAt (wpAny_bind (wpAny_holding (dp d1.top ht λtk=> ?_))))
  have stop:=λe:some x=some d=>P v h1 tk k1 (sm e▸d1) λe=>nomatch e
  have go:=λhd=>hr.1 O (p.to k1 tk) E b d pos Q hd λv h' tk k' hd Zz=>P v h' tk (k1.trans k') hd λe=>nomatch e
  cases op<;>cases r<;>first |exact wpAny_pure (stop hd) |exact go hd
 ·refine ae hd λx hx hd=>ae hd λr ht hd=> ?_
  rw [arm_allTrue_cons]
  refine wpAny_bind (hi O p E x r _ hx ht λh1 tk1 k1=> ?_)
  have stop:=λe:some x=some d=>(show r=r0 from sm (ht.symm.trans ((congrArg truthy (sm e)).trans ht0)))▸P h1 tk1 k1
  have go:=λhd=>hr.2 O (p.to k1 tk1) E d r0 Q hd ht0 λh' tk k'=>P h' tk (k1.trans k')
  cases op<;>cases r<;>first |exact wpAny_pure (stop hd) |exact go hd
theorem yA {op:BoolOp} {ta tr:T} {es:List Expr} {pos:Pos} (h:BS X sc (.bop op ta tr) op es):VS X sc (.bop op ta tr) (.BoolOp op es pos):=λO p E bb d Q hd P=>by
 rw [arm_eval_BoolOp]
 exact h.1 O p E bb d pos Q hd P
theorem xw {t:T} {op:BoolOp} {es:List Expr} {pos:Pos} (h:BS X sc t op es):cf X sc t (.BoolOp op es pos):=λO p E d r Q hd ht P =>
 wpAny_isTrue_BoolOp (h.2 O p E d r Q hd ht P)
theorem yW:AS X sc .nil [] :=
 ⟨λenv pos=>⟨rfl,rfl,.inl ⟨rfl,rfl,rfl⟩⟩,λO p E b ds pos Q h P=>PySem.Calls.spliced_nil (P [] p.s.heap p.s.toks (Kp.refl _) (by rw [<- my (sm h)];rfl))⟩
theorem wo {te tr:T} {e:Expr} {r:List Expr} (hst:∀ rest env,starEach (e :: rest) env=(false,eval e env) :: starEach rest env) (he:VS X sc te e) (hr:AS X sc tr r):AS X sc (.cons te tr) (e :: r):=by
 have e1:∀ env pos,backTo pos (starEach (e :: r) env)=(false,eval e env) :: backTo pos (starEach r env):=λenv pos=>by rw [hst];rfl
 refine ⟨λenv pos=> ?_,λO p E b ds pos Q h P=> ?_⟩
 ·obtain ⟨h1,h2,Zz⟩:=hr.1 env pos
  rw [e1]
  exact ⟨by rw [List.any_cons,h1];rfl,by rw [List.all_cons,h2];rfl,.inr ⟨_,_,rfl⟩⟩
 ·refine ae h λx hx h=>ae h λy hy h=>ay h λxs hxs e=> ?_
  rw [e1]
  refine PySem.Calls.spliced_cons (he O p E b x _ hx λv h1 tk1 k1 d1 f1=> ?_)
  refine hr.2 O (p.to k1 tk1) E b xs pos _ (eA (P:=λy=>ev X.G X.F O b tr=some y->_) hxs id hy) λvs h2 tk2 k2 d2=> ?_
  exact P (v :: vs) h2 tk2 (k1.trans k2) (my e▸⟨v,vs,rfl,d1.keep k2,d2⟩)
theorem dS {α:Type} {t:T} {O:MEnv} {b:Bool} {f:List D->Option α} {r:α} {P:Prop} {G:ag} {F:FEnv} (h:((ev G F O b t).bind λy=>y.tup?.bind f)=some r) (k:∀ ds,ev G F O b t=some (.tup ds)->f ds=some r->P):P :=
 ae h λy hy h=>ae h λds hds h=>eA (P:=λy=>ev G F O b t=some y->P) hds (λhy=>k ds hy h) hy
theorem yF {t:T} {es:List Expr} {pos:Pos} (h:AS X sc t es):VS X sc (.list t) (.List es pos):=λO p E b d Q hd P=>by
 refine dS hd λxs hxs hd=>gd hd λhs hd=> ?_
 obtain rfl:=sm hd
 refine wpAny_List (h.2 O p E false xs pos _ hxs λvs h1 tk1 k1 d1=> ?_)
 have dl:=d1.denL
 exact ⟨dl.length▸bG (aF hs),Ps.newList (s:={p.s with heap:=h1,toks:=tk1}) (P.from k1) (p.R.keep k1).lt dl tk1⟩
theorem mG {t:T} {es:List Expr} {kk:Nat} {pos:Pos} (h:AS X sc t es):VS X sc (.tup t) (.Tuple es kk pos):=λO p E b d Q hd P=>by
 refine dS hd λxs hxs hd=>gd hd λhs hd=> ?_
 obtain rfl:=sm hd
 refine wpAny_Tuple (h.2 O p E false xs pos _ hxs λvs h1 tk1 k1 d1=> ?_)
 have dl:=d1.denL
 have k2:=Kp.push h1 {cls:= .type "tuple",data:= .seq vs.toArray}
 exact ⟨dl.length▸bG (aF hs),P _ _ _ (k1.trans k2) (Den.toR ⟨_,_,rfl,λe=>((p.R.keep k1).lt _ e).ne (aI _) rfl,⟨0,Heap.get?_push_size _ rfl⟩,dl.keep k2⟩) λe=>nomatch e⟩
def pe (s:Shared) (v:Value):Prop:=∃ T id,s.TypeIs v T/\typeLookup (.type T) "__getitem__"=pure (some (.builtin id))
theorem mr {a:D} {va:Value} {s:Shared} {Ex:Addr->Prop} (ha:DenT s.heap Ex a va) (h:(match a with | .list _=>true | .tup _=>true | .str _=>true |_=>false)=true):pe s va:=by
 cases a with
 |list xs=>obtain ⟨p,its,e,l,r⟩:=ha;rw [e];exact ⟨_,_,(PL.isList l).typeIs,slot_list_getitem.lookup⟩
 |tup xs=>obtain ⟨p,its,e,Zz,l,r⟩:=ha;rw [e];exact ⟨_,_,(TupAt.isTup l).typeIs,F.slot_tuple_getitem.lookup⟩
 |str x=>obtain ⟨t,e⟩:=ha;rw [e];exact ⟨_,_,typeIs_str _ _ _,F.slot_str_getitem.lookup⟩
 |_=>exact nomatch h
theorem uh {a i d:D} {va:Value} {s:Shared} {Ex:Addr->Prop} (ha:DenT s.heap Ex a va) (h:idxD a i=some d):pe s va:=mr ha (by
 cases a with
 |list _=>rfl
 |tup _=>rfl
 |str _=>rfl
 |_=>exact ai h)
theorem uV {a l u st d:D} {va:Value} {s:Shared} {Ex:Addr->Prop} (ha:DenT s.heap Ex a va) (h:sliD a l u st=some d):pe s va:=mr ha (ae h λZz Zz h=>ae h λZz Zz h=>ae h λZz Zz h=>fD h λZz h=>by
 cases a with
 |list _=>rfl
 |tup _=>rfl
 |str _=>rfl
 |_=>exact ai h)
theorem mq {A:Around} {E:Value->Shared->Prop} {s:Shared} {value slice:Expr} {o i:Value} {ops:List Value} {Q:Value->Shared->Prop} (hT:pe s o) (hs:subscripted slice false o i=operate ops (getItem o i)) (h:wpAny (model X.P X.w) A (getItem o i) Q E s) :
  wpAny (model X.P X.w) A (subscriptTail value slice o i) Q E s:=by
 obtain ⟨T,id,hT,hl⟩:=hT
 unfold subscriptTail
 refine wpAny_bind ?_
 rw [getitemInPython_of_ne hT.not_modules]
 refine wpAny_bind (wpAny_specialOf hT hl ?_)
 have fin:wpAny (model X.P X.w) A (subscripted slice false o i) (λr s₃=>wpAny (model X.P X.w) A (letTemporaryGo value o r >>= λZz=>pure r) Q E s₃) E s:=by
  rw [hs]
  exact wpAny_operating (wpAny_mono h (λr s₃ h₃=>wpAny_bind (wpAny_letTemporaryGo (wpAny_pure h₃))) λZz Zz x=>x)
 first
  |exact wpAny_pure (wpAny_bind fin)
  |exact wpAny_bind (wpAny_pure (wpAny_bind fin))
  |exact wpAny_bind fin
theorem An {i:Expr} (h:isSliceE i=false) (o v:Value):subscripted i false o v=operate [o,v] (getItem o v):=by
 cases i<;>first |rfl |exact nomatch h
theorem Az {mg mb:Str->Option Value} (B:X.Ok mg mb) {ta ti:T} {a i:Expr} {pos:Pos} (ha:VS X sc ta a) (hi:VS X sc ti i) (hs:isSliceE i=false):VS X sc (.idx ta ti) (.Subscript a i pos):=λO p E b d Q hd P=>by
 refine ae hd λx hx hd=>ae hd λy hy hd=> ?_
 refine Subscript_ (ha O p E true x _ hx λva h1 tk1 k1 d1 Zz=>hi O (p.to k1 tk1) E true y _ hy λvi h2 tk2 k2 d2 Zz=> ?_)
 have d1':=(d1.keep k2).top
 exact mq (uh (s:={p.s with heap:=h2,toks:=tk2}) d1' hd) (An hs _ _) (pI d1' d2.top hd (P.from (k1.trans k2)))
def OS (X:Wd) (sc:Scope) (t:T) (e:Option Expr):Prop:=∀ (O:MEnv) (p:At X sc O) (E:Value->Shared->Prop) (d:D) (Q:Value->Shared->Prop),ev X.G X.F O true t=some d->Pe p.s p.Ex true d false Q->wpAny (model X.P X.w) p.A (evalPart e p.env) Q E p.s
theorem xV:OS X sc (.cst .none) none:=λO p E d Q h P=>evalPart_none_step (At.here P (sm h▸rfl) _)
theorem xW {t:T} {e:Expr} (h:VS X sc t e):OS X sc t (some e):=λO p E d Q hd P =>
 evalPart_some_step (h O p E true d Q hd λv h' tk k' hd Zz=>P v h' tk k' hd λe=>nomatch e)
theorem AB {mg mb:Str->Option Value} (B:X.Ok mg mb) {ta tl tu ts:T} {a:Expr} {l u st:Option Expr} {p0 pos:Pos} (ha:VS X sc ta a) (hl:OS X sc tl l) (hu:OS X sc tu u) (hst:OS X sc ts st) :
  VS X sc (.sli ta tl tu ts) (.Subscript a (.Slice l u st p0) pos):=λO p E b d Q hd P=>by
 refine ae hd λx hx hd=>ae hd λy hy hd=>ae hd λz hz hd=>ae hd λq hq hd=> ?_
 refine Subscript_ (ha O p E true x _ hx λva h1 tk1 k1 d1 Zz=>wpAny_Slice (hl O (p.to k1 tk1) E y _ hy λvl h2 tk2 k2 d2 Zz=> ?_))
 refine hu O (p.to (k1.trans k2) tk2) E z _ hz λvu h3 tk3 k3 d3 Zz=> ?_
 refine hst O (p.to ((k1.trans k2).trans k3) tk3) E q _ hq λvs h4 tk4 k4 d4 Zz=> ?_
 have k5:=Kp.push h4 {cls:= .type "slice",data:= .fields #[vl,vu,vs]}
 have k45:=k4.trans k5
 have k35:=Kp.trans k3 k45
 have kk:=k1.trans (Kp.trans k2 k35)
 have dx:=(d1.keep (Kp.trans k2 k35)).top
 refine mq (ops:=if st.isNone then [.ref h4.objs.size,va] else [va,.ref h4.objs.size]) (uV (s:={p.s with heap:=h4.push {cls:= .type "slice",data:= .fields #[vl,vu,vs]},toks:=tk4}) dx hd) ?_ ?_
 ·cases st<;>rfl
 ·exact qd (p.R.keep kk).lt dx (d2.keep k35).top (d3.keep k45).top (d4.keep k5).top ⟨_,Heap.get?_push_size _ rfl,rfl,rfl⟩ hd (P.from kk)
end
theorem A0 (f:BF):bNm f∈bnames/\bootBuiltins (bNm f)=some (.builtin (bName f)):=by cases f<;>exact ⟨by decide,by decide +kernel⟩
section
variable {X:Wd} {sc:Scope} {mg mb:Str->Option Value} {O:MEnv}
theorem bv {t:T} {es:List Expr} (h:AS X sc t es) (p:At X sc O) {E:Value->Shared->Prop} {b:Bool} {ds:List D} {pos:Pos} {f:Value} {Q:Args->Shared->Prop} (hd:ev X.G X.F O b t=some (.tup ds))
  (P:∀ vs h' tk,Kp p.s.heap h'->DenRL h' p.Ex b ds vs->Q ⟨vs,[]⟩ {p.s with heap:=h',toks:=tk}):wpAny (model X.P X.w) p.A (evalArgs f true (backTo pos (starEach es p.env)) []) Q E p.s:=by
 rcases (h.1 p.env pos).2.2 with ⟨he,ht,hl⟩ |⟨x,r,hl⟩
 ·rw [hl]
  subst ht
  exact PyProof.Rows.evalArgs_none (P [] p.s.heap p.s.toks (Kp.refl _) (by rw [<- my (sm hd)];rfl))
 ·have:=h.2 O p E b ds pos (λvs s'=>Q ⟨vs,[]⟩ s') hd P
  rw [hl] at this ⊢
  exact PySem.Calls.evalArgs_plain this
theorem fF (p:At X sc O) {E:Value->Shared->Prop} {x:Str} {pos:Pos} {v:Value} {Q:Value->Shared->Prop} (B:X.Ok mg mb) (hs:isGlob sc x=true) (hd:(x==("__debug__":Str))=false) (hv:mg x=some v) (h:Q v p.s):wpAny (model X.P X.w) p.A (eval (.Name x pos) p.env) Q E p.s :=
 PySem.Calls.Name_function_global p.R.ok.kind (p.hsc.glob hs) (PySem.Calls.loadGlobal_global (by rw [p.R.ok.glob];exact p.k.ns B.ns) hv h) hd
theorem cW (p:At X sc O) {E:Value->Shared->Prop} {x:Str} {pos:Pos} {v:Value} {Q:Value->Shared->Prop} (B:X.Ok mg mb) (hs:isGlob sc x=true) (hd:(x==("__debug__":Str))=false) (hn:x∈bnames) (hv:bootBuiltins x=some v) (h:Q v p.s):wpAny (model X.P X.w) p.A (eval (.Name x pos) p.env) Q E p.s :=
 PySem.Calls.Name_function_global p.R.ok.kind (p.hsc.glob hs) (PySem.Calls.loadGlobal_builtin (by rw [p.R.ok.glob];exact p.k.ns B.ns) (B.blt x hn).1 (by rw [p.R.ok.blt];exact p.k.ns B.bn) ((B.blt x hn).2.trans hv) h) hd
theorem kI (B:X.Ok mg mb) (CT:X.Ct mg) {t:T} {es:List Expr} {f:Str} {np pos:Pos} (h:AS X sc t es) (hs:isGlob sc f=true) (hd:(f==("__debug__":Str))=false) (hf:f∈X.c.fns) (p:At X sc O) {E:Value->Shared->Prop} {b:Bool} {ds:List D} {r:D} {Y:Addr->Prop} {Q:Value->Shared->Prop}
  (hds:ev X.G X.F O b t=some (.tup ds)) (hr:X.F f ds=some r) (hY:∀ b,Y b->p.Ex b) (hden:∀ h' vs,DenRL h' p.Ex b ds vs->DenL h' Y ds vs) (P:∀ v h' tk,Kp p.s.heap h'->Den h' Y r v->Q v {p.s with heap:=h',toks:=tk}):wpAny (model X.P X.w) p.A (eval (.Call (.Name f np) es [] pos) p.env) Q E p.s:=by
 obtain ⟨a,o,fd,hm,ho,hfd⟩:=B.fn f hf
 refine wpAny_Call_ofName (fF p B hs hd hm ?_)
 refine PySem.Calls.callWith_function (o:=o) (fd:=fd) (bv h p hds λvs h' tk k' dl=>⟨⟨(p.k.trans k').ob ho (.inl (bi hfd)),hfd⟩,?_⟩)
 exact CT f a hf hm p.A E _ Y ds vs r Q p.ar (p.k.trans k') (λb hb=>(p.R.keep k').lt b (hY b hb)) (hden h' vs dl) hr λv h2 tk2 k2 dv=>P v h2 tk2 (k'.trans k2) dv
theorem yB {t:T} {es:List Expr} {f:Str} {np pos:Pos} (B:X.Ok mg mb) (CT:X.Ct mg) (h:AS X sc t es) (hs:isGlob sc f=true) (hd:(f==("__debug__":Str))=false) (hf:f∈X.c.fns):VS X sc (.call f t) (.Call (.Name f np) es [] pos):=λO p E b d Q he P=>by
 refine dS he λds hds he=> ?_
 exact kI B CT h hs hd hf p hds he (λZz e=>e) (λZz Zz dl=>dl.denL) λv h2 tk2 k2 dv=>P v h2 tk2 k2 dv.toR λe=>nomatch e
theorem vj {t:T} {es:List Expr} {f:Str} {np pos:Pos} (B:X.Ok mg mb) (CT:X.Ct mg) (h:AS X sc t es) (hs:isGlob sc f=true) (hd:(f==("__debug__":Str))=false) (hf:f∈X.c.fns):VS X sc (.callb f t) (.Call (.Name f np) es [] pos):=λO p E b d Q he P=>by
 refine dS he λds hds he=>ae he λr hr he=>gd he λhsc he=> ?_
 obtain rfl:=sm he
 exact kI B CT h hs hd hf p hds hr (λZz e=>e.elim) (λZz Zz dl=>dl.free) λv h2 tk2 k2 dv=>P v h2 tk2 k2 (Den.toR (dv.scal hsc)) λe=>nomatch e
theorem Aw {t:T} {es:List Expr} {bf:BF} {np pos:Pos} (B:X.Ok mg mb) (h:AS X sc t es) (hs:isGlob sc (bNm bf)=true):VS X sc (.blt bf t) (.Call (.Name (bNm bf) np) es [] pos):=λO p E b d Q he P=>by
 refine dS he λds hds he=> ?_
 obtain ⟨h1,h2⟩:=A0 bf
 refine wpAny_Call_ofName (cW p B hs (by cases bf<;>rfl) h1 h2 ?_)
 refine PySem.Calls.callWith_builtin (h.1 p.env pos).1 (bv h p hds λvs h' tk k' dl=> ?_)
 exact pp p.ar.hd (p.R.keep k').lt dl he (P.from k')
theorem xN {P:Expr->Prop} {e:Expr} {id:Str} (h:nmE e=some id) (k:∀ p,P (.Name id p)):P e:=by
 cases e with
 |Name x p=>exact sm h▸k p
 |_=>exact ai h
theorem wt {o:Expr} {m:Str} {env:Env} {x:Sem Value} (h:badBase o=false):attributeBase o m env x=x:=by
 cases o with
 |Call f as ks p =>
  refine hS (Eq.mp (Bool.not_eq_false' _) (show (!((nmE f).any λ(id:Str)=> !(id==("super":Str))))=false from h)) λid hf hs=>xN (P:=λf=>attributeBase (.Call f as ks p) m env x=x) hf λq=> ?_
  cases as with
  |cons _ _=>rfl
  |nil =>
   cases ks with
   |cons _ _=>rfl
   |nil =>
    unfold attributeBase
    dsimp only
    rw [show (id != ("super":Str))=true from hs]
    exact if_pos rfl
 |_=>rfl
theorem yG {t to:T} {es:List Expr} {o:Expr} {mf:MF} {ap pos:Pos} (ho:VS X sc to o) (h:AS X sc t es) (hb:badBase o=false) (hl:(ap.endLine==pos.line)=true) (h30:es.length<30):VS X sc (.meth mf to t) (.Call (.Attribute o (mNm mf) ap) es [] pos):=λO p E b d Q he P=>by
 refine ae he λx hx he=>dS he λds hds he=> ?_
 refine wpAny_Call_method_lateS (wt hb) ?_ hl (ho O p E true x _ hx λov h1 tk1 k1 d1 Zz=> ?_)
 ·rw [(h.1 p.env pos).2.1]
  exact decide_eq_true h30
 ·obtain ⟨f1,f2,f3⟩:=zP mf
  obtain ⟨t1,t2⟩:=Bh (s:={p.s with heap:=h1,toks:=tk1}) he d1.top
  refine ⟨_,_,f1,f2,f3,t1,t2,?_⟩
  refine PySem.Calls.callWith_builtin (h.1 p.env pos).1 (bv h (p.to k1 tk1) hds λvs h' tk k' dl=> ?_)
  exact mU p.ar.cl6 (p.R.keep (k1.trans k')).lt (d1.keep k').top dl he (P.from (k1.trans k'))
theorem lm {ta:T} {a:Expr} {x:Str} {p0:Pos} (B:X.Ok mg mb) (ha:VS X sc ta a) (hs:isGlob sc x=true) (hx:x∈X.c.sets) (p:At X sc O) {E:Value->Shared->Prop} {d:D} {b:Bool} {Q:Value->Shared->Prop} (he:ev X.G X.F O b (.inset x ta)=some d)
  (P:∀ r h' tk,d = .bool r->Kp p.s.heap h'->Q (.bool r) {p.s with heap:=h',toks:=tk}):wpAny (model X.P X.w) p.A (eval a p.env) (λva s₁=>wpAny (model X.P X.w) p.A (eval (.Name x p0) p.env) (λvb s₂=>wpAny (model X.P X.w) p.A (compareOp .In va vb) Q E s₂) E s₁) E p.s:=by
 refine ae he λy hy he=>ae he λi hi he=>ay he λl hl e=> ?_
 obtain ⟨s1,hm,hin⟩:=B.iset x l hx hl
 refine ha O p E true _ _ hy λva h1 tk1 k1 d1 Zz=> ?_
 refine aP hi d1.top λt=> ?_
 refine fF (p.to k1 tk1) B hs (B.ndb _ (.inl hx)) hm ?_
 exact hin p.A E _ i t Q (p.k.trans k1) p.ar.cl λtk=>P _ h1 tk e.symm k1
theorem vk {ta:T} {a:Expr} {x:Str} {p0 pos:Pos} (B:X.Ok mg mb) (ha:VS X sc ta a) (hs:isGlob sc x=true) (hx:x∈X.c.sets) :
  VS X sc (.inset x ta) (.Compare a [.In] [.Name x p0] pos)/\cf X sc (.inset x ta) (.Compare a [.In] [.Name x p0] pos) :=
 ⟨λO p E b d Q he P=>wpAny_Compare1 (lm B ha hs hx p he λr h' tk e k=>P _ h' tk k (Den.toR (e▸rfl)) λe=>nomatch e) rfl,
  λO p E d r Q he ht P=>wpAny_isTrue_Compare1 (lm B ha hs hx p he λr' h' tk e k=>wpAny_truthy_bool (sm ((congrArg truthy e).symm.trans ht)▸P h' tk k)) rfl⟩
theorem yD {ta te:T} {es:List Expr} {x:Str} {p0 ap pos:Pos} (B:X.Ok mg mb) (h:AS X sc (.cons ta .nil) es/\te = .cst .none\/AS X sc (.cons ta (.cons te .nil)) es) (hl:(ap.endLine==pos.line)=true) (h30:es.length<30) (hs:isGlob sc x=true) (hx:x∈X.c.dicts) :
  VS X sc (.dget x ta te) (.Call (.Attribute (.Name x p0) getS ap) es [] pos):=λO p E b d Q he P=>by
 refine ae he λy hy he=>ae he λi hi he=>ae he λdd hdd he=>ae he λl hl' he=>gd he λhsd he=> ?_
 obtain rfl:=sm he
 obtain ⟨a,hm,hin⟩:=B.idict x l hx hl'
 have all:(backTo pos (starEach es p.env)).any (·.1)=false/\(backTo pos (starEach es p.env)).all (λx=> !x.1)=true:=h.elim (λh=>⟨(h.1.1 p.env pos).1,(h.1.1 p.env pos).2.1⟩) λh=>⟨(h.1 p.env pos).1,(h.1 p.env pos).2.1⟩
 refine wpAny_Call_method_lateS rfl ?_ hl (fF p B hs (B.ndb _ (.inr hx)) hm ?_)
 ·rw [all.2]
  exact decide_eq_true h30
 ·obtain ⟨t1,⟨ob,t2,t3⟩,Zz⟩:=hin p.s p.k
  refine ⟨_,_,PySem.F.plainAttrs_dict,PySem.F.slot_dict_get,PySem.F.type_dict_get,t1,λa' e=>⟨ob,Value.ref.inj e▸t2,t3⟩,?_⟩
  refine PySem.Calls.callWith_builtin all.1 ?_
  have fin:=λh' tk (t:Tok) (dv:Value) (k':Kp p.s.heap h') (hdv:Den h' p.Ex dd dv)=>(hin {p.s with heap:=h',toks:=tk} (p.k.trans k')).2.2 p.A E i t Q dv p.ar.cl λtk'=>by
   cases hlk:l.lookup i with
   |none =>
    rw [hlk] at P
    exact P _ _ _ k' hdv.toR λe=>nomatch e
   |some v =>
    rw [hlk] at P
    exact λt'=>P _ _ _ k' (Den.toR ⟨t',rfl⟩) λe=>nomatch e
  rcases h with ⟨h,hte⟩ |h
  ·refine bv h p (b:=true) (ds:=[y]) (ad hy rfl) λvs h' tk k' dl=> ?_
   obtain ⟨v,e0,dv⟩:=dl.one
   rw [e0]
   refine aP hi dv.top λt=> ?_
   exact (fin h' tk t .none k' (by rw [hte] at hdd;rw [<- sm hdd];rfl)).2 rfl
  ·refine bv h p (b:=true) (ds:=[y,dd]) (ad hy (ad (ad hdd rfl) rfl)) λvs h' tk k' dl=> ?_
   obtain ⟨v,u,e0,dv,e2⟩:=dl.two
   rw [e0]
   refine aP hi dv.top λt=> ?_
   exact (fin h' tk t u k' (e2.top.free.scal hsd)).1
end
theorem gI (O:MEnv) (i j:Nat) (o:Option (D×Bool)):getE (O.set i o) j=if i=j/\i<O.length then o else getE O j:=by
 unfold getE
 rw [List.getElem?_set]
 by_cases h:i=j
 ·subst h
  by_cases h2:i<O.length
  ·rw [if_pos rfl,if_pos h2,if_pos ⟨rfl,h2⟩];rfl
  ·rw [if_pos rfl,if_neg h2,if_neg λq=>h2 q.2,List.getElem?_eq_none (Nat.le_of_not_lt h2)]
 ·rw [if_neg h,if_neg λq=>h q.1]
theorem nS {O:MEnv} {i:Nat} {e:D×Bool} (h:getE O i=some e):i<O.length:=Nat.lt_of_not_le λq=>by
 unfold getE at h
 rw [List.getElem?_eq_none q] at h
 exact ai h
theorem cC {O:MEnv} {i j:Nat} {e:D×Bool} (h:getE (O.set i none) j=some e):j≠i/\getE O j=some e:=by
 rw [gI] at h
 by_cases hc:i=j/\i<O.length
 ·rw [if_pos hc] at h;exact ai h
 ·rw [if_neg hc] at h
  exact ⟨λq=>hc ⟨q.symm,q▸nS h⟩,h⟩
theorem aA {O:MEnv} {i j:Nat} {d:D} {x:Bool} {e:D×Bool} (h:getE (setE O i d x) j=some e):(j=i/\e=(d,x))\/(j≠i/\getE O j=some e):=by
 unfold setE at h
 rw [gI] at h
 by_cases hc:i=j/\i<O.length
 ·rw [if_pos hc] at h;exact .inl ⟨hc.1.symm,(sm h).symm⟩
 ·rw [if_neg hc] at h
  exact .inr ⟨λq=>hc ⟨q.symm,q▸nS h⟩,h⟩
structure KF (N:Str->Prop) (env:Env) (h h':Heap):Prop where
 kp:∀ b o,b≠env.locals->(∀ n,N n->env.cells.lookup n≠some b)->h.get? b=some o->Gw h' b o
 cd:Cd h h'
abbrev KS (sc:Scope) (env:Env) (h h':Heap):Prop:=KF (λx=>storable sc x=true) env h h'
theorem KF.refl {N:Str->Prop} (env:Env) (h:Heap):KF N env h h:=⟨λZz Zz Zz Zz e=> .inl e,Cd.refl h⟩
theorem KF.trans {N:Str->Prop} {env:Env} {a b c:Heap} (x:KF N env a b) (y:KF N env b c):KF N env a c:=⟨λi o h1 h2 e=>(x.kp i o h1 h2 e).then (λo e=>y.kp i o h1 h2 e) y.cd,x.cd.trans y.cd⟩
theorem Kp.kf {N:Str->Prop} {env:Env} {a b:Heap} (x:Kp a b):KF N env a b:=⟨λi o Zz Zz e=>x i o e,x.cd⟩
theorem KF.notex {N:Str->Prop} {env:Env} {h h':Heap} {Ex:Addr->Prop} (kf:KF N env h h') (own:Ex env.locals/\∀ n c,env.cells.lookup n=some c->Ex c):∀ b o,¬ Ex b->NT b o->h.get? b=some o->h'.get? b=some o :=
 λb o n t e=>(kf.kp b o (λq=>n (q▸own.1)) (λn' Zz q=>n (own.2 n' b q)) e).ob t
theorem jL {tbl:List Str} (nd:tbl.Nodup) {i j:Nat} {x:Str} (hi:tbl[i]? = some x) (hj:tbl[j]? = some x):i=j:=by
 obtain ⟨h1,e1⟩:=List.getElem?_eq_some_iff.mp hi
 obtain ⟨h2,e2⟩:=List.getElem?_eq_some_iff.mp hj
 have hp:=List.pairwise_iff_getElem.mp nd
 rcases Nat.lt_trichotomy i j with hl |hl |hl
 ·exact absurd (e1.trans e2.symm) (hp i j h1 h2 hl)
 ·exact hl
 ·exact absurd (e2.trans e1.symm) (hp j i h2 h1 hl)
section
variable {prog:Program} {w:World} {A:Around} {E:Value->Shared->Prop} {s:Shared} {env:Env} {tbl:List Str} {Ex:Addr->Prop} {ow:Nat->Addr} {O:MEnv}
theorem dV {h:Heap} {a b:Addr} {o o':Obj} {P:Prop} (h1:h.get? a=some o) (h2:h.get? b=some o') (e:a=b) (n:o.data≠o'.data):P:=by
 subst e
 rw [h1] at h2
 exact absurd (congrArg Obj.data (sm h2)) n
theorem iC {m cm:Str->Option Value} {h:Heap} (F:FrM env h m cm) {a:Addr} {items:Array Value} (l:h.PlainList a items):a≠env.locals/\∀ n,env.cells.lookup n≠some a:=by
 obtain ⟨n0,l⟩:=l
 refine ⟨λe=> ?_,λn hn=> ?_⟩
 ·obtain ⟨o,es,ep,ho,hdat,Zz⟩:=F.ns
  exact dV l ho e λq=>nomatch q.trans hdat
 ·obtain ⟨o,ho,hdat⟩:=F.cell n a hn
  exact dV l ho rfl λq=>nomatch q.trans hdat
theorem dW {N:Str->Prop} {m cm:Str->Option Value} {h h':Heap} (F:FrM env h m cm) (own:Ex env.locals/\∀ n c,env.cells.lookup n=some c->Ex c) (kf:KF N env h h') {d:D} {v:Value} {b:Bool} (hd:DenV h Ex b d v):DenV h' Ex b d v:=by
 have kx:=kf.notex own
 cases b with
 |false=>exact Den.mono kx (λZz Zz n=>n) _ _ hd
 |true =>
  obtain ⟨a,items,ds,e1,e2,l,r⟩:=hd
  obtain ⟨n1,n2⟩:=iC F l
  exact ⟨a,items,ds,e1,e2,PL.at' l λo t e=>(kf.kp a o n1 (λn' Zz=>n2 n') e).ob (.inl t),DenL.mono kx (λZz Zz n=>n) _ _ r⟩
theorem bp {N:Str->Prop} {x:Str} {i:Nat} {v:Value} {d:D} {b:Bool} {Q:Unit->Shared->Prop} (hN:N x) (R:RR env tbl Ex ow O s.heap) (hs:seen env.scope x=true) (hi:tbl[i]? = some x)
  (hfree:env.scope.names.lookup x≠some .free) (hd:DenV s.heap Ex b d v) (how:b=true->v = .ref (ow i))
  (h:∀ h' tk,RR env tbl Ex ow (setE O i d b) h'->KF N env s.heap h'->Q () {s with heap:=h',toks:=tk}):wpAny (model prog w) A (storeName env x v) Q E s:=by
 obtain ⟨ok,nd,lt,own,m,cm,F,hv⟩:=R
 have key:∀ (h':Heap) (m' cm':Str->Option Value),FrM env h' m' cm'->KF N env s.heap h'->(∀ b,Ex b->Al h' b)->(∀ y,y≠x->m' y=m y/\cm' y=cm y)->valOf env m' cm' x=some v->RR env tbl Ex ow (setE O i d b) h':=by
  intro h' m' cm' F' kf lt' hy hx
  refine ⟨ok,nd,lt',own,m',cm',F',λj y e b' hj hg hsy=> ?_⟩
  rcases aA hg with ⟨rfl,e1⟩ |⟨hji,hg⟩
  ·obtain ⟨rfl,rfl⟩:=Prod.mk.inj e1
   obtain rfl:=sm (hi.symm.trans hj)
   exact ⟨v,hx,dW F own kf hd,how⟩
  ·obtain ⟨u,e1,e2,e3⟩:=hv j y e b' hj hg hsy
   obtain ⟨q1,q2⟩:=hy y λe=>hji (jL nd hj (e▸hi))
   exact ⟨u,by unfold valOf;rw [q1,q2];exact e1,dW F own kf e2,e3⟩
 rcases fM hs with hk |hk |hk
 ·refine wpAny_storeName_local hk F.ns (λh' hn hsb=> ?_) (by rw [ok.kind];rfl)
  have kf:KF N env s.heap h':=⟨λb o n1 Zz e=> .inl (hsb.extBut b o n1 e),Cd.sb (λb o n e=>hsb.extBut b o n e) (Ns.nofields F.ns) λZz=>Ns.dt hn⟩
  refine h h' _ (key h' _ cm ⟨hn,λn c hc=>(F.cell n c hc).sameBut hsb (F.offL n c hc),F.offL,F.inj,F.has⟩ kf (λb hb=> ?_) (λy hy=>⟨if_neg hy,rfl⟩) ?_) kf
  ·by_cases hbl:b=env.locals
   ·obtain ⟨o,Zz,Zz,ho,Zz⟩:=hn;exact ⟨o,hbl▸ho⟩
   ·obtain ⟨o,ho⟩:=lt b hb;exact ⟨o,hsb.extBut b o hbl ho⟩
  ·unfold valOf;rw [show env.kindOf x=_ from hk];exact if_pos rfl
 ·obtain ⟨c,hc⟩:=F.has x (.inl hk)
  refine wpAny_storeName_cell ok.kind hk hc (F.cell x c hc) λh' hc' hsb=> ?_
  have kf:KF N env s.heap h':=⟨λb o Zz n2 e=> .inl (hsb.extBut b o (λq=>n2 x hN (q▸hc)) e),Cd.sb (λb o n e=>hsb.extBut b o n e) (λo e vs q=>by
   obtain ⟨o',g1,g2⟩:=F.cell x c hc
   exact dV g1 e rfl λe=>nomatch g2.symm.trans (e.trans q)) λd=>absurd d (Cell.nodt (F.cell x c hc))⟩
  refine h h' s.toks (key h' m (λy=>if y=x then some v else cm y) ⟨F.ns.sameBut hsb (Ne.symm (F.offL x c hc)),λn c2 hn2=> ?_,F.offL,F.inj,F.has⟩ kf (λb hb=> ?_) (λy hy=>⟨rfl,if_neg hy⟩) ?_) kf
  ·by_cases hnx:n=x
   ·subst hnx
    obtain rfl:=sm (hc.symm.trans hn2)
    rw [if_pos rfl];exact hc'
   ·rw [if_neg hnx]
    exact (F.cell n c2 hn2).sameBut hsb λe=>hnx (F.inj n x c (e▸hn2) hc)
  ·by_cases hbl:b=c
   ·obtain ⟨o,ho,Zz⟩:=hc';exact ⟨o,hbl▸ho⟩
   ·obtain ⟨o,ho⟩:=lt b hb;exact ⟨o,hsb.extBut b o hbl ho⟩
  ·unfold valOf;rw [show env.kindOf x=_ from hk];exact if_pos rfl
 ·exact absurd hk hfree
theorem jZ {N:Str->Prop} {x:Str} {i:Nat} {v:Value} {d:D} {pos:Pos} {b:Bool} {Q:Unit->Shared->Prop} (hN:N x) (R:RR env tbl Ex ow O s.heap) (hs:seen env.scope x=true) (hi:tbl[i]? = some x)
  (hfree:env.scope.names.lookup x≠some .free) (hd:DenV s.heap Ex b d v) (how:b=true->v = .ref (ow i))
  (h:∀ h' tk,RR env tbl Ex ow (setE O i d b) h'->KF N env s.heap h'->Q () {s with heap:=h',toks:=tk}):wpAny (model prog w) A (assign (.Name x pos) env v) Q E s :=
 wpAny_assign_Name (bp hN R hs hi hfree hd how h)
end
theorem bW {sc:Scope} {x:Str} (h:storable sc x=true):sc.names.lookup x=some .local\/sc.names.lookup x=some .cell:=by
 unfold storable at h
 cases hk:sc.names.lookup x with
 |none=>rw [hk] at h;exact nomatch h
 |some k=>cases k<;>first |exact .inl rfl |exact .inr rfl |(rw [hk] at h;exact nomatch h)
theorem br {sc:Scope} {x:Str} (h:storable sc x=true):seen sc x=true:=by
 unfold seen
 rcases bW h with e |e<;>rw [e]<;>rfl
theorem bC {env:Env} {sc:Scope} {x:Str} (hsc:ScEq env sc) (h:storable sc x=true):seen env.scope x=true/\env.scope.names.lookup x≠some .free:=by
 refine ⟨hsc.seen (br h),λq=> ?_⟩
 rcases hsc x with e |⟨e,_⟩
 ·rw [e] at q
  rcases bW h with e |e<;>exact nomatch q.symm.trans e
 ·rcases bW h with q |q<;>exact nomatch e.symm.trans q
theorem dX {h h':Heap} (k:Heap.ExtBut h.objs.size h h'):Kp h h':=λb o e=> .inl (k b o (Nat.ne_of_lt (Heap.lt_size e)) e)
inductive Tgs (c:Cx) (sc:Scope):List Expr->List Nat->Prop where
 |nil:Tgs c sc [] []
 |cons {x:Str} {p:Pos} {i:Nat} {es:List Expr} {is:List Nat}:storable sc x=true->c.tbl[i]? = some x->Tgs c sc es is->Tgs c sc (.Name x p :: es) (i :: is)
theorem dj {c:Cx} {sc:Scope} {i:Nat} (h:stoI c sc i=true):storable sc (c.tbl.getD i Str.empty)=true/\c.tbl[i]? = some (c.tbl.getD i Str.empty):=aa h λh1 h2=>⟨h2,eL (de h1)⟩
theorem oY {c:Cx} {sc:Scope}:∀ {is:List Nat} {l:List Expr},l.length=is.length->is.all (stoI c sc)=true->Tgs c sc (List.zipWith (nameE c) is l) is:=by
 intro is
 induction is with
 |nil=>intro l Zz Zz;exact .nil
 |cons i is ih =>
  intro l hl ha
  cases l with
  |nil=>exact nomatch hl
  |cons e l=>exact aa ha λh1 h2=> .cons (dj h1).1 (dj h1).2 (ih (Nat.succ.inj hl) h2)
theorem Tgs.length {c:Cx} {sc:Scope}:∀ {es:List Expr} {is:List Nat},Tgs c sc es is->es.length=is.length
 |_,_,.nil=>rfl
 |_,_,.cons _ _ h=>by rw [List.length_cons,List.length_cons,h.length]
theorem Tgs.each {c:Cx} {sc:Scope} (env:Env):∀ {es:List Expr} {is:List Nat},Tgs c sc es is->(assignEach es env).length=es.length/\(assignEach es env).findIdx? (·.1)=none
 |_,_,.nil=>⟨rfl,rfl⟩
 |_,_,.cons (x:=x) (p:=p) (es:=es) _ _ h=>by
  obtain ⟨h1,h2⟩:=h.each env
  have e:assignEach (.Name x p :: es) env=(false,assign (.Name x p) env) :: assignEach es env:=rfl
  rw [e]
  refine ⟨by rw [List.length_cons,List.length_cons,h1],?_⟩
  rw [List.findIdx?_cons,h2];rfl
theorem iJ:∀ {is:List Nat} {ds:List D} {O O':MEnv},setAll O is ds=some O'->is.length=ds.length:=by
 intro is
 induction is with
 |nil =>
  intro ds O O' h
  cases ds with
  |nil=>rfl
  |cons _ _=>exact ai h
 |cons i is ih =>
  intro ds O O' h
  cases ds with
  |nil=>exact ai h
  |cons d ds=>exact congrArg (· + 1) (ih h)
section
variable {prog:Program} {w:World} {A:Around} {E:Value->Shared->Prop} {env:Env} {c:Cx} {sc:Scope} {Ex:Addr->Prop}
theorem kA (hsc:ScEq env sc) {es:List Expr} {is:List Nat} (ht:Tgs c sc es is):∀ {ds:List D} {vs:List Value} {O O':MEnv} {s:Shared} {Q:Unit->Shared->Prop},RR env c.tbl Ex ow O s.heap->DenL s.heap Ex ds vs->setAll O is ds=some O' ->
  (∀ h' tk,RR env c.tbl Ex ow O' h'->KS sc env s.heap h'->Q () {s with heap:=h',toks:=tk})->wpAny (model prog w) A (assignInOrder ((assignEach es env).map (·.2)) vs) Q E s:=by
 induction ht with
 |nil =>
  intro ds vs O O' s Q R hd hs h
  cases ds with
  |cons _ _=>exact ai hs
  |nil =>
   obtain rfl:=sm hs
   rw [show vs=[] from hd]
   exact wpAny_pure (h s.heap s.toks R (KF.refl _ _))
 | @cons x p i es is h1 h2 h3 ih =>
  intro ds vs O O' s Q R hd hs h
  cases ds with
  |nil=>exact ai hs
  |cons d ds =>
   obtain ⟨v,r,e,dv,dr⟩:=hd
   rw [e]
   obtain ⟨s1,s2⟩:=bC hsc h1
   refine wpAny_bind (wpAny_holding (jZ (b:=false) (N:=λx=>storable sc x=true) h1 R s1 h2 s2 dv (λe=>nomatch e) λh' tk R' kf=> ?_))
   exact ih (s:={s with heap:=h',toks:=tk}) R' (DenL.mono (kf.notex R.own) (λZz Zz n=>n) _ _ dr) hs λh'' tk' R'' kf'=>h h'' tk' R'' (kf.trans kf')
theorem cX {es:List Expr} {is:List Nat} {k:Nat} {pos:Pos} {ds:List D} {t:Addr} {items:Array Value} {O O':MEnv} {s:Shared} {Q:Unit->Shared->Prop} (hh:A.handled=none) (hsc:ScEq env sc) (ht:Tgs c sc es is) (R:RR env c.tbl Ex ow O s.heap)
  (hit:s.heap.IsTuple t items) (hd:DenL s.heap Ex ds items.toList) (hs:setAll O is ds=some O') (h:∀ h' tk,RR env c.tbl Ex ow O' h'->KS sc env s.heap h'->Q () {s with heap:=h',toks:=tk}) :
  wpAny (model prog w) A (assign (.Tuple es k pos) env (.ref t)) Q E s:=by
 obtain ⟨e1,e2⟩:=ht.each env
 have l1:=hd.length
 have l2:=iJ hs
 rw [Array.length_toList] at l1
 refine wpAny_assign_Tuple hh hit (by rw [e1,ht.length,l2,l1]) e2 λh1 k1=> ?_
 have kp:=dX k1
 exact kA hsc ht (s:={s with heap:=h1}) (R.keep kp) (hd.keep kp) hs λh' tk R' kf=>h h' tk R' (kp.kf.trans kf)
def bA (c:Cx) (sc:Scope) (target:Expr) (tg:List Nat) (one:Bool):Prop :=
 (one=true/\∃ x p i,target = .Name x p/\tg=[i]/\storable sc x=true/\c.tbl[i]? = some x) \/
 (one=false/\∃ es k p,target = .Tuple es k p/\Tgs c sc es tg)
theorem sZ {e:Expr} {tg:List Nat} {one:Bool} (h:tgB c sc tg one e=true):bA c sc (tgE c tg one e) tg one:=aa h λh1 h2=>by
 cases one with
 |true =>
  cases tg with
  |nil=>exact nomatch h1
  |cons i r =>
   cases r with
   |cons _ _=>exact nomatch h1
   |nil=>exact aa h2 λh2 Zz=> .inl ⟨rfl,_,_,i,rfl,rfl,(dj h2).1,(dj h2).2⟩
 |false=>exact .inr ⟨rfl,_,_,_,rfl,oY (beq_iff_eq.mp h1) h2⟩
end
noncomputable def clFrom (env:Env):List (Str×NameKind)->List (Str×Addr)->List (Str×Addr)
 | [],acc=>acc
 |(n,k) :: r,acc=>if k == .free then clFrom env r ((n,(env.cells.lookup n).getD 0) :: acc) else clFrom env r acc
theorem fi {env:Env} (f:Str×NameKind->List (Str×Addr)->Sem (ForInStep (List (Str×Addr)))) (hf:∀ n k r,f (n,k) r=if k == .free then (do let a <- cellOf env n;pure (.yield ((n,a) :: r))) else pure (.yield r)) :
  ∀ (l:List (Str×NameKind)) (acc:List (Str×Addr)),(∀ n,(n,NameKind.free)∈l->(env.cells.lookup n).isSome=true)->forIn l acc f=(pure (clFrom env l acc):Sem _)
 | [],acc,_=>rfl
 |(n,k) :: r,acc,hl=>by
  rw [List.forIn_cons,hf]
  unfold clFrom
  have ih:=λacc=>fi f hf r acc λn hn=>hl n (List.mem_cons_of_mem _ hn)
  cases hk:(k==NameKind.free) with
  |true =>
   have hk':k = .free:=by simpa using hk
   subst hk'
   obtain ⟨a,ha⟩:=Option.isSome_iff_exists.mp (hl n (List.mem_cons_self ..))
   have hc:cellOf env n=pure a:=by unfold cellOf;rw [ha]
   simp only [if_true,hc,ha,Option.getD_some]
   exact ih _
  |false =>
   simp only [Bool.false_eq_true,if_false]
   exact ih _
theorem j5 {scope:Scope} {env:Env} (h:∀ n,(n,NameKind.free)∈scope.names->(env.cells.lookup n).isSome=true):closureFor scope env=pure (clFrom env scope.names []):=by
 simp only [closureFor]
 rw [fi (env:=env) _ (λn k r=>by cases hk:(k==NameKind.free)<;>simp [hk]) _ _ h]
 rfl
theorem cL {env:Env}:∀ {l:List (Str×NameKind)} {acc:List (Str×Addr)} {n:Str} {c:Addr},(clFrom env l acc).lookup n=some c ->
  ((n,NameKind.free)∈l/\c=(env.cells.lookup n).getD 0)\/acc.lookup n=some c
 | [],acc,n,c,h=> .inr h
 |(m,k) :: r,acc,n,c,h=>by
  unfold clFrom at h
  split at h
  ·rename_i hk
   have hk':k = .free:=by simpa using hk
   subst hk'
   rcases cL h with ⟨h1,h2⟩ |h1
   ·exact .inl ⟨List.mem_cons_of_mem _ h1,h2⟩
   ·rw [List.lookup_cons] at h1
    split at h1
    ·rename_i hb
     cases h1
     left
     have:n=m:=by simpa using hb
     subst this
     exact ⟨List.mem_cons_self ..,rfl⟩
    ·exact .inr h1
  ·rcases cL h with ⟨h1,h2⟩ |h1
   ·exact .inl ⟨List.mem_cons_of_mem _ h1,h2⟩
   ·exact .inr h1
theorem dM {env:Env}:∀ {l:List (Str×NameKind)} {acc:List (Str×Addr)} {n:Str},(acc.lookup n).isSome=true->((clFrom env l acc).lookup n).isSome=true
 | [],acc,n,h=>h
 |(m,k) :: r,acc,n,h=>by
  unfold clFrom
  split
  ·refine dM ?_
   rw [List.lookup_cons]
   split
   ·rfl
   ·exact h
  ·exact dM h
theorem ig {env:Env}:∀ {l:List (Str×NameKind)} {acc:List (Str×Addr)} {n:Str},(n,NameKind.free)∈l->((clFrom env l acc).lookup n).isSome=true
 |(m,k) :: r,acc,n,h=>by
  unfold clFrom
  rcases List.mem_cons.mp h with e |h
  ·cases e
   rw [if_pos (by decide)]
   refine dM ?_
   rw [List.lookup_cons]
   simp
  ·split<;>exact ig h
theorem bQ:∀ (l:List (Str×NameKind)) (n:Nat) (acc:List (Str×Addr)),cellsFrom n l acc=cellsFrom n l []++acc
 | [],n,acc=>rfl
 |(m,k) :: r,n,acc=>by
  unfold cellsFrom
  split
  ·rw [bQ r (n+1) ((m,n) :: acc),bQ r (n+1) [(m,n)]]
   simp
  ·exact bQ r n acc
theorem cK:∀ {l:List (Str×NameKind)} {n:Nat} {acc:List (Str×Addr)} {x:Str} {c:Addr},(x,c)∈cellsFrom n l acc->(x,NameKind.cell)∈l\/(x,c)∈acc
 | [],n,acc,x,c,h=> .inr h
 |(m,k) :: r,n,acc,x,c,h=>by
  unfold cellsFrom at h
  split at h
  ·rename_i hk
   have hk':k = .cell:=by simpa using hk
   subst hk'
   rcases cK h with h1 |h1
   ·exact .inl (List.mem_cons_of_mem _ h1)
   ·rcases List.mem_cons.mp h1 with e |h1
    ·cases e;exact .inl (List.mem_cons_self ..)
    ·exact .inr h1
  ·rcases cK h with h1 |h1
   ·exact .inl (List.mem_cons_of_mem _ h1)
   ·exact .inr h1
theorem ci:∀ {l:List (Str×NameKind)} {n:Nat} {acc:List (Str×Addr)} {x:Str},(acc.lookup x).isSome=true->((cellsFrom n l acc).lookup x).isSome=true
 | [],n,acc,x,h=>h
 |(m,k) :: r,n,acc,x,h=>by
  unfold cellsFrom
  split
  ·refine ci ?_
   rw [List.lookup_cons]
   split
   ·rfl
   ·exact h
  ·exact ci h
theorem cJ:∀ {l:List (Str×NameKind)} {n:Nat} {acc:List (Str×Addr)} {x:Str},(x,NameKind.cell)∈l->((cellsFrom n l acc).lookup x).isSome=true
 |(m,k) :: r,n,acc,x,h=>by
  unfold cellsFrom
  rcases List.mem_cons.mp h with e |h
  ·cases e
   rw [if_pos (by decide)]
   refine ci ?_
   rw [List.lookup_cons]
   simp
  ·split<;>exact cJ h
theorem aZ:∀ {l:List (Str×NameKind)} {x:Str} {k:NameKind},distinctN l=true->(x,k)∈l->l.lookup x=some k
 |(m,k') :: r,x,k,h,hm=>by
  simp only [distinctN,Bool.and_eq_true,Bool.not_eq_true',List.any_eq_false] at h
  rw [List.lookup_cons]
  rcases List.mem_cons.mp hm with e |hm
  ·cases e;simp
  ·have:=h.1 (x,k) hm
   have hne:(x==m)=false:=by simpa using this
   rw [hne]
   exact aZ h.2 hm
theorem RR.grow {env:Env} {tbl:List Str} {Ex W:Addr->Prop} {ow:Nat->Addr} {O:MEnv} {h h':Heap} (R:RR env tbl Ex ow O h) (k:Kp h h') (w1:∀ b,W b->h.get? b=none) (w2:∀ b,W b->Al h' b):RR env tbl (λb=>Ex b\/W b) ow O h':=by
 obtain ⟨ok,nd,lt,own,m,cm,F,hv⟩:=R
 refine ⟨ok,nd,λb hb=>hb.elim (λe=>(lt b e).keep k) (w2 b),⟨.inl own.1,λn c e=> .inl (own.2 n c e)⟩,m,cm,F.keep k,λi x d b h1 h2 h3=> ?_⟩
 obtain ⟨v,e,dv,hw⟩:=hv i x d b h1 h2 h3
 have hx:∀ b,Al h b->¬ Ex b->¬ (Ex b\/W b):=λb hb n e=>e.elim n λe=>hb.ne (w1 b e) rfl
 refine ⟨v,e,?_,hw⟩
 cases b with
 |false=>exact Den.mono (λb o Zz t e=>k.ob e t) hx _ _ dv
 |true =>
  obtain ⟨a,items,ds,e1,e2,l,r⟩:=dv
  exact ⟨a,items,ds,e1,e2,PL.at' l (k.at a),DenL.mono (λb o Zz t e=>k.ob e t) hx _ _ r⟩
theorem DenL.grow {Ex W:Addr->Prop} {h h':Heap} {d:List D} {v:List Value} (x:DenL h Ex d v) (k:Kp h h') (w1:∀ b,W b->h.get? b=none):DenL h' (λb=>Ex b\/W b) d v :=
 DenL.mono (λb o Zz t e=>k.ob e t) (λb hb n e=>e.elim n λe=>hb.ne (w1 b e) rfl) _ _ x
theorem gq {tbl:List Str} (nd:tbl.Nodup) {i:Nat} {x:Str} (h:tbl[i]? = some x):idOf tbl x=some i:=by
 unfold idOf
 obtain ⟨hl,e⟩:=List.getElem?_eq_some_iff.mp h
 rw [List.findIdx?_eq_some_iff_getElem]
 refine ⟨hl,by simpa using e,λj hj=> ?_⟩
 have hjl:j<tbl.length:=Nat.lt_trans hj hl
 intro hc
 have:tbl[j]=x:=by simpa using hc
 have:=jL nd (List.getElem?_eq_some_iff.mpr ⟨hjl,this⟩) h
 omega
theorem cN {is:List Nat}:∀ {O:MEnv} {i:Nat} {e:D×Bool},getE (clearE O is) i=some e->i∉is/\getE O i=some e:=by
 induction is with
 |nil=>intro O i e h;exact ⟨List.not_mem_nil,h⟩
 |cons j r ih =>
  intro O i e h
  obtain ⟨h1,h2⟩:=ih (O:=O.set j none) h
  obtain ⟨h3,h4⟩:=cC h2
  exact ⟨λhm=>(List.mem_cons.mp hm).elim h3 h1,h4⟩
theorem tI {sc:Scope} {x:Str} (h:cellish sc x=true):sc.names.lookup x=some .cell\/sc.names.lookup x=some .free:=by
 unfold cellish at h
 cases hk:sc.names.lookup x with
 |none=>rw [hk] at h;exact nomatch h
 |some k=>cases k<;>first |exact .inl rfl |exact .inr rfl |(rw [hk] at h;exact nomatch h)
theorem wc {sc sc':Scope} {env:Env} (hsc:ScEq env sc) (ok:scOk sc sc'=true):sc'.kind = .function/\distinctN sc'.names=true/\∀ n,(n,NameKind.free)∈sc'.names->env.kindOf n=some .cell\/env.kindOf n=some .free:=aa ok λok h3=>aa ok λh1 h2=>⟨beq_iff_eq.mp h1,h2,λn hn=>by
 have:=List.all_eq_true.mp h3 _ hn
 rcases hsc n with e |⟨_,e⟩
 ·rw [show env.kindOf n=_ from e]
  exact tI this
 ·exact .inl e⟩
theorem gQ {c:Cx} {sc:Scope} {x:Str} {i:Nat} (hid:idOf c.tbl x=some i) (h:(x,NameKind.local)∈sc.names\/(x,NameKind.cell)∈sc.names):i∈locsOf c sc:=by
 unfold locsOf
 rw [List.mem_filterMap]
 rcases h with h |h<;>exact ⟨_,h,hid⟩
theorem dC (g:Str->NameKind->NameKind) (hg:∀ n k,g n k=k\/(k = .free/\g n k = .cell)) (x:Str):∀ l:List (Str×NameKind),
  (l.map λp=>(p.1,g p.1 p.2)).lookup x=l.lookup x\/(l.lookup x=some .free/\(l.map λp=>(p.1,g p.1 p.2)).lookup x=some .cell)
 | []=> .inl rfl
 |(n,k) :: r=>by
  rw [List.map_cons,List.lookup_cons,List.lookup_cons]
  cases hx:x==n with
  |true =>
   rcases hg n k with e |⟨e1,e2⟩
   ·left;show some (g n k)=some k;rw [e]
   ·right;exact ⟨by rw [e1],by show some (g n k)=_;rw [e2]⟩
  |false=>exact dC g hg x r
theorem bL {sc':Scope} {env:Env} {x:Str}:(relabel sc' env).names.lookup x=sc'.names.lookup x\/(sc'.names.lookup x=some .free/\(relabel sc' env).names.lookup x=some .cell):=by
 have e:(relabel sc' env).names=sc'.names.map λp=>(p.1,(λn k=>if (k == .free&&env.scope.kind == .function&&env.kindOf n==some .cell) then NameKind.cell else k) p.1 p.2):=by
  unfold relabel
  apply List.map_congr_left
  intro p Zz
  show (if _ then _ else _)=(p.1,if _ then _ else _)
  cases (p.2 == .free&&env.scope.kind == .function&&env.kindOf p.1==some .cell)<;>rfl
 rw [e]
 refine dC (λn k=>if (k == .free&&env.scope.kind == .function&&env.kindOf n==some .cell) then NameKind.cell else k) (λn k=> ?_) x _
 by_cases hc:(k == .free&&env.scope.kind == .function&&env.kindOf n==some .cell)=true
 ·exact aa hc λh Zz=>aa h λh Zz=> .inr ⟨beq_iff_eq.mp h,if_pos hc⟩
 ·exact .inl (if_neg hc)
section
variable {prog:Program} {w:World} {A:Around} {E:Value->Shared->Prop} {env:Env} {c:Cx} {sc sc':Scope} {Ex:Addr->Prop} {s:Shared} {O:MEnv}
theorem tK {Q:Env->Shared->Prop} (hsc:ScEq env sc) (R:RR env c.tbl Ex ow O s.heap) (ok:scOk sc sc'=true)
  (h:∀ cells h4,(∀ b,Ex b\/(s.heap.objs.size<=b/\(b=s.heap.objs.size\/∃ n,cells.lookup n=some b))->Al h4 b)->Kp s.heap h4->(∀ n a,cells.lookup n=some a->Al h4 a) ->
   RR (compEnvC sc' cells s.heap.objs.size env) c.tbl (λb=>Ex b\/(s.heap.objs.size<=b/\(b=s.heap.objs.size\/∃ n,cells.lookup n=some b))) ow (clearE O (locsOf c sc')) h4 ->
   ScEq (compEnvC sc' cells s.heap.objs.size env) sc' ->
   (∀ n a,storable sc' n=true->cells.lookup n=some a->s.heap.objs.size<=a) ->
   (∀ i x e,c.tbl[i]? = some x->seen (relabel sc' env) x=true->getE (clearE O (locsOf c sc')) i=some e->seen env.scope x=true/\getE O i=some e) ->
   Q {scope:=sc',locals:=s.heap.objs.size,globals:=env.globals,cells:=cells,qual:=env.qual,func:=none,code:=env.code,frame:=env.frame,builtins:=env.builtins} {s with heap:=h4}) :
  wpAny (model prog w) A (newFunctionEnv sc' env.globals (clFrom env sc'.names []) [] env.qual none .none (some env)) Q E s:=by
 obtain ⟨eok,nd,lt,own,m,cm,F,hv⟩:=R
 obtain ⟨ok1,ok2,hcell⟩:=wc hsc ok
 have hfree:∀ n,(n,NameKind.free)∈sc'.names->∃ a,env.cells.lookup n=some a:=λn hn=>F.has n (hcell n hn)
 simp only [newFunctionEnv,Option.isSome_some,if_true]
 refine wpAny_bind (wpAny_alloc ?_)
 refine wpAny_bind (wpAny_layCells _ (λname kind cells=>by cases hkc:kind==NameKind.cell<;>simp [hkc]) _ _ _ _ ?_)
 rw [show ({s with heap:=s.heap.push {cls:= .type "dict",data:= .dict #[]}}:Shared).heap.objs.size=s.heap.objs.size+1 from Heap.size_push ..]
 have cok:=cellsFrom_ok sc'.names (s.heap.push {cls:= .type "dict",data:= .dict #[]}) (s.heap.objs.size+1) [] ⟨λZz Zz hm=>(nomatch hm),List.Pairwise.nil⟩ (by rw [Heap.size_push];exact Nat.le_refl _)
 rw [Heap.size_push] at cok
 rw [bQ]
 have kp:Kp s.heap (pushCells (s.heap.push {cls:= .type "dict",data:= .dict #[]}) sc'.names):= .of λb o e=>pushCells_keeps _ _ b o (Heap.get?_push_of_some _ e)
 show wpAny _ _ _ _ _ {s with heap:=pushCells (s.heap.push {cls:= .type "dict",data:= .dict #[]}) sc'.names}
 generalize hH:pushCells (s.heap.push {cls:= .type "dict",data:= .dict #[]}) sc'.names=h4 at *
 generalize hO:cellsFrom (s.heap.objs.size+1) sc'.names []=own' at *
 have lown:∀ n a,own'.lookup n=some a->h4.IsCell a none/\s.heap.objs.size+1<=a/\(n,NameKind.cell)∈sc'.names:=λn a hl=>by
  have hm:=mem_of_lookup hl
  refine ⟨(cok.empty n a hm).1,(cok.empty n a hm).2,?_⟩
  rw [<- hO] at hm
  rcases cK hm with e |e
  ·exact e
  ·cases e
 have lcl:∀ n a,(clFrom env sc'.names []).lookup n=some a->(n,NameKind.free)∈sc'.names/\env.cells.lookup n=some a:=λn a hl=>by
  rcases cL hl with ⟨h1,h2⟩ |h1
  ·obtain ⟨a',ha'⟩:=hfree n h1
   rw [ha'] at h2
   exact ⟨h1,by rw [ha',h2];rfl⟩
  ·cases h1
 have lall:∀ n a,(own'++clFrom env sc'.names []).lookup n=some a->own'.lookup n=some a\/(own'.lookup n=none/\(clFrom env sc'.names []).lookup n=some a):=λn a hl=>by
  rw [List.lookup_append] at hl
  cases ho:own'.lookup n with
  |none=>rw [ho] at hl;exact .inr ⟨rfl,by simpa using hl⟩
  |some a'=>rw [ho] at hl;exact .inl (by simpa using hl)
 have hCns:h4.Ns s.heap.objs.size (λZz=>none):=by
  rw [<- hH];exact (Heap.Ns.new s.heap (.type "dict")).keeps (pushCells_keeps _ _)
 have alC:Al h4 s.heap.objs.size:=let ⟨o,_,_,ho,_⟩:=hCns;⟨o,ho⟩
 have alc:∀ n a,(own'++clFrom env sc'.names []).lookup n=some a->Al h4 a:=λn a hl=>by
  rcases lall n a hl with h1 |⟨_,h1⟩
  ·obtain ⟨o,ho,Zz⟩:=(lown n a h1).1;exact ⟨o,ho⟩
  ·exact (lt a (own.2 n a (lcl n a h1).2)).keep kp
 have sq:ScEq (compEnvC sc' (own'++clFrom env sc'.names []) s.heap.objs.size env) sc':=λx=>bL
 have al:∀ b,Ex b\/(s.heap.objs.size<=b/\(b=s.heap.objs.size\/∃ n,(own'++clFrom env sc'.names []).lookup n=some b))->Al h4 b:=by
  rintro b (h1 |⟨Zz,rfl |⟨n,h1⟩⟩)
  ·exact (lt b h1).keep kp
  ·exact alC
  ·exact alc n b h1
 have nofree:∀ n,(n,NameKind.free)∈sc'.names->own'.lookup n=none:=λn hn=>by
  cases ho:own'.lookup n with
  |none=>rfl
  |some a =>
   have h1:=aZ ok2 (lown n a ho).2.2
   rw [aZ ok2 hn] at h1
   cases h1
 have st:∀ n a,storable sc' n=true->(own'++clFrom env sc'.names []).lookup n=some a->s.heap.objs.size<=a:=λn a hs hl=>by
  rcases lall n a hl with h1 |⟨_,h1⟩
  ·exact Nat.le_of_succ_le (lown n a h1).2.1
  ·have:=aZ ok2 (lcl n a h1).1
   rcases bW hs with e |e<;>exact nomatch this.symm.trans e
 have sn:∀ i x e,c.tbl[i]? = some x->seen (relabel sc' env) x=true->getE (clearE O (locsOf c sc')) i=some e->sc'.names.lookup x=some .free:=λi x e h1 h3 h2=>by
  obtain ⟨n1,Zz⟩:=cN h2
  have hid:=gq nd h1
  have hk:=fM h3
  rcases bL (sc':=sc') (env:=env) (x:=x) with e |⟨e,_⟩
  ·rw [e] at hk
   rcases hk with hk |hk |hk
   ·exact absurd (gQ hid (.inl (mem_of_lookup hk))) n1
   ·exact absurd (gQ hid (.inr (mem_of_lookup hk))) n1
   ·exact hk
  ·exact e
 have snk:∀ x,sc'.names.lookup x=some .free->seen env.scope x=true:=λx hfr=>by
  unfold seen
  rcases hcell x (mem_of_lookup hfr) with e |e<;>rw [show env.scope.names.lookup x=_ from e]<;>rfl
 have sn2:∀ i x e,c.tbl[i]? = some x->seen (relabel sc' env) x=true->getE (clearE O (locsOf c sc')) i=some e->seen env.scope x=true/\getE O i=some e:=λi x e h1 h3 h2=>⟨snk x (sn i x e h1 h3 h2),(cN h2).2⟩
 refine wpAny_pure (h _ h4 al kp alc ?_ sq st sn2)
 refine ⟨⟨ok1,eok.glob,eok.blt⟩,nd,al,⟨.inr ⟨Nat.le_refl _,.inl rfl⟩,λn a hl=> ?_⟩,λZz=>none,λx=>if (own'.lookup x).isSome then none else cm x,⟨hCns,λn a hl=> ?_,λn a hl=> ?_,λn n' a hl hl'=> ?_,λx hx=> ?_⟩,λi x d b h1 h2 h3=> ?_⟩
 ·have hl:(own'++clFrom env sc'.names []).lookup n=some a:=hl
  rcases lall n a hl with h1 |⟨_,h1⟩
  ·exact .inr ⟨by have:=(lown n a h1).2.1;omega,.inr ⟨n,hl⟩⟩
  ·exact .inl (own.2 n a (lcl n a h1).2)
 ·have hl:(own'++clFrom env sc'.names []).lookup n=some a:=hl
  rcases lall n a hl with h1 |⟨h0,h1⟩
  ·rw [h1];exact (lown n a h1).1
  ·rw [h0];exact kp.cell (F.cell n a (lcl n a h1).2)
 ·have hl:(own'++clFrom env sc'.names []).lookup n=some a:=hl
  rcases lall n a hl with h1 |⟨h0,h1⟩
  ·have:=(lown n a h1).2.1
   exact Nat.ne_of_gt this
  ·exact (lt a (own.2 n a (lcl n a h1).2)).ne (aI _)
 ·have hl:(own'++clFrom env sc'.names []).lookup n=some a:=hl
  have hl':(own'++clFrom env sc'.names []).lookup n'=some a:=hl'
  have oc:∀ x y,own'.lookup x=some a->(clFrom env sc'.names []).lookup y=some a->False:=λx y h1 h2=>by
   obtain ⟨o,ho⟩:=lt a (own.2 y a (lcl y a h2).2)
   have h3:=Heap.lt_size ho
   have h4:=(lown x a h1).2.1
   exact absurd (Nat.lt_of_lt_of_le h3 (Nat.le_of_succ_le h4)) (Nat.lt_irrefl _)
  rcases lall n a hl with h1 |⟨_,h1⟩<;>rcases lall n' a hl' with h2 |⟨_,h2⟩
  ·exact name_of_addr cok.apart (mem_of_lookup h1) (mem_of_lookup h2)
  ·exact (oc n n' h1 h2).elim
  ·exact (oc n' n h2 h1).elim
  ·exact F.inj n n' a (lcl n a h1).2 (lcl n' a h2).2
 ·have key:sc'.names.lookup x=some .cell\/sc'.names.lookup x=some .free:=by
   rcases bL (sc':=sc') (env:=env) (x:=x) with e |⟨e,_⟩
   ·have hx:(relabel sc' env).names.lookup x=some .cell\/(relabel sc' env).names.lookup x=some .free:=hx
    rw [e] at hx;exact hx
   ·exact .inr e
  show ∃ a,(own'++clFrom env sc'.names []).lookup x=some a
  rw [List.lookup_append]
  rcases key with e |e
  ·have:=cJ (n:=s.heap.objs.size+1) (acc:=[]) (mem_of_lookup e)
   rw [hO] at this
   obtain ⟨a,ha⟩:=Option.isSome_iff_exists.mp this
   exact ⟨a,by rw [ha];rfl⟩
  ·rw [nofree x (mem_of_lookup e)]
   obtain ⟨a,ha⟩:=Option.isSome_iff_exists.mp (ig (env:=env) (acc:=[]) (mem_of_lookup e))
   exact ⟨a,by rw [ha];rfl⟩
 ·have g1:=(cN h2).2
  have hfr:=sn i x _ h1 h3 h2
  have hm:=mem_of_lookup hfr
  have hkc:=hcell x hm
  have hsn:=snk x hfr
  obtain ⟨v,e,dv,hw⟩:=hv i x d b h1 g1 hsn
  refine ⟨v,?_,?_,hw⟩
  ·have e1:cm x=some v:=by
    unfold valOf at e
    rcases hkc with q |q<;>rw [q] at e<;>exact e
   have e2:(if (own'.lookup x).isSome then none else cm x)=some v:=by rw [nofree x hm];exact e1
   unfold valOf
   rcases bL (sc':=sc') (env:=env) (x:=x) with q |⟨_,q⟩
   ·rw [show (compEnvC sc' (own'++clFrom env sc'.names []) s.heap.objs.size env).kindOf x=some .free from q.trans hfr];exact e2
   ·rw [show (compEnvC sc' (own'++clFrom env sc'.names []) s.heap.objs.size env).kindOf x=some .cell from q];exact e2
  ·have hx:∀ b,Al s.heap b->¬ Ex b->¬ (Ex b\/(s.heap.objs.size<=b/\(b=s.heap.objs.size\/∃ n,(own'++clFrom env sc'.names []).lookup n=some b))):=λb hb n e=>e.elim n λe=>by
    obtain ⟨o,ho⟩:=hb
    have:=Heap.lt_size ho
    exact absurd (Nat.lt_of_lt_of_le this e.1) (Nat.lt_irrefl _)
   cases b with
   |false=>exact Den.mono (λb o Zz t e=>kp.ob e t) hx _ _ dv
   |true =>
    obtain ⟨a,items,ds,e1,e2,l,r⟩:=dv
    exact ⟨a,items,ds,e1,e2,PL.at' l (kp.at a),DenL.mono (λb o Zz t e=>kp.ob e t) hx _ _ r⟩
end
def aL (o:Obj):Prop:=∃ fs,o.data = .fields fs
def cx (o:Obj):Prop:=∃ is n,o.data = .seq is n
theorem lf {env:Env} {m cm:Str->Option Value} {h:Heap} (F:FrM env h m cm) {b:Addr} {o:Obj} (ho:h.get? b=some o) (hd:aL o\/cx o):b≠env.locals/\∀ n,env.cells.lookup n≠some b:=by
 refine ⟨λe=> ?_,λn hn=> ?_⟩
 ·obtain ⟨o',es,ep,ho',hd',Zz⟩:=F.ns
  refine dV ho ho' e λq=> ?_
  rcases hd with ⟨fs,hd⟩ |⟨is,k,hd⟩<;>exact nomatch hd.symm.trans (q.trans hd')
 ·obtain ⟨o',ho',hd'⟩:=F.cell n b hn
  refine dV ho ho' rfl λq=> ?_
  rcases hd with ⟨fs,hd⟩ |⟨is,k,hd⟩<;>exact nomatch hd.symm.trans (q.trans hd')
theorem RR.frame {env:Env} {tbl:List Str} {Ex:Addr->Prop} {ow:Nat->Addr} {O:MEnv} {h:Heap} (R:RR env tbl Ex ow O h) {b:Addr} {o:Obj} (ho:h.get? b=some o) (hd:aL o\/cx o):b≠env.locals/\∀ n,env.cells.lookup n≠some b :=
 let ⟨_,_,F,_⟩:=R.fr;lf F ho hd
theorem RR.own_al {env:Env} {tbl:List Str} {Ex:Addr->Prop} {ow:Nat->Addr} {O:MEnv} {h:Heap} (R:RR env tbl Ex ow O h) {i:Nat} {x:Str} {d:D} (h1:tbl[i]? = some x) (h2:seen env.scope x=true) (h3:getE O i=some (d,true)) :
  ∃ items ds,d = .list ds/\h.PlainList (ow i) items/\DenL h Ex ds items.toList:=by
 obtain ⟨m,cm,F,hv⟩:=R.fr
 obtain ⟨v,e,⟨a,items,ds,e1,e2,l,r⟩,hw⟩:=hv i x d true h1 h3 h2
 rw [<- Value.ref.inj (e1.symm.trans (hw rfl))]
 exact ⟨items,ds,e2,l,r⟩
theorem RR.chg {env:Env} {tbl:List Str} {Ex Ex' Wr:Addr->Prop} {ow:Nat->Addr} {O:MEnv} {h h':Heap} (R:RR env tbl Ex ow O h) (hk:∀ b o,¬ Wr b->h.get? b=some o->h'.get? b=some o) (hx:∀ b,Wr b->Ex b)
  (nl:¬ Wr env.locals) (nc:∀ n c,env.cells.lookup n=some c->¬ Wr c) (no:∀ i x d,tbl[i]? = some x->seen env.scope x=true->getE O i=some (d,true)->¬ Wr (ow i))
  (e1:∀ b,Ex' b->Ex b) (e2:∀ b,Ex b->¬ Wr b->Ex' b) (al:∀ b,Ex' b->Wr b->Al h' b):RR env tbl Ex' ow O h':=by
 obtain ⟨ok,nd,lt,own,m,cm,F,hv⟩:=R
 have kx:∀ b o,¬ Ex b->NT b o->h.get? b=some o->h'.get? b=some o:=λb o n Zz e=>hk b o (λq=>n (hx b q)) e
 have xx:∀ b,Al h b->¬ Ex b->¬ Ex' b:=λb Zz n e=>n (e1 b e)
 refine ⟨ok,nd,λb hb=> ?_,⟨e2 _ own.1 nl,λn c hc=>e2 _ (own.2 n c hc) (nc n c hc)⟩,m,cm,⟨F.ns.at' λo e=>hk _ o nl e,λn c hc=>let ⟨o,ho,hd⟩:=F.cell n c hc;⟨o,hk c o (nc n c hc) ho,hd⟩,F.offL,F.inj,F.has⟩,λi x d b h1 h2 h3=> ?_⟩
 ·by_cases hwb:Wr b
  ·exact al b hb hwb
  ·obtain ⟨o,ho⟩:=lt b (e1 b hb);exact ⟨o,hk b o hwb ho⟩
 ·obtain ⟨v,e,dv,hw'⟩:=hv i x d b h1 h2 h3
  refine ⟨v,e,?_,hw'⟩
  cases b with
  |false=>exact Den.mono kx xx _ _ dv
  |true =>
   obtain ⟨a,items,ds,q1,q2,⟨n0,l⟩,r⟩:=dv
   exact ⟨a,items,ds,q1,q2,⟨n0,hk a _ (Value.ref.inj (q1.symm.trans (hw' rfl))▸no i x d h1 h3 h2) l⟩,DenL.mono kx xx _ _ r⟩
theorem RR.nofld {env:Env} {tbl:List Str} {Ex:Addr->Prop} {ow:Nat->Addr} {O:MEnv} {h:Heap} (R:RR env tbl Ex ow O h) {i:Nat} {x:Str} {d:D} (h1:tbl[i]? = some x) (h2:seen env.scope x=true) (h3:getE O i=some (d,true)) {o:Obj} (ho:h.get? (ow i)=some o) (hf:aL o):False:=by
 obtain ⟨its,ds,Zz,⟨n,l⟩,Zz⟩:=R.own_al h1 h2 h3
 obtain ⟨fs,hf⟩:=hf
 exact dV l ho rfl λq=>nomatch q.trans hf
theorem RR.mutl {env:Env} {tbl:List Str} {Ex:Addr->Prop} {ow:Nat->Addr} {O:MEnv} {h h':Heap} {Wr:Addr->Prop} (R:RR env tbl Ex ow O h) (hk:∀ b o,¬ Wr b->h.get? b=some o->h'.get? b=some o) (hx:∀ b,Wr b->Ex b)
  (hw:∀ b,Wr b->∃ o,h.get? b=some o/\aL o) (ha:∀ b,Wr b->Al h' b):RR env tbl Ex ow O h' :=
 R.chg hk hx (λe=>let ⟨_,ho,hd⟩:=hw _ e;(R.frame ho (.inl hd)).1 rfl) (λn c hc e=>let ⟨_,ho,hd⟩:=hw _ e;(R.frame ho (.inl hd)).2 n hc) (λi x d h1 h2 h3 e=>let ⟨_,ho,hd⟩:=hw _ e;R.nofld h1 h2 h3 ho hd) (λZz e=>e) (λZz e Zz=>e) λb Zz e=>ha b e
theorem RR.drop {env:Env} {tbl:List Str} {Ex:Addr->Prop} {ow:Nat->Addr} {O:MEnv} {h h':Heap} {Wr:Addr->Prop} (R:RR env tbl Ex ow O h) (hk:∀ b o,¬ Wr b->h.get? b=some o->h'.get? b=some o) (hx:∀ b,Wr b->Ex b)
  (hw:∀ b,Wr b->∃ o,h.get? b=some o/\aL o):RR env tbl (λb=>Ex b/\¬ Wr b) ow O h' :=
 R.chg hk hx (λe=>let ⟨_,ho,hd⟩:=hw _ e;(R.frame ho (.inl hd)).1 rfl) (λn c hc e=>let ⟨_,ho,hd⟩:=hw _ e;(R.frame ho (.inl hd)).2 n hc) (λi x d h1 h2 h3 e=>let ⟨_,ho,hd⟩:=hw _ e;R.nofld h1 h2 h3 ho hd) (λZz e=>e.1) (λZz e n=>⟨e,n⟩) λb e n=>absurd n e.2
theorem RR.other {env:Env} {tbl:List Str} {Ex:Addr->Prop} {ow:Nat->Addr} {O:MEnv} {h h':Heap} {D:Addr} (R:RR env tbl Ex ow O h) (hk:Heap.SameBut D h h') (hx:Ex D) (hd:∃ o,h.get? D=some o/\cx o) (ha:Al h' D)
  (hn:∀ i x d,tbl[i]? = some x->seen env.scope x=true->getE O i=some (d,true)->ow i≠D):RR env tbl Ex ow O h':=by
 obtain ⟨o0,ho0,hs⟩:=hd
 obtain ⟨f1,f2⟩:=R.frame ho0 (.inr hs)
 exact R.chg (Wr:=(· = D)) (λb o n e=>hk.extBut b o n e) (λZz e=>e▸hx) (λe=>f1 e.symm) (λn c hc e=>f2 n (e▸hc)) hn (λZz e=>e) (λZz e Zz=>e) λZz Zz e=>e▸ha
theorem RR.weaken {env:Env} {tbl:List Str} {Ex:Addr->Prop} {ow:Nat->Addr} {O O':MEnv} {h:Heap} (R:RR env tbl Ex ow O' h) (hw:∀ j e,getE O j=some e->getE O' j=some e):RR env tbl Ex ow O h:=by
 obtain ⟨ok,nd,lt,own,m,cm,F,hv⟩:=R
 exact ⟨ok,nd,lt,own,m,cm,F,λi x d b h1 h2 h3=>hv i x d b h1 (hw i _ h2) h3⟩
structure Turns (prog:Program) (w:World) (A:Around) (c:Cx) (sc:Scope) (target:Expr) (tg:List Nat) (one:Bool) (I:Addr) (xs:List D) (Fp Wr:Addr->Prop) (It:Heap->(Addr->Prop)->Prop) (St:Nat->Heap->Prop):Prop where
 frame:∀ i h h',St i h->(∀ b o,Fp b->h.get? b=some o->h'.get? b=some o)->St i h'
 kinds:∀ i h b,St i h->Fp b->∃ o,h.get? b=some o/\(∃ T,o.cls = .type T/\T≠"code")/\(aL o\/(¬ Wr b/\cx o))
 sub:∀ b,Wr b->Fp b
 items:∀ h h' X X',It h X->(∀ b o,¬ X b->NT b o->h.get? b=some o->h'.get? b=some o)->(∀ b,Al h b->¬ X b->¬ X' b)->It h' X'
 next:∀ i d (s:Shared) (env:Env) (Ex:Addr->Prop) (ow:Nat->Addr) (O O':MEnv) (Q:Unit->Shared->Prop) (E E':Value->Shared->Prop),ScEq env sc->xs[i]? = some d->St i s.heap->It s.heap Ex->(∀ b,Wr b->Ex b)->RR env c.tbl Ex ow O s.heap->bindT O tg one d=some O' ->
  (∀ h' tk,St (i+1) h'->It h' Ex->RR env c.tbl Ex ow O' h'->(∀ b o,¬ Wr b->b≠env.locals->(∀ n,storable sc n=true->env.cells.lookup n≠some b)->s.heap.get? b=some o->Gw h' b o)->Cd s.heap h'->Q () {s with heap:=h',toks:=tk}) ->
  wpAny (model prog w) A (pyNext (.ref I)) (λr s₁=>∃ v,r=some v/\wpAny (model prog w) A (letOwnedTupleGo target (.ref I) v) (λZz s₂=>wpAny (model prog w) A (assign target env v) Q E' s₂) E' s₁) E s
 done:∀ (s:Shared) (Q:Shared->Prop) (E:Value->Shared->Prop),St xs.length s.heap->(∀ h' tk,(∀ b o,¬ Wr b->s.heap.get? b=some o->h'.get? b=some o)->Q {s with heap:=h',toks:=tk}) ->
  wpAny (model prog w) A (pyNext (.ref I)) (λr s₁=>r=none/\Q s₁) E s
 self:∀ i (s:Shared) (Q:Value->Shared->Prop) (E:Value->Shared->Prop),St i s.heap->Q (.ref I) s->wpAny (model prog w) A (pyIter (.ref I)) Q E s
theorem mT {o:Obj} {T:String} {P:Prop} (hc:o.cls = .type T) (hf:aL o\/(P/\cx o)):isTab o=false:=dA hc (by
 rcases hf with ⟨fs,hd⟩ |⟨_,is,k,hd⟩<;>rw [hd]<;>rfl)
theorem pM {h:Heap} {b:Addr} {o:Obj} {P:Prop} (ho:h.get? b=some o) (hf:aL o\/(P/\cx o)):¬ Dt h b:=λ⟨o',es,n,e1,e2⟩=>by
 obtain rfl:=sm (ho.symm.trans e1)
 rcases hf with ⟨fs,hd⟩ |⟨_,is,k,hd⟩<;>exact nomatch e2.symm.trans hd
abbrev Knd (h:Heap) (b:Addr) (P:Prop):Prop:=∃ o,h.get? b=some o/\(∃ T,o.cls = .type T/\T≠"code")/\(aL o\/(P/\cx o))
theorem Knd.notab {h:Heap} {b:Addr} {P:Prop} (k:Knd h b P) {o:Obj} (e:h.get? b=some o):NT b o:= .inl<|by
 obtain ⟨o',ho',⟨T',hc',Zz⟩,hf⟩:=k
 obtain rfl:=sm (e.symm.trans ho')
 exact mT hc' hf
theorem Knd.or {h:Heap} {b:Addr} {P:Prop} (k:Knd h b P):∃ o,h.get? b=some o/\(aL o\/cx o):=let ⟨o,ho,_,hf⟩:=k;⟨o,ho,hf.imp id (·.2)⟩
theorem Knd.fld {h:Heap} {b:Addr} {P:Prop} (k:Knd h b P) (n:¬ P):∃ o,h.get? b=some o/\aL o:=let ⟨o,ho,_,hf⟩:=k;⟨o,ho,hf.elim id λq=>absurd q.1 n⟩
theorem pw {h h':Heap} {Wr:Addr->Prop} {P:Addr->Prop} (kn:∀ b,Wr b->Knd h b (P b)) (k:∀ b o,¬ Wr b->h.get? b=some o->h'.get? b=some o):Cd h h' :=
 ⟨λb o vs g1 Zz e=>k b o (λq=>by
  obtain ⟨o',ho',⟨T',hc',hn'⟩,Zz⟩:=kn b q
  obtain rfl:=sm (e.symm.trans ho')
  exact hn' (Value.type.inj (g1.symm.trans hc')).symm) e,λb d=>d.kq λo e=>k b o (λq=>by
  obtain ⟨o',ho',Zz,hf⟩:=kn b q
  exact pM ho' hf d) e⟩
section
variable {prog:Program} {w:World} {A:Around} {c:Cx} {sc:Scope} {target:Expr} {tg:List Nat} {one:Bool} {I:Addr} {xs:List D} {Fp Wr:Addr->Prop} {It:Heap->(Addr->Prop)->Prop} {St:Nat->Heap->Prop}
theorem Turns.frameK (T:Turns prog w A c sc target tg one I xs Fp Wr It St) {i:Nat} {h h':Heap} (st:St i h) (k:∀ b o,Fp b->NT b o->h.get? b=some o->h'.get? b=some o):St i h' :=
 T.frame i h h' st λb o hb e=>k b o hb (Knd.notab (T.kinds _ _ b st hb) e) e
theorem Turns.cdW (T:Turns prog w A c sc target tg one I xs Fp Wr It St) {i:Nat} {h h':Heap} (st:St i h) (k:∀ b o,¬ Wr b->h.get? b=some o->h'.get? b=some o):Cd h h':=pw (λb q=>T.kinds _ _ b st (T.sub b q)) k
end
noncomputable def badIt:List String:=["enumerate","zip","dict_itemiterator","dict_reverseitemiterator","odict_iterator","itertools.zip_longest","itertools.pairwise"]
theorem ja {prog:Program} {w:World} {A:Around} {E:Value->Shared->Prop} {s:Shared} {target:Expr} {I:Addr} {v:Value} {T:String} {o:Obj} {Q:Unit->Shared->Prop} (ho:s.heap.get? I=some o) (hc:o.cls = .type T) (hT:badIt.contains T=false) (hQ:Q () s) :
  wpAny (model prog w) A (letOwnedTupleGo target (.ref I) v) Q E s:=by
 have go:wpAny (model prog w) A (letOwnedTupleGo (.Tuple [] 0 default) (.ref I) v) Q E s:=by
  unfold letOwnedTupleGo
  cases v with
  |ref a =>
   refine wpAny_bind (wpAny_load ho ?_)
   rw [hc]
   have hT':(["enumerate","zip","dict_itemiterator","dict_reverseitemiterator","odict_iterator","itertools.zip_longest","itertools.pairwise"].contains T)=false:=hT
   cases o.data with
   |fields vs =>
    refine wpAny_ite_split (λh=> ?_) λZz=>wpAny_pure hQ
    rw [hT',Bool.false_and] at h
    exact nomatch h
   |_=>exact wpAny_pure hQ
  |_=>exact wpAny_pure hQ
 cases target with
 |Tuple _ _ _=>exact go
 |List _ _=>exact go
 |_=>exact wpAny_pure hQ
section
variable {prog:Program} {w:World} {A:Around} {c:Cx} {sc:Scope} {target:Expr} {tg:List Nat} {one:Bool}
theorem pW (hh:A.handled=none) (hT:bA c sc target tg one) {s:Shared} {env:Env} {Ex:Addr->Prop} {ow:Nat->Addr} {O O':MEnv} {d:D} {v:Value} {Q:Unit->Shared->Prop} {E:Value->Shared->Prop} (hsc:ScEq env sc) (R:RR env c.tbl Ex ow O s.heap) (hd:Den s.heap Ex d v) (hb:bindT O tg one d=some O')
  (h:∀ h' tk,RR env c.tbl Ex ow O' h'->KS sc env s.heap h'->Q () {s with heap:=h',toks:=tk}):wpAny (model prog w) A (assign target env v) Q E s:=by
 rcases hT with ⟨rfl,x,p,i,rfl,rfl,hs,hi⟩ |⟨rfl,es,k,p,rfl,ht⟩
 ·obtain rfl:=sm hb
  obtain ⟨s1,s2⟩:=bC hsc hs
  exact jZ (b:=false) (N:=λx=>storable sc x=true) hs R s1 hi s2 hd (λe=>nomatch e) h
 ·refine ae hb λds hds hb=> ?_
  revert hd
  refine eA (P:=λd=>Den s.heap Ex d v->_) hds λ⟨a,items,e,_,l,r⟩=> ?_
  rw [e]
  exact cX hh hsc ht R (TupAt.isTup l) r hb h
theorem Turns.of_walks {I:Addr} {xs:List D} {fp wr:List Addr} {n:Nat} {P:Nat->Value->Prop} {St:Nat->Heap->Prop} {It:Heap->(Addr->Prop)->Prop} (hh:A.handled=none) (hT:bA c sc target tg one)
  (W:Walks prog w A I fp wr n P St) (hn:n=xs.length) (kinds:∀ i h b,St i h->b∈fp->∃ o,h.get? b=some o/\(∃ T,o.cls = .type T/\T≠"code")/\(aL o\/(b∉wr/\cx o)))
  (items:∀ h h' X X',It h X->(∀ b o,¬ X b->NT b o->h.get? b=some o->h'.get? b=some o)->(∀ b,Al h b->¬ X b->¬ X' b)->It h' X')
  (it:∀ i d h X v,xs[i]? = some d->It h X->P i v->Den h X d v)
  (cls:∀ i h,St i h->∃ T o,h.get? I=some o/\o.cls = .type T/\badIt.contains T=false) :
  Turns prog w A c sc target tg one I xs (· ∈ fp) (· ∈ wr) It St where
 frame:=λi h h' st hk=>W.frame i h h' st λb hb o e=>hk b o hb e
 kinds:=λi h b st hb=>kinds i h b st hb
 sub:=λb hb=>W.sub b hb
 items:=items
 next:=λi d s env Ex ow O O' Q E E' hsc hx st hit hwx R hb h=>by
  have hi:i<n:=by rw [hn];exact (List.getElem?_eq_some_iff.mp hx).1
  refine W.item i s _ E hi st λv h1 tk1 hP st1 hk1=>⟨v,rfl,?_⟩
  have kn:=λb hb=>kinds _ _ b st (W.sub b hb)
  have R1:RR env c.tbl Ex ow O h1:=R.mutl (Wr:=(· ∈ wr)) hk1 hwx (λb hb=>Knd.fld (kn b hb) λq=>q hb) λb hb=>let ⟨o,ho,_⟩:=kinds _ _ b st1 (W.sub b hb);⟨o,ho⟩
  have it1:It h1 Ex:=items _ _ _ _ hit (λb o n Zz e=>hk1 b o (λq=>n (hwx b q)) e) (λZz Zz n=>n)
  obtain ⟨T,o,ho,hc,hT'⟩:=cls _ _ st1
  refine ja (s:={s with heap:=h1,toks:=tk1}) ho hc hT' ?_
  refine pW (s:={s with heap:=h1,toks:=tk1}) hh hT hsc R1 (it i d h1 Ex v hx it1 hP) hb λh2 tk2 R2 kf=> ?_
  refine h h2 tk2 (W.frame _ _ _ st1 λb hb o e=> ?_) (items _ _ _ _ it1 (kf.notex R1.own) (λZz Zz n=>n)) R2 (λb o n1 n2 n3 e=>kf.kp b o n2 n3 (hk1 b o n1 e)) ((pw kn hk1).trans kf.cd)
  obtain ⟨o',ho',hf⟩:=Knd.or (kinds _ _ b st1 hb)
  obtain ⟨f1,f2⟩:=R1.frame ho' hf
  exact (kf.kp b o f1 (λn Zz=>f2 n) e).ob (Knd.notab (kinds _ _ b st1 hb) e)
 done:=λs Q E st h=>W.done s _ E (hn▸st) λh' tk hk=>⟨rfl,h h' tk hk⟩
 self:=λi s Q E st h=>W.self i s Q E st h
end
section
variable (X:Wd)
def bz (A:Around) (s:Shared) (Ex:Addr->Prop) (brw:Bool) (xs:List D) (sc':Scope) (target:Expr) (tg:List Nat) (one:Bool) (Q:Value->Shared->Prop):Prop :=
 ∀ (I:Addr) (Fp Wr:Addr->Prop) (It:Heap->(Addr->Prop)->Prop) (St:Nat->Heap->Prop) (h2:Heap) (tk2:Nat),Turns X.P X.w A X.c sc' target tg one I xs Fp Wr It St->St 0 h2->It h2 (λb=>Ex b\/Wr b)->Kp s.heap h2->(∀ b,Wr b->s.heap.get? b=none) ->
  (∀ b,Fp b->Wr b\/(brw=false->¬ Ex b))->Q (.ref I) {s with heap:=h2,toks:=tk2}
def FS (sc:Scope) (k:IK) (it it2:T) (e:Expr):Prop :=
 ∀ (O:MEnv) (p:At X sc O) (E:Value->Shared->Prop) (b:Bool) (xs:List D) (sc':Scope) (target:Expr) (tg:List Nat) (one:Bool) (Q:Value->Shared->Prop),bA X.c sc' target tg one->enumOk one k=true->evI X.G X.F O b k it it2=some xs->bz X p.A p.s p.Ex b xs sc' target tg one Q ->
  wpAny (model X.P X.w) p.A (eval e p.env) (λv s₁=>wpAny (model X.P X.w) p.A (pyIter v) Q E s₁) E p.s
def m9 (sc:Scope) (ta tb:T) (e:Expr):Prop :=
 ∀ (O:MEnv) (p:At X sc O) (E:Value->Shared->Prop) (m m':Int) (Q:Value->Shared->Prop),ev X.G X.F O true ta=some (.int m)->ev X.G X.F O true tb=some (.int m') ->
  (∀ r h' tk t u v,Kp p.s.heap h'->IsRange h' r m m' 1 t u v->p.s.heap.get? r=none->Q (.ref r) {p.s with heap:=h',toks:=tk})->wpAny (model X.P X.w) p.A (eval e p.env) Q E p.s
end
theorem bK:∀ (k:Nat) (a:Int),(rangeD a k).length=k
 |0,_=>rfl
 |k+1,a=>congrArg (· + 1) (bK k _)
theorem eR:∀ (k:Nat) (a:Int) (i:Nat),i<k->(rangeD a k)[i]? = some (.int (a+i))
 |k+1,a,0,_=>congrArg (λx=>some (D.int x)) (Int.add_zero a).symm
 |k+1,a,i+1,h=>(eR k (a+1) i (Nat.lt_of_succ_lt_succ h)).trans (congrArg (λx=>some (D.int x)) (by rw [Int.add_assoc,Int.add_comm 1];rfl))
theorem bg {s:Shared} {h1:Heap} (k1:Kp s.heap h1):s.heap.get? h1.objs.size=none:=k1.none (aI _)
theorem pF {s:Shared} {h1:Heap} (k1:Kp s.heap h1):s.heap.get? (h1.objs.size+1)=none/\h1.get? (h1.objs.size+1)=none:=by
 have q:h1.get? (h1.objs.size+1)=none:=by
  cases e:h1.get? (h1.objs.size+1) with
  |none=>rfl
  |some o=>exact absurd (Heap.lt_size e) (Nat.not_lt.mpr (Nat.le_succ _))
 exact ⟨k1.none q,q⟩
def Itr (h:Heap) (I:Addr) (ty:String):Prop:=∃ o,h.get? I=some o/\o.cls = .type ty/\aL o
theorem Itr.knd {h:Heap} {I:Addr} {ty:String} {P:Prop} (x:Itr h I ty) (n:ty≠"code"):Knd h I P:=let ⟨o,ho,hc,hf⟩:=x;⟨o,ho,⟨ty,hc,n⟩,.inl hf⟩
def Sqn (h:Heap) (a:Addr) (ty:String):Prop:=∃ o,h.get? a=some o/\o.cls = .type ty/\cx o
theorem Sqn.knd {h:Heap} {a:Addr} {ty:String} {P:Prop} (x:Sqn h a ty) (n:ty≠"code") (p:P):Knd h a P:=let ⟨o,ho,hc,hf⟩:=x;⟨o,ho,⟨ty,hc,n⟩,.inr ⟨p,hf⟩⟩
section
variable {X:Wd} {sc:Scope} {mg mb:Str->Option Value} {A:Around} {E:Value->Shared->Prop} {s:Shared} {Ex:Addr->Prop} {b:Bool} {xs:List D} {sc':Scope} {target:Expr} {tg:List Nat} {one:Bool} {Q:Value->Shared->Prop} {h1:Heap} {tk1:Nat}
theorem ik {its:List Value} {ys:List D} {h:Heap} {Y:Addr->Prop} {i:Nat} {d:D} {v:Value} (it:DenL h Y ys its) (hx:ys[i]? = some d) (hv:its[i]? = some v):Den h Y d v:=by
 obtain ⟨v',g,dv⟩:=it.get hx
 rw [<- sm (g.symm.trans hv)];exact dv
theorem gE {a:Addr} {items:Array Value} {ys:List D} {o:Obj} {ty sy:String} {n:Nat} {PP:Nat->Value->Prop} {St:Nat->Heap->Prop} (hh:A.handled=none) (hT:bA X.c sc' target tg one) (k1:Kp s.heap h1) (ha:a<h1.objs.size) (r:DenL h1 Ex ys items.toList) (nx:b=false->¬ Ex a)
  (P:bz X A s Ex b xs sc' target tg one Q) (W:Walks X.P X.w A h1.objs.size [h1.objs.size,a] [h1.objs.size] n PP St) (hn:n=xs.length) (itv:∀ i d v h Y,xs[i]? = some d->DenL h Y ys items.toList->PP i v->Den h Y d v) (st0:St 0 (h1.push o))
  (kn:∀ i h,St i h->Itr h h1.objs.size ty/\Sqn h a sy) (h1y:badIt.contains ty=false) (h2y:ty≠"code") (h3y:sy≠"code"):Q (.ref h1.objs.size) {s with heap:=h1.push o,toks:=tk1}:=by
 have k2:=Kp.push h1 o
 have hne:a≠h1.objs.size:=Nat.ne_of_lt ha
 refine P h1.objs.size _ _ (λh X=>DenL h X ys items.toList) _ (h1.push o) tk1
  (Turns.of_walks hh hT W hn (λi h b st hb=> ?_) (λh h' X X' x e1 e2=>DenL.mono e1 e2 _ _ x) (λi d h X v hx it hv=>itv i d v h X hx it hv) λi h st=>let ⟨o,ho,hc,_⟩:=(kn i h st).1;⟨ty,o,ho,hc,h1y⟩) st0 (r.grow k2 λb hb=>by rw [List.mem_singleton.mp hb];exact aI _) (k1.trans k2) (λb hb=>by rw [List.mem_singleton.mp hb];exact bg k1) λb hb=> ?_
 ·rcases List.mem_cons.mp hb with rfl |hb
  ·exact (kn i h st).1.knd h2y
  ·rw [List.mem_singleton.mp hb]
   exact (kn i h st).2.knd h3y λq=>hne (List.mem_singleton.mp q)
 ·rcases List.mem_cons.mp hb with rfl |hb
  ·exact .inl List.mem_cons_self
  ·rw [List.mem_singleton.mp hb];exact .inr nx
theorem kW {o:Obj} {ty:String} {n:Nat} {PP:Nat->Value->Prop} {St:Nat->Heap->Prop} (hh:A.handled=none) (hT:bA X.c sc' target tg one) (k1:Kp s.heap h1)
  (P:bz X A s Ex b xs sc' target tg one Q) (W:Walks X.P X.w A h1.objs.size [h1.objs.size] [h1.objs.size] n PP St) (hn:n=xs.length) (itv:∀ i d v h Y,xs[i]? = some d->PP i v->Den h Y d v) (st0:St 0 (h1.push o))
  (kn:∀ i h,St i h->Itr h h1.objs.size ty) (h1y:badIt.contains ty=false) (h2y:ty≠"code"):Q (.ref h1.objs.size) {s with heap:=h1.push o,toks:=tk1} :=
 P h1.objs.size _ _ (λZz Zz=>True) _ (h1.push o) tk1
  (Turns.of_walks hh hT W hn (λi h b st hb=>by rw [List.mem_singleton.mp hb];exact (kn i h st).knd h2y) (λZz Zz Zz Zz Zz Zz Zz=>trivial) (λi d h X v hx Zz hv=>itv i d v h X hx hv) λi h st=>let ⟨o,ho,hc,_⟩:=kn i h st;⟨ty,o,ho,hc,h1y⟩) st0 trivial (k1.trans (Kp.push h1 o)) (λb hb=>by rw [List.mem_singleton.mp hb];exact bg k1) λb hb=> .inl hb
theorem pG {a:Addr} {items:Array Value} (hh:A.handled=none) (hT:bA X.c sc' target tg one) (k1:Kp s.heap h1) (l:h1.PlainList a items) (r:DenL h1 Ex xs items.toList) (nx:b=false->¬ Ex a) (P:bz X A s Ex b xs sc' target tg one Q):wpAny (model X.P X.w) A (pyIter (.ref a)) Q E {s with heap:=h1,toks:=tk1}:=by
 refine wpAny_pyIter_list (PL.isList l) ?_
 have k2:=Kp.push h1 {cls:= .type "list_iterator",data:= .fields #[.ref a,.int 0 0]}
 have ha:=PL.lt l
 exact gE (s:=s) (tk1:=tk1) (ty:="list_iterator") (sy:="list") hh hT k1 ha r nx P (Walks.list hh h1.objs.size a (Nat.ne_of_lt ha) items) (am r) (λi d v h Y hx it hv=>ik it hx (Array.getElem?_toList.trans hv)) ⟨⟨_,Heap.get?_push_size _ rfl,rfl,rfl⟩,PL.isList (PL.at' l (k2.at a))⟩
  (λi h st=>⟨let ⟨o,ho,hc,hd⟩:=st.1;⟨o,ho,hc,_,hd⟩,let ⟨o,ho,hc,k,hd⟩:=st.2;⟨o,ho,hc,_,_,hd⟩⟩) (by decide) (by decide) (by decide)
theorem qZ {a:Addr} {items:Array Value} (hh:A.handled=none) (hT:bA X.c sc' target tg one) (k1:Kp s.heap h1) (l:TupAt h1 a items) (r:DenL h1 Ex xs items.toList) (nx:b=false->¬ Ex a) (P:bz X A s Ex b xs sc' target tg one Q):wpAny (model X.P X.w) A (pyIter (.ref a)) Q E {s with heap:=h1,toks:=tk1}:=by
 refine wpAny_pyIter_tuple (TupAt.isTup l) ?_
 have k2:=Kp.push h1 {cls:= .type "tuple_iterator",data:= .fields #[.ref a,.int 0 0]}
 have ha:=TupAt.lt l
 exact gE (s:=s) (tk1:=tk1) (ty:="tuple_iterator") (sy:="tuple") hh hT k1 ha r nx P (Walks.tuple hh h1.objs.size a (Nat.ne_of_lt ha) items) (am r) (λi d v h Y hx it hv=>ik it hx (Array.getElem?_toList.trans hv)) ⟨⟨_,Heap.get?_push_size _ rfl,rfl,rfl⟩,TupAt.isTup (TupAt.at' l (k2.at a))⟩
  (λi h st=>⟨let ⟨o,ho,hc,hd⟩:=st.1;⟨o,ho,hc,_,hd⟩,let ⟨o,ho,hc,k,hd⟩:=st.2;⟨o,ho,hc,_,_,hd⟩⟩) (by decide) (by decide) (by decide)
noncomputable def signs (x:Str):List D:=x.cps.toList.map λc=> .str ⟨#[c]⟩
theorem ma {x:Str} {i:Nat} {d:D} {v:Value} {h:Heap} {Y:Addr->Prop} (hx:(signs x)[i]? = some d) (hv:SignAt x i v):Den h Y d v:=by
 obtain ⟨c,u,hc,e⟩:=hv
 rw [signs,List.getElem?_map,Array.getElem?_toList,hc] at hx
 rw [<- sm hx];exact ⟨u,e⟩
theorem fN (x:Str):x.cps.size=(signs x).length:=by rw [signs,List.length_map,Array.length_toList]
theorem qY {x:Str} {t:Tok} (hh:A.handled=none) (hT:bA X.c sc' target tg one) (k1:Kp s.heap h1) (P:bz X A s Ex b (signs x) sc' target tg one Q):wpAny (model X.P X.w) A (pyIter (.str x t)) Q E {s with heap:=h1,toks:=tk1}:=by
 have key:=λty (W:Walks X.P X.w A h1.objs.size [h1.objs.size] [h1.objs.size] x.cps.size (SignAt x) (λi h=>h.IsStrIter h1.objs.size ty x t i)) h1y h2y =>
  kW (s:=s) (ty:=ty) (o:={cls:= .type ty,data:= .fields #[.str x t,.int 0 0]}) (tk1:=tk1) hh hT k1 P W (fN x) (λi d v h Y hx hv=>ma hx hv) ⟨_,Heap.get?_push_size _ rfl,rfl,rfl⟩ (λi h st=>let ⟨o,ho,hc,hd⟩:=st;⟨o,ho,hc,_,hd⟩) h1y h2y
 cases ha:x.cps.all (· < 128)
 ·exact wpAny_pyIter_wide ha (key "str_iterator" (Walks.strWide hh _ x t) (by decide) (by decide))
 ·exact wpAny_pyIter_ascii ha (key "str_ascii_iterator" (Walks.strAscii hh _ x t) (by decide) (by decide))
theorem kN {ds:List D} {a:Addr} {h:Heap} (hd:DenR h Ex b (.list ds) (.ref a)) (e:b=false):¬ Ex a:=by
 subst e
 obtain ⟨a',items',e,nx,Zz⟩:=hd
 rw [Value.ref.inj e];exact nx
theorem uk {d:D} {v:Value} (hh:A.handled=none) (hT:bA X.c sc' target tg one) (k1:Kp s.heap h1) (hd:DenR h1 Ex b d v) (hi:iterD d=some xs) (P:bz X A s Ex b xs sc' target tg one Q):wpAny (model X.P X.w) A (pyIter v) Q E {s with heap:=h1,toks:=tk1}:=by
 have top:=hd.top
 cases d with
 |list ds =>
  refine gd hi λZz hi=> ?_
  obtain rfl:=sm hi
  obtain ⟨a,items,rfl,l,r⟩:=top
  exact pG hh hT k1 l r (kN hd) P
 |tup ds =>
  refine gd hi λZz hi=> ?_
  obtain rfl:=sm hi
  obtain ⟨a,items,rfl,nx,l,r⟩:=top
  exact qZ hh hT k1 l r (λZz=>nx) P
 |str x =>
  refine gd hi λZz hi=> ?_
  obtain rfl:=sm hi
  obtain ⟨t,rfl⟩:=top
  exact qY hh hT k1 P
 |_=>exact ai hi
theorem evI_b {G:ag} {F:FEnv} {O:MEnv} {b:Bool} {it:T}:ev G F O (b || false) it=ev G F O b it:=by rw [Bool.or_false]
theorem ub {t:T} {e:Expr} {t2:T} (h:VS X sc t e):FS X sc .plain t t2 e:=λO p E b xs sc' target tg one Q hT he hx P =>
 ae (show (ev X.G X.F O (b || false) t).bind iterD=some xs from hx) λd hd hx=>h O p E b d _ (evI_b.symm.trans hd) λv h1 tk1 k1 d1 Zz=>uk p.ar.hd hT k1 d1 hx P
theorem fK {m n:Int} {xs:List D} {P:Prop} (h:rngD m n=some xs) (k:idxOk m=true->idxOk n=true->(n - m).toNat<=1048576->xs=rangeD m (n - m).toNat->P):P :=
 gd h λh e=>aa h λh h3=>aa h λh1 h2=>k h3 h2 (aF h1) (sm e).symm
theorem yS {m:Int} (h:m.natAbs<4611686018427387904) : -(2 ^ 62)<=m/\m<2 ^ 62:=by
 cases m with
 |ofNat k=>exact ⟨Int.le_trans (by decide) (Int.natCast_nonneg k),Int.ofNat_lt.mpr h⟩
 |negSucc k=>exact ⟨Int.neg_le_of_neg_le (Int.le_of_lt (Int.ofNat_lt.mpr h:((k+1:Nat):Int)<2 ^ 62)),Int.lt_trans (Int.negSucc_lt_zero k) (by decide)⟩
theorem fL {m n:Int} (h1:idxOk m=true) (h2:idxOk n=true):(-(2 ^ 62)<=m/\m<2 ^ 62)/\(-(2 ^ 62)<=n/\n<2 ^ 62)/\n - m<9223372036854775808/\Builtin.Range.rangeSize m n 1=((n - m).toNat:Int):=by
 have h1:=yS (of_decide_eq_true h1)
 have h2:=yS (of_decide_eq_true h2)
 refine ⟨h1,h2,Int.add_lt_add_of_lt_of_le h2.2 (Int.neg_le_of_neg_le h1.1),(rangeSize_one m n).trans ?_⟩
 by_cases h:m<n
 ·exact (if_pos h).trans (Int.toNat_of_nonneg (Int.sub_nonneg_of_le (Int.le_of_lt h))).symm
 ·exact (if_neg h).trans (congrArg Int.ofNat (Int.toNat_of_nonpos (Int.sub_nonpos_of_le (Int.not_lt.mp h)))).symm
theorem qX {k:IK} {ta tb it it2:T} {e:Expr} (h:m9 X sc ta tb e) (hk:∀ O b xs,evI X.G X.F O b k it it2=some xs->∃ m n,ev X.G X.F O true ta=some (.int m)/\ev X.G X.F O true tb=some (.int n)/\rngD m n=some xs):FS X sc k it it2 e:=λO p E b xs sc' target tg one Q hT he hx P=>by
 obtain ⟨m,m',hm,hm',hr⟩:=hk O b xs hx
 refine fK hr λi1 i2 Zz hxs=> ?_
 obtain ⟨b1,b2,b3,hsz⟩:=fL i1 i2
 refine h O p E m m' _ hm hm' λr h' tk t' u v k' hr Zz=> ?_
 refine wpAny_pyIter_range hr (small_one b1.1 b1.2 b2.1 b2.2) ?_
 rw [hsz]
 refine kW (s:=p.s) (ty:="range_iterator") (tk1:=tk) p.ar.hd hT k' P (Walks.range p.ar.hd h'.objs.size m 1 (m' - m).toNat) (by rw [hxs,bK]) (λi d v h Y hx hv=> ?_) ?_ (λi h st=>⟨_,st,rfl,_,rfl⟩) (by decide) (by decide)
 ·obtain ⟨u,e⟩:=hv
  have hi:=(List.getElem?_eq_some_iff.mp hx).1
  rw [hxs,bK] at hi
  rw [hxs,eR _ _ _ hi] at hx
  rw [<- sm hx]
  exact ⟨u,by rw [e,Int.mul_one]⟩
 ·have:=Heap.get?_push_size h' (o:={cls:= .type "range_iterator",data:= .fields #[rawInt m,rawInt ((m' - m).toNat:Int),rawInt 1]}) rfl
  simpa using this
theorem eE:bootBuiltins rangeS=some (.type "range"):=by decide +kernel
theorem qu:bootBuiltins enumS=some (.type "enumerate"):=by decide +kernel
theorem tG:bootBuiltins revS=some (.type "reversed"):=by decide +kernel
theorem kH:bootBuiltins listS=some (.type "list"):=by decide +kernel
theorem ee {α:Type} {f:Int->Option α} {r:α} {o:Option D} {P:Prop} (h:(o.bind λd=>d.int?.bind f)=some r) (k:∀ i,o=some (.int i)->f i=some r->P):P :=
 ae h λd hd h=>ae h λi hi h=>aS (P:=λd=>o=some d->P) hi (λhd=>k i hd h) hd
theorem iH {ta:T} {es:List Expr} {np pos:Pos} (B:X.Ok mg mb) (h:AS X sc (.cons ta .nil) es) (hs:isGlob sc rangeS=true):m9 X sc (.cst (.int 0)) ta (.Call (.Name rangeS np) es [] pos):=λO p E m m' Q hm hm' P=>by
 obtain rfl:=BN (sm hm)
 refine wpAny_Call_ofName (cW p B hs (by decide) (by decide) eE ?_)
 refine PyProof.Rows.callWith_type (h.1 p.env pos).1 (bv h p (b:=true) (ds:=[.int m']) (ad hm' rfl) λvs h' tk k' dl=> ?_)
 obtain ⟨v,rfl,t,e⟩:=dl.one
 subst e
 refine call_range_1 ?_
 have k2:=Kp.push h' {cls:= .type "range",data:= .fields #[.int 0 tk,.int m' t,.int 1 (tk+1)]}
 exact P h'.objs.size _ _ _ _ _ (k'.trans k2) (IsRange.new h' 0 m' 1 tk t (tk+1)) (bg k')
theorem iI {ta tb:T} {es:List Expr} {np pos:Pos} (B:X.Ok mg mb) (h:AS X sc (.cons ta (.cons tb .nil)) es) (hs:isGlob sc rangeS=true):m9 X sc ta tb (.Call (.Name rangeS np) es [] pos):=λO p E m m' Q hm hm' P=>by
 refine wpAny_Call_ofName (cW p B hs (by decide) (by decide) eE ?_)
 refine PyProof.Rows.callWith_type (h.1 p.env pos).1 (bv h p (b:=true) (ds:=[.int m,.int m']) (ad hm (ad (ad hm' rfl) rfl)) λvs h' tk k' dl=> ?_)
 obtain ⟨v,u,rfl,⟨t,e⟩,⟨t',e'⟩⟩:=dl.two
 subst e e'
 refine call_range_2 ?_
 have k2:=Kp.push h' {cls:= .type "range",data:= .fields #[.int m t,.int m' t',.int 1 tk]}
 exact P h'.objs.size _ _ _ _ _ (k'.trans k2) (IsRange.new h' m m' 1 t t' tk) (bg k')
theorem qV {ta t2:T} {e:Expr} (h:m9 X sc (.cst (.int 0)) ta e):FS X sc .range1 ta t2 e:=qX h λO b xs hx=>by
 rw [evI,show (b || isRange .range1)=true from Bool.or_true b] at hx
 exact ee hx λn hn hx=>⟨0,n,rfl,hn,hx⟩
theorem qW {ta tb:T} {e:Expr} (h:m9 X sc ta tb e):FS X sc .range2 ta tb e:=qX h λO b xs hx=>by
 rw [evI,show (b || isRange .range2)=true from Bool.or_true b] at hx
 exact ee hx λm hm hx=>ee hx λn hn hx=>⟨m,n,hm,hn,hx⟩
theorem zs {ta t2:T} {es:List Expr} {np pos:Pos} (B:X.Ok mg mb) (h:AS X sc (.cons ta .nil) es) (hs:isGlob sc revS=true):FS X sc .rev ta t2 (.Call (.Name revS np) es [] pos):=λO p E b xs sc' target tg one Q hT he hx P=>by
 refine ae (show (ev X.G X.F O (b || false) ta).bind _=some xs from hx) λd hd hx=>ae hx λds hds hx=>gd hx λZz hx=> ?_
 obtain rfl:=sm hx
 refine wpAny_Call_ofName (cW p B hs (by decide) (by decide) tG ?_)
 refine PyProof.Rows.callWith_type (h.1 p.env pos).1 (bv h p (b:=b) (ds:=[d]) (ad (evI_b.symm.trans hd) rfl) λvs h1 tk k1 dl=> ?_)
 obtain ⟨v,rfl,dv⟩:=dl.one
 revert dv
 refine bH (P:=λd=>DenR h1 p.Ex b d v->_) hds λdv=> ?_
 obtain ⟨a,items,rfl,l,r⟩:=dv.top
 refine call_reversed_list (PL.isList l) ?_
 have k2:=Kp.push h1 (revObj a ((items.size:Int) - 1))
 have z:=am r
 have ha:=PL.lt l
 have hrev:(h1.push (revObj a ((items.size:Int) - 1))).IsRevIter h1.objs.size a ((items.size:Int) - 1):=⟨_,Heap.get?_push_size _ rfl,rfl,rfl⟩
 refine wpAny_pyIter_revIter hrev ?_
 refine gE (s:=p.s) (tk1:=tk) (ty:="list_reverseiterator") (sy:="list") p.ar.hd hT k1 ha r (kN dv) P (Walks.listRev p.ar.hd h1.objs.size a (Nat.ne_of_lt ha) items) (z.trans (List.length_reverse).symm) (λi d v h Y hx it hv=> ?_) ⟨Nat.zero_le _,by simpa using hrev,PL.isList (PL.at' l (k2.at a))⟩
  (λi h st=>⟨let ⟨o,ho,hc,hd⟩:=st.2.1;⟨o,ho,hc,_,hd⟩,let ⟨o,ho,hc,k,hd⟩:=st.2.2;⟨o,ho,hc,_,_,hd⟩⟩) (by decide) (by decide) (by decide)
 have hi:=(List.getElem?_eq_some_iff.mp hx).1
 rw [List.length_reverse] at hi
 rw [List.getElem?_reverse hi] at hx
 exact ik it hx (by rw [Array.getElem?_toList,<- z];exact hv)
end
end Mine
namespace Mine
variable [Jt:Tabs] [Jf:Frk]
open AutoSeq1 (wpAny_loadPart')
section
variable {prog:Program} {w:World} {A:Around} {E:Value->Shared->Prop} {s:Shared}
theorem gm {I t:Addr} {i:Nat} {items:Array Value} {x:Value} {Q:Value->Shared->Prop} (st:s.heap.IsTupleIter I t i) (tt:s.heap.IsTuple t items) (hx:items[i]? = some x)
  (hQ:∀ h',h'.IsTupleIter I t (i+1)->Heap.SameBut I s.heap h'->Q x {s with heap:=h'}):wpAny (model prog w) A (Builtin.SmallTypes.nextOf (.ref I)) Q E s:=by
 have hty:=st.typeIs
 obtain ⟨o,ho,hc,hd⟩:=st
 obtain ⟨ot,hot,Zz,k,hdt⟩:=tt
 unfold Builtin.SmallTypes.nextOf
 refine wpAny_bind (wpAny_callSpecial?_slot (name:=Str.ofString "__next__") hty F.slot_tuple_iterator_next
  (wpAny_call_entry F.slot_tuple_iterator_next hty F.entry_tuple_iterator_next ?_ (F.args_tuple_iterator_next_1 _)))
 show wpAny _ _ (field (.ref I) 0 >>= _) _ _ s
 refine wpAny_bind (wpAny_field ho hd (x:= .ref t) rfl ?_)
 show wpAny _ _ (if (Value.ref t==Value.none)=true then _ else _) _ _ s
 rw [if_neg (show ¬ ((Value.ref t==Value.none)=true) from Bool.false_ne_true)]
 show wpAny _ _ (field (.ref I) 1 >>= _) _ _ s
 refine wpAny_bind (wpAny_field ho hd (x:= .int i 0) rfl ?_)
 show wpAny _ _ (seqItems? (.ref t) >>= _) _ _ s
 refine wpAny_bind (wpAny_seqItems hot hdt ?_)
 simp only [Int.toNat_natCast,hx]
 refine wpAny_bind (wpAny_setField ho hd (by simp) (wpAny_pure ⟨x,rfl,wpAny_pure (hQ _ ⟨_,Heap.get?_update_self _ ho (Obj.isFreed_of_fields (Obj.data_mapFields hd _)),(Obj.cls_mapFields ..).trans hc,?_⟩ (Heap.SameBut.update ..))⟩))
 rw [Obj.data_mapFields hd];simp [rawInt]
theorem gR {I t:Addr} {i:Nat} {items:Array Value} {Q:Value->Shared->Prop} (hh:A.handled=none) (st:s.heap.IsTupleIter I t i) (tt:s.heap.IsTuple t items) (hx:items[i]? = none)
  (hE:∀ h' e,Heap.ExtBut I s.heap h'->(∃ o,h'.get? e=some o/\o.cls = .type "StopIteration")->E (.ref e) {s with heap:=h'}):wpAny (model prog w) A (Builtin.SmallTypes.nextOf (.ref I)) Q E s:=by
 have hty:=st.typeIs
 obtain ⟨o,ho,hc,hd⟩:=st
 obtain ⟨ot,hot,Zz,k,hdt⟩:=tt
 unfold Builtin.SmallTypes.nextOf
 refine wpAny_bind (wpAny_callSpecial?_slot (name:=Str.ofString "__next__") hty F.slot_tuple_iterator_next
  (wpAny_call_entry F.slot_tuple_iterator_next hty F.entry_tuple_iterator_next ?_ (F.args_tuple_iterator_next_1 _)))
 show wpAny _ _ (field (.ref I) 0 >>= _) _ _ s
 refine wpAny_bind (wpAny_field ho hd (x:= .ref t) rfl ?_)
 show wpAny _ _ (if (Value.ref t==Value.none)=true then _ else _) _ _ s
 rw [if_neg (show ¬ ((Value.ref t==Value.none)=true) from Bool.false_ne_true)]
 show wpAny _ _ (field (.ref I) 1 >>= _) _ _ s
 refine wpAny_bind (wpAny_field ho hd (x:= .int i 0) rfl ?_)
 show wpAny _ _ (seqItems? (.ref t) >>= _) _ _ s
 refine wpAny_bind (wpAny_seqItems hot hdt ?_)
 simp only [Int.toNat_natCast,hx]
 refine wpAny_bind (wpAny_rule (wpAny_bind (wpAny_setField ho hd (by simp) ?_)))
 show wpAny _ _ (newExc (.type "StopIteration") [] >>= _) _ _ _
 refine wpAny_bind ?_
 simp only [newExc,newTuple]
 refine wpAny_bind (wpAny_newObj_type ?_ (by size_fits))
 refine wpAny_bind (m:=firstArgMember _ _) (wpAny_of_eq (a:=Value.none) (by first |rfl |(simp only [firstArgMember];rfl)) ?_)
 refine wpAny_newObj_type ?_ (by size_fits)
 simp only [raiseNew]
 refine wpAny_bind (wpAny_handled ?_)
 first |rw [show A.in1.handled=none from hh] |rw [hh]
 refine wpAny_bind (wpAny_pure (wpAny_throw ?_))
 exact hE _ _ (((Heap.SameBut.update ..).extBut.push _).push _) ⟨_,Heap.get?_push_size _ rfl,rfl⟩
end
theorem Draws.tuple {prog:Program} {w:World} {A:Around} (hh:A.handled=none) (I t:Addr) (hne:t≠I) (items:Array Value) :
  Draws prog w A I [I,t] items.size (λi v=>items[i]? = some v) (λi h=>h.IsTupleIter I t i/\h.IsTuple t items) where
 live:=λZz Zz st=>let ⟨o,ho,_⟩:=st.1;⟨o,ho⟩
 frame:=λZz Zz Zz st hk=>⟨let ⟨o,ho,r⟩:=st.1;⟨o,hk I (by simp) o ho,r⟩,st.2.at λo e=>hk t (by simp) o e⟩
 item:=λi s Q E hi st hQ=>by
  refine gm st.1 st.2 (x:=items[i]) (by simp [hi]) λh' st' sb=> ?_
  exact hQ _ h' s.toks (by simp [hi]) ⟨st',st.2.extBut sb.extBut hne⟩ sb
 done:=λs Q E st hE=>gR hh st.1 st.2 (by simp) hE
set_option maxRecDepth 100000 in
set_option maxHeartbeats 1000000 in
theorem gP (t:Addr) (items:Array Value) (n:Nat) :
  Meets (Builtin.«enumerate.__new__» ⟨[.type "enumerate",.ref t],[]⟩) (λZz R s=>s.heap.get? t=some {cls:= .type "tuple",data:= .seq items n} /\
   R (.ok (.ret (.ref (s.heap.push {cls:= .type "tuple_iterator",data:= .fields #[.ref t,.int 0 0]}).objs.size)))
    {s with heap:=(s.heap.push {cls:= .type "tuple_iterator",data:= .fields #[.ref t,.int 0 0]}).push {cls:= .type "enumerate",data:= .fields #[.none,.bool false,.ref s.heap.objs.size,rawInt 0,.none,.none]}}) :=
 .of_wp λprog w A R s h=>by
  obtain ⟨hp,g,d,tk,os⟩:=s;obtain ⟨hl,h⟩:=h
  have hsub:=sub_enumerate
  have hL:Heap.IsTuple (Shared.heap ⟨hp,g,d,tk,os⟩) t items:=⟨_,hl,rfl,n,rfl⟩
  wp_walk using wpAny_loadPart' hl
  refine wpAny_stack_any λst=>wpAny_pure ?_
  split
  ·rename_i c _ _ _ _ _
   cases (c==Value.type "enumerate")
   ·wp_walk using wpAny_loadPart' hl,wpAny_pyIter_tuple hL
    exact ⟨_,rfl,h⟩
   ·wp_walk using wpAny_loadPart' hl,wpAny_pyIter_tuple hL
    exact ⟨_,rfl,h⟩
  ·wp_walk using wpAny_loadPart' hl,wpAny_pyIter_tuple hL
   exact ⟨_,rfl,h⟩
section
variable {prog:Program} {w:World} {A:Around} {E:Value->Shared->Prop} {s:Shared}
theorem ie {t:Addr} {items:Array Value} {Q:Value->Shared->Prop} (hL:TupAt s.heap t items)
  (h:∀ h',IsEnum h' (s.heap.objs.size+1) s.heap.objs.size 0 .none->h'.IsTupleIter s.heap.objs.size t 0->h'.objs.size=s.heap.objs.size+2->Kp s.heap h'->Q (.ref (s.heap.objs.size+1)) {s with heap:=h'}) :
  wpAny (model prog w) A (call (.type "enumerate") [.ref t]) Q E s:=by
 obtain ⟨n,hl⟩:=hL
 refine callType_new F.called_enumerate (by decide) (F.typeCall_enumerate_1 _) (F.newCall_enumerate_1 _) (λobj=>F.args_object_init_2 obj _) F.entry_enumerate_new (gP t items n) ⟨hl,?_⟩
 have z:(s.heap.push {cls:= .type "tuple_iterator",data:= .fields #[.ref t,.int 0 0]}).objs.size=s.heap.objs.size+1:=Heap.size_push ..
 show _/\_
 rw [z]
 have he:=Heap.get?_push_size (s.heap.push {cls:= .type "tuple_iterator",data:= .fields #[.ref t,.int 0 0]}) (o:={cls:= .type "enumerate",data:= .fields #[.none,.bool false,.ref s.heap.objs.size,rawInt 0,.none,.none]}) rfl
 rw [z] at he
 refine ⟨⟨_,he,rfl⟩,h _ he ⟨_,Heap.get?_push_of_some _ (Heap.get?_push_size _ rfl),rfl,rfl⟩ (by rw [Heap.size_push,z]) (.of λb o x=>Heap.get?_push_of_some _ (Heap.get?_push_of_some _ x))⟩
end
theorem jE:∀ {ys:List D} {k i:Nat} {d:D},(enumD k ys)[i]? = some d->∃ y,ys[i]? = some y/\d = .tup [.int ((k+i:Nat):Int),y]
 |y :: ys,k,0,d,h=>⟨y,rfl,(sm h).symm⟩
 |y :: ys,k,i+1,d,h=>by
  obtain ⟨y',h1,h2⟩:=jE (ys:=ys) (k:=k+1) h
  exact ⟨y',h1,by rw [h2,Nat.succ_add_eq_add_succ]⟩
theorem fq:∀ (ys:List D) (k:Nat),(enumD k ys).length=ys.length
 | [],_=>rfl
 |y :: ys,k=>congrArg (· + 1) (fq ys _)
section
variable {prog:Program} {w:World} {A:Around} {c:Cx} {sc:Scope} {target:Expr} {tg:List Nat}
theorem Turns.enum {e it:Addr} {fp:List Addr} {ys:List D} {n:Nat} {P:Nat->Value->Prop} {St:Nat->Heap->Prop} {It:Heap->(Addr->Prop)->Prop} (hh:A.handled=none) (hT:bA c sc target tg false)
  (Dr:Draws prog w A.in1 it fp n P St) (hei:e≠it) (hef:e∉fp) (hif:it∈fp) (hn:n=ys.length)
  (kinds:∀ i h b,St i h->b∈fp->Knd h b (b≠it))
  (items:∀ h h' X X',It h X->(∀ b o,¬ X b->NT b o->h.get? b=some o->h'.get? b=some o)->(∀ b,Al h b->¬ X b->¬ X' b)->It h' X')
  (itd:∀ i d h X v,ys[i]? = some d->It h X->P i v->Den h X d v) :
  Turns prog w A c sc target tg false e (enumD 0 ys) (· ∈ e :: fp) (· ∈ [e,it]) It (λi h=>(∃ old,IsEnum h e it (i:Int) old)/\St i h):=by
 have W:=WalksT.enumerateD Dr e hei hef hif
 have kk:∀ (i:Nat) h b,((∃ old,IsEnum h e it (i:Int) old)/\St i h)->b∈e :: fp->Knd h b (¬ b∈[e,it]):=by
  rintro i h b ⟨⟨old,he⟩,st⟩ hb
  by_cases hbe:b=e
  ·rw [hbe];exact ⟨_,he,⟨_,rfl,by decide⟩,.inl ⟨_,rfl⟩⟩
  ·obtain ⟨o,ho,hT',hf⟩:=kinds i h b st ((List.mem_cons.mp hb).resolve_left hbe)
   exact ⟨o,ho,hT',hf.imp id λq=>⟨λm=>(List.mem_cons.mp m).elim hbe λm=>q.1 (List.mem_singleton.mp m),q.2⟩⟩
 refine ⟨λi h h' st hk=>W.frame i h h' st λb hb o e=>hk b o hb e,kk,λb hb=>W.sub b hb,items,?_,λs Q E st h=> ?_,λi s Q E st h=>W.self i s Q E st h⟩
 ·intro i d s env Ex ow O O' Q E E' hsc hx st hit hwx R hb h
  obtain ⟨y,hy,rfl⟩:=jE hx
  have hi:i<n:=by rw [hn];exact (List.getElem?_eq_some_iff.mp hy).1
  refine W.item i s _ E hi st λT vals h1 tk1 hP hsz hT1 hM hk1=>⟨_,rfl,?_⟩
  obtain ⟨t,x,hPx,rfl⟩:=hP
  obtain ⟨Zz,es,k,p,rfl,ht⟩:=hT.resolve_left λq=>nomatch q.1
  refine W.go es k p i T {s with heap:=h1,toks:=tk1} _ _ hM λh2 st2 hk2=> ?_
  have kn:=λb hb=>kk _ _ b st (W.sub b hb)
  have kw:∀ b o,¬ b∈[e,it]->s.heap.get? b=some o->h2.get? b=some o:=λb o nb q=>hk2 b o nb (hk1 b o nb q)
  have R2:RR env c.tbl Ex ow O h2:=R.mutl (Wr:=(· ∈ [e,it])) kw hwx (λb hb=>Knd.fld (kn b hb) λq=>q hb) λb hb=>let ⟨o,ho,_⟩:=kk _ _ b st2 (W.sub b hb);⟨o,ho⟩
  have it2:It h2 Ex:=items _ _ _ _ hit (λb o n Zz e=>kw b o (λq=>n (hwx b q)) e) (λZz Zz n=>n)
  have tup2:h2.IsTuple T #[.int i t,x]:=hT1.at λo e=>hk2 T o (W.apart i T h1 hM) e
  refine cX (s:={s with heap:=h2,toks:=tk1}) hh hsc ht R2 tup2 (ds:=[.int ((0+i:Nat):Int),y]) ⟨_,_,rfl,⟨t,by rw [Nat.zero_add]⟩,_,_,rfl,itd i y h2 Ex x hy it2 hPx,rfl⟩ hb λh3 tk3 R3 kf=> ?_
  refine h h3 tk3 (W.frame _ _ _ st2 λb hb o e=> ?_) (items _ _ _ _ it2 (kf.notex R2.own) (λZz Zz n=>n)) R3 (λb o n1 n2 n3 e=>kf.kp b o n2 n3 (kw b o n1 e)) ((pw kn kw).trans kf.cd)
  obtain ⟨o',ho',hf⟩:=Knd.or (kk _ _ b st2 hb)
  obtain ⟨f1,f2⟩:=R2.frame ho' hf
  exact (kf.kp b o f1 (λn Zz=>f2 n) e).ob (Knd.notab (kk _ _ b st2 hb) e)
 ·rw [fq,<- hn] at st
  exact W.done s _ E st λh' tk hk=>⟨rfl,h h' tk hk⟩
end
section
variable {X:Wd} {sc:Scope} {mg mb:Str->Option Value} {A:Around} {E:Value->Shared->Prop} {s:Shared} {Ex:Addr->Prop} {b:Bool} {ys:List D} {sc':Scope} {target:Expr} {tg:List Nat} {Q:Value->Shared->Prop} {h1 h2:Heap} {tk1:Nat}
theorem jn (k1:Kp s.heap h1):∀ b,b∈[h1.objs.size+1,h1.objs.size]->s.heap.get? b=none/\h1.get? b=none:=λb hb=>by
 rcases List.mem_cons.mp hb with rfl |hb
 ·exact pF k1
 ·rw [List.mem_singleton.mp hb];exact ⟨bg k1,aI _⟩
theorem kR {a:Addr} {items:Array Value} {ty sy:String} {St:Nat->Heap->Prop} (hh:A.handled=none) (hT:bA X.c sc' target tg false) (k1:Kp s.heap h1) (ha:a<h1.objs.size) (r:DenL h1 Ex ys items.toList) (nx:b=false->¬ Ex a)
  (P:bz X A s Ex b (enumD 0 ys) sc' target tg false Q) (k2:Kp h1 h2) (he2:IsEnum h2 (h1.objs.size+1) h1.objs.size 0 .none) (Dr:Draws X.P X.w A.in1 h1.objs.size [h1.objs.size,a] items.size (λi v=>items[i]? = some v) St) (st0:St 0 h2)
  (kn:∀ i h,St i h->Itr h h1.objs.size ty/\Sqn h a sy) (h2y:ty≠"code") (h3y:sy≠"code"):wpAny (model X.P X.w) A (pyIter (.ref (h1.objs.size+1))) Q E {s with heap:=h2,toks:=tk1}:=by
 have hna:h1.objs.size+1≠a:=λe=>absurd (e▸ha) (Nat.not_lt.mpr (Nat.le_succ _))
 refine wpAny_pyIter_enum he2 ?_
 refine P (h1.objs.size+1) _ _ (λh X=>DenL h X ys items.toList) _ h2 tk1
  (Turns.enum hh hT Dr (Nat.succ_ne_self _) (λm=>(List.mem_cons.mp m).elim (Nat.succ_ne_self _) λm=>hna (List.mem_singleton.mp m)) List.mem_cons_self (am r) (λi h b st hb=> ?_) (λh h' X X' x e1 e2=>DenL.mono e1 e2 _ _ x) (λi d h X v hx it hv=>ik it hx (Array.getElem?_toList.trans hv))) ⟨⟨_,he2⟩,st0⟩ (r.grow k2 λb hb=>(jn k1 b hb).2) (k1.trans k2) (λb hb=>(jn k1 b hb).1) λb' hb=> ?_
 ·rcases List.mem_cons.mp hb with rfl |hb
  ·exact (kn i h st).1.knd h2y
  ·rw [List.mem_singleton.mp hb]
   exact (kn i h st).2.knd h3y (Nat.ne_of_lt ha)
 ·rcases List.mem_cons.mp hb with rfl |hb
  ·exact .inl List.mem_cons_self
  ·rcases List.mem_cons.mp hb with rfl |hb
   ·exact .inl (List.mem_cons_of_mem _ List.mem_cons_self)
   ·rw [List.mem_singleton.mp hb];exact .inr nx
theorem xm {ta t2:T} {es:List Expr} {np pos:Pos} (B:X.Ok mg mb) (h:AS X sc (.cons ta .nil) es) (hs:isGlob sc enumS=true):FS X sc .enum ta t2 (.Call (.Name enumS np) es [] pos):=λO p E b xs sc' target tg one Q hT he hx P=>by
 cases one with
 |true=>exact nomatch he
 |false =>
 refine ae (show (ev X.G X.F O (b || false) ta).bind _=some xs from hx) λd hd hx=>ay hx λys hys e0=> ?_
 subst e0
 refine wpAny_Call_ofName (cW p B hs (by decide) (by decide) qu ?_)
 refine PyProof.Rows.callWith_type (h.1 p.env pos).1 (bv h p (b:=b) (ds:=[d]) (ad (evI_b.symm.trans hd) rfl) λvs h1 tk k1 dl=> ?_)
 obtain ⟨v,rfl,dv⟩:=dl.one
 have top:=dv.top
 cases d with
 |list ds =>
  refine gd hys λZz hys=> ?_
  obtain rfl:=sm hys
  obtain ⟨a,items,rfl,l,r⟩:=top
  refine call_enumerate_list (PL.isList l) λh2 he2 hit2 hz2 k2=> ?_
  have ha:=PL.lt l
  have k2:Kp h1 h2:= .of k2
  exact kR (s:=p.s) (ty:="list_iterator") (sy:="list") p.ar.hd hT k1 ha r (kN dv) P k2 he2 (Draws.list (A:=p.A.in1) p.ar.hd h1.objs.size a (Nat.ne_of_lt ha) items) ⟨hit2,PL.isList (PL.at' l (k2.at a))⟩
   (λi h st=>⟨let ⟨o,ho,hc,hd⟩:=st.1;⟨o,ho,hc,_,hd⟩,let ⟨o,ho,hc,k,hd⟩:=st.2;⟨o,ho,hc,_,_,hd⟩⟩) (by decide) (by decide)
 |tup ds =>
  refine gd hys λZz hys=> ?_
  obtain rfl:=sm hys
  obtain ⟨a,items,rfl,nx,l,r⟩:=top
  refine ie l λh2 he2 hit2 hz2 k2=> ?_
  have ha:=TupAt.lt l
  exact kR (s:=p.s) (ty:="tuple_iterator") (sy:="tuple") p.ar.hd hT k1 ha r (λZz=>nx) P k2 he2 (Draws.tuple (A:=p.A.in1) p.ar.hd h1.objs.size a (Nat.ne_of_lt ha) items) ⟨hit2,TupAt.isTup (TupAt.at' l (Kp.at k2 a))⟩
   (λi h st=>⟨let ⟨o,ho,hc,hd⟩:=st.1;⟨o,ho,hc,_,hd⟩,let ⟨o,ho,hc,k,hd⟩:=st.2;⟨o,ho,hc,_,_,hd⟩⟩) (by decide) (by decide)
 |str x =>
  refine gd hys λZz hys=> ?_
  obtain rfl:=sm hys
  obtain ⟨t,rfl⟩:=top
  refine call_enumerate_str λh2 he2 hit2 hz2 k2=> ?_
  have k2:Kp h1 h2:= .of k2
  refine wpAny_pyIter_enum he2 ?_
  have key:=λty (hty:ty≠"code") (Dr:Draws X.P X.w p.A.in1 h1.objs.size [h1.objs.size] x.cps.size (SignAt x) (λi h=>h.IsStrIter h1.objs.size ty x t i)) (st0:h2.IsStrIter h1.objs.size ty x t 0) =>
   P (h1.objs.size+1) _ _ (λZz Zz=>True) _ h2 tk
    (Turns.enum p.ar.hd hT Dr (Nat.succ_ne_self _) (λm=>Nat.succ_ne_self _ (List.mem_singleton.mp m)) List.mem_cons_self (fN x) (λi h b st hb=>by rw [List.mem_singleton.mp hb];exact (show Itr h h1.objs.size ty from let ⟨o,ho,hc,hd⟩:=st;⟨o,ho,hc,_,hd⟩).knd hty) (λZz Zz Zz Zz Zz Zz Zz=>trivial) (λi d h X v hx Zz hv=>ma hx hv)) ⟨⟨_,he2⟩,st0⟩ trivial (k1.trans k2) (λb hb=>(jn k1 b hb).1) (λb hb=> .inl hb)
  cases hq:x.cps.all (· < 128)
  ·exact key "str_iterator" (by decide) (Draws.strWide (A:=p.A.in1) p.ar.hd _ x t) (by simpa [strIterType,hq] using hit2)
  ·exact key "str_ascii_iterator" (by decide) (Draws.strAscii (A:=p.A.in1) p.ar.hd _ x t) (by simpa [strIterType,hq] using hit2)
 |_=>exact ai hys
end
end Mine
namespace Mine
variable [Jt:Tabs] [Jf:Frk]
noncomputable abbrev tests (ifs:List Expr) (env:Env):Sem Bool:=forIn ifs true λc r=>if r=true then do let ok <- isTrue c env (eval c env);pure (ForInStep.yield ok) else pure (ForInStep.yield r)
def fS (X:Wd) (sc:Scope) (t:T) (ifs:List Expr):Prop:=∀ (O:MEnv) (p:At X sc O) (E:Value->Shared->Prop) (d:D) (r:Bool) (Q:Bool->Shared->Prop),ev X.G X.F O true t=some d->truthy d=some r ->
 (∀ h' tk,Kp p.s.heap h'->Q r {p.s with heap:=h',toks:=tk})->wpAny (model X.P X.w) p.A (tests ifs p.env) Q E p.s
theorem ij {f:D->Option (Option D)}:∀ {xs all:List D},compL f xs=some all->∀ {i:Nat} {d:D},xs[i]? = some d->∀ {outs:List D},compL f (xs.take i)=some outs->∃ r,f d=some r/\compL f (xs.take (i+1))=some (outs++r.toList)
 |x :: xs,all,h,0,d,hi,outs,ho=>ae h λr h1 h2=>by
  obtain rfl:=sm hi
  obtain rfl:=sm ho
  exact ⟨r,h1,ad h1 (by cases r<;>rfl)⟩
 |x :: xs,all,h,i+1,d,hi,outs,ho=>ae h λr h1 h2=>ay h2 λys h2 Zz=>by
  refine ae ho λr' h1' ho=>ay ho λo hq e=> ?_
  obtain rfl:=sm (h1.symm.trans h1')
  obtain ⟨q,e1,e2⟩:=ij h2 (i:=i) hi hq
  refine ⟨q,e1,ad h1 (aQ e2 ?_)⟩
  rw [<- e]
  cases r<;>rfl
section
variable {prog:Program} {w:World} {A:Around} {R:Result->Shared->Prop} {s:Shared}
theorem qB {elt target iter:Expr} {ifs:List Expr} {scope:Scope} {pos:Pos} {it acc:Value} {env:Env} (I:Nat->Shared->Prop)
  (turn:∀ n s,I n s->wpAny (model prog w) A (pyNext it) (λr s₁=>(r=none/\R (.ok .next) s₁)\/∃ v,r=some v/\wpAny (model prog w) A (letOwnedTupleGo target it v) (λZz s₁' =>
    wpAny (model prog w) A (assign target env v) (λZz s₂ =>
     wpAny (model prog w) A (tests ifs env) (λok s₃ =>
      if ok=true then wpAny (model prog w) A (eval elt env) (λx s₄ =>
       wpAny (model prog w) A (call (.builtin "list.append") [acc,x]) (λZz s₅=>∃ m,m<n/\I m s₅) (notedBy (model prog w) A env λe s'=>R (.error e) s') s₄) (notedBy (model prog w) A env λe s'=>R (.error e) s') s₃
      else ∃ m,m<n/\I m s₃) (notedBy (model prog w) A env λe s'=>R (.error e) s') s₂) (notedBy (model prog w) A env λe s'=>R (.error e) s') s₁') (notedBy (model prog w) A env λe s'=>R (.error e) s') s₁) (notedBy (model prog w) A env λe s'=>R (.error e) s') s)
  (n:Nat) (h:I n s):codeAny (model prog w) A (.compLoop (.ListComp elt [⟨target,iter,ifs,0⟩] scope pos) 0 it acc env) R s:=by
 refine codeAny_loop rfl I (λn s hI=> ?_) n h
 show wpAny _ A ((compTurn (.ListComp elt [⟨target,iter,ifs,0⟩] scope pos) 0 it acc env).onRaise (λx=>do noteFrame x env;theTreesLotGoes x)) _ _ s
 refine wpAny_noted ?_
 rw [compTurn_list]
 refine wpAny_bind (wpAny_standAt (wpAny_bind (wpAny_mono (turn n s hI) (λr s₁ h₁=> ?_) λZz Zz h'=>h')))
 rcases h₁ with ⟨rfl,h₁⟩ |⟨v,rfl,h₁⟩
 ·exact wpAny_pure h₁
 ·refine wpAny_bind (wpAny_mono h₁ (λZz s₁' h₁'=> ?_) λZz Zz h'=>h')
  refine wpAny_bind (wpAny_mono h₁' (λZz s₂ h₂=>wpAny_bind (wpAny_mono h₂ (λok s₃ h₃=> ?_) λZz Zz h'=>h')) λZz Zz h'=>h')
  cases ok with
  |false=>exact wpAny_pure ⟨rfl,h₃⟩
  |true =>
   exact wpAny_bind (wpAny_bind (wpAny_mono h₃ (λx s₄ h₄=>wpAny_bind (wpAny_mono h₄ (λZz s₅ h₅=>wpAny_pure (wpAny_pure ⟨rfl,h₅⟩)) λZz Zz h'=>h')) λZz Zz h'=>h'))
end
theorem po {c:Cx} {sc':Scope} {target:Expr} {tg:List Nat} {one:Bool} {O O':MEnv} {d:D} (nd:c.tbl.Nodup) (hT:bA c sc' target tg one) (hb:bindT (clearE O (locsOf c sc')) tg one d=some O') :
  ∀ j e,getE (clearE O (locsOf c sc')) j=some e->getE O' j=some e:=by
 have locs:∀ x i,storable sc' x=true->c.tbl[i]? = some x->i∈locsOf c sc':=λx i hs hi=>gQ (gq nd hi) ((bW hs).imp mem_of_lookup mem_of_lookup)
 have one_step:∀ (ρ:MEnv) i d',i∈locsOf c sc'->(∀ j e,getE (clearE O (locsOf c sc')) j=some e->getE ρ j=some e)->∀ j e,getE (clearE O (locsOf c sc')) j=some e->getE (setE ρ i d' false) j=some e:=by
  intro ρ i d' hi hρ j e hj
  have hn:=(cN hj).1
  unfold setE
  rw [gI,if_neg (λ(q:i=j/\i<ρ.length)=>hn (q.1▸hi))]
  exact hρ j e hj
 rcases hT with ⟨rfl,x,p,i,rfl,rfl,hs,hi⟩ |⟨rfl,es,k,p,rfl,ht⟩
 ·obtain rfl:=sm hb
  exact one_step _ i d (locs x i hs hi) λZz Zz e=>e
 ·refine ae hb λds Zz hb=> ?_
  have go:∀ (es:List Expr) (is:List Nat),Tgs c sc' es is->∀ (ds:List D) (ρ:MEnv),setAll ρ is ds=some O'->(∀ j e,getE (clearE O (locsOf c sc')) j=some e->getE ρ j=some e)->∀ j e,getE (clearE O (locsOf c sc')) j=some e->getE O' j=some e:=by
   intro es is ht
   induction ht with
   |nil =>
    intro ds ρ hs hρ
    cases ds with
    |nil=>exact sm hs▸hρ
    |cons _ _=>exact ai hs
   |cons h1 h2 _ ih =>
    intro ds ρ hs hρ
    cases ds with
    |nil=>exact ai hs
    |cons d ds=>exact ih ds _ hs (one_step ρ _ d (locs _ _ h1 h2) hρ)
  exact go es tg ht ds _ hb λZz Zz e=>e
theorem iu {d:D} {xs:List D} (h:iterD d=some xs):xs.length<=1048576:=by
 cases d with
 |list _=>exact gd h λhs e=>sm e▸aF hs
 |tup _=>exact gd h λhs e=>sm e▸aF hs
 |str x=>exact gd h λhs e=>sm e▸fN x▸aF hs
 |_=>exact ai h
theorem pE {k:IK} {a b:Option D} {xs:List D} (h:feedD k a b=some xs):xs.length<=1048576:=by
 have rg:∀ {m n},rngD m n=some xs->xs.length<=1048576:=λh=>fK h λZz Zz h e=>by rw [e,bK];exact h
 cases k with
 |plain=>exact ae h λZz Zz h=>iu h
 |range1=>exact ae h λZz Zz h=>ae h λZz Zz h=>rg h
 |range2=>exact ae h λZz Zz h=>ae h λZz Zz h=>ae h λZz Zz h=>ae h λZz Zz h=>rg h
 |enum=>exact ae h λZz Zz h=>ay h λys hy e=>by rw [<- e,fq];exact iu hy
 |rev=>exact ae h λZz Zz h=>ae h λys Zz h=>gd h λhs e=>by rw [<- sm e,List.length_reverse];exact aF hs
def o9 (X:Wd) (A:Around) (E:Value->Shared->Prop) (s:Shared) (Ex:Addr->Prop) (use:Option (Value->Sem Unit)) (d:D) (Q:Value->Shared->Prop):Prop :=
 ∀ D C h5 tk5 m ys all,d = .list all->s.heap.get? D=none->s.heap.get? C=none->D≠C->Kp s.heap h5->h5.PlainList D ys->DenL h5 (λb=>(Ex b\/b=C)\/b=D) all ys.toList->h5.Ns C m ->
  compPost (model X.P X.w) A E use Q (.ref D) C (.ok .next) {s with heap:=h5,toks:=tk5}
structure Kc (X:Wd) (sc':Scope) where
 A:Around
 s:Shared
 target:Expr
 tg:List Nat
 one:Bool
 I:Addr
 xs:List D
 Fp:Addr->Prop
 Wr:Addr->Prop
 It:Heap->(Addr->Prop)->Prop
 St:Nat->Heap->Prop
 tn:Turns X.P X.w A X.c sc' target tg one I xs Fp Wr It St
 env:Env
 Ex:Addr->Prop
 ow:Nat->Addr
 O:MEnv
 hT:bA X.c sc' target tg one
 hsc:ScEq env sc'
 k:KB X.hB s.heap
 ar:Ar X.n A
 L:Addr
 lt:L<env.locals
 exW:∀ b,Wr b->Ex b
 exD:Ex L
 wnew:∀ b,Wr b->s.heap.get? b=none
 newD:s.heap.get? L=none
 newC:∀ a,env.locals<=a->s.heap.get? a=none
 st:∀ n a,storable sc' n=true->env.cells.lookup n=some a->env.locals<=a
 fpD:¬ Fp L
 how:∀ i x d,X.c.tbl[i]? = some x->seen env.scope x=true->getE (clearE O (locsOf X.c sc')) i=some (d,true)->ow i≠L
 small:xs.length<=1048576
structure Kc.Inv {X:Wd} {sc':Scope} (K:Kc X sc') (i:Nat) (H:Heap) (outs:List D) (ys:Array Value):Prop where
 st:K.St i H
 it:K.It H K.Ex
 R:RR K.env X.c.tbl K.Ex K.ow (clearE K.O (locsOf X.c sc')) H
 pl:H.PlainList K.L ys
 den:DenL H K.Ex outs ys.toList
 ks:Kp K.s.heap H
 sz:ys.size<=i
section
variable {X:Wd} {sc sc':Scope}
noncomputable def drawE (X:Wd) (ρ:MEnv) (tg:List Nat) (one:Bool) (elt cond:T) (d:D):Option (Option D) :=
 (bindT ρ tg one d).bind λO'=>(ev X.G X.F O' true cond).bind λx=>(truthy x).bind λr=>_root_.cond r ((ev X.G X.F O' false elt).map some) (some none)
theorem Kc.keep {K:Kc X sc'} {i:Nat} {H H':Heap} {outs:List D} {ys:Array Value} (v:K.Inv i H outs ys) (k:Kp H H'):K.Inv i H' outs ys :=
 ⟨K.tn.frameK v.st λb o Zz t e=>k.ob e t,K.tn.items _ _ _ _ v.it (λb o Zz t e=>k.ob e t) (λZz Zz n=>n),v.R.keep k,PL.at' v.pl (k.at _),v.den.keep k,v.ks.trans k,v.sz⟩
theorem Kc.app {K:Kc X sc'} {i:Nat} {H H':Heap} {outs:List D} {ys:Array Value} {y:D} {v:Value} (iv:K.Inv (i+1) H outs ys) (sz:ys.size<=i) (hy:Den H K.Ex y v) (pl:H'.PlainList K.L (ys.push v)) (sb:Heap.SameBut K.L H H'):K.Inv (i+1) H' (outs++[y]) (ys.push v):=by
 have kx:∀ b o,¬ K.Ex b->NT b o->H.get? b=some o->H'.get? b=some o:=λb o n Zz e=>sb.extBut b o (λq=>n (q▸K.exD)) e
 refine ⟨K.tn.frameK iv.st λb o hb t e=>sb.extBut b o (λq=>K.fpD (q▸hb)) e,K.tn.items _ _ _ _ iv.it kx (λZz Zz n=>n),iv.R.other sb K.exD (let ⟨_,l⟩:=iv.pl;⟨_,l,_,_,rfl⟩) (PL.al pl) K.how,pl,?_,iv.ks.sb K.newD (λb o n e=>sb.extBut b o n e) (PL.nofields iv.pl),by rw [Array.size_push];exact Nat.succ_le_succ sz⟩
 rw [Array.toList_push]
 exact (DenL.mono kx (λZz Zz n=>n) _ _ iv.den).append (.single (Den.mono kx (λZz Zz n=>n) _ _ hy))
theorem Kc.turn (K:Kc X sc') {elt cond:T} {eltE:Expr} {ifs:List Expr} {i:Nat} {H:Heap} {tk:Nat} {outs:List D} {ys:Array Value} {d:D} {r:Option D} {Q:Shared->Prop} {E0 E:Value->Shared->Prop} (helt:VS X sc' elt eltE) (hcond:fS X sc' cond ifs) (v:K.Inv i H outs ys) (hx:K.xs[i]? = some d)
  (hf:drawE X (clearE K.O (locsOf X.c sc')) K.tg K.one elt cond d=some r) (P:∀ H' tk' ys',K.Inv (i+1) H' (outs++r.toList) ys'->Q {K.s with heap:=H',toks:=tk'}) :
  wpAny (model X.P X.w) K.A (pyNext (.ref K.I)) (λr s₁=>∃ v,r=some v/\wpAny (model X.P X.w) K.A (letOwnedTupleGo K.target (.ref K.I) v) (λZz s₂=>wpAny (model X.P X.w) K.A (assign K.target K.env v) (λZz s₂ =>
   wpAny (model X.P X.w) K.A (tests ifs K.env) (λok s₃=>if ok=true then wpAny (model X.P X.w) K.A (eval eltE K.env) (λx s₄=>wpAny (model X.P X.w) K.A (call (.builtin "list.append") [.ref K.L,x]) (λZz s₅=>Q s₅) E s₄) E s₃ else Q s₃) E s₂) E s₂) E s₁) E0 {K.s with heap:=H,toks:=tk}:=by
 refine ae hf λO' hb hf=>ae hf λcv hc hf=>ae hf λtv ht hf=> ?_
 refine K.tn.next i d {K.s with heap:=H,toks:=tk} K.env K.Ex K.ow (clearE K.O (locsOf X.c sc')) O' _ _ E K.hsc hx v.st v.it K.exW v.R hb λh5 tk5 st5 it5 R5 kp5 cd5=> ?_
 have keep5:∀ b o,(b≠K.L->¬ K.Wr b)->(¬ K.env.locals<=b)->H.get? b=some o->b≠K.L\/¬ K.Wr b->Gw h5 b o:=λb o n1 n2 e n3=>kp5 b o (λq=>by
  rcases n3 with n3 |n3
  ·exact n1 n3 q
  ·exact n3 q) (λq=>n2 (Nat.le_of_eq q.symm)) (λn' hn' q=>n2 (K.st n' b hn' q)) e
 have nWD:¬ K.Wr K.L:=λq=>K.fpD (K.tn.sub _ q)
 have plD:h5.PlainList K.L ys:=let ⟨n0,l⟩:=v.pl;⟨n0,(keep5 _ _ (λq=>absurd rfl q) (Nat.not_le.mpr K.lt) l (.inr nWD)).ob (.inl rfl)⟩
 have kx5:=λb o (n:¬ K.Ex b) (t:NT b o) (e:H.get? b=some o)=>(kp5 b o (λq=>n (K.exW b q)) (λq=>n (q▸v.R.own.1)) (λn' Zz q=>n (v.R.own.2 n' b q)) e).ob t
 have ks5:Kp K.s.heap h5:=λb o e=>(v.ks b o e).then (λo2 e2=>kp5 b o2 (λq=>nomatch (K.wnew b q).symm.trans e) (λq=>nomatch (K.newC b (Nat.le_of_eq q.symm)).symm.trans e) (λn' hn' q=>nomatch (K.newC b (K.st n' b hn' q)).symm.trans e) e2) cd5
 have v5:K.Inv (i+1) h5 outs ys:=⟨st5,it5,R5.weaken (po R5.nd K.hT hb),plD,DenL.mono kx5 (λZz Zz n=>n) _ _ v.den,ks5,Nat.le_succ_of_le v.sz⟩
 let p5:At X sc' O':={A:=K.A,s:={K.s with heap:=h5,toks:=tk5},env:=K.env,Ex:=K.Ex,ow:=K.ow,hsc:=K.hsc,R:=R5,k:=K.k.trans ks5,ar:=K.ar}
 refine hcond O' p5 _ cv tv _ hc ht λh6 tk6 k6=> ?_
 cases tv with
 |false =>
  rw [if_neg (by decide)]
  obtain rfl:=sm hf
  exact P h6 tk6 ys (by rw [Option.toList_none,List.append_nil];exact Kc.keep v5 k6)
 |true =>
  rw [if_pos rfl]
  refine ay hf λy hy e=> ?_
  subst e
  refine helt O' (p5.to k6 tk6) _ false y _ hy λv7 h7 tk7 k7 d7 Zz=> ?_
  have v57:=Kc.keep v5 (Kp.trans k6 k7)
  exact wpAny_list_append_plain (s:={K.s with heap:=h7,toks:=tk7}) (hsz:=bG (Nat.le_trans (Nat.le_succ_of_le v.sz) (Nat.le_trans (List.getElem?_eq_some_iff.mp hx).1 K.small))) v57.pl λh8 pl8 sb8=>P h8 tk7 _ (Kc.app v57 v.sz d7 pl8 sb8)
theorem Kc.done (K:Kc X sc') {H:Heap} {tk:Nat} {all:List D} {ys:Array Value} {E0:Value->Shared->Prop} {Q:Shared->Prop} (v:K.Inv K.xs.length H all ys)
  (P:∀ h5 tk5 m,Kp K.s.heap h5->h5.PlainList K.L ys->DenL h5 K.Ex all ys.toList->h5.Ns K.env.locals m->K.Ex K.env.locals->Q {K.s with heap:=h5,toks:=tk5}):wpAny (model X.P X.w) K.A (pyNext (.ref K.I)) (λr s₁=>r=none/\Q s₁) E0 {K.s with heap:=H,toks:=tk} :=
 K.tn.done {K.s with heap:=H,toks:=tk} _ E0 v.st λh5 tk5 kp5=>by
  obtain ⟨m,cm,F,Zz⟩:=v.R.fr
  have nl:¬ K.Wr K.env.locals:=λq=>let ⟨_,ho,hf⟩:=Knd.or (K.tn.kinds _ _ _ v.st (K.tn.sub _ q));(lf F ho hf).1 rfl
  exact P h5 tk5 m (λb o e=>(v.ks b o e).then (λo2 e2=> .inl (kp5 b o2 (λq=>nomatch (K.wnew b q).symm.trans e) e2)) (K.tn.cdW v.st kp5)) (let ⟨n0,l⟩:=v.pl;⟨n0,kp5 _ _ (λq=>K.fpD (K.tn.sub _ q)) l⟩)
   (DenL.mono (λb o n Zz e=>kp5 b o (λq=>n (K.exW b q)) e) (λZz Zz n=>n) _ _ v.den) (F.ns.at' λo e=>kp5 _ o nl e) v.R.own.1
theorem rl {P:T->Prop} {t:T} (h:isTrueT t=true) (k:P (.cst (.bool true))):P t :=
 hS h λd hd hb=>qC (P:=P) hd (hS hb λb hb ht=>iT (P:=λd=>P (.cst d)) hb ((show b=true from ht)▸k))
theorem tM:fS X sc (.cst (.bool true)) []:=λO p E d r Q hd ht P=>by
 obtain rfl:=sm hd
 obtain rfl:=sm ht
 exact wpAny_tests_nil (P p.s.heap p.s.toks (Kp.refl _))
theorem tO {t:T} {e:Expr} (h:cf X sc t e):fS X sc t [e]:=λO p E d r Q hd ht P=>wpAny_tests_one (h O p E d r Q hd ht P)
theorem qA {k:IK} {it it2 elt cond:T} {target iter eltE:Expr} {ifs:List Expr} {tg:List Nat} {one:Bool} {pos:Pos} (hit:FS X sc k it it2 iter) (helt:VS X sc' elt eltE) (hcond:fS X sc' cond ifs) (hT:bA X.c sc' target tg one)
  (hok:scOk sc sc'=true) (hfold:∀ env x,foldedSetIterable iter env x=pure x) (use:Option (Value->Sem Unit)) (O:MEnv) (p:At X sc O) (E:Value->Shared->Prop) (b:Bool) (d:D) (Q:Value->Shared->Prop)
  (hd:ev X.G X.F O b (.comp elt tg one k it it2 cond (locsOf X.c sc'))=some d) (P:o9 X p.A E p.s p.Ex use d Q) :
  wpAny (model X.P X.w) p.A (comprehension (.ListComp eltE [⟨target,iter,ifs,0⟩] sc' pos) sc' p.env (firstIterPos [⟨target,iter,ifs,0⟩] pos) (newList []) (firstAsync [⟨target,iter,ifs,0⟩]) (firstIter [⟨target,iter,ifs,0⟩] p.env) use) Q E p.s:=by
 refine fD hd λhen hd=>ae hd λxs hxs hd=>ay hd λall hall e0=> ?_
 have hen:enumOk one k=true:=by rw [Bool.not_eq_true',Bool.not_eq_false] at hen;exact hen
 replace hall:compL (drawE X (clearE O (locsOf X.c sc')) tg one elt cond) xs=some all:=hall
 obtain ⟨ok1,ok2,ok3⟩:=wc p.hsc hok
 refine wpAny_comprehension_free (use:=use) rfl (hfold p.env) (j5 λn hn=> ?_) ok1 (λx hx hl=> ?_) ?_
 ·obtain ⟨m,cm,F,Zz⟩:=p.R.fr
  obtain ⟨a,ha⟩:=F.has n (ok3 n hn)
  rw [ha];rfl
 ·obtain ⟨xn,xk⟩:=x
  have hl:xk = .local:=hl
  subst hl
  exact aZ ok2 hx
 refine hit O p E true xs sc' target tg one _ hT hen hxs λI Fp Wr It St h2 tk2 T st0 it0' k2 wnew Zz=> ?_
 refine wpAny_newObj_type ?_
 have kD:=Kp.push h2 {cls:= .type "list",dict:=none,data:= .seq ([]:List Value).toArray}
 have wal2:∀ b,Wr b->Al h2 b:=λb hb=>let ⟨o,ho,_⟩:=T.kinds _ _ b st0 (T.sub b hb);⟨o,ho⟩
 have z3:(h2.push {cls:= .type "list",dict:=none,data:= .seq ([]:List Value).toArray}).objs.size=h2.objs.size+1:=Heap.size_push ..
 have D3:=Heap.get?_push_size h2 (o:={cls:= .type "list",dict:=none,data:= .seq ([]:List Value).toArray}) rfl
 generalize h2.push {cls:= .type "list",dict:=none,data:= .seq ([]:List Value).toArray}=h3 at *
 have k3:Kp p.s.heap h3:=k2.trans kD
 have newD:=bg k2
 have RG:RR p.env X.c.tbl (λb=>p.Ex b\/(Wr b\/b=h2.objs.size)) p.ow O h3:=p.R.grow k3 (λb hb=>hb.elim (wnew b) λe=>by rw [e];exact newD) λb hb=>hb.elim (λe=>(wal2 b e).keep kD) λe=>by rw [e];exact ⟨_,D3⟩
 refine tK (s:={p.s with heap:=h3,toks:=tk2}) p.hsc RG hok λcells h4 hal k4 halc R4 hsq hst hsn=> ?_
 have newC:∀ a,h3.objs.size<=a->p.s.heap.get? a=none:=λa ha=>k3.none (by
  cases e:h3.get? a with
  |none=>rfl
  |some o=>exact absurd (Heap.lt_size e) (Nat.not_lt.mpr ha))
 let K:Kc X sc':={A:=p.A,s:=p.s,target:=target,tg:=tg,one:=one,I:=I,xs:=xs,Fp:=Fp,Wr:=Wr,It:=It,St:=St,tn:=T,env:=compEnvC sc' cells h3.objs.size p.env,Ex:=λb=>(p.Ex b\/(Wr b\/b=h2.objs.size))\/(h3.objs.size<=b/\(b=h3.objs.size\/∃ n,cells.lookup n=some b)),ow:=p.ow,O:=O,hT:=hT,hsc:=hsq,k:=p.k,ar:=p.ar,L:=h2.objs.size,lt:=Nat.lt_of_lt_of_eq (Nat.lt_succ_self _) z3.symm,exW:=λb hb=> .inl (.inr (.inl hb)),exD:= .inl (.inr (.inr rfl)),wnew:=wnew,newD:=newD,newC:=newC,st:=hst,fpD:=(λq=>let ⟨_,ho,_⟩:=T.kinds _ _ _ st0 q;nomatch (aI _).symm.trans ho),how:=λi x d h1 hs he=>let ⟨s1,s2⟩:=hsn i x (d,true) h1 hs he;let ⟨_,_,_,l,_⟩:=p.R.own_al h1 s1 s2;Al.ne (PL.al l) newD,small:=pE hxs}
 have v0:K.Inv 0 h4 [] #[]:=⟨T.frameK st0 λb o Zz t e=>(kD.trans k4).ob e t,T.items h2 h4 _ _ it0' (λb o Zz t e=>(kD.trans k4).ob e t) λb hb n e=>by
   rcases e with (e |e |e) |⟨e,_⟩
   ·exact n (.inl e)
   ·exact n (.inr e)
   ·exact hb.ne (aI _) e
   ·obtain ⟨o,ho⟩:=hb
    exact absurd (Nat.lt_of_lt_of_le (Heap.lt_size ho) (Nat.le_of_succ_le (Nat.le_trans (Nat.le_of_eq z3.symm) e))) (Nat.lt_irrefl _),R4,⟨0,k4.ob D3 (.inl rfl)⟩,rfl,k3.trans k4,Nat.le_refl _⟩
 have main:codeAny (model X.P X.w) p.A (.compLoop (.ListComp eltE [⟨target,iter,ifs,0⟩] sc' pos) 0 (.ref I) (.ref h2.objs.size) (compEnvC sc' cells h3.objs.size p.env)) (compPost (model X.P X.w) p.A E use Q (.ref h2.objs.size) h3.objs.size) {p.s with heap:=h4,toks:=tk2}:=by
  refine qB (λnn s'=>∃ H tk i outs ys,s' = {p.s with heap:=H,toks:=tk}/\i<=xs.length/\nn=xs.length+1 - i/\K.Inv i H outs ys/\compL (drawE X (clearE O (locsOf X.c sc')) tg one elt cond) (xs.take i)=some outs) ?_ (xs.length+1) ⟨h4,tk2,0,[],#[],rfl,Nat.zero_le _,rfl,v0,rfl⟩
  rintro nn s' ⟨H,tk,i,outs,ys,rfl,hi,rfl,v,hcl⟩
  rcases Nat.lt_or_ge i xs.length with hlt |hge
  ·have hx:xs[i]? = some xs[i]:=List.getElem?_eq_getElem hlt
   obtain ⟨r,hf,hcl'⟩:=ij hall hx hcl
   exact wpAny_mono (K.turn helt hcond v hx hf λH' tk' ys' v'=>⟨xs.length+1 - (i+1),Nat.sub_lt_sub_left (Nat.lt_succ_of_lt hlt) (Nat.lt_succ_self i),H',tk',i+1,_,ys',rfl,hlt,rfl,v',hcl'⟩) (λr s₁ hr=> .inr hr) λZz Zz e=>e
  ·obtain rfl:i=K.xs.length:=Nat.le_antisymm hi hge
   obtain rfl:outs=all:=sm ((hcl.symm.trans (congrArg (compL (drawE X (clearE O (locsOf X.c sc')) tg one elt cond)) (List.take_length (l:=xs)))).trans hall)
   refine wpAny_mono (K.done v λh5 tk5 m ks5 pl5 den5 ns5 exC=> ?_) (λr s₁ hr=> .inl hr) λZz Zz e=>e
   refine P _ _ h5 tk5 m ys _ e0.symm newD (newC _ (Nat.le_refl _)) (Nat.ne_of_lt K.lt) ks5 pl5 (DenL.mono (λZz Zz Zz Zz e=>e) (λb Zz n e=>n ?_) _ _ den5) ns5
   rcases e with (e |e) |e
   ·exact .inl (.inl e)
   ·exact e▸exC
   ·exact e▸K.exD
 exact codeAny_compStart_list main (T.self 0 {p.s with heap:=h4,toks:=tk2} _ _ v0.st main)
theorem yC {k:IK} {it it2 elt cond:T} {target iter eltE:Expr} {ifs:List Expr} {tg:List Nat} {one:Bool} {pos:Pos} (h:∀ (use:Option (Value->Sem Unit)) (O:MEnv) (p:At X sc O) (E:Value->Shared->Prop) (b:Bool) (d:D) (Q:Value->Shared->Prop),ev X.G X.F O b (.comp elt tg one k it it2 cond (locsOf X.c sc'))=some d->o9 X p.A E p.s p.Ex use d Q ->
   wpAny (model X.P X.w) p.A (comprehension (.ListComp eltE [⟨target,iter,ifs,0⟩] sc' pos) sc' p.env (firstIterPos [⟨target,iter,ifs,0⟩] pos) (newList []) (firstAsync [⟨target,iter,ifs,0⟩]) (firstIter [⟨target,iter,ifs,0⟩] p.env) use) Q E p.s) :
  VS X sc (.comp elt tg one k it it2 cond (locsOf X.c sc')) (.ListComp eltE [⟨target,iter,ifs,0⟩] sc' pos):=λO p E b d Q hd P=>by
 rw [arm_eval_ListComp]
 refine h none O p E b d Q hd ?_
 rintro D C h5 tk5 m ys all rfl hD hC hDC k5 pl5 den5 hns
 refine ⟨m,hns,λh6 sb6=> ?_⟩
 have pl6:h6.PlainList D ys:=let ⟨n0,l⟩:=pl5;⟨n0,sb6.extBut _ _ hDC l⟩
 have k6:Kp p.s.heap h6:=k5.sb hC (λb o n e=>sb6.extBut b o n e) (Ns.nofields hns)
 have den6:DenL h6 (λb=>(p.Ex b\/b=C)\/b=D) all ys.toList:=DenL.mono (λb o n Zz e=>sb6.extBut b o (λq=>n (.inl (.inr q))) e) (λZz Zz n=>n) _ _ den5
 exact P (.ref D) h6 tk5 k6 (Den.toR ⟨_,_,rfl,λe=>(p.R.lt _ e).ne hD rfl,pl6,DenL.mono (λZz Zz Zz Zz e=>e) (λb Zz n e=>n (.inl (.inl e))) _ _ den6⟩) λZz=>⟨_,_,all,rfl,hD,rfl,pl6,DenL.mono (λZz Zz Zz Zz e=>e) (λb Zz n e=>n (e.elim (λe=> .inl (.inl e)) .inr)) _ _ den6⟩
end
section
variable {X:Wd} {sc:Scope} {mg mb:Str->Option Value}
theorem s9 {ta tb:T} {e0:Expr} {np pos:Pos} (B:X.Ok mg mb) (h:m9 X sc ta tb e0) (hst:∀ rest env,starEach (e0 :: rest) env=(false,eval e0 env) :: starEach rest env) (hs:isGlob sc listS=true) :
  VS X sc (.lrange ta tb) (.Call (.Name listS np) [e0] [] pos):=λO p E b d Q hd P=>by
 refine ee hd λm hm hd=>ee hd λm' hm' hd=>ay hd λxs hx e0=>fK hx λi1 i2 i3 hxs=> ?_
 subst e0 hxs
 obtain ⟨b1,b2,b3,hsz⟩:=fL i1 i2
 refine wpAny_Call_ofName (cW p B hs (by decide) (by decide) kH ?_)
 have e1:backTo pos (starEach [e0] p.env)=[(false,eval e0 p.env)]:=by rw [hst];rfl
 refine PyProof.Rows.callWith_type (by rw [e1];rfl) ?_
 rw [e1]
 refine PySem.Calls.evalArgs_plain (PySem.Calls.spliced_cons (h O p E m m' _ hm hm' λr h1 tk1 t u v k1 hr hnew=>PySem.Calls.spliced_nil ?_))
 refine call_list_range (s:={p.s with heap:=h1,toks:=tk1}) p.ar.hd hr (small_one b1.1 b1.2 b2.1 b2.2) hsz (Nat.le_trans i3 (by decide)) λh2 tk2 acc cc k2 hl hit=> ?_
 have k2:Kp h1 h2:= .of k2
 have dl:∀ X,DenL h2 X (rangeD m (m' - m).toNat) acc.toList:=λX=>DenL.of_get (by rw [bK,Array.length_toList];exact hit.1) λi d hi=>by
  have hlt:=(List.getElem?_eq_some_iff.mp hi).1
  rw [bK] at hlt
  rw [eR _ _ _ hlt] at hi
  have hlt':i<acc.size:=by rw [hit.1];exact hlt
  obtain ⟨tk,ht⟩:=hit.2 i acc[i] (Array.getElem?_eq_getElem hlt')
  obtain rfl:=sm hi
  exact ⟨acc[i],by rw [Array.getElem?_toList];exact Array.getElem?_eq_getElem hlt',tk,by rw [ht,Int.mul_one]⟩
 have nf:p.s.heap.get? h1.objs.size=none:=bg k1
 have pl:h2.PlainList h1.objs.size acc:=⟨cc,hl⟩
 exact P _ h2 tk2 (k1.trans k2) (Den.toR ⟨_,_,rfl,λe=>(p.R.lt _ e).ne nf rfl,pl,dl _⟩) λZz=>⟨_,_,_,rfl,nf,rfl,pl,dl _⟩
def yR (X:Wd) (sc:Scope) (t:T) (e:Expr):Prop :=
 ∀ elt gens sc' pos,e = .ListComp elt gens sc' pos->∀ (use:Option (Value->Sem Unit)) (O:MEnv) (p:At X sc O) (E:Value->Shared->Prop) (b:Bool) (d:D) (Q:Value->Shared->Prop),ev X.G X.F O b t=some d->o9 X p.A E p.s p.Ex use d Q ->
  wpAny (model X.P X.w) p.A (comprehension e sc' p.env (firstIterPos gens pos) (newList []) (firstAsync gens) (firstIter gens p.env) use) Q E p.s
structure All (X:Wd) (sc:Scope) (t:T) (e:Expr):Prop where
 vs:VS X sc t e
 is:cf X sc t e
 st:∀ rest env,starEach (e :: rest) env=(false,eval e env) :: starEach rest env
 us:yR X sc t e
theorem All.of {t:T} {e:Expr} (v:VS X sc t e) (i:cf X sc t e) (st:∀ rest env,starEach (e :: rest) env=(false,eval e env) :: starEach rest env) (us:(e.ctorIdx==8)=false):All X sc t e :=
 ⟨v,i,st,λZz Zz Zz Zz h=>by subst h;exact nomatch us⟩
theorem All.ov {t:T} {e:Expr} (v:VS X sc t e) (he:∀ env whole,isTrue e env whole=(do let v <- whole;standAt e.pos;holding [v] (PySem.truthy v))) (st:∀ rest env,starEach (e :: rest) env=(false,eval e env) :: starEach rest env) (us:(e.ctorIdx==8)=false):All X sc t e :=
 .of v (gO v he) st us
inductive EL (X:Wd) (sc:Scope):T->List Expr->Prop where
 |nil:EL X sc .nil []
 |cons {t r:T} {e:Expr} {es:List Expr}:All X sc t e->EL X sc r es->EL X sc (.cons t r) (e :: es)
theorem EL.as {t:T} {es:List Expr} (h:EL X sc t es):AS X sc t es:=by
 induction h with
 |nil=>exact yW
 |cons h _ ih=>exact wo h.st h.vs ih
theorem EL.one {t:T} {e:Expr} (h:All X sc t e):EL X sc (.cons t .nil) [e]:= .cons h .nil
theorem eb {e:Expr} (h:isSetE e=false) (env:Env) (x:Value):foldedSetIterable e env x=pure x:=by
 cases e<;>first |rfl |exact nomatch h
theorem fE {P:T->Prop} {t:T} (h:isNoneT t=true) (k:P (.cst .none)):P t :=
 hS h λd hd hb=>qC (P:=P) hd (lK (P:=λd=>P (.cst d)) hb k)
def gv (X:Wd) (sc:Scope) (t:T) (m:Option BoolOp) (es l:List Expr):Prop :=
 cond (isLst t) (EL X sc t l) (cond (tailB t m es) (∃ op x y r,m=some op/\l=x :: y :: r/\BS X sc t op l) (∃ e,l=[e]/\All X sc t e))
theorem q8 {t:T} {es l:List Expr} {m:Option BoolOp} (hl:isLst t=false) (hm:tailB t m es=false) (h:gv X sc t m es l):∃ e,l=[e]/\All X sc t e:=by
 unfold gv at h;rw [hl,hm] at h;exact h
theorem sX (t:T) (es:List Expr):tailB t none es=false:=by cases t<;>rfl
def Un (X:Wd) (t:T):Prop:=∀ sc m es,(un X.c sc t m es).1=true->gv X sc t m es (un X.c sc t m es).2
theorem Un.e {t:T} (h:Un X t) {es:List Expr} (hb:(e1 t (un X.c sc t none es)).1=true):All X sc t (e1 t (un X.c sc t none es)).2:=aa hb λh1 h2=>by
 obtain ⟨e,h3,h4⟩:=q8 (Bool.not_eq_true' _▸h1) (sX t es) (h sc none es h2)
 show All X sc t (hd (un X.c sc t none es).2)
 rw [h3];exact h4
theorem Un.l {t:T} (h:Un X t) {es:List Expr} (hb:(el t (un X.c sc t none es)).1=true):EL X sc t (el t (un X.c sc t none es)).2:=aa hb λh1 h2=>by
 have:=h sc none es h2
 unfold gv at this
 rw [h1] at this;exact this
theorem Un.b {t:T} {op:BoolOp} (h:Un X t) {es:List Expr} (h1:(!isLst t)=true) (h2:(un X.c sc t (some op) es).1=true):∃ x r,(un X.c sc t (some op) es).2=x :: r/\BS X sc t op (x :: r):=by
 have g:=h sc (some op) es h2
 have h1:isLst t=false:=Bool.not_eq_true' _▸h1
 cases hm:tailB t (some op) es with
 |true =>
  unfold gv at g
  rw [h1,hm] at g
  obtain ⟨op',x,y,r,e1,e2,g⟩:=g
  obtain rfl:=sm e1
  exact ⟨x,y :: r,e2,e2▸g⟩
 |false =>
  obtain ⟨e,h3,h4⟩:=q8 h1 hm g
  exact ⟨e,[],h3,za h4.vs h4.is⟩
theorem mz {t:T} (h:Un X t) {es:List Expr} {o:Option Expr} (hb:(slE t (e1 t (un X.c sc t none es)) o).1=true):OS X sc t (slE t (e1 t (un X.c sc t none es)) o).2:=by
 cases o with
 |none=>exact fE (P:=λt=>OS X sc t none) hb xV
 |some e=>exact xW (h.e hb).vs
theorem cO {f:Str} {P:Prop} (h:gl sc f=true) (k:isGlob sc f=true->(f==("__debug__":Str))=false->P):P:=aa h λh1 h2=>k h1 (Bool.not_eq_true' _▸h2)
theorem vQ (B:X.Ok mg mb) {k:IK} {it it2:T} {y:Expr} {z:Bool×Expr} {i:Expr} (hy:All X sc it y) (hz:z.1=true->All X sc it2 z.2) (h:(itE sc k y z i).1=true):FS X sc k it it2 (itE sc k y z i).2/\∀ env x,foldedSetIterable (itE sc k y z i).2 env x=pure x:=by
 cases k with
 |plain=>exact ⟨ub hy.vs,eb (nt h)⟩
 |range1=>exact cO h λh1 h2=>⟨qV (iH B (EL.one hy).as h1),eb rfl⟩
 |range2=>exact aa h λh h3=>cO h λh1 h2=>⟨qW (iI B (EL.cons hy (.one (hz h3))).as h1),eb rfl⟩
 |enum=>exact cO h λh1 h2=>⟨xm B (EL.one hy).as h1,eb rfl⟩
 |rev=>exact cO h λh1 h2=>⟨zs B (EL.one hy).as h1,eb rfl⟩
theorem Bi {x:Str} {P:Prop} (h:dbg x=true) (h':dcl x=true) (k:(x==("__debug__":Str))=false->(x==("__classdict__":Str))=false->P):P:=k (nt h) (nt h')
theorem rG (B:X.Ok mg mb) {k:IK} {it it2 elt cnd:T} {target iter eltE:Expr} {w:List Expr} {tg:List Nat} {one:Bool} {pos:Pos} {sc':Scope} (hit:FS X sc k it it2 iter) (hf:∀ env x,foldedSetIterable iter env x=pure x) (helt:All X sc' elt eltE) (hc:fS X sc' cnd w) (hT:bA X.c sc' target tg one) (hok:scOk sc sc'=true) :
  All X sc (.comp elt tg one k it it2 cnd (locsOf X.c sc')) (.ListComp eltE [⟨target,iter,w,0⟩] sc' pos):=by
 have core:=λuse O p E b d Q=>qA (pos:=pos) hit helt.vs hc hT hok hf use O p E b d Q
 have v:=yC core
 refine ⟨v,gO v λZz Zz=>rfl,λZz Zz=>rfl,?_⟩
 intro elt' gens' sc'' pos' he
 cases he
 exact core
theorem uc {op:BoolOp} {a b:T} {m:Option BoolOp} {es es':List Expr} {e:Expr} {pos:Pos} (ha:Un X a) (hb:Un X b) (h:(bopE op b (tailM op m es) (e1 a (un X.c sc a none [hd es])) (un X.c sc b (some op) es.tail) (e1 a (un X.c sc a none [e])) (un X.c sc b (some op) es') pos).1=true) :
  gv X sc (.bop op a b) m es (bopE op b (tailM op m es) (e1 a (un X.c sc a none [hd es])) (un X.c sc b (some op) es.tail) (e1 a (un X.c sc a none [e])) (un X.c sc b (some op) es') pos).2:=by
 have go:∀ es1 es2,((e1 a (un X.c sc a none es1)).1 && !isLst b&&(un X.c sc b (some op) es2).1)=true->∃ x r,(un X.c sc b (some op) es2).2=x :: r/\BS X sc (.bop op a b) op ((e1 a (un X.c sc a none es1)).2 :: x :: r):=λes1 es2 h=>aa h λh h3=>aa h λh1 h2=>by
  obtain ⟨x,r,e,g⟩:=hb.b h2 h3
  have al:=ha.e h1
  exact ⟨x,r,e,wE al.vs al.is g⟩
 unfold gv
 show cond (tailM op m es) _ _
 unfold bopE at h ⊢
 cases hm:tailM op m es with
 |true =>
  rw [hm] at h
  obtain ⟨x,r,e,g⟩:=go _ _ h
  exact ⟨op,_,x,r,beq_iff_eq.mp (aa hm λq Zz=>q),congrArg _ e,show BS X sc _ op (_ :: (un X.c sc b (some op) es.tail).2) from e▸g⟩
 |false =>
  rw [hm] at h
  obtain ⟨x,r,e,g⟩:=go _ _ h
  refine ⟨_,rfl,?_⟩
  show All X sc _ (.BoolOp op (_ :: (un X.c sc b (some op) es').2) _)
  rw [e]
  exact .of (yA g) (xw g) (λZz Zz=>rfl) rfl
theorem bO (B:X.Ok mg mb) (CT:X.Ct mg) (t:T):Un X t:=by
 induction t with
 |var i=>exact λsc m es h=>aa h λh h4=>aa h λh h3=>aa h λh1 h2=>Bi h3 h4 λh3 h4=>⟨_,rfl,.ov (AC h2 (eL (de h1)) h3 h4) (λZz Zz=>rfl) (λZz Zz=>rfl) rfl⟩
 |glob x=>exact λsc m es h=>aa h λh h3=>aa h λh1 h2=>⟨_,rfl,.ov (yE B h1 (fI h2) (nt h3)) (λZz Zz=>rfl) (λZz Zz=>rfl) rfl⟩
 |cst d=>exact λsc m es h=>⟨_,rfl,.ov Ay (λZz Zz=>rfl) (λZz Zz=>rfl) rfl⟩
 |bin op a b h_a h_b=>exact λsc m es h=>aa h λh1 h2=>⟨_,rfl,.ov (Av (h_a.e h1).vs (h_b.e h2).vs) (λZz Zz=>rfl) (λZz Zz=>rfl) rfl⟩
 |un op a h_a =>
  refine λsc m es h=> ?_
  have al:=h_a.e (sc:=sc) h
  refine ⟨_,rfl,.of (wf al.vs) ?_ (λZz Zz=>rfl) rfl⟩
  cases op with
  |Not=>exact zF al.is
  |_=>exact gO (wf al.vs) λZz Zz=>rfl
 |cmp op a b h_a h_b=>exact λsc m es h=>aa h λh h3=>aa h λh1 h2=>⟨_,rfl,.of (Ax (h_a.e h1).vs (h_b.e h2).vs (nt h3)) (zD (h_a.e h1).vs (h_b.e h2).vs (nt h3)) (λZz Zz=>rfl) rfl⟩
 |bop op a b h_a h_b=>exact λsc m es h=>uc (h_a) (h_b) h
 |ite d a b h_d h_a h_b=>exact λsc m es h=>aa h λh h3=>aa h λh1 h2=>⟨_,rfl,.of (AA (h_d.e h1).is (h_a.e h2).vs (h_b.e h3).vs) (zE (h_d.e h1).is (h_a.e h2).is (h_b.e h3).is) (λZz Zz=>rfl) rfl⟩
 |nil=>exact λsc m es h=>EL.nil
 |cons a r h_a h_r=>exact λsc m es h=>aa h λh1 h2=>EL.cons (h_a.e h1) (h_r.l h2)
 |list t h_t=>exact λsc m es h=>⟨_,rfl,.ov (yF (h_t.l h).as) (λZz Zz=>rfl) (λZz Zz=>rfl) rfl⟩
 |tup t h_t=>exact λsc m es h=>⟨_,rfl,.ov (mG (h_t.l h).as) (λZz Zz=>rfl) (λZz Zz=>rfl) rfl⟩
 |idx a i h_a h_i=>exact λsc m es h=>aa h λh h3=>aa h λh1 h2=>⟨_,rfl,.ov (Az B (h_a.e h1).vs (h_i.e h2).vs (nt h3)) (λZz Zz=>rfl) (λZz Zz=>rfl) rfl⟩
 |sli a l u st h_a h_l h_u h_st=>exact λsc m es h=>aa h λh h4=>aa h λh h3=>aa h λh1 h2=>⟨_,rfl,.ov (AB B (h_a.e h1).vs (mz h_l h2) (mz h_u h3) (mz h_st h4)) (λZz Zz=>rfl) (λZz Zz=>rfl) rfl⟩
 |comp elt tg one k it it2 cnd locs h_elt h_it h_it2 h_cnd =>
  refine λsc m es h=>aa h λh h7=>aa h λh h6=>aa h λh h5=>aa h λh h4=>aa h λh h3=>aa h λh1 h2=> ?_
  obtain rfl:=beq_iff_eq.mp h7
  obtain ⟨f1,f2⟩:=vQ B (h_it.e h2) (λhz=>h_it2.e hz) h3
  refine ⟨_,rfl,rG B f1 f2 (h_elt.e h1) ?_ (sZ h5) h6⟩
  cases hn:(isTrueT cnd&&(kids (hd es)).tail.tail.tail.isEmpty) with
  |true=>exact aa hn λq Zz=>rl (P:=λt=>fS X _ t []) q tM
  |false =>
   rw [hn] at h4
   exact tO (h_cnd.e h4).is
 |lrange a b h_a h_b=>exact λsc m es h=>aa h λh h4=>aa h λh h3=>aa h λh1 h2=>cO h3 λh3 Zz=>cO h4 λh4 Zz=>⟨_,rfl,.ov (s9 B (iI B (EL.cons (h_a.e h1) (.one (h_b.e h2))).as h4) (λZz Zz=>rfl) h3) (λZz Zz=>rfl) (λZz Zz=>rfl) rfl⟩
 |call f t h_t=>exact λsc m es h=>aa h λh h3=>aa h λh1 h2=>cO h2 λg1 g2=>⟨_,rfl,.ov (yB B CT (h_t.l h1).as g1 g2 (fI h3)) (λZz Zz=>rfl) (λZz Zz=>rfl) rfl⟩
 |callb f t h_t=>exact λsc m es h=>aa h λh h3=>aa h λh1 h2=>cO h2 λg1 g2=>⟨_,rfl,.ov (vj B CT (h_t.l h1).as g1 g2 (fI h3)) (λZz Zz=>rfl) (λZz Zz=>rfl) rfl⟩
 |blt f t h_t=>exact λsc m es h=>aa h λh1 h2=>cO h2 λg1 Zz=>⟨_,rfl,.ov (Aw B (h_t.l h1).as g1) (λZz Zz=>rfl) (λZz Zz=>rfl) rfl⟩
 |meth f o t h_o h_t=>exact λsc m es h=>aa h λh h5=>aa h λh h4=>aa h λh h3=>aa h λh1 h2=>⟨_,rfl,.ov (yG (h_o.e h2).vs (h_t.l h1).as (nt h4) h3 (de h5)) (λZz Zz=>rfl) (λZz Zz=>rfl) rfl⟩
 |inset x a h_a=>exact λsc m es h=>aa h λh h3=>aa h λh1 h2=>have v:=vk B (h_a.e h1).vs h2 (fI h3);⟨_,rfl,.of v.1 v.2 (λZz Zz=>rfl) rfl⟩
 |dget x a d h_a h_d =>
  refine λsc m es h=>aa h λh h5=>aa h λh h4=>aa h λh h3=>aa h λh1 h2=> ?_
  have al:=h_a.e h1
  refine ⟨_,rfl,.ov (yD B ?_ h3 ?_ h4 (fI h5)) (λZz Zz=>rfl) (λZz Zz=>rfl) rfl⟩
  ·cases hn:(kids (hd es)).tail.tail.isEmpty with
   |true =>
    rw [hn] at h2
    exact .inl ⟨(EL.one al).as,fE (P:=λt=>t = .cst .none) h2 rfl⟩
   |false =>
    rw [hn] at h2
    exact .inr (EL.cons al (.one (h_d.e h2))).as
  ·cases (kids (hd es)).tail.tail.isEmpty
   ·exact show 2<30 by decide
   ·exact show 1<30 by decide
end
structure SR (env:Env) (tbl:List Str) (Mu Ex:Addr->Prop) (ow:Nat->Addr) (O:MEnv) (h:Heap):Prop where
 rr:RR env tbl Ex ow O h
 mu:∀ b,Mu b->Ex b
 fr:Mu env.locals/\∀ n c,storable env.scope n=true->env.cells.lookup n=some c->Mu c
 own:∀ i x d,tbl[i]? = some x->seen env.scope x=true->getE O i=some (d,true)->Mu (ow i)
 inj:∀ i j x y d e,tbl[i]? = some x->seen env.scope x=true->tbl[j]? = some y->seen env.scope y=true->getE O i=some (d,true)->getE O j=some (e,true)->i≠j->ow i≠ow j
structure Gr (h:Heap) (Mu Ex Mu' Ex':Addr->Prop) (h':Heap):Prop where
 mu:∀ b,Mu' b->Mu b\/h.get? b=none
 ex:∀ b,Ex' b->Ex b\/h.get? b=none
 kp:∀ b,Ex b->¬ Mu b->Ex' b
 keep:∀ b o,¬ Mu b->h.get? b=some o->Gw h' b o
 cd:Cd h h'
theorem Gr.refl (h:Heap) (Mu Ex:Addr->Prop):Gr h Mu Ex Mu Ex h:=⟨λZz e=> .inl e,λZz e=> .inl e,λZz e Zz=>e,λZz Zz Zz e=> .inl e,Cd.refl h⟩
theorem Gr.of_kp {h h':Heap} (k:Kp h h') (Mu Ex:Addr->Prop):Gr h Mu Ex Mu Ex h':=⟨λZz e=> .inl e,λZz e=> .inl e,λZz e Zz=>e,λb o Zz e=>k b o e,k.cd⟩
theorem Gr.trans {h h1 h2:Heap} {Mu Ex Mu1 Ex1 Mu2 Ex2:Addr->Prop} (lt:∀ b,Ex b->Al h b) (sub:∀ b,Mu b->Ex b) (x:Gr h Mu Ex Mu1 Ex1 h1) (y:Gr h1 Mu1 Ex1 Mu2 Ex2 h2):Gr h Mu Ex Mu2 Ex2 h2:=by
 have none1:∀ b,h1.get? b=none->Mu b\/h.get? b=none:=λb hb=>by
  by_cases hm:Mu b
  ·exact .inl hm
  ·refine .inr ?_
   cases e:h.get? b with
   |none=>rfl
   |some o=>obtain ⟨o',e'⟩:=(x.keep b o hm e).al;exact nomatch hb.symm.trans e'
 refine ⟨λb hb=>(y.mu b hb).elim (x.mu b) (none1 b),λb hb=>(y.ex b hb).elim (x.ex b) λe=>(none1 b e).imp (sub b) id,λb hb hn=>y.kp b (x.kp b hb hn) λhm=>(x.mu b hm).elim hn λe=>Al.ne (lt b hb) e rfl,λb o hn e=>(x.keep b o hn e).then (λo' e'=>y.keep b o' (λhm=>(x.mu b hm).elim hn λq=>nomatch e.symm.trans q) e') y.cd,x.cd.trans y.cd⟩
theorem SR.keep {env:Env} {tbl:List Str} {Mu Ex:Addr->Prop} {ow:Nat->Addr} {O:MEnv} {h h':Heap} (S:SR env tbl Mu Ex ow O h) (k:Kp h h'):SR env tbl Mu Ex ow O h' :=
 ⟨S.rr.keep k,S.mu,S.fr,S.own,S.inj⟩
theorem RR.reown {env:Env} {tbl:List Str} {Ex:Addr->Prop} {ow ow':Nat->Addr} {O:MEnv} {h:Heap} (R:RR env tbl Ex ow O h) (ho:∀ i d,getE O i=some (d,true)->ow i=ow' i):RR env tbl Ex ow' O h:=by
 obtain ⟨ok,nd,lt,own,m,cm,F,hv⟩:=R
 refine ⟨ok,nd,lt,own,m,cm,F,λi x d b h1 h2 h3=> ?_⟩
 obtain ⟨v,e,dv,hw⟩:=hv i x d b h1 h2 h3
 exact ⟨v,e,dv,λhb=>(hw hb).trans (congrArg Value.ref (ho i d (hb▸h2)))⟩
def SPost (s:Shared) (env:Env) (tbl:List Str) (Mu Ex:Addr->Prop) (O':MEnv) (o:Out) (Q:Flow->Shared->Prop):Prop :=
 match o with
 | .ret d=>∀ h' tk v Mu' Ex',Gr s.heap Mu Ex Mu' Ex' h'->Den h' Ex' d v->Q (.ret v) {s with heap:=h',toks:=tk}
 | .next=>∀ h' tk Mu' Ex' ow',SR env tbl Mu' Ex' ow' O' h'->Gr s.heap Mu Ex Mu' Ex' h'->Q .next {s with heap:=h',toks:=tk}
 | .brk=>∀ h' tk Mu' Ex' ow',SR env tbl Mu' Ex' ow' O' h'->Gr s.heap Mu Ex Mu' Ex' h'->Q .brk {s with heap:=h',toks:=tk}
theorem SPost.from {s:Shared} {env:Env} {tbl:List Str} {Mu Ex Mu1 Ex1:Addr->Prop} {O':MEnv} {o:Out} {Q:Flow->Shared->Prop} {h1:Heap} {tk1:Nat} (P:SPost s env tbl Mu Ex O' o Q) (lt:∀ b,Ex b->Al s.heap b) (sub:∀ b,Mu b->Ex b) (g:Gr s.heap Mu Ex Mu1 Ex1 h1) :
  SPost {s with heap:=h1,toks:=tk1} env tbl Mu1 Ex1 O' o Q:=by
 cases o with
 |ret d=>exact λh' tk v Mu' Ex' g' hd=>P h' tk v Mu' Ex' (g.trans lt sub g') hd
 |next=>exact λh' tk Mu' Ex' ow' S' g'=>P h' tk Mu' Ex' ow' S' (g.trans lt sub g')
 |brk=>exact λh' tk Mu' Ex' ow' S' g'=>P h' tk Mu' Ex' ow' S' (g.trans lt sub g')
structure Ast (X:Wd) (sc:Scope) (O:MEnv) where
 A:Around
 s:Shared
 env:Env
 Mu:Addr->Prop
 Ex:Addr->Prop
 ow:Nat->Addr
 hsc:env.scope=sc
 S:SR env X.c.tbl Mu Ex ow O s.heap
 k:KB X.hB s.heap
 hm:∀ b,Mu b->X.hB.get? b=none
 ar:Ar X.n A
theorem ScEq.self {env:Env} {sc:Scope} (h:env.scope=sc):ScEq env sc:=λx=>by rw [h];exact .inl rfl
noncomputable abbrev Ast.at {X:Wd} {sc:Scope} {O:MEnv} (p:Ast X sc O):At X sc O:=⟨p.A,p.s,p.env,p.Ex,p.ow,.self p.hsc,p.S.rr,p.k,p.ar⟩
noncomputable abbrev Ast.to {X:Wd} {sc:Scope} {O:MEnv} (p:Ast X sc O) {h:Heap} (k:Kp p.s.heap h) (tk:Nat):Ast X sc O:=⟨p.A,{p.s with heap:=h,toks:=tk},p.env,p.Mu,p.Ex,p.ow,p.hsc,p.S.keep k,p.k.trans k,p.hm,p.ar⟩
theorem Ast.lt {X:Wd} {sc:Scope} {O:MEnv} (p:Ast X sc O):∀ b,p.Ex b->Al p.s.heap b:=p.S.rr.lt
def SS (X:Wd) (sc:Scope) (st:S) (m:Env->Sem Flow):Prop :=
 ∀ (O:MEnv) (p:Ast X sc O) (E:Value->Shared->Prop) (O':MEnv) (o:Out) (Q:Flow->Shared->Prop),ex X.G X.F O st=some (O',o)->SPost p.s p.env X.c.tbl p.Mu p.Ex O' o Q->wpAny (model X.P X.w) p.A (m p.env) Q E p.s
theorem ly {hB h h':Heap} {Mu Ex Mu' Ex':Addr->Prop} (k:KB hB h) (hm:∀ b,Mu b->hB.get? b=none) (g:Gr h Mu Ex Mu' Ex' h'):KB hB h'/\∀ b,Mu' b->hB.get? b=none:=by
 refine ⟨k.cdt (λb o e=>(k.kp b o e).then (λo' e'=>g.keep b o' (λq=>by rw [hm b q] at e;cases e) e') g.cd) g.cd,λb hb=> ?_⟩
 rcases g.mu b hb with e |e
 ·exact hm b e
 ·exact k.none e
noncomputable abbrev Ast.on {X:Wd} {sc:Scope} {O:MEnv} (p:Ast X sc O) {O':MEnv} {h:Heap} {Mu' Ex':Addr->Prop} {ow':Nat->Addr} (S:SR p.env X.c.tbl Mu' Ex' ow' O' h) (g:Gr p.s.heap p.Mu p.Ex Mu' Ex' h) (tk:Nat):Ast X sc O' :=
 ⟨p.A,{p.s with heap:=h,toks:=tk},p.env,Mu',Ex',ow',p.hsc,S,(ly p.k p.hm g).1,(ly p.k p.hm g).2,p.ar⟩
theorem Ast.sto {X:Wd} {sc:Scope} {O:MEnv} (p:Ast X sc O):∀ n,storable sc n=true->storable p.env.scope n=true:=λZz e=>p.hsc.symm▸e
theorem SR.storedN {env:Env} {c:Cx} {Mu Ex:Addr->Prop} {ow:Nat->Addr} {O O':MEnv} {h h':Heap} {N:Str->Prop} (S:SR env c.tbl Mu Ex ow O h) (R':RR env c.tbl Ex ow O' h') (hN:∀ n,N n->storable env.scope n=true) (kf:KF N env h h') (old:∀ j e,getE O' j=some (e,true)->getE O j=some (e,true)) :
  SR env c.tbl Mu Ex ow O' h'/\Gr h Mu Ex Mu Ex h' :=
 ⟨⟨R',S.mu,S.fr,λj x e h1 h2 h3=>S.own j x e h1 h2 (old j e h3),λj k x y e e' h1 h2 h3 h4 h5 h6 h7=>S.inj j k x y e e' h1 h2 h3 h4 (old j e h5) (old k e' h6) h7⟩,
  ⟨λZz e=> .inl e,λZz e=> .inl e,λZz e Zz=>e,λb o n e=>kf.kp b o (λq=>n (q▸S.fr.1)) (λn' sn q=>n (S.fr.2 n' b (hN n' sn) q)) e,kf.cd⟩⟩
theorem bx {O:MEnv} {i:Nat} {d:D} {j:Nat} {e:D} (h:getE (setE O i d false) j=some (e,true)):getE O j=some (e,true):=by
 rcases aA h with ⟨_,q⟩ |⟨_,q⟩
 ·exact nomatch (Prod.mk.inj q).2
 ·exact q
theorem gX {O:MEnv} {i:Nat} {d:D} {x:Bool}:setE (O.set i none) i d x=setE O i d x:=by
 unfold setE;rw [List.set_set]
theorem SR.freshW {env:Env} {c:Cx} {Mu Ex W:Addr->Prop} {ow:Nat->Addr} {O:MEnv} {h h1:Heap} {i:Nat} {d:D} {v:Value} (S:SR env c.tbl Mu Ex ow O h) (k:Kp h h1) (w1:∀ b,W b->h.get? b=none) (w2:∀ b,W b->Al h1 b) (f:FrV h h1 (λb=>Ex b\/W b) d v) :
  ∃ a,v = .ref a/\h.get? a=none/\RR env c.tbl (λb=>(Ex b\/W b)\/b=a) (λj=>if j=i then a else ow j) (O.set i none) h1/\DenV h1 (λb=>(Ex b\/W b)\/b=a) true d v /\
   (∀ h2 N,RR env c.tbl (λb=>(Ex b\/W b)\/b=a) (λj=>if j=i then a else ow j) (setE O i d true) h2->(∀ n,N n->storable env.scope n=true)->KF N env h1 h2 ->
    SR env c.tbl (λb=>(Mu b\/W b)\/b=a) (λb=>(Ex b\/W b)\/b=a) (λj=>if j=i then a else ow j) (setE O i d true) h2/\Gr h Mu Ex (λb=>(Mu b\/W b)\/b=a) (λb=>(Ex b\/W b)\/b=a) h2):=by
 obtain ⟨a,items,ds,rfl,hn,rfl,l,r⟩:=f
 refine ⟨a,rfl,hn,?_,⟨a,items,ds,rfl,rfl,l,r⟩,λh2 N R2 hN kf=>⟨⟨R2,λb hb=>hb.elim (λe=> .inl (e.elim (λe=> .inl (S.mu b e)) .inr)) .inr,⟨.inl (.inl S.fr.1),λn c sn e=> .inl (.inl (S.fr.2 n c sn e))⟩,?_,?_⟩,?_⟩⟩
 ·have R1:=(S.rr.grow (W:=λb=>W b\/b=a) k (λb hb=>hb.elim (w1 b) λhb=>by rw [hb];exact hn) (λb hb=>hb.elim (w2 b) λhb=>by rw [hb];exact PL.al l))
  rw [show (λb=>Ex b\/(W b\/b=a))=(λb=>(Ex b\/W b)\/b=a) from funext λb=>propext or_assoc.symm] at R1
  have R2:=R1.weaken (O:=O.set i none) λj e hj=>(cC hj).2
  exact R2.reown λj e hj=>(if_neg (cC hj).1).symm
 ·intro j x e h1 h2 h3
  rcases aA h3 with ⟨q,_⟩ |⟨n,q⟩
  ·rw [if_pos q];exact .inr rfl
  ·rw [if_neg n];exact .inl (.inl (S.own j x e h1 h2 q))
 ·intro j k' x y e e' h1 h2 h3 h4 h5 h6 h7
  have alive:∀ j x e,c.tbl[j]? = some x->seen env.scope x=true->getE O j=some (e,true)->ow j≠a:=λj x e h1 h2 h3=>by
   obtain ⟨its,Zz,Zz,l',Zz⟩:=S.rr.own_al h1 h2 h3
   exact Al.ne (PL.al l') hn
  rcases aA h5 with ⟨q,_⟩ |⟨q,g5⟩<;>rcases aA h6 with ⟨q',_⟩ |⟨q',g6⟩
  ·exact absurd (q.trans q'.symm) h7
  ·rw [if_pos q,if_neg q'];exact (alive k' y e' h3 h4 g6).symm
  ·rw [if_neg q,if_pos q'];exact alive j x e h1 h2 g5
  ·rw [if_neg q,if_neg q'];exact S.inj j k' x y e e' h1 h2 h3 h4 g5 g6 h7
 ·refine ⟨λb hb=>hb.elim (λe=>e.elim .inl λe=> .inr (w1 b e)) λe=> .inr (by rw [e];exact hn),λb hb=>hb.elim (λe=>e.elim .inl λe=> .inr (w1 b e)) λe=> .inr (by rw [e];exact hn),λb hb Zz=> .inl (.inl hb),λb o n e=>(k b o e).then (λo' e'=>kf.kp b o' (λq=>n (q▸S.fr.1)) (λn' sn q=>n (S.fr.2 n' b (hN n' sn) q)) e') kf.cd,k.cd.trans kf.cd⟩
theorem SR.fresh {env:Env} {c:Cx} {Mu Ex:Addr->Prop} {ow:Nat->Addr} {O:MEnv} {h h1:Heap} {i:Nat} {d:D} {v:Value} (S:SR env c.tbl Mu Ex ow O h) (k:Kp h h1) (f:FrV h h1 Ex d v) :
  ∃ a,v = .ref a/\h.get? a=none/\RR env c.tbl (λb=>(Ex b\/False)\/b=a) (λj=>if j=i then a else ow j) (O.set i none) h1/\DenV h1 (λb=>(Ex b\/False)\/b=a) true d v /\
   (∀ h2 N,RR env c.tbl (λb=>(Ex b\/False)\/b=a) (λj=>if j=i then a else ow j) (setE O i d true) h2->(∀ n,N n->storable env.scope n=true)->KF N env h1 h2 ->
    SR env c.tbl (λb=>(Mu b\/False)\/b=a) (λb=>(Ex b\/False)\/b=a) (λj=>if j=i then a else ow j) (setE O i d true) h2/\Gr h Mu Ex (λb=>(Mu b\/False)\/b=a) (λb=>(Ex b\/False)\/b=a) h2) :=
 S.freshW (W:=λZz=>False) k (λZz e=>e.elim) (λZz e=>e.elim) (let ⟨a,items,ds,e1,e2,e3,l,r⟩:=f;⟨a,items,ds,e1,e2,e3,l,DenL.mono (λZz Zz Zz Zz e=>e) (λZz Zz n e=>n (e.imp (λe=>e.elim id False.elim) id)) _ _ r⟩)
theorem RR.gone {env:Env} {tbl:List Str} {Ex:Addr->Prop} {ow:Nat->Addr} {O:MEnv} {h h':Heap} {C:Addr} (R:RR env tbl Ex ow O h) (hk:Heap.SameBut C h h') (hx:Ex C) (hl:C≠env.locals) (hc:∀ n,env.cells.lookup n≠some C)
  (hn:∀ i x d,tbl[i]? = some x->seen env.scope x=true->getE O i=some (d,true)->ow i≠C):RR env tbl (λb=>Ex b/\b≠C) ow O h' :=
 R.chg (Wr:=(· = C)) (λb o n e=>hk.extBut b o n e) (λZz e=>e▸hx) (λe=>hl e.symm) (λn c e q=>hc n (q▸e)) hn (λZz e=>e.1) (λZz e n=>⟨e,n⟩) λZz e q=>absurd q e.2
theorem SR.growW {env:Env} {tbl:List Str} {Mu Ex W:Addr->Prop} {ow:Nat->Addr} {O:MEnv} {h h1:Heap} (S:SR env tbl Mu Ex ow O h) (k:Kp h h1) (w1:∀ b,W b->h.get? b=none) (w2:∀ b,W b->Al h1 b) :
  SR env tbl (λb=>Mu b\/W b) (λb=>Ex b\/W b) ow O h1/\Gr h Mu Ex (λb=>Mu b\/W b) (λb=>Ex b\/W b) h1 :=
 ⟨⟨S.rr.grow k w1 w2,λb hb=>hb.elim (λe=> .inl (S.mu b e)) .inr,⟨.inl S.fr.1,λn c sn e=> .inl (S.fr.2 n c sn e)⟩,λi x d h1 h2 h3=> .inl (S.own i x d h1 h2 h3),S.inj⟩,
  ⟨λb hb=>hb.elim .inl λe=> .inr (w1 b e),λb hb=>hb.elim .inl λe=> .inr (w1 b e),λb hb Zz=> .inl hb,λb o Zz e=>k b o e,k.cd⟩⟩
section
variable {X:Wd} {sc:Scope}
theorem yp:SS X sc .skip (execs []):=λO p E O' o Q h P=>by
 obtain ⟨rfl,rfl⟩:=Prod.mk.inj (sm h)
 exact wpAny_execs_nil (P p.s.heap p.s.toks p.Mu p.Ex p.ow p.S (Gr.refl _ _ _))
theorem Ak {a b:S} {st:Stmt} {rest:List Stmt} (ha:SS X sc a (exec st)) (hb:SS X sc b (execs rest)):SS X sc (.seq a b) (execs (st :: rest)):=λO p E O' o Q h P=>by
 refine ae h λq h1 h=>wpAny_execs_cons ?_
 obtain ⟨O1,o1⟩:=q
 cases o1 with
 |next=>exact ha O p E O1 .next _ h1 λh' tk Mu' Ex' ow' S' g=>hb O1 (p.on S' g tk) E O' o Q h (P.from p.lt p.S.mu g)
 |brk =>
  obtain ⟨rfl,rfl⟩:=Prod.mk.inj (sm h)
  exact ha O p E O1 .brk _ h1 P
 |ret d =>
  obtain ⟨rfl,rfl⟩:=Prod.mk.inj (sm h)
  exact ha O p E O1 (.ret d) _ h1 P
theorem Bq {t:T} {test:Expr} {a b:S} {body els:List Stmt} {pos:Pos} (ht:cf X sc t test) (ha:SS X sc a (execs body)) (hb:SS X sc b (execs els)):SS X sc (.ifs t a b) (exec (.If test body els pos)):=λO p E O' o Q h P=>by
 refine ae h λx hx h=>ae h λr htr h=> ?_
 refine wpAny_If (ht O p.at E x r _ hx htr λh1 tk1 k1=> ?_)
 have P:=P.from (tk1:=tk1) p.lt p.S.mu (Gr.of_kp k1 _ _)
 cases r with
 |true=>rw [if_pos rfl];exact ha O (p.to k1 tk1) E O' o Q h P
 |false=>rw [if_neg (by decide)];exact hb O (p.to k1 tk1) E O' o Q h P
theorem sN {t:T} {test:Expr} {pos:Pos} {msg:Option Expr} (ht:cf X sc t test):SS X sc (.asrt t) (exec (.Assert test msg pos)):=λO p E O' o Q h P=>by
 refine ae h λx hx h=>ae h λr htr h=> ?_
 cases r with
 |false=>exact ai h
 |true =>
  obtain ⟨rfl,rfl⟩:=Prod.mk.inj (sm h)
  show wpAny _ p.A (do standAt pos;if <- isTrue test p.env (eval test p.env) then pure .next else assertFails test.pos (evalOpt msg p.env)) Q E p.s
  refine wpAny_bind (wpAny_standAt (wpAny_bind (ht O p.at E x true _ hx htr λh1 tk1 k1=> ?_)))
  rw [if_pos rfl]
  exact wpAny_pure (P h1 tk1 p.Mu p.Ex p.ow (p.S.keep k1) (Gr.of_kp k1 _ _))
theorem Af {pos:Pos}:SS X sc .brk (exec (.Break pos)):=λO p E O' o Q h P=>by
 obtain ⟨rfl,rfl⟩:=Prod.mk.inj (sm h)
 exact wpAny_Break (P p.s.heap p.s.toks p.Mu p.Ex p.ow p.S (Gr.refl _ _ _))
abbrev Ast.Post {O:MEnv} (p:Ast X sc O) (O':MEnv) (Q:Shared->Prop):Prop:=∀ h' tk Mu' Ex' ow',SR p.env X.c.tbl Mu' Ex' ow' O' h'->Gr p.s.heap p.Mu p.Ex Mu' Ex' h'->Q {p.s with heap:=h',toks:=tk}
theorem jY {O:MEnv} (p:Ast X sc O) {E:Value->Shared->Prop} {x:Str} {i:Nat} {b:Bool} {d:D} {v:Value} {h1:Heap} {tk1:Nat} {Q:Unit->Shared->Prop} (hs:storable sc x=true) (hi:X.c.tbl[i]? = some x) (k1:Kp p.s.heap h1) (hd:b=false->Den h1 p.Ex d v) (hf:b=true->FrV p.s.heap h1 p.Ex d v)
  (P:p.Post (setE O i d b) (Q ())):wpAny (model X.P X.w) p.A (storeName p.env x v) Q E {p.s with heap:=h1,toks:=tk1}:=by
 obtain ⟨s1,s2⟩:=bC p.at.hsc hs
 cases b with
 |false =>
  refine bp (s:={p.s with heap:=h1,toks:=tk1}) (N:=λn=>storable sc n=true) hs (b:=false) (p.S.rr.keep k1) s1 hi s2 (hd rfl) (λe=>nomatch e) λh2 tk2 R2 kf=> ?_
  obtain ⟨S2,g2⟩:=(p.S.keep k1).storedN R2 p.sto kf λZz Zz=>bx
  exact P h2 tk2 p.Mu p.Ex p.ow S2 ((Gr.of_kp k1 _ _).trans p.lt p.S.mu g2)
 |true =>
  obtain ⟨a,rfl,hn,R1,dv,fin⟩:=p.S.fresh (i:=i) k1 (hf rfl)
  refine bp (s:={p.s with heap:=h1,toks:=tk1}) (N:=λn=>storable sc n=true) hs (b:=true) R1 s1 hi s2 dv (λZz=>by rw [if_pos rfl]) λh2 tk2 R2 kf=> ?_
  rw [gX] at R2
  obtain ⟨S2,g2⟩:=fin h2 _ R2 p.sto kf
  exact P h2 tk2 _ _ _ S2 g2
theorem gu {value:Expr} {x:Str} {p:Pos} {line:Nat} {env:Env} (hb:isBadC value=false):swapsWith value (some (.Name x p)) line env=pure false\/(swapsWith value (some (.Name x p)) line env=pure true/\∃ elt gens sc' pos,value = .ListComp elt gens sc' pos):=by
 cases value with
 |ListComp elt gens sc' pos =>
  unfold swapsWith
  dsimp only
  cases (env.blockKind == .function&&env.kindOf x==some .local&&p.line==(Expr.ListComp elt gens sc' pos).pos.line && !(sc'.names.any λ(n,k)=>n==x&&(k == .local || k == .cell))) with
  |false=>exact .inl rfl
  |true=>exact .inr ⟨rfl,_,_,_,_,rfl⟩
 |SetComp elt gens sc' pos=>exact nomatch hb
 |DictComp a b gens sc' pos=>exact nomatch hb
 |_=>exact .inl rfl
theorem tB {t:T} {elt:Expr} {gens:List Comprehension} {sc':Scope} {pos':Pos} {x:Str} {i:Nat} {b:Bool} {p0:Pos} {O:MEnv} (p:Ast X sc O) {E:Value->Shared->Prop} {d:D} {Q:Flow->Shared->Prop} (ht:yR X sc t (.ListComp elt gens sc' pos')) (hs:storable sc x=true) (hi:X.c.tbl[i]? = some x) (hd:ev X.G X.F O false t=some d)
  (P:p.Post (setE O i d b) (Q .next)) :
  wpAny (model X.P X.w) p.A (comprehension (.ListComp elt gens sc' pos') sc' p.env (firstIterPos gens pos') (newList []) (firstAsync gens) (firstIter gens p.env) (some (assign (.Name x p0) p.env))) (λZz s'=>Q .next s') E p.s:=by
 refine ht elt gens sc' pos' rfl (some (assign (.Name x p0) p.env)) O p.at E false d _ hd ?_
 rintro D C h5 tk5 m ys all rfl hD hC hDC k5 pl5 den5 hns5
 show wpAny _ p.A (assign (.Name x p0) p.env (.ref D)) _ E _
 have alC:Al h5 C:=let ⟨o,_,_,ho,_⟩:=hns5;⟨o,ho⟩
 have Cl:C≠p.env.locals:=λq=>Al.ne (p.lt _ p.S.rr.own.1) hC q.symm
 have Cc:∀ n',p.env.cells.lookup n'≠some C:=λn' q=>Al.ne (p.lt _ (p.S.rr.own.2 n' C q)) hC rfl
 have oC:∀ j y e,X.c.tbl[j]? = some y->seen p.env.scope y=true->getE O j=some (e,true)->p.ow j≠C:=λj y e h1 h2 h3=>let ⟨_,_,_,l,_⟩:=p.S.rr.own_al h1 h2 h3;Al.ne (PL.al l) hC
 obtain ⟨s1,s2⟩:=bC p.at.hsc hs
 refine wpAny_assign_Name ?_
 have fin:∀ (Mu' Ex':Addr->Prop) (ow':Nat->Addr) (h6:Heap) (tk6:Nat),SR p.env X.c.tbl Mu' Ex' ow' (setE O i (.list all) b) h6->Gr p.s.heap p.Mu p.Ex Mu' Ex' h6->Ex' C->(∀ j y e,X.c.tbl[j]? = some y->seen p.env.scope y=true->getE (setE O i (.list all) b) j=some (e,true)->ow' j≠C)->h6.Ns C m ->
   (∃ m,h6.Ns C m/\∀ h',Heap.SameBut C h6 h'->Q .next {p.s with heap:=h',toks:=tk6}):=λMu' Ex' ow' h6 tk6 S6 g6 exC how hn6 =>
  ⟨m,hn6,λh7 sb=>P h7 tk6 (λb=>Mu' b/\b≠C) (λb=>Ex' b/\b≠C) ow' ⟨S6.rr.gone sb exC Cl Cc how,λb hb=>⟨S6.mu b hb.1,hb.2⟩,⟨⟨S6.fr.1,Ne.symm Cl⟩,λn' c' sn e=>⟨S6.fr.2 n' c' sn e,λq=>Cc n' (q▸e)⟩⟩,
   λj y e h1 h2 h3=>⟨S6.own j y e h1 h2 h3,how j y e h1 h2 h3⟩,S6.inj⟩ ⟨λb hb=>g6.mu b hb.1,λb hb=>g6.ex b hb.1,λb hb hn=>⟨g6.kp b hb hn,λq=>Al.ne (p.lt b hb) hC q⟩,λb o nb e=>(g6.keep b o nb e).thenC (λo' e'=> .inl (sb.extBut b o' (λq=>ai ((q▸hC:p.s.heap.get? b=none).symm.trans e)) e')) (Mine.Cc.sb (λb o n e=>sb.extBut b o n e) (Ns.nofields hn6)),g6.cd.sbn hC (λb o n e=>sb.extBut b o n e) (Ns.nofields hn6)⟩⟩
 have w1:∀ b,b=C->p.s.heap.get? b=none:=λb hb=>hb▸hC
 have w2:∀ b,b=C->Al h5 b:=λb hb=>hb▸alC
 cases b with
 |false =>
  obtain ⟨S5,g5⟩:=p.S.growW (W:=(· = C)) k5 w1 w2
  refine bp (s:={p.s with heap:=h5,toks:=tk5}) (N:=λn=>storable sc n=true) hs (b:=false) S5.rr s1 hi s2 (d:= .list all) ⟨_,_,rfl,λe=>e.elim (λe=>Al.ne (p.lt _ e) hD rfl) (λe=>hDC e),pl5,DenL.mono (λZz Zz Zz Zz e=>e) (λZz Zz n e=>n (.inl e)) _ _ den5⟩ (λe=>nomatch e) λh6 tk6 R6 kf=> ?_
  obtain ⟨S6,g6⟩:=S5.storedN R6 p.sto kf λZz Zz=>bx
  exact fin _ _ p.ow h6 tk6 S6 (g5.trans p.lt p.S.mu g6) (.inr rfl) (λj y e h1 h2 h3=>oC j y e h1 h2 (bx h3)) (Ns.gw hns5 λo e=>kf.kp _ o Cl (λn' Zz=>Cc n') e)
 |true =>
  obtain ⟨a,e1,hn,R1,dv,fin2⟩:=p.S.freshW (W:=(· = C)) (i:=i) k5 w1 w2 ⟨D,ys,all,rfl,hD,rfl,pl5,den5⟩
  obtain rfl:=Value.ref.inj e1
  refine bp (s:={p.s with heap:=h5,toks:=tk5}) (N:=λn=>storable sc n=true) hs (b:=true) R1 s1 hi s2 dv (λZz=>by rw [if_pos rfl]) λh6 tk6 R6 kf=> ?_
  rw [gX] at R6
  obtain ⟨S6,g6⟩:=fin2 h6 _ R6 p.sto kf
  refine fin _ _ _ h6 tk6 S6 g6 (.inl (.inr rfl)) (λj y e h1 h2 h3=> ?_) (Ns.gw hns5 λo e=>kf.kp _ o Cl (λn' Zz=>Cc n') e)
  rcases aA h3 with ⟨q,_⟩ |⟨n,q⟩
  ·rw [if_pos q];exact hDC
  ·rw [if_neg n];exact oC j y e h1 h2 q
theorem Ad {t:T} {e:Expr} {x:Str} {i:Nat} {b:Bool} {p0 pos:Pos} (ht:All X sc t e) (hs:storable sc x=true) (hi:X.c.tbl[i]? = some x) (hb:isBadC e=false):SS X sc (.asg i b t) (exec (.Assign [.Name x p0] e pos)):=λO p E O' o Q h P=>by
 refine ae h λd hd h=>fD h λhfr h=> ?_
 obtain ⟨rfl,rfl⟩:=Prod.mk.inj (sm h)
 rcases gu (x:=x) (p:=p0) (line:=pos.line) (env:=p.env) hb with hsw |⟨hsw,elt,gens,sc',pos',rfl⟩
 ·refine wpAny_Assign_Name (ht.vs O p.at E false d _ hd λv h1 tk1 k1 d1 f1=> ?_) hsw
  refine jY p hs hi k1 (λZz=>d1) (λhb=>f1 ?_) P
  subst hb
  rwa [Bool.true_and,Bool.not_eq_true',Bool.not_eq_false] at hfr
 ·rw [exec_Assign_Name_used _ _ _ _ hsw]
  refine wpAny_bind (wpAny_standAt (wpAny_bind ?_))
  show wpAny _ p.A (do let _ <- comprehension (.ListComp elt gens sc' pos') sc' p.env (firstIterPos gens pos') (newList []) (firstAsync gens) (firstIter gens p.env) (some (assign (.Name x p0) p.env))) _ _ p.s
  exact wpAny_bind (wpAny_mono (tB (b:=b) (p0:=p0) p ht.us hs hi hd P) (λZz s' hq=>wpAny_pure (wpAny_pure hq)) λZz Zz e=>e)
end
theorem oz:∀ {is:List Nat} {ds:List D} {O O':MEnv},setAll O is ds=some O'->∀ j e,getE O' j=some (e,true)->getE O j=some (e,true):=by
 intro is
 induction is with
 |nil =>
  intro ds O O' h j e hj
  cases ds with
  |nil=>exact sm h▸hj
  |cons _ _=>exact ai h
 |cons i is ih =>
  intro ds O O' h j e hj
  cases ds with
  |nil=>exact ai h
  |cons d ds=>exact bx (ih h j e hj)
theorem l7:∀ {is:List (Nat×Bool)} {ds:List D} {O:MEnv},is.all (λp=> !p.2)=true->setMulti O is ds=setAll O (is.map (·.1)) ds:=by
 intro is
 induction is with
 |nil =>
  intro ds O Zz
  cases ds<;>rfl
 |cons p is ih =>
  intro ds O hf
  cases ds with
  |nil=>rfl
  |cons d ds =>
   refine aa hf λh1 h2=> ?_
   show setMulti (setE O p.1 d p.2) is ds=_
   rw [nt h1];exact ih h2
noncomputable def nameAt (env:Env) (line:Nat):Expr->Option Str
 | .Name id pos=>if env.kindOf id==some .local&&pos.line==line then some id else none
 |_=>none
theorem gh {α:Type} {c:Prop} [i:Decidable c] {a b:α} {R:Prop} (h:¬ c->b=a\/R):(if c then a else b)=a\/R:=by
 cases i with
 |isTrue hc=>exact .inl rfl
 |isFalse hc=>exact h hc
theorem eZ {ts vs:List Expr} {p p':Nat} {q q':Pos} {env:Env} (hc:vs.all (constantsAlone 8)=false):swappedStores [.Tuple ts p q] (.Tuple vs p' q') env=pure none \/
  ∃ names line,swappedStores [.Tuple ts p q] (.Tuple vs p' q') env=pure (some names)/\(ts.length=2\/ts.length=3)/\names=ts.filterMap (nameAt env line)/\names.length=ts.length/\names.eraseDups.length=names.length:=by
 unfold swappedStores
 refine gh λh1=>gh λh2=>gh λh3=>gh λh4=> .inr ⟨_,(ts.head?.map (·.pos.line)).getD 0,?_,?_,rfl,?_,?_⟩
 ·exact (if_neg h1).trans ((if_neg h2).trans ((if_neg h3).trans ((if_neg h4).trans (if_neg (by rw [hc];exact Bool.false_ne_true)))))
 ·exact jN h1 λh1 Zz=>jN (by rw [h1];exact Bool.false_ne_true) λh1 Zz=>(Bool.or_eq_true_iff.mp ((Bool.not_eq_false' _).mp h1)).imp beq_iff_eq.mp beq_iff_eq.mp
 ·exact jN h3 λh Zz=>bne_eq_false_iff_eq.mp h
 ·exact jN h3 λZz h=>bne_eq_false_iff_eq.mp h
theorem ip {α:Type} {c:Bool} {a b:α} (h:c=false):(if c=true then a else b)=b:=by rw [h];exact if_neg Bool.false_ne_true
theorem m5 {ts vs:List Expr} {p p':Nat} {q q':Pos} {env:Env} (hk:env.scope.kind = .function) (h:swB env.scope ts vs=true) :
  swappedStores [.Tuple ts p q] (.Tuple vs p' q') env=pure (some (ts.filterMap (nameAt env (line0 ts))))/\(ts.length=2\/ts.length=3)/\(ts.filterMap (nameAt env (line0 ts))).length=ts.length/\(ts.filterMap (nameAt env (line0 ts))).eraseDups.length=(ts.filterMap (nameAt env (line0 ts))).length:=by
 refine aa h λh h7=>aa h λh h6=>aa h λh h5=>aa h λh h4=>aa h λh h3=>aa h λh1 h2=>⟨?_,(Bool.or_eq_true_iff.mp h1).imp beq_iff_eq.mp beq_iff_eq.mp,beq_iff_eq.mp h4,beq_iff_eq.mp h5⟩
 have hb:env.blockKind = .function:=by unfold Env.blockKind;rw [hk];rfl
 unfold swappedStores
 refine (ip ?_).trans ((ip ?_).trans ((ip ?_).trans ((ip (nt h6)).trans (ip (nt h7)))))
 ·rw [hb,h1,beq_iff_eq.mp h2];simp
 ·exact nt h3
 ·have e4:(ts.filterMap (nmAt env.scope (line0 ts))).length=ts.length:=beq_iff_eq.mp h4
  exact Bool.or_eq_false_iff.mpr ⟨bne_eq_false_iff_eq.mpr e4,bne_eq_false_iff_eq.mpr (beq_iff_eq.mp h5)⟩
section
variable {X:Wd} {sc:Scope}
theorem aY {ts:List Expr} {p:Nat} {q:Pos} {value:Expr} {line:Nat} {env:Env}:swapsWithSole [.Tuple ts p q] value line env=pure false:=by
 cases value<;>rfl
theorem dw {ts:List Expr} {tg:List Nat} {k0:Nat} {q pos:Pos} {e:Expr} {t:T} {ds:List D} {O O':MEnv} (p:Ast X sc O) {E:Value->Shared->Prop} {Q:Flow->Shared->Prop}
  (ht:VS X sc t e) (hT:Tgs X.c sc ts tg) (hw:swappedStores [.Tuple ts k0 q] e p.env=pure none) (hd:ev X.G X.F O false t=some (.tup ds)) (hset:setAll O tg ds=some O') (P:p.Post O' (Q .next)):wpAny (model X.P X.w) p.A (exec (.Assign [.Tuple ts k0 q] e pos) p.env) Q E p.s:=by
 refine wpAny_Assign_stores (ht O p.at E false _ _ hd λv h1 tk1 k1 d1 Zz=> ?_) aY hw
 obtain ⟨a,items,rfl,Zz,l,r⟩:=d1
 show wpAny _ p.A (assign (.Tuple ts k0 q) p.env (.ref a)) _ E _
 refine cX (s:={p.s with heap:=h1,toks:=tk1}) p.ar.hd p.at.hsc hT (p.S.rr.keep k1) (TupAt.isTup l) r hset λh2 tk2 R2 kf=> ?_
 obtain ⟨S2,g2⟩:=(p.S.keep k1).storedN R2 p.sto kf (oz hset)
 exact P h2 tk2 p.Mu p.Ex p.ow S2 ((Gr.of_kp k1 _ _).trans p.lt p.S.mu g2)
theorem Am {ts:List Expr} {tg:List Nat} {k0:Nat} {q pos:Pos} {e:Expr} {t:T} (ht:VS X sc t e) (hT:Tgs X.c sc ts tg) (hnt:isTupE e=false):SS X sc (.unp tg t) (exec (.Assign [.Tuple ts k0 q] e pos)):=λO p E O' o Q h P=>by
 refine dS h λds hd h=>ay h λO1 hset e1=> ?_
 obtain ⟨rfl,rfl⟩:=Prod.mk.inj e1
 refine dw p ht hT ?_ hd hset P
 cases e<;>first |rfl |exact nomatch hnt
theorem dH {O:MEnv} {i j:Nat} {d e:D} {x y:Bool} (h:i≠j):setE (setE O i d x) j e y=setE (setE O j e y) i d x:=by
 unfold setE;exact List.set_comm _ _ (λq=>h q)
theorem qK {x y:Str} (h:[x,y].eraseDups.length=2):x≠y:=by
 rintro rfl
 rw [List.eraseDups_cons,List.filter_cons_of_neg (by rw [beq_self_eq_true];exact Bool.false_ne_true)] at h
 exact nomatch h
theorem wV:∀ (n:Nat) (l:List Str),l.length<=n->l.eraseDups.length<=l.length:=by
 intro n
 induction n with
 |zero=>intro l h;cases l with |nil=>exact Nat.le_refl 0 |cons _ _=>exact nomatch h
 |succ n ih =>
  intro l h
  cases l with
  |nil=>exact Nat.le_refl 0
  |cons a l =>
   rw [List.eraseDups_cons]
   exact Nat.succ_le_succ (Nat.le_trans (ih _ (Nat.le_trans (List.length_filter_le _ l) (Nat.le_of_succ_le_succ h))) (List.length_filter_le _ l))
theorem wU {x y z:Str} (h:[x,y,z].eraseDups.length=3):x≠y/\x≠z/\y≠z:=by
 rw [List.eraseDups_cons,List.length_cons] at h
 have h2:=wV _ ([y,z].filter λb=> !b==x) (Nat.le_refl _)
 rw [Nat.succ.inj h] at h2
 by_cases hy:y=x
 ·rw [List.filter_cons_of_neg (by rw [beq_iff_eq.mpr hy];exact Bool.false_ne_true)] at h2
  exact absurd (show 2<=1 from Nat.le_trans h2 (List.length_filter_le _ _)) (by decide)
 ·rw [List.filter_cons_of_pos (by rw [beq_eq_false_iff_ne.mpr hy];rfl)] at h h2
  by_cases hz:z=x
  ·rw [List.filter_cons_of_neg (by rw [beq_iff_eq.mpr hz];exact Bool.false_ne_true)] at h2
   exact absurd (show 2<=1 from h2) (by decide)
  ·rw [List.filter_cons_of_pos (by rw [beq_eq_false_iff_ne.mpr hz];rfl)] at h
   exact ⟨λq=>hy q.symm,λq=>hz q.symm,qK (Nat.succ.inj h)⟩
theorem SR.take {env:Env} {c:Cx} {Mu Ex:Addr->Prop} {ow:Nat->Addr} {O:MEnv} {h:Heap} {i:Nat} {a:Addr} {items:Array Value} {ds:List D} (S:SR env c.tbl Mu Ex ow O h) (hmu:Mu a) (hu:∀ j x e,c.tbl[j]? = some x->seen env.scope x=true->getE O j=some (e,true)->ow j≠a) (l:h.PlainList a items) (r:DenL h Ex ds items.toList) :
  RR env c.tbl Ex (λj=>if j=i then a else ow j) (O.set i none) h/\DenV h Ex true (.list ds) (.ref a) /\
   (∀ h2 N,RR env c.tbl Ex (λj=>if j=i then a else ow j) (setE O i (.list ds) true) h2->(∀ n,N n->storable env.scope n=true)->KF N env h h2 ->
    SR env c.tbl Mu Ex (λj=>if j=i then a else ow j) (setE O i (.list ds) true) h2/\Gr h Mu Ex Mu Ex h2):=by
 refine ⟨?_,⟨a,items,ds,rfl,rfl,l,r⟩,λh2 N R2 hN kf=>⟨⟨R2,S.mu,S.fr,?_,?_⟩,?_⟩⟩
 ·exact (S.rr.weaken (O:=O.set i none) λj e hj=>(cC hj).2).reown λj e hj=>(if_neg (cC hj).1).symm
 ·intro j x e h1 h2 h3
  rcases aA h3 with ⟨q,_⟩ |⟨n,q⟩
  ·rw [if_pos q];exact hmu
  ·rw [if_neg n];exact S.own j x e h1 h2 q
 ·intro j k' x y e e' h1 h2 h3 h4 h5 h6 h7
  rcases aA h5 with ⟨q,_⟩ |⟨q,g5⟩<;>rcases aA h6 with ⟨q',_⟩ |⟨q',g6⟩
  ·exact absurd (q.trans q'.symm) h7
  ·rw [if_pos q,if_neg q'];exact (hu k' y e' h3 h4 g6).symm
  ·rw [if_neg q,if_pos q'];exact hu j x e h1 h2 g5
  ·rw [if_neg q,if_neg q'];exact S.inj j k' x y e e' h1 h2 h3 h4 g5 g6 h7
 ·exact ⟨λb hb=> .inl hb,λb hb=> .inl hb,λb hb Zz=>hb,λb o n e=>kf.kp b o (λq=>n (q▸S.fr.1)) (λn' sn q=>n (S.fr.2 n' b (hN n' sn) q)) e,kf.cd⟩
abbrev yM (env:Env) (tbl:List Str) (ow:Nat->Addr) (O:MEnv) (a:Addr):Prop:=∀ j x e,tbl[j]? = some x->seen env.scope x=true->getE O j=some (e,true)->ow j≠a
structure El (env:Env) (tbl:List Str) (Mu Ex:Addr->Prop) (ow:Nat->Addr) (O:MEnv) (h:Heap) (b:Bool) (d:D) (v:Value):Prop where
 dv:DenV h Ex b d v
 mu:b=true->∀ a,v = .ref a->Mu a/\yM env tbl ow O a
section
variable {A:Around} {E:Value->Shared->Prop} {s:Shared} {env:Env} {Mu Ex:Addr->Prop} {ow:Nat->Addr} {O:MEnv}
theorem dT {x:Str} {i:Nat} {b:Bool} {d:D} {v:Value} {Q:Unit->Shared->Prop} (hsc:env.scope=sc) (S:SR env X.c.tbl Mu Ex ow O s.heap) (hs:storable sc x=true/\X.c.tbl[i]? = some x) (e:El env X.c.tbl Mu Ex ow O s.heap b d v)
  (P:∀ h' tk ow',SR env X.c.tbl Mu Ex ow' (setE O i d b) h'->Gr s.heap Mu Ex Mu Ex h'->(∀ b' d' v',El env X.c.tbl Mu Ex ow O s.heap b' d' v'->(b=true->b'=true->v≠v')->El env X.c.tbl Mu Ex ow' (setE O i d b) h' b' d' v')->Q () {s with heap:=h',toks:=tk}):wpAny (model X.P X.w) A (bindName env x v) Q E s:=by
 obtain ⟨s1,s2⟩:=bC (ScEq.self hsc) hs.1
 obtain ⟨m,cm,F,Zz⟩:=S.rr.fr
 have hN:∀ n,storable sc n=true->storable env.scope n=true:=λZz e=>hsc.symm▸e
 cases b with
 |false =>
  refine wpAny_bindName (bp (N:=λx=>storable sc x=true) hs.1 (b:=false) S.rr s1 hs.2 s2 e.dv (λe=>nomatch e) λh' tk R' kf=> ?_)
  obtain ⟨S2,g2⟩:=S.storedN R' hN kf λZz Zz=>bx
  exact P h' tk ow S2 g2 λb' d' v' e' Zz=>⟨dW F S.rr.own kf e'.dv,λhb a ha=>⟨(e'.mu hb a ha).1,λj y u h1 h2 h3=>(e'.mu hb a ha).2 j y u h1 h2 (bx h3)⟩⟩
 |true =>
  obtain ⟨a,items,ds,rfl,rfl,l,r⟩:=e.dv
  obtain ⟨hmu,hu⟩:=e.mu rfl a rfl
  obtain ⟨R1,dv,fin⟩:=S.take (i:=i) hmu hu l r
  refine wpAny_bindName (bp (N:=λx=>storable sc x=true) hs.1 (b:=true) R1 s1 hs.2 s2 dv (λZz=>by rw [if_pos rfl]) λh' tk R2 kf=> ?_)
  rw [gX] at R2
  obtain ⟨S2,g2⟩:=fin h' _ R2 hN kf
  refine P h' tk _ S2 g2 λb' d' v' e' hne=>⟨dW F S.rr.own kf e'.dv,λhb a' ha=>⟨(e'.mu hb a' ha).1,λj y u h1 h2 h3=> ?_⟩⟩
  rcases aA h3 with ⟨q,_⟩ |⟨n,q⟩
  ·show (if j=i then a else ow j)≠a'
   rw [if_pos q];exact λq=>hne rfl hb (q▸ha.symm)
  ·show (if j=i then a else ow j)≠a'
   rw [if_neg n];exact (e'.mu hb a' ha).2 j y u h1 h2 q
end
def RowV (env:Env) (tbl:List Str) (Mu Ex:Addr->Prop) (ow:Nat->Addr) (O:MEnv) (h:Heap):List (Nat×Bool)->List D->List Value->Prop
 | [],[],vs=>vs=[]
 |p :: is,d :: ds,vs=>∃ v r,vs=v :: r/\El env tbl Mu Ex ow O h p.2 d v/\(p.2=true->v∉r)/\RowV env tbl Mu Ex ow O h is ds r
 |_,_,_=>False
inductive vC (c:Cx) (sc:Scope):List Str->List Nat->Prop where
 |nil:vC c sc [] []
 |cons {x:Str} {j:Nat} {xs:List Str} {js:List Nat}:storable sc x=true/\c.tbl[j]? = some x->vC c sc xs js->vC c sc (x :: xs) (j :: js)
theorem uE {c:Cx} {env:Env} {line:Nat} {ts:List Expr} {js:List Nat} (hT:Tgs c sc ts js):(ts.filterMap (nameAt env line)).length<=ts.length/\((ts.filterMap (nameAt env line)).length=ts.length->vC c sc (ts.filterMap (nameAt env line)) js):=by
 induction hT with
 |nil=>exact ⟨Nat.le_refl _,λZz=> .nil⟩
 | @cons x p i es is h1 h2 h3 ih =>
  rw [List.filterMap_cons]
  cases hn:nameAt env line (.Name x p) with
  |none=>exact ⟨Nat.le_succ_of_le ih.1,λq=>absurd (q▸ih.1) (Nat.not_succ_le_self _)⟩
  |some y =>
   have hy:x=y:=gd hn λZz q=>sm q
   exact ⟨Nat.succ_le_succ ih.1,λq=> .cons ⟨hy▸h1,hy▸h2⟩ (ih.2 (Nat.succ.inj q))⟩
theorem RowV.cons {env:Env} {tbl:List Str} {Mu Ex:Addr->Prop} {ow:Nat->Addr} {O:MEnv} {h:Heap} {p:Nat×Bool} {is:List (Nat×Bool)} {ds:List D} {vs:List Value} (r:RowV env tbl Mu Ex ow O h (p :: is) ds vs):∃ d ds' v r,ds=d :: ds'/\vs=v :: r/\El env tbl Mu Ex ow O h p.2 d v/\(p.2=true->v∉r)/\RowV env tbl Mu Ex ow O h is ds' r:=by
 cases ds with
 |nil=>exact r.elim
 |cons d ds=>obtain ⟨v,r,e,h1,h2,h3⟩:=r;exact ⟨d,ds,v,r,rfl,e,h1,h2,h3⟩
theorem RowV.nil {env:Env} {tbl:List Str} {Mu Ex:Addr->Prop} {ow:Nat->Addr} {O:MEnv} {h:Heap} {ds:List D} {vs:List Value} (r:RowV env tbl Mu Ex ow O h [] ds vs):ds=[]/\vs=[]:=by
 cases ds with
 |nil=>exact ⟨rfl,r⟩
 |cons _ _=>exact r.elim
theorem iG {O O':MEnv} {s:Shared} {A:Around} {E:Value->Shared->Prop} {env:Env} {Mu Ex:Addr->Prop} {ow:Nat->Addr} {ts:List Expr} {is:List (Nat×Bool)} {ds:List D} {its:List Value} {names:List Str} {line:Nat} {Q:Unit->Shared->Prop} (hsc:env.scope=sc) (S:SR env X.c.tbl Mu Ex ow O s.heap)
  (hT:Tgs X.c sc ts (is.map (·.1))) (r:RowV env X.c.tbl Mu Ex ow O s.heap is ds its) (hset:setMulti O is ds=some O') (h23:ts.length=2\/ts.length=3) (hn1:names=ts.filterMap (nameAt env line)) (hn2:names.length=ts.length) (hn3:names.eraseDups.length=names.length)
  (P:∀ h' tk ow',SR env X.c.tbl Mu Ex ow' O' h'->Gr s.heap Mu Ex Mu Ex h'->Q () {s with heap:=h',toks:=tk}):wpAny (model X.P X.w) A (assignInOrder (names.reverse.map λn=>bindName env n) its.reverse) Q E s:=by
 have f:=(uE (line:=line) (env:=env) hT).2 (hn1▸hn2)
 rw [<- hn1] at f
 have hl2:is.length=2\/is.length=3:=by rw [<- List.length_map (f:=(·.1)) (as:=is),<- hT.length];exact h23
 have lt:=S.rr.lt
 have sub:=S.mu
 rcases is with _ |⟨p,_ |⟨q,_ |⟨m,_ |⟨_,_⟩⟩⟩⟩
 ·exact absurd hl2 (by decide)
 ·exact absurd hl2 (λh=>h.elim (λh=>nomatch h) λh=>nomatch h)
 ·obtain ⟨d,ds,v,r1,rfl,rfl,ev,nv,r⟩:=r.cons
  obtain ⟨e,ds,u,r2,rfl,rfl,eu,nu,r⟩:=r.cons
  obtain ⟨rfl,rfl⟩:=r.nil
  cases f with |cons a f=>cases f with |cons b f=>cases f with |nil =>
  obtain rfl:=sm hset
  have ne:=qK hn3
  have hij:p.1≠q.1:=λz=>ne (sm (a.2.symm.trans ((congrArg (λk:Nat=>X.c.tbl[k]?) z).trans b.2)))
  refine wpAny_bind (wpAny_holding (dT hsc S b eu λh1 tk1 ow1 S1 g1 k1=> ?_))
  refine wpAny_bind (wpAny_holding (dT (s:={s with heap:=h1,toks:=tk1}) hsc S1 a (k1 _ _ _ ev λZz hb z=>nv hb (z▸List.mem_cons_self)) λh2 tk2 ow2 S2 g2 Zz=>wpAny_pure ?_))
  rw [dH (Ne.symm hij)] at S2
  exact P h2 tk2 ow2 S2 (g1.trans lt sub g2)
 ·obtain ⟨d,ds,v,r1,rfl,rfl,ev,nv,r⟩:=r.cons
  obtain ⟨e,ds,u,r2,rfl,rfl,eu,nu,r⟩:=r.cons
  obtain ⟨w,ds,y,r3,rfl,rfl,ey,ny,r⟩:=r.cons
  obtain ⟨rfl,rfl⟩:=r.nil
  cases f with |cons a f=>cases f with |cons b f=>cases f with |cons c f=>cases f with |nil =>
  obtain rfl:=sm hset
  obtain ⟨n1,n2,n3⟩:=wU hn3
  have hij:p.1≠q.1:=λz=>n1 (sm (a.2.symm.trans ((congrArg (λk:Nat=>X.c.tbl[k]?) z).trans b.2)))
  have hil:p.1≠m.1:=λz=>n2 (sm (a.2.symm.trans ((congrArg (λk:Nat=>X.c.tbl[k]?) z).trans c.2)))
  have hjl:q.1≠m.1:=λz=>n3 (sm (b.2.symm.trans ((congrArg (λk:Nat=>X.c.tbl[k]?) z).trans c.2)))
  refine wpAny_bind (wpAny_holding (dT hsc S c ey λh1 tk1 ow1 S1 g1 k1=> ?_))
  refine wpAny_bind (wpAny_holding (dT (s:={s with heap:=h1,toks:=tk1}) hsc S1 b (k1 _ _ _ eu λZz hb z=>nu hb (z▸List.mem_cons_self)) λh2 tk2 ow2 S2 g2 k2=> ?_))
  refine wpAny_bind (wpAny_holding (dT (s:={s with heap:=h2,toks:=tk2}) hsc S2 a (k2 _ _ _ (k1 _ _ _ ev λZz hb z=>nv hb (z▸List.mem_cons_of_mem _ List.mem_cons_self)) λZz hb z=>nv hb (z▸List.mem_cons_self)) λh3 tk3 ow3 S3 g3 Zz=>wpAny_pure ?_))
  rw [dH (Ne.symm hjl),dH (Ne.symm hil),dH (Ne.symm hij)] at S3
  exact P h3 tk3 ow3 S3 (g1.trans lt sub (g2.trans S1.rr.lt sub g3))
 ·exact absurd hl2 (λh=>h.elim (λh=>nomatch h) λh=>nomatch h)
theorem sB {env:Env} {tbl:List Str} {Mu Ex:Addr->Prop} {ow:Nat->Addr} {O:MEnv} {h:Heap} (is:List (Nat×Bool)):∀ {ds:List D} {vs:List Value},is.all (λp=> !p.2)=true->is.length=ds.length->DenL h Ex ds vs->RowV env tbl Mu Ex ow O h is ds vs:=by
 induction is with
 |nil =>
  intro ds vs Zz hl r
  cases ds with
  |nil=>exact r
  |cons _ _=>exact nomatch hl
 |cons p is ih =>
  intro ds vs hf hl r
  cases ds with
  |nil=>exact nomatch hl
  |cons d ds =>
   obtain ⟨v,r,e,dv,dr⟩:=r
   exact aa hf λh1 h2=>⟨v,r,e,⟨by rw [nt h1];exact dv,λq=>absurd q (by rw [nt h1];exact Bool.false_ne_true)⟩,λq=>absurd q (by rw [nt h1];exact Bool.false_ne_true),ih h2 (Nat.succ.inj hl) dr⟩
theorem uW {ts vs:List Expr} {is:List (Nat×Bool)} {k0 k1:Nat} {q q' pos:Pos} {t:T} (ht:VS X sc (.tup t) (.Tuple vs k1 q')) (hT:Tgs X.c sc ts (is.map (·.1))) (hf:is.all (λp=> !p.2)=true) (hc:vs.all (constantsAlone 8)=false) (hl:is.length<30) :
  SS X sc (.multi is t) (exec (.Assign [.Tuple ts k0 q] (.Tuple vs k1 q') pos)):=λO p E O' o Q h P=>by
 refine dS h λds hd h=>gd h λZz h=>ay h λO1 hset e1=> ?_
 obtain ⟨rfl,rfl⟩:=Prod.mk.inj e1
 have hset':=hset
 rw [l7 hf] at hset
 have hlen:=iJ hset
 have hlt:=hT.length
 have h30:ds.length<=1048576:=by rw [<- hlen,List.length_map];exact Nat.le_of_lt (Nat.lt_trans hl (by decide))
 have hd':ev X.G X.F O false (.tup t)=some (.tup ds):=ad hd (ad rfl (aq (decide_eq_true h30) rfl))
 rcases eZ (p:=k0) (q:=q) (p':=k1) (q':=q') (env:=p.env) (ts:=ts) hc with hw |⟨names,line,hw,h23,hn1,hn2,hn3⟩
 ·exact dw p ht hT hw hd' hset P
 ·rw [arm_exec_Assign]
  refine wpAny_bind (wpAny_standAt (wpAny_bind (wpAny_of_eq aY ?_)))
  rw [if_neg (by decide)]
  refine wpAny_bind (ht O p.at E false _ _ hd' λv h1 tk1 k1 d1 Zz=> ?_)
  refine wpAny_bind (wpAny_of_eq hw ?_)
  obtain ⟨a,items,rfl,Zz,l,r⟩:=d1
  unfold assignStores
  dsimp only
  refine wpAny_bind (wpAny_rule (wpAny_bind ?_))
  have hnl:names.length=items.size:=by rw [hn2,hlt,hlen,am r]
  rw [hnl]
  refine wpAny_unpackItems_tuple (s:={p.s with heap:=h1,toks:=tk1}) p.ar.hd (TupAt.isTup l) λh2 k2=> ?_
  have k12:=k1.trans (dX k2)
  exact wpAny_bind (iG (s:={p.s with heap:=h2,toks:=tk1}) p.hsc (p.S.keep k12) hT (sB is hf (by rw [<- List.length_map (f:=(·.1)) (as:=is)];exact hlen) (r.keep (dX k2))) hset' h23 hn1 hn2 hn3 λh' tk ow' S' g'=>wpAny_pure (P h' tk p.Mu p.Ex ow' S' ((Gr.of_kp k12 _ _).trans p.lt p.S.mu g')))
end
theorem SR.mutOwn {env:Env} {c:Cx} {Mu Ex:Addr->Prop} {ow:Nat->Addr} {O:MEnv} {h h':Heap} {i:Nat} {x:Str} {d0:D} {ds:List D} {items:Array Value} (S:SR env c.tbl Mu Ex ow O h) (hi:c.tbl[i]? = some x) (hs:seen env.scope x=true) (hg:getE O i=some (d0,true))
  (kk:∀ b o,b≠ow i->h.get? b=some o->Gw h' b o) (cd:Cd h h') (pl:h'.PlainList (ow i) items) (dl:DenL h Ex ds items.toList):SR env c.tbl Mu Ex ow (setE O i (.list ds) true) h'/\Gr h Mu Ex Mu Ex h':=by
 obtain ⟨its0,ds0,e0,pl0,Zz⟩:=S.rr.own_al hi hs hg
 have muD:Mu (ow i):=S.own i x d0 hi hs hg
 have exD:Ex (ow i):=S.mu _ muD
 obtain ⟨⟨ok,nd,lt,own,m,cm,F,hv⟩,mu,fr,hown,inj⟩:=S
 obtain ⟨nl,nc⟩:=iC F pl0
 have kx:∀ b o,¬ Ex b->NT b o->h.get? b=some o->h'.get? b=some o:=λb o n t e=>(kk b o (λq=>n (q▸exD)) e).ob t
 have any:∀ j e,getE (setE O i (.list ds) true) j=some (e,true)->∃ e',getE O j=some (e',true):=λj e hj=>(aA hj).elim (λq=>⟨_,q.1▸hg⟩) λq=>⟨e,q.2⟩
 refine ⟨⟨⟨ok,nd,λb hb=> ?_,own,m,cm,⟨Ns.gw F.ns λo e=>kk _ o nl.symm e,λn c hc=>let ⟨o,ho,hd⟩:=F.cell n c hc;⟨o,(kk c o (λq=>nc n (q▸hc)) ho).ob (.inl (cP hd)),hd⟩,F.offL,F.inj,F.has⟩,λj y e b h1 h2 h3=> ?_⟩,mu,fr,λj y e h1 h2 h3=>let ⟨e',he'⟩:=any j e h3;hown j y e' h1 h2 he',λj k y z e e' h1 h2 h3 h4 h5 h6 h7=>let ⟨a1,ha1⟩:=any j e h5;let ⟨a2,ha2⟩:=any k e' h6;inj j k y z a1 a2 h1 h2 h3 h4 ha1 ha2 h7⟩,
  λZz e=> .inl e,λZz e=> .inl e,λZz e Zz=>e,λb o n e=>kk b o (λq=>n (q▸muD)) e,cd⟩
 ·by_cases hbd:b=ow i
  ·rw [hbd];exact PL.al pl
  ·obtain ⟨o,ho⟩:=lt b hb;exact (kk b o hbd ho).al
 ·rcases aA h2 with ⟨rfl,q⟩ |⟨hji,q⟩
  ·obtain ⟨rfl,rfl⟩:=Prod.mk.inj q
   obtain rfl:=sm (hi.symm.trans h1)
   obtain ⟨v,e,dv,hw⟩:=hv j x d0 true hi hg hs
   exact ⟨v,e,⟨ow j,items,ds,hw rfl,rfl,pl,DenL.mono kx (λZz Zz n=>n) _ _ dl⟩,hw⟩
  ·obtain ⟨v,e',dv,hw⟩:=hv j y e b h1 q h3
   refine ⟨v,e',?_,hw⟩
   cases b with
   |false=>exact Den.mono kx (λZz Zz n=>n) _ _ dv
   |true =>
    obtain ⟨a,its,ds',e1,e2,l,r⟩:=dv
    exact ⟨a,its,ds',e1,e2,PL.at' l λo t e=>(kk _ _ (Value.ref.inj (e1.symm.trans (hw rfl))▸inj j i y x _ d0 h1 h3 hi hs q hg hji) e).ob (.inl t),DenL.mono kx (λZz Zz n=>n) _ _ r⟩
theorem oA {env:Env} {c:Cx} {Mu Ex:Addr->Prop} {ow:Nat->Addr} {O:MEnv} {h:Heap} {i:Nat} {x:Str} {d:D} {v:Value} (S:SR env c.tbl Mu Ex ow O h) (hi:c.tbl[i]? = some x) (hs:seen env.scope x=true) (hg:getE O i=some (d,true)) (dv:DenV h Ex true d v) (hw:v = .ref (ow i)) :
  Gr h Mu Ex (λb=>Mu b/\b≠ow i) (λb=>Ex b/\b≠ow i) h/\Den h (λb=>Ex b/\b≠ow i) d v:=by
 obtain ⟨a,items,ds,e1,rfl,l,r⟩:=dv
 obtain rfl:=Value.ref.inj (e1.symm.trans hw)
 exact ⟨⟨λb hb=> .inl hb.1,λb hb=> .inl hb.1,λb hb hn=>⟨hb,λq=>hn (q▸S.own i x _ hi hs hg)⟩,λZz Zz Zz e=> .inl e,Cd.refl h⟩,ow i,items,e1,λe=>e.2 rfl,l,DenL.mono (λZz Zz Zz Zz e=>e) (λZz Zz n e=>n e.1) _ _ r⟩
section
variable {X:Wd} {sc:Scope}
theorem Aj {t:T} {e:Expr} {pos:Pos} (ht:VS X sc t e):SS X sc (.ret t) (exec (.Return (some e) pos)):=λO p E O' o Q h P=>by
 refine ay h λd hd e1=> ?_
 obtain ⟨rfl,rfl⟩:=Prod.mk.inj e1
 exact wpAny_Return_some (ht O p.at E false d _ hd λv h1 tk1 k1 d1 Zz=>P h1 tk1 v p.Mu p.Ex (Gr.of_kp k1 _ _) d1)
theorem yl {pos:Pos}:SS X sc (.ret (.cst .none)) (exec (.Return none pos)):=λO p E O' o Q h P=>by
 obtain ⟨rfl,rfl⟩:=Prod.mk.inj (sm h)
 exact wpAny_Return_none (P p.s.heap p.s.toks .none p.Mu p.Ex (Gr.refl _ _ _) rfl)
theorem ym {x:Str} {i:Nat} {p0 pos:Pos} (hs:seen sc x=true) (hi:X.c.tbl[i]? = some x) (hd:(x==("__debug__":Str))=false) (hcd:(x==("__classdict__":Str))=false):SS X sc (.retv i) (exec (.Return (some (.Name x p0)) pos)):=λO p E O' o Q h P=>by
 refine ay h λq hg e1=> ?_
 obtain ⟨rfl,rfl⟩:=Prod.mk.inj e1
 obtain ⟨d,b⟩:=q
 have hs':seen p.env.scope x=true:=p.hsc.symm▸hs
 refine wpAny_Return_some (wpAny_Name (dB p.S.rr hs' hi hg hcd λv dv hw=> ?_) hd)
 cases b with
 |false=>exact P p.s.heap p.s.toks v p.Mu p.Ex (Gr.refl _ _ _) dv
 |true =>
  obtain ⟨g,dd⟩:=oA p.S hi hs' hg dv (hw rfl)
  exact P p.s.heap p.s.toks v _ _ g dd
theorem wp {op:Operator} {a b:Int} {t u:Tok} {d:D} {A:Around} {E:Value->Shared->Prop} {s:Shared} {Ex:Addr->Prop} {Q:Value->Shared->Prop} (ho:augOk op=true) (hd:binD op (.int a) (.int b)=some d) (P:Ps s Ex d false Q):wpAny (model X.P X.w) A (inplaceOp op (.int a t) (.int b u)) Q E s:=by
 cases op with
 |Add=>exact PyProof.Rows.iadd_int (P.int hd _ _)
 |Sub=>exact PyProof.Rows.isub_int (P.int hd _ _)
 |BitXor=>exact PyProof.Rows.ixor_int (P.int hd _ _)
 |_=>exact nomatch ho
theorem Ae {t:T} {e:Expr} {x:Str} {i:Nat} {op:Operator} {p0 pos:Pos} (ht:VS X sc t e) (hs:storable sc x=true) (hi:X.c.tbl[i]? = some x) (hcd:(x==("__classdict__":Str))=false):SS X sc (.aug i op t) (exec (.AugAssign (.Name x p0) op e pos)):=λO p E O' o Q h P=>by
 refine ae h λq hg h=>ae h λa ha h=>ae h λy hy h=>ae h λc hc h=>fD h λho h=>ay h λd hd e1=> ?_
 obtain ⟨rfl,rfl⟩:=Prod.mk.inj e1
 obtain ⟨d0,b⟩:=q
 refine jN ho λhb hq=> ?_
 obtain rfl:b=false:=hb
 refine wpAny_AugAssign_Name (dB p.S.rr (p.hsc.symm▸br hs) hi hg hcd λv dv Zz=> ?_)
 refine aP ha (Den.top dv) λtk=> ?_
 refine ht O p.at E true _ _ hy λu h1 tk1 k1 d1 Zz=> ?_
 refine aP hc d1.top λtk'=> ?_
 refine wp (by rw [<- Bool.not_eq_false',hq]) hd (Ex:=p.Ex) λr h2 tk2 k2 dr Zz=> ?_
 exact jY (h1:=h2) (b:=false) p hs hi (k1.trans k2) (λZz=>dr) (λe=>nomatch e) P
theorem cb {h:Heap} {l:Addr} {items:Array Value} {n:Nat} (x:h.get? l=some {cls:= .type "list",data:= .seq items n}) (f:Array Value->Array Value) :
  (h.update l (Obj.mapSeq f)).get? l=some {cls:= .type "list",data:= .seq (f items) (if (f items).size==items.size then n else n+1)}:=Heap.get?_update_self _ x rfl
theorem dh {O:MEnv} {i:Nat} {xs:List D} {P:Prop} (h:own? O i=some xs) (k:getE O i=some (.list xs,true)->xs.length<=1048576->P):P :=
 ae h λq hg h=>ae h λys hy h=>gd h λhc e=>aa hc λh1 h2=>by
  obtain ⟨d,b⟩:=q
  obtain rfl:=sm e
  obtain rfl:b=true:=h1
  revert hg
  exact bH (P:=λd=>getE O i=some (d,true)->P) hy λhg=>k hg (aF h2)
theorem dg {O:MEnv} (p:Ast X sc O) {E:Value->Shared->Prop} {x:Str} {i:Nat} {xs:List D} {p0:Pos} {Q:Value->Shared->Prop} (hs:storable sc x=true) (hi:X.c.tbl[i]? = some x)
  (hd:(x==("__debug__":Str))=false) (hcd:(x==("__classdict__":Str))=false) (hg:getE O i=some (.list xs,true)) (P:∀ items,p.s.heap.PlainList (p.ow i) items->DenL p.s.heap p.Ex xs items.toList->Q (.ref (p.ow i)) p.s):wpAny (model X.P X.w) p.A (eval (.Name x p0) p.env) Q E p.s:=by
 refine wpAny_Name (dB p.S.rr (p.hsc.symm▸br hs) hi hg hcd λv dv hw=> ?_) hd
 obtain ⟨a,items,ds,e1,e2,l,r⟩:=dv
 obtain rfl:=Value.ref.inj (e1.symm.trans (hw rfl))
 rw [e1]
 exact P items l (vU e2▸r)
theorem fy {O:MEnv} (p:Ast X sc O) {E:Value->Shared->Prop} {o:Expr} {m:Str} {ap cp pos:Pos} {args:List Expr} {Q:Flow->Shared->Prop} (h:wpAny (model X.P X.w) p.A (eval (.Call (.Attribute o m ap) args [] cp) p.env) (λv s'=>v = .none/\Q .next s') E p.s) :
  wpAny (model X.P X.w) p.A (exec (.Expr (.Call (.Attribute o m ap) args [] cp) pos) p.env) Q E p.s :=
 wpAny_Expr (wpAny_mono h (λv s' hv=>hv.1▸hv.2) λZz Zz e=>e) (by unfold interactive;rw [p.S.rr.ok.kind];rfl) rfl
theorem em {O:MEnv} (p:Ast X sc O) {x:Str} {i:Nat} {d0:D} {ds:List D} {items:Array Value} {h1 h2:Heap} {tk1:Nat} {Q:Shared->Prop} (hs:storable sc x=true) (hi:X.c.tbl[i]? = some x) (hg:getE O i=some (d0,true)) (k1:Kp p.s.heap h1) (sb:Heap.SameBut (p.ow i) h1 h2) (pl:h2.PlainList (p.ow i) items) (dl:DenL h1 p.Ex ds items.toList)
  (P:p.Post (setE O i (.list ds) true) Q):Q {p.s with heap:=h2,toks:=tk1}:=by
 obtain ⟨its0,ds0,e0,pl0,Zz⟩:=(p.S.keep k1).rr.own_al hi (p.hsc.symm▸br hs) hg
 have kk:∀ b o,b≠p.ow i->h1.get? b=some o->h2.get? b=some o:=λb o n e=>sb.extBut b o n e
 obtain ⟨S2,g2⟩:=(p.S.keep k1).mutOwn hi (p.hsc.symm▸br hs) hg (λb o n e=> .inl (kk b o n e)) (Cd.sb kk (PL.nofields pl0) λd=>absurd d (PL.nodt pl0)) pl dl
 exact P h2 tk1 p.Mu p.Ex p.ow S2 ((Gr.of_kp k1 _ _).trans p.lt p.S.mu g2)
theorem kC {e:Expr} {env:Env} {cp:Pos} (hst:∀ rest env,starEach (e :: rest) env=(false,eval e env) :: starEach rest env):backTo cp (starEach [e] env)=[(false,eval e env)]:=by rw [hst];rfl
theorem Ac {t:T} {e:Expr} {x:Str} {i:Nat} {p0 ap cp pos:Pos} (al:All X sc t e) (hs:storable sc x=true) (hi:X.c.tbl[i]? = some x) (hd:(x==("__debug__":Str))=false) (hcd:(x==("__classdict__":Str))=false) (hl:(ap.endLine==cp.line)=true) :
  SS X sc (.app i t) (exec (.Expr (.Call (.Attribute (.Name x p0) appendS ap) [e] [] cp) pos)):=λO p E O' o Q h P=>by
 refine ae h λxs ho h=>ay h λd he e0=>dh ho λhg hsz=> ?_
 obtain ⟨rfl,rfl⟩:=Prod.mk.inj e0
 have e1:=kC (env:=p.env) (cp:=cp) al.st
 refine fy p (wpAny_Call_method_lateS rfl (by rw [e1];rfl) hl (dg p hs hi hd hcd hg λitems l r=> ?_))
 obtain ⟨n0,l0⟩:=l
 refine ⟨"list","list.append",PySem.F.plainAttrs_list,PySem.F.slot_list_append,PySem.F.type_list_append,⟨_,l0,rfl⟩,λa e=>⟨_,Value.ref.inj e▸l0,rfl⟩,?_⟩
 rw [e1]
 refine PySem.Calls.callWith_builtin rfl (PySem.Calls.evalArgs_plain (PySem.Calls.spliced_cons (al.vs O p.at E false d _ he λv h1 tk1 k1 d1 Zz=>PySem.Calls.spliced_nil ?_)))
 have l1:h1.PlainList (p.ow i) items:=⟨n0,k1.ob l0 (.inl rfl)⟩
 exact wpAny_list_append_plain (s:={p.s with heap:=h1,toks:=tk1}) (hsz:=am r▸bG hsz) l1 λh2 l2 sb=>⟨rfl,em p hs hi hg k1 sb l2 (by rw [Array.toList_push];exact (r.keep k1).append (.single d1)) P⟩
theorem Ah {t:T} {e:Expr} {x:Str} {i:Nat} {p0 ap cp pos:Pos} (al:All X sc t e) (hs:storable sc x=true) (hi:X.c.tbl[i]? = some x) (hd:(x==("__debug__":Str))=false) (hcd:(x==("__classdict__":Str))=false) (hl:(ap.endLine==cp.line)=true) :
  SS X sc (.ext i t) (exec (.Expr (.Call (.Attribute (.Name x p0) extendS ap) [e] [] cp) pos)):=λO p E O' o Q h P=>by
 refine ae h λxs ho h=>ae h λy he h=>ae h λys hys h=>gd h λhy e0=>dh ho λhg hsz=> ?_
 obtain ⟨rfl,rfl⟩:=Prod.mk.inj (sm e0)
 have e1:=kC (env:=p.env) (cp:=cp) al.st
 refine fy p (wpAny_Call_method_lateS rfl (by rw [e1];rfl) hl (dg p hs hi hd hcd hg λitems l r=> ?_))
 obtain ⟨n0,l0⟩:=l
 refine ⟨"list","list.extend",PySem.F.plainAttrs_list,PySem.F.slot_list_extend,PySem.F.type_list_extend,⟨_,l0,rfl⟩,λa e=>⟨_,Value.ref.inj e▸l0,rfl⟩,?_⟩
 rw [e1]
 refine PySem.Calls.callWith_builtin rfl (PySem.Calls.evalArgs_plain (PySem.Calls.spliced_cons (al.vs O p.at E false _ _ he λv h1 tk1 k1 d1 Zz=>PySem.Calls.spliced_nil ?_)))
 have dt:=DenR.top d1
 refine eG hys dt λa its2 l2 r2=> ?_
 obtain ⟨n2,l2⟩:=l2
 have l1:h1.get? (p.ow i)=some {cls:= .type "list",data:= .seq items n0}:=k1.ob l0 (.inl rfl)
 have z:=m6 hsz (aF hy) (am r) (am r2)
 refine call_meets PySem.F.slot_list_extend ⟨_,l1,rfl⟩ PySem.F.entry_list_extend (PySem.F.args_list_extend_2 _ _) (AutoSeq1.list_extend_list_list_0 (p.ow i) items n0 a its2 n2 (by simp [Builtin.List.listTooLong,sizeLine_eq];omega) (by rw [sizeLine_eq];omega) (by rw [sizeLine_eq];omega)) ⟨l1,l2,rfl,?_⟩
 exact em p hs hi hg k1 (Heap.SameBut.update ..) ⟨_,cb l1 (λx=>x++its2)⟩ (by rw [Array.toList_append];exact (r.keep k1).append r2) P
theorem yn {x:Str} {i:Nat} {p0 ap cp pos:Pos} (hs:storable sc x=true) (hi:X.c.tbl[i]? = some x) (hd:(x==("__debug__":Str))=false) (hcd:(x==("__classdict__":Str))=false) (hl:(ap.endLine==cp.line)=true) :
  SS X sc (.revm i) (exec (.Expr (.Call (.Attribute (.Name x p0) reverseS ap) [] [] cp) pos)):=λO p E O' o Q h P=>by
 refine ay h λxs ho e0=>dh ho λhg hsz=> ?_
 obtain ⟨rfl,rfl⟩:=Prod.mk.inj e0
 refine fy p (wpAny_Call_method_lateS rfl rfl hl (dg p hs hi hd hcd hg λitems l r=> ?_))
 obtain ⟨n0,l0⟩:=l
 refine ⟨"list","list.reverse",PySem.F.plainAttrs_list,PySem.F.slot_list_reverse,PySem.F.type_list_reverse,⟨_,l0,rfl⟩,λa e=>⟨_,Value.ref.inj e▸l0,rfl⟩,?_⟩
 refine PySem.Calls.callWith_builtin rfl (PyProof.Rows.evalArgs_none ?_)
 refine call_meets PySem.F.slot_list_reverse ⟨_,l0,rfl⟩ PySem.F.entry_list_reverse (PySem.F.args_list_reverse_1 _) (AutoListH.list_reverse_list_0 (p.ow i) items n0 (am r▸bG hsz)) ⟨l0,rfl,?_⟩
 exact em p hs hi hg (Kp.refl _) (Heap.SameBut.update ..) ⟨_,cb l0 (λx=>x.reverse)⟩ (by rw [Array.toList_reverse];exact r.reverse) P
theorem tR {j:Int} (h : -(2 ^ 63:Int)<=j/\j<2 ^ 63):Builtin.List.listFitsIndex j=true:=by
 unfold Builtin.List.listFitsIndex
 simp only [Bool.and_eq_true,decide_eq_true_eq]
 exact h
theorem Ag {t:T} {e:Expr} {x:Str} {i:Nat} {p0 sp pos:Pos} (ht:VS X sc t e) (hs:storable sc x=true) (hi:X.c.tbl[i]? = some x) (hd:(x==("__debug__":Str))=false) (hcd:(x==("__classdict__":Str))=false) :
  SS X sc (.del i t) (exec (.Delete [.Subscript (.Name x p0) e sp] pos)):=λO p E O' o Q h P=>by
 refine ae h λxs ho h=>ae h λy he h=>ae h λj hj h=>dh ho λhg hsz=> ?_
 have key:∀ q:Nat,seqIndex? j xs.length=some q->(-(2 ^ 63:Int)<=j/\j<2 ^ 63)->p.Post (setE O i (.list (xs.eraseIdx q)) true) (Q .next)->wpAny (model X.P X.w) p.A (exec (.Delete [.Subscript (.Name x p0) e sp] pos) p.env) Q E p.s:=λq hq hb P=>by
  refine wpAny_Delete ?_
  rw [arm_deleteEach_cons,arm_deleteEach_nil]
  refine wpAny_bind ?_
  show wpAny _ p.A (do let ov <- eval (.Name x p0) p.env;let iv <- holding [ov] (eval e p.env);standAt sp;holding [ov,iv] (delItem ov iv);release [ov,iv] []) _ _ p.s
  refine wpAny_bind (dg p hs hi hd hcd hg λitems l r=> ?_)
  refine wpAny_bind (wpAny_holding (ht O p.at E true _ _ he λv h1 tk1 k1 d1 Zz=> ?_))
  have dt:=DenR.top d1
  refine aP hj dt λtk=> ?_
  obtain ⟨n0,l0⟩:=l
  have l1:h1.get? (p.ow i)=some {cls:= .type "list",data:= .seq items n0}:=k1.ob l0 (.inl rfl)
  refine wpAny_bind (wpAny_standAt (wpAny_bind (wpAny_holding ?_)))
  refine PySem.P.delItem_list (s:={p.s with heap:=h1,toks:=tk1}) (n:=n0) l1 (tR hb) (by rw [am r];exact hq) ?_ (am r▸bG hsz)
  refine wpAny_release (wpAny_pure ?_)
  exact em p hs hi hg k1 (Heap.SameBut.update ..) ⟨_,cb l1 (λxs=>xs.eraseIdxIfInBounds q)⟩ (by rw [show (items.eraseIdxIfInBounds q).toList=items.toList.eraseIdx q by simp];exact (r.keep k1).erase) P
 by_cases hc:(decide (0<=j)&&decide (j<xs.length))=true
 ·rw [if_pos hc] at h
  obtain ⟨rfl,rfl⟩:=Prod.mk.inj (sm h)
  exact aa hc λh1 h2=>key j.toNat (oS (de h1) ((Int.toNat_lt (de h1)).mpr (de h2))) (jW (de h1) (de h2) hsz) P
 ·rw [if_neg hc] at h
  refine gd h λhc h=>aa hc λh1 h2=> ?_
  obtain ⟨rfl,rfl⟩:=Prod.mk.inj (sm h)
  obtain rfl:=de h1
  have h2:=de h2
  refine key (xs.length - 1) ?_ (by decide) P
  exact (oR (by decide) (jc h2).1).trans (congrArg some (jc h2).2)
end
section
variable {prog:Program} {w:World} {A:Around} {E:Value->Shared->Prop} {s:Shared}
theorem eY {l:Addr} {items:Array Value} {n:Nat} {q:Int} {t:Tok} {v:Value} {Q:Unit->Shared->Prop} (ho:s.heap.get? l=some {cls:= .type "list",data:= .seq items n}) (h0:0<=q) (hn:q<items.size) (hfit:q<2 ^ 63)
  (hQ:Q () {s with heap:=s.heap.update l (Obj.mapSeq λx=>x.setIfInBounds q.toNat v)}):wpAny (model prog w) A (setItem (.ref l) (.int q t) v) Q E s:=by
 have hl:s.heap.IsList l items:=⟨_,ho,rfl,n,rfl⟩
 unfold setItem
 try with_reducible refine wpAny_holding ?_
 first |refine wpAny_bind (wpAny_pure ?_) |skip
 refine wpAny_bind (wpAny_sequenceKey hl.typeIs (by decide) ?_)
 refine wpAny_bind (wpAny_callSpecial?_slot (name:=Str.ofString "__setitem__") hl.typeIs slot_list_setitem
  (wpAny_call_entry slot_list_setitem hl.typeIs entry_list_setitem ?_ (args_list_setitem _ _ _)))
 show wpAny _ _ (Builtin.List.listSubscript? (.int q t) >>= _) _ _ s
 refine wpAny_bind (wpAny_listSubscript_int (fitsIndex_of h0 hfit) ?_)
 clear hfit
 obtain ⟨k,rfl⟩:=Int.eq_ofNat_of_zero_le h0
 have hj:k<items.size:=Int.ofNat_lt.mp hn
 have hx:items[k]? = some items[k]:=Array.getElem?_eq_getElem hj
 rw [Int.toNat_natCast] at hQ
 show wpAny _ _ ((seqItemAt l k >>= λr=>pure (r.map (k,·))) >>= _) _ _ s
 refine wpAny_bind (wpAny_bind (wpAny_seqItemAt ho rfl (wpAny_pure ?_)))
 rw [hx]
 show wpAny _ _ (setSeqItemAt l k v >>= _) _ _ s
 refine wpAny_bind (wpAny_setSeqItemAt ho rfl ?_)
 first
  |exact wpAny_bind (wpAny_pure (wpAny_pure ⟨.none,rfl,wpAny_pure hQ⟩))
  |exact wpAny_pure ⟨.none,rfl,wpAny_pure hQ⟩
end
section
variable {X:Wd} {sc:Scope}
end
theorem SR.vis {env:Env} {c:Cx} {Mu Ex:Addr->Prop} {ow:Nat->Addr} {O O':MEnv} {h:Heap} (S:SR env c.tbl Mu Ex ow O h) (hw:∀ j x e,c.tbl[j]? = some x->seen env.scope x=true->getE O' j=some e->getE O j=some e):SR env c.tbl Mu Ex ow O' h:=by
 obtain ⟨⟨ok,nd,lt,own,m,cm,F,hv⟩,mu,fr,hown,inj⟩:=S
 exact ⟨⟨ok,nd,lt,own,m,cm,F,λi x d b h1 h2 h3=>hv i x d b h1 (hw i x _ h1 h3 h2) h3⟩,mu,fr,λi x d h1 h2 h3=>hown i x d h1 h2 (hw i x _ h1 h2 h3),λi j x y d e h1 h2 h3 h4 h5 h6=>inj i j x y d e h1 h2 h3 h4 (hw i x _ h1 h2 h5) (hw j y _ h3 h4 h6)⟩
theorem SR.freeze {env:Env} {c:Cx} {Mu Ex:Addr->Prop} {ow:Nat->Addr} {O:MEnv} {h:Heap} (S:SR env c.tbl Mu Ex ow O h) (t:T):∃ Mu1 Ex1,SR env c.tbl Mu1 Ex1 ow (Mine.freeze O t) h/\Gr h Mu Ex Mu1 Ex1 h:=by
 have same:∀ {O'},SR env c.tbl Mu Ex ow O' h->∃ Mu1 Ex1,SR env c.tbl Mu1 Ex1 ow O' h/\Gr h Mu Ex Mu1 Ex1 h:=λS=>⟨Mu,Ex,S,Gr.refl _ _ _⟩
 cases t with
 |var i =>
  show ∃ Mu1 Ex1,SR env c.tbl Mu1 Ex1 ow ((getE O i).elim O λp=>setE O i p.1 false) h/\Gr h Mu Ex Mu1 Ex1 h
  cases hg:getE O i with
  |none=>exact same S
  |some p =>
   obtain ⟨d,b⟩:=p
   show ∃ Mu1 Ex1,SR env c.tbl Mu1 Ex1 ow (setE O i d false) h/\Gr h Mu Ex Mu1 Ex1 h
   by_cases hx:b=true/\∃ x,c.tbl[i]? = some x/\seen env.scope x=true
   ·obtain ⟨rfl,x,hi,hs⟩:=hx
    obtain ⟨its0,ds0,e0,pl0,Zz⟩:=S.rr.own_al hi hs hg
    obtain ⟨⟨ok,nd,lt,own,m,cm,F,hv⟩,mu,fr,hown,inj⟩:=id S
    obtain ⟨v,e,dv,hw⟩:=hv i x d true hi hg hs
    obtain ⟨g,dd⟩:=oA S hi hs hg dv (hw rfl)
    obtain ⟨nl,nc⟩:=iC F pl0
    have ne:∀ j y e',c.tbl[j]? = some y->seen env.scope y=true->getE (setE O i d false) j=some (e',true)->ow j≠ow i:=λj y e' h1 h2 h3=>by
     rcases aA h3 with ⟨_,q⟩ |⟨hji,q⟩
     ·exact nomatch (Prod.mk.inj q).2
     ·exact inj j i y x e' d h1 h2 hi hs q hg hji
    refine ⟨_,_,⟨⟨ok,nd,λb hb=>lt b hb.1,⟨⟨own.1,nl.symm⟩,λn c e=>⟨own.2 n c e,λq=>nc n (q▸e)⟩⟩,m,cm,F,λj y e' b' h1 h2 h3=> ?_⟩,λb hb=>⟨mu b hb.1,hb.2⟩,⟨⟨fr.1,nl.symm⟩,λn c sn e=>⟨fr.2 n c sn e,λq=>nc n (q▸e)⟩⟩,λj y e' h1 h2 h3=>⟨hown j y e' h1 h2 (bx h3),ne j y e' h1 h2 h3⟩,λj k y z e1 e2 h1 h2 h3 h4 h5 h6 h7=>inj j k y z e1 e2 h1 h2 h3 h4 (bx h5) (bx h6) h7⟩,g⟩
    rcases aA h2 with ⟨rfl,q⟩ |⟨_,q⟩
    ·obtain ⟨rfl,rfl⟩:=Prod.mk.inj q
     obtain rfl:=sm (hi.symm.trans h1)
     exact ⟨v,e,dd,λq=>nomatch q⟩
    ·obtain ⟨u,e1,du,hu⟩:=hv j y e' b' h1 q h3
     refine ⟨u,e1,?_,hu⟩
     cases b' with
     |false=>exact Den.mono (λZz Zz Zz Zz e=>e) (λZz Zz n e=>n e.1) _ _ du
     |true =>
      obtain ⟨a,items,ds,e1,e2,l,r⟩:=du
      exact ⟨a,items,ds,e1,e2,l,DenL.mono (λZz Zz Zz Zz e=>e) (λZz Zz n e=>n e.1) _ _ r⟩
   ·refine same (S.vis λj x e h1 h2 h3=> ?_)
    rcases aA h3 with ⟨rfl,q⟩ |⟨_,q⟩
    ·cases b with
     |false=>exact q▸hg
     |true=>exact absurd ⟨rfl,x,h1,h2⟩ hx
    ·exact q
 |_=>exact same S
theorem sE {h:Heap} {X X':Addr->Prop}:∀ {ds:List D} {vs:List Value},ds.all D.scalar=true->DenL h X ds vs->DenL h X' ds vs
 | [],_,_,e=>e
 |d :: ds,_,hs,⟨v,r,e,a,b⟩=>aa hs λh1 h2=>⟨v,r,e,Den.scal h1 a,sE h2 b⟩
def FrS (h0 h:Heap) (d:D) (v:Value):Prop:=∃ a items ds,v = .ref a/\h0.get? a=none/\d = .list ds/\h.PlainList a items/\∀ X,DenL h X ds items.toList
theorem FrS.of {h0 h:Heap} {Ex:Addr->Prop} {d:D} {v:Value} (hs:scalL d=true) (f:FrV h0 h Ex d v):FrS h0 h d v:=by
 obtain ⟨a,items,ds,e1,e2,rfl,l,r⟩:=f
 exact ⟨a,items,ds,e1,e2,rfl,l,λX=>sE hs r⟩
theorem FrS.keep {h0 h h':Heap} {d:D} {v:Value} (f:FrS h0 h d v) (k:Kp h h'):FrS h0 h' d v :=
 let ⟨a,items,ds,e1,e2,e3,l,r⟩:=f
 ⟨a,items,ds,e1,e2,e3,PL.at' l (k.at a),λX=>(r X).keep k⟩
theorem uR {h:Heap} {X:Addr->Prop} {d:D} {a:Addr} (hs:d.scalar=true) (hd:Den h X d (.ref a)):False:=by
 cases d with
 |none=>exact nomatch hd
 |bool b=>exact nomatch hd
 |int i=>exact let ⟨_,e⟩:=hd;nomatch e
 |str x=>exact let ⟨_,e⟩:=hd;nomatch e
 |_=>exact nomatch hs
def FrL (h0 h:Heap):List (Nat×Bool)->List D->List Value->Prop
 | [],[],vs=>vs=[]
 |p :: is,d :: ds,vs=>∃ v r h1,vs=v :: r/\Kp h0 h1/\(p.2=true->FrS h0 h d v/\∀ a,v = .ref a->Al h1 a)/\(p.2=false->d.scalar=true/\∀ X,Den h X d v)/\FrL h1 h is ds r
 |_,_,_=>False
theorem FrL.keep {h h':Heap} (k:Kp h h') (is:List (Nat×Bool)):∀ {ds:List D} {vs:List Value} {h0:Heap},FrL h0 h is ds vs->FrL h0 h' is ds vs:=by
 induction is with
 |nil =>
  intro ds vs h0 f
  cases ds with
  |nil=>exact f
  |cons _ _=>exact f
 |cons p is ih =>
  intro ds vs h0 f
  cases ds with
  |nil=>exact f
  |cons d ds =>
   obtain ⟨v,r,h1,e,kk,f,g,t⟩:=f
   exact ⟨v,r,h1,e,kk,λq=>⟨(f q).1.keep k,(f q).2⟩,λq=>⟨(g q).1,λX=>((g q).2 X).keep k⟩,ih t⟩
theorem FrL.off {h:Heap} {a:Addr} (is:List (Nat×Bool)):∀ {ds:List D} {vs:List Value} {h0:Heap},Al h0 a->FrL h0 h is ds vs->Value.ref a∉vs:=by
 induction is with
 |nil =>
  intro ds vs h0 al f q
  cases ds with
  |nil=>rw [show vs=[] from f] at q;exact nomatch q
  |cons _ _=>exact f
 |cons p is ih =>
  intro ds vs h0 al f q
  cases ds with
  |nil=>exact f
  |cons d ds =>
   obtain ⟨v,r,h1,e,kk,f,g,t⟩:=f
   rw [e] at q
   rcases List.mem_cons.mp q with e1 |q
   ·cases hp:p.2 with
    |true =>
     obtain ⟨⟨b,Zz,Zz,e2,e3,Zz⟩,Zz⟩:=f hp
     exact Al.ne al e3 (Value.ref.inj (e1.trans e2))
    |false=>exact uR (g hp).1 (e1▸(g hp).2 λZz=>False)
   ·exact ih (al.keep kk) t q
theorem FrL.row {env:Env} {tbl:List Str} {Mu Ex:Addr->Prop} {ow:Nat->Addr} {O:MEnv} {h:Heap} (is:List (Nat×Bool)):∀ {ds:List D} {vs:List Value} {h0:Heap},FrL h0 h is ds vs->(∀ a,h0.get? a=none->Al h a->Mu a/\yM env tbl ow O a)->RowV env tbl Mu Ex ow O h is ds vs:=by
 induction is with
 |nil =>
  intro ds vs h0 f fr
  cases ds with
  |nil=>exact f
  |cons _ _=>exact f
 |cons p is ih =>
  intro ds vs h0 f fr
  cases ds with
  |nil=>exact f
  |cons d ds =>
   obtain ⟨v,r,h1,e,kk,f,g,t⟩:=f
   refine ⟨v,r,e,?_,λhp=> ?_,ih t λa hn=>fr a (kk.none hn)⟩
   ·cases hp:p.2 with
    |true =>
     obtain ⟨⟨a,items,ds,e1,e2,e3,l,r⟩,Zz⟩:=f hp
     exact ⟨⟨a,items,ds,e1,e3,l,r Ex⟩,λZz a' ha=>Value.ref.inj (e1.symm.trans ha)▸fr a e2 (PL.al l)⟩
    |false=>exact ⟨(g hp).2 Ex,λq=>nomatch q⟩
   ·obtain ⟨⟨a,items,ds,e1,e2,e3,l,r⟩,al⟩:=f hp
    exact e1▸FrL.off is (al a e1) t
theorem FrL.len {h:Heap} (is:List (Nat×Bool)):∀ {ds:List D} {vs:List Value} {h0:Heap},FrL h0 h is ds vs->vs.length=is.length:=by
 induction is with
 |nil =>
  intro ds vs h0 f
  cases ds with
  |nil=>exact congrArg List.length (show vs=[] from f)
  |cons _ _=>exact f.elim
 |cons p is ih =>
  intro ds vs h0 f
  cases ds with
  |nil=>exact f.elim
  |cons d ds =>
   obtain ⟨v,r,h1,e,Zz,Zz,Zz,t⟩:=f
   rw [e];exact congrArg (· + 1) (ih t)
section
variable {X:Wd} {sc:Scope}
theorem EL.fresh {t:T} {es:List Expr} (e:EL X sc t es):∀ {O:MEnv} (p:At X sc O) {E:Value->Shared->Prop} {ds:List D} {pos:Pos} {is:List (Nat×Bool)} {Q:List Value->Shared->Prop},ev X.G X.F O false t=some (.tup ds)->rowOk true is t ds=true ->
  (∀ vs h' tk,Kp p.s.heap h'->FrL p.s.heap h' is ds vs->Q vs {p.s with heap:=h',toks:=tk})->wpAny (model X.P X.w) p.A (spliced (backTo pos (starEach es p.env))) Q E p.s:=by
 induction e with
 |nil =>
  intro O p E ds pos is Q h ho P
  obtain rfl:=my (sm h)
  cases is with
  |nil=>exact PySem.Calls.spliced_nil (P [] p.s.heap p.s.toks (Kp.refl _) rfl)
  |cons _ _=>exact nomatch ho
 | @cons te tr e r al hr ih =>
  intro O p E ds pos is Q h ho P
  refine ae h λx hx h=>ae h λy hy h=>ay h λxs hxs q=> ?_
  obtain rfl:=my q
  have e1:backTo pos (starEach (e :: r) p.env)=(false,eval e p.env) :: backTo pos (starEach r p.env):=by rw [al.st];rfl
  rw [e1]
  cases is with
  |nil=>exact nomatch ho
  |cons b is =>
   refine aa ho λh1 h2=>PySem.Calls.spliced_cons (al.vs O p E false x _ hx λv h' tk1 k1 d1 f1=> ?_)
   refine ih (p.to k1 tk1) (eA (P:=λy=>ev X.G X.F O false tr=some y->_) hxs id hy) h2 λvs h'' tk2 k2 fl=> ?_
   refine P (v :: vs) h'' tk2 (k1.trans k2) ⟨v,vs,h',rfl,k1,λhb=> ?_,λhb=> ?_,fl⟩
   ·rw [hb] at h1
    refine aa h1 λg1 g2=> ?_
    have fs:=FrS.of g2 (f1 g1)
    exact ⟨fs.keep k2,λa ha=>let ⟨a',_,_,q,_,_,l,_⟩:=fs;Value.ref.inj (q.symm.trans ha)▸PL.al l⟩
   ·rw [hb] at h1
    exact ⟨h1,λX=>Den.scal h1 (Den.keep k2 d1)⟩
theorem yk {ts vs:List Expr} {is:List (Nat×Bool)} {k0 k1:Nat} {q q' pos:Pos} {t:T} (ht:EL X sc t vs) (hT:Tgs X.c sc ts (is.map (·.1))) (hf:is.any (·.2)=true) (hw:swB sc ts vs=true) (hl:is.length<30) :
  SS X sc (.multi is t) (exec (.Assign [.Tuple ts k0 q] (.Tuple vs k1 q') pos)):=λO p E O' o Q h P=>by
 refine dS h λds hd h=>gd h λho h=>ay h λO1 hset e1=> ?_
 obtain ⟨rfl,rfl⟩:=Prod.mk.inj e1
 unfold freshAll at ho
 rw [hf] at ho
 obtain ⟨hw',h23,hn2,hn3⟩:=m5 (p:=k0) (q:=q) (p':=k1) (q':=q') p.S.rr.ok.kind (by rw [p.hsc];exact hw)
 rw [arm_exec_Assign]
 refine wpAny_bind (wpAny_standAt (wpAny_bind (wpAny_of_eq aY ?_)))
 rw [if_neg (by decide)]
 refine wpAny_bind (wpAny_Tuple (ht.fresh p.at hd ho λws h1 tk1 k1 fl=>⟨bG (by rw [FrL.len _ fl];exact Nat.le_of_lt (Nat.lt_trans hl (by decide))),wpAny_bind (wpAny_of_eq hw' ?_)⟩))
 have k2:=Kp.push h1 {cls:= .type "tuple",data:= .seq ws.toArray}
 unfold assignStores
 dsimp only
 refine wpAny_bind (wpAny_rule (wpAny_bind ?_))
 have hnl:(ts.filterMap (nameAt p.env (line0 ts))).length=ws.toArray.size:=by rw [hn2,hT.length,List.length_map,<- FrL.len _ fl];rfl
 rw [hnl]
 refine wpAny_unpackItems_tuple (s:={p.s with heap:=h1.push {cls:= .type "tuple",data:= .seq ws.toArray},toks:=tk1}) p.ar.hd (TupAt.isTup ⟨0,Heap.get?_push_size _ rfl⟩) λh2 k3=> ?_
 have k23:=k2.trans (dX k3)
 obtain ⟨S2,g2⟩:=p.S.growW (W:=λb=>p.s.heap.get? b=none/\Al h2 b) (k1.trans k23) (λb hb=>hb.1) (λb hb=>hb.2)
 exact wpAny_bind (iG (s:={p.s with heap:=h2,toks:=tk1}) p.hsc S2 hT (FrL.row _ (FrL.keep k23 _ fl) λa hn al=>⟨.inr ⟨hn,al⟩,λj x e g1 g2 g3=>let ⟨_,_,_,l,_⟩:=p.S.rr.own_al g1 g2 g3;Al.ne (PL.al l) hn⟩) hset h23 rfl hn2 hn3 λh' tk ow' S' g'=>wpAny_pure (P h' tk _ _ ow' S' (g2.trans p.lt p.S.mu g')))
theorem sk {tk:T} {ek:Expr} {x:Str} {i:Nat} {p0 sp:Pos} {O O':MEnv} {d:D} {v:Value} {Q:Unit->Shared->Prop} {E:Value->Shared->Prop} (p:Ast X sc O) (hk:VS X sc tk ek) (hs:storable sc x=true) (hi:X.c.tbl[i]? = some x) (hd:(x==("__debug__":Str))=false) (hcd:(x==("__classdict__":Str))=false)
  (h:putI X.G X.F O i tk d=some O') (dv:Den p.s.heap p.Ex d v) (P:p.Post O' (Q ())):wpAny (model X.P X.w) p.A (assign (.Subscript (.Name x p0) ek sp) p.env v) Q E p.s:=by
 refine ae h λxs ho h=>ae h λy hy h=>ae h λj hj h=>gd h λhc e=>dh ho λhg hsz=>aa hc λc1 c2=> ?_
 obtain rfl:=sm e
 rw [assign_Subscript]
 refine wpAny_bind (wpAny_holding (dg p hs hi hd hcd hg λitems l r=>wpAny_bind (wpAny_holding (hk O p.at E true _ _ hy λu h2 tk2 k2 d2 Zz=>wpAny_bind (wpAny_standAt (wpAny_bind (wpAny_holding ?_)))))))
 refine aP hj (DenR.top d2) λtu=> ?_
 obtain ⟨n0,l0⟩:=l
 have l1:h2.get? (p.ow i)=some {cls:= .type "list",data:= .seq items n0}:=k2.ob l0 (.inl rfl)
 refine eY (s:={p.s with heap:=h2,toks:=tk2}) l1 (de c1) (am r▸de c2) (jW (de c1) (de c2) hsz).2 (wpAny_release ?_)
 exact em (Q:=Q ()) p hs hi hg k2 (Heap.SameBut.update ..) ⟨_,cb l1 (λxs=>xs.setIfInBounds j.toNat v)⟩ (by rw [show (items.setIfInBounds j.toNat v).toList=items.toList.set j.toNat v by simp];exact (r.keep k2).set (Den.keep k2 dv)) P
theorem m4 {a1 b1 a2 b2:Expr} {q1 q2 q q':Pos} {k0 k1:Nat} {vs:List Expr} {env:Env}:swappedStores [.Tuple [.Subscript a1 b1 q1,.Subscript a2 b2 q2] k0 q] (.Tuple vs k1 q') env=pure none:=by
 unfold swappedStores
 refine (gh (R:=False) λh1=> .inl ?_).resolve_right id
 exact (gh (R:=False) λh2=> .inl rfl).resolve_right id
theorem yo {ta tb t:T} {ka kb:Expr} {vs:List Expr} {x y:Str} {i j k0 k1:Nat} {px py sx sy q q' pos:Pos} (ht:EL X sc t vs) (ha:VS X sc ta ka) (hb:VS X sc tb kb)
  (hx:storable sc x=true/\X.c.tbl[i]? = some x/\(x==("__debug__":Str))=false/\(x==("__classdict__":Str))=false) (hy:storable sc y=true/\X.c.tbl[j]? = some y/\(y==("__debug__":Str))=false/\(y==("__classdict__":Str))=false) :
  SS X sc (.set2 i ta j tb t) (exec (.Assign [.Tuple [.Subscript (.Name x px) ka sx,.Subscript (.Name y py) kb sy] k0 q] (.Tuple vs k1 q') pos)):=λO p E O' o Q h P=>by
 refine dS h λds hd h=>ae h λr hr h=>ae h λO1 h1 h=>ay h λO2 h2 e=> ?_
 obtain ⟨rfl,rfl⟩:=Prod.mk.inj e
 revert hd
 refine iM (P:=λds=>ev X.G X.F O false t=some (.tup ds)->_) hr λhd=> ?_
 refine wpAny_Assign_stores (mG ht.as O p.at E false (.tup [r.1,r.2]) _ (ad hd (ad rfl rfl)) λv g1 tk1 k1 d1 Zz=> ?_) aY m4
 obtain ⟨a,items,rfl,Zz,l,dl⟩:=d1
 show wpAny _ p.A (assign (.Tuple [.Subscript (.Name x px) ka sx,.Subscript (.Name y py) kb sy] k0 q) p.env (.ref a)) _ E _
 refine wpAny_assign_Tuple (s:={p.s with heap:=g1,toks:=tk1}) p.ar.hd (TupAt.isTup l) (am dl).symm rfl λg2 k2=> ?_
 have k12:=k1.trans (dX k2)
 obtain ⟨v,r1,e1,dv,u,r2,e2,du,e3⟩:=dl.keep (dX k2)
 rw [e1,e2,show r2=[] from e3]
 refine wpAny_bind (wpAny_holding (sk (p.to k12 tk1) ha hx.1 hx.2.1 hx.2.2.1 hx.2.2.2 h1 dv λh' tk Mu' Ex' ow' S' g'=> ?_))
 have g:=(Gr.of_kp k12 p.Mu p.Ex).trans p.lt p.S.mu g'
 refine wpAny_bind (wpAny_holding (sk (p.on S' g tk) hb hy.1 hy.2.1 hy.2.2.1 hy.2.2.2 h2 ?_ λh'' tk' Mu'' Ex'' ow'' S'' g''=>wpAny_pure (P h'' tk' Mu'' Ex'' ow'' S'' (g.trans p.lt p.S.mu g''))))
 exact Den.mono (λb o n t e=>(g'.keep b o (λq=>n (p.S.mu b q)) e).ob t) (λb al n e=>(g'.ex b e).elim n λq=>Al.ne al q rfl) _ _ du
end
theorem gT {O O':MEnv} {tg:List Nat} {one:Bool} {d:D} (h:bindT O tg one d=some O'):∀ j e,getE O' j=some (e,true)->getE O j=some (e,true):=by
 cases one with
 |true=>exact ay (show (one? tg).map (λi=>setE O i d false)=some O' from h) λi Zz e j Zz hj=>bx (e▸hj)
 |false=>exact ae (show d.tup?.bind (λds=>setAll O tg ds)=some O' from h) λds Zz h=>oz h
structure Lp (X:Wd) (sc:Scope) (O:MEnv) where
 p:Ast X sc O
 target:Expr
 tg:List Nat
 one:Bool
 I:Addr
 xs:List D
 Fp:Addr->Prop
 Wr:Addr->Prop
 It:Heap->(Addr->Prop)->Prop
 St:Nat->Heap->Prop
 tn:Turns X.P X.w p.A X.c sc target tg one I xs Fp Wr It St
 wnew:∀ b,Wr b->p.s.heap.get? b=none
structure Lp.Inv {X:Wd} {sc:Scope} {O:MEnv} (L:Lp X sc O) (i:Nat) (H:Heap) (Mu Ex:Addr->Prop) (ow:Nat->Addr) (ρ:MEnv):Prop where
 st:L.St i H
 it:L.It H Ex
 S:SR L.p.env X.c.tbl Mu Ex ow ρ H
 g:Gr L.p.s.heap L.p.Mu L.p.Ex Mu Ex H
 wx:∀ b,L.Wr b->Ex b
 fm:∀ b,L.Fp b->¬ Mu b
section
variable {X:Wd} {sc:Scope} {O:MEnv}
theorem Lp.Inv.later {L:Lp X sc O} {i:Nat} {h h':Heap} {Mu Ex Mu' Ex':Addr->Prop} {ow ow':Nat->Addr} {ρ ρ':MEnv} (v:L.Inv i h Mu Ex ow ρ) (S:SR L.p.env X.c.tbl Mu' Ex' ow' ρ' h') (g:Gr h Mu Ex Mu' Ex' h'):L.Inv i h' Mu' Ex' ow' ρ' :=
 ⟨L.tn.frameK v.st λb o hb t e=>(g.keep b o (v.fm b hb) e).ob t,L.tn.items _ _ _ _ v.it (λb o n t e=>(g.keep b o (λq=>n (v.S.mu b q)) e).ob t) (λb hb n e=>(g.ex b e).elim n λq=>Al.ne hb q rfl),S,v.g.trans L.p.lt L.p.S.mu g,λb hb=>g.kp b (v.wx b hb) (v.fm b (L.tn.sub b hb)),
  λb hb hm=>(g.mu b hm).elim (v.fm b hb) λq=>let ⟨o,ho,_⟩:=L.tn.kinds _ _ b v.st hb;nomatch ho.symm.trans q⟩
theorem Lp.next (L:Lp X sc O) {i:Nat} {H:Heap} {tk:Nat} {Mu Ex:Addr->Prop} {ow:Nat->Addr} {ρ ρ':MEnv} {d:D} {Q:Unit->Shared->Prop} {E E':Value->Shared->Prop} (v:L.Inv i H Mu Ex ow ρ) (hx:L.xs[i]? = some d) (hb:bindT ρ L.tg L.one d=some ρ')
  (P:∀ h' tk',L.Inv (i+1) h' Mu Ex ow ρ'->Q () {L.p.s with heap:=h',toks:=tk'}) :
  wpAny (model X.P X.w) L.p.A (pyNext (.ref L.I)) (λr s₁=>∃ v,r=some v/\wpAny (model X.P X.w) L.p.A (letOwnedTupleGo L.target (.ref L.I) v) (λZz s₂=>wpAny (model X.P X.w) L.p.A (assign L.target L.p.env v) Q E' s₂) E' s₁) E {L.p.s with heap:=H,toks:=tk} :=
 L.tn.next i d {L.p.s with heap:=H,toks:=tk} L.p.env Ex ow ρ ρ' Q E E' L.p.at.hsc hx v.st v.it v.wx v.S.rr hb λh3 tk3 st3 it3 R3 kp3 cd3=>P h3 tk3
  ⟨st3,it3,⟨R3,v.S.mu,v.S.fr,λj y e h1 h2 h3=>v.S.own j y e h1 h2 (gT hb j e h3),λj k y z e e' h1 h2 h3 h4 h5 h6 h7=>v.S.inj j k y z e e' h1 h2 h3 h4 (gT hb j e h5) (gT hb k e' h6) h7⟩,
   ⟨v.g.mu,v.g.ex,v.g.kp,λb o nb e=>(v.g.keep b o nb e).then (λo' e'=>kp3 b o' (λq=>ai ((L.wnew b q).symm.trans e)) (λq=>nb (q▸L.p.S.fr.1)) (λn' sn q=>nb (L.p.S.fr.2 n' b (L.p.sto n' sn) q)) e') cd3,v.g.cd.trans cd3⟩,v.wx,v.fm⟩
theorem Lp.done (L:Lp X sc O) {H:Heap} {tk:Nat} {Mu Ex:Addr->Prop} {ow:Nat->Addr} {ρ:MEnv} {Q:Shared->Prop} {E:Value->Shared->Prop} (v:L.Inv L.xs.length H Mu Ex ow ρ) (P:L.p.Post ρ Q) :
  wpAny (model X.P X.w) L.p.A (pyNext (.ref L.I)) (λr s₁=>r=none/\Q s₁) E {L.p.s with heap:=H,toks:=tk} :=
 L.tn.done {L.p.s with heap:=H,toks:=tk} Q E v.st λh3 tk3 kp3=>by
  have wk:∀ b,L.Wr b->∃ o,H.get? b=some o/\aL o:=λb hb=>Knd.fld (L.tn.kinds _ _ b v.st (L.tn.sub b hb)) λq=>q hb
  exact P h3 tk3 Mu (λb=>Ex b/\¬ L.Wr b) ow ⟨v.S.rr.drop kp3 v.wx wk,λb hb=>⟨v.S.mu b hb,λq=>v.fm b (L.tn.sub b q) hb⟩,v.S.fr,v.S.own,v.S.inj⟩
   ⟨v.g.mu,λb hb=>v.g.ex b hb.1,λb hb hn=>⟨v.g.kp b hb hn,λq=>Al.ne (L.p.lt b hb) (L.wnew b q) rfl⟩,λb o nb e=>(v.g.keep b o nb e).then (λo' e'=> .inl (kp3 b o' (λq=>ai ((L.wnew b q).symm.trans e)) e')) (L.tn.cdW v.st kp3),v.g.cd.trans (L.tn.cdW v.st kp3)⟩
def vO (R:Result->Shared->Prop) (N:Shared->Prop):Flow->Shared->Prop
 | .next,s=>N s
 | .cont,s=>N s
 | .brk,s=>R (.ok .next) s
 | .ret v,s=>R (.ok (.ret v)) s
def yT (L:Lp X sc O) (R:Result->Shared->Prop) (W:Shared->Prop) (ρ:MEnv):Out->Prop
 | .next=>L.p.Post ρ W
 | .brk=>L.p.Post ρ (R (.ok .next))
 | .ret d=>∀ h' tk v Mu' Ex',Gr L.p.s.heap L.p.Mu L.p.Ex Mu' Ex' h'->Den h' Ex' d v->R (.ok (.ret v)) {L.p.s with heap:=h',toks:=tk}
noncomputable def lpf (X:Wd) (sb:S) (tg:List Nat) (one:Bool):MEnv->D->Option (MEnv×Out):=λO d=>(bindT O tg one d).bind λO'=>ex X.G X.F O' sb
def Lp.Go (L:Lp X sc O) (sb:S) (r:MEnv×Out) (nn:Nat) (s':Shared):Prop:=∃ H tk i Mui Exi owi Oi,s' = {L.p.s with heap:=H,toks:=tk}/\i<=L.xs.length/\nn=L.xs.length+1 - i/\L.Inv i H Mui Exi owi Oi/\loopL (lpf X sb L.tg L.one) Oi (L.xs.drop i)=some r
def Lp.Er (L:Lp X sc O) (R:Result->Shared->Prop):Value->Shared->Prop:=notedBy (model X.P X.w) L.p.A L.p.env λe s'=>R (.error e) s'
theorem Lp.end (L:Lp X sc O) {R:Result->Shared->Prop} {W:Shared->Prop} {sb:S} {r:MEnv×Out} (aft:yT L R W r.1 r.2) {i:Nat} {h3:Heap} {tk3:Nat} {Mu3 Ex3:Addr->Prop} {ow3:Nat->Addr} {O3 O4:MEnv} {o4:Out} (hlt:i<L.xs.length) (v3:L.Inv (i+1) h3 Mu3 Ex3 ow3 O3)
  (hli:cond o4.isNext (loopL (lpf X sb L.tg L.one) O4 (L.xs.drop (i+1))) (some (O4,o4))=some r):SPost {L.p.s with heap:=h3,toks:=tk3} L.p.env X.c.tbl Mu3 Ex3 O4 o4 (vO R λs₃=>∃ m,m<L.xs.length+1 - i/\L.Go sb r m s₃):=by
 cases o4 with
 |next=>exact λh4 tk4 Mu4 Ex4 ow4 S4 g4=>⟨L.xs.length+1 - (i+1),Nat.sub_lt_sub_left (Nat.lt_succ_of_lt hlt) (Nat.lt_succ_self i),h4,tk4,i+1,Mu4,Ex4,ow4,O4,rfl,hlt,rfl,v3.later S4 g4,hli⟩
 |brk =>
  obtain rfl:=sm hli
  exact λh4 tk4 Mu4 Ex4 ow4 S4 g4=>aft h4 tk4 Mu4 Ex4 ow4 S4 (v3.g.trans L.p.lt L.p.S.mu g4)
 |ret d =>
  obtain rfl:=sm hli
  exact λh4 tk4 v Mu4 Ex4 g4 hd=>aft h4 tk4 v Mu4 Ex4 (v3.g.trans L.p.lt L.p.S.mu g4) hd
theorem Lp.run {R:Result->Shared->Prop} (L:Lp X sc O) {sb:S} {body els:List Stmt} {r:MEnv×Out} (hb:SS X sc sb (execs body))
  (aft:yT L R (λs₁=>wpAny (model X.P X.w) L.p.A (execs els L.p.env) (λf s₃=>R (.ok f) s₃) (notedBy (model X.P X.w) L.p.A L.p.env λe s'=>R (.error e) s') s₁) r.1 r.2) {H:Heap} {tk:Nat} {Mu Ex:Addr->Prop} {ow:Nat->Addr} {ρ:MEnv} (v0:L.Inv 0 H Mu Ex ow ρ)
  (hl:loopL (lpf X sb L.tg L.one) ρ L.xs=some r):codeAny (model X.P X.w) L.p.A (.forLoop L.target (.ref L.I) body els L.p.env) R {L.p.s with heap:=H,toks:=tk}:=by
 refine codeAny_forLoop_any (L.Go sb r) ?_ (L.xs.length+1) ⟨H,tk,0,Mu,Ex,ow,ρ,rfl,Nat.zero_le _,rfl,v0,hl⟩
 rintro nn s' ⟨H,tk,i,Mui,Exi,owi,Oi,rfl,hi,rfl,v,hli⟩
 rcases Nat.lt_or_ge i L.xs.length with hlt |hge
 ·rw [List.drop_eq_getElem_cons hlt] at hli
  refine ae hli λw hw hli=>ae hw λO2 hbd hw=> ?_
  refine wpAny_mono (L.next (Q:=λZz s₂=>wpAny (model X.P X.w) L.p.A (execs body L.p.env) (vO R λs₃=>∃ m,m<L.xs.length+1 - i/\L.Go sb r m s₃) (L.Er R) s₂) (E':=L.Er R) v (List.getElem?_eq_getElem hlt) hbd λh3 tk3 v3 =>
   hb O2 (L.p.on v3.S v3.g tk3) _ w.1 w.2 _ hw (L.end aft hlt v3 hli)) (λr s₁ hr=> ?_) λZz Zz e=>e
  obtain ⟨v,rfl,hr⟩:=hr
  exact wpAny_mono hr (λZz Zz hr=>wpAny_mono hr (λZz Zz hr=>wpAny_mono hr (λf s₃ h=>by cases f<;>exact h) λZz Zz e=>e) λZz Zz e=>e) λZz Zz e=>e
 ·obtain rfl:=Nat.le_antisymm hi hge
  rw [List.drop_length] at hli
  obtain rfl:=sm hli
  refine wpAny_mono (L.done v aft) (λr s₁ hr=> ?_) λZz Zz e=>e
  obtain ⟨rfl,hr⟩:=hr
  exact hr
theorem Ai {k:IK} {it it2:T} {target iter:Expr} {tg:List Nat} {one:Bool} {body els:List Stmt} {sb se:S} {pos:Pos} (hit:FS X sc k it it2 iter) (hb:SS X sc sb (execs body)) (he:SS X sc se (execs els)) (hT:bA X.c sc target tg one)
  (hfold:∀ env x,foldedSetIterable iter env x=pure x):SS X sc (.fors tg one k it it2 sb se) (exec (.For target iter body els pos)):=λO p E O' o Q h P=>by
 refine fD h λhen h=>ae h λxs hxs h=>ae h λr hl hr=> ?_
 have hen:enumOk one k=true:=by rw [Bool.not_eq_true',Bool.not_eq_false] at hen;exact hen
 obtain ⟨Mu1,Ex1,S1,g1⟩:=p.S.freeze it
 refine wpAny_For (hit _ (p.on (h:=p.s.heap) S1 g1 p.s.toks).at E false xs sc target tg one _ hT hen hxs λI Fp Wr It St h2 tk2 T st0 it0' k2 wnew fpw=> ?_) (hfold p.env)
 have wal2:∀ b,Wr b->Al h2 b:=λb hb=>let ⟨o,ho,_⟩:=T.kinds _ _ b st0 (T.sub b hb);⟨o,ho⟩
 refine Lp.run {p:=p,target:=target,tg:=tg,one:=one,I:=I,xs:=xs,Fp:=Fp,Wr:=Wr,It:=It,St:=St,tn:=T,wnew:=wnew} hb (r:=r) ?_ (Mu:=Mu1) (Ex:=λb=>Ex1 b\/Wr b) (ow:=p.ow) (ρ:=Mine.freeze O it)
  ⟨st0,it0',⟨S1.rr.grow k2 wnew wal2,λb hb=> .inl (S1.mu b hb),S1.fr,S1.own,S1.inj⟩,
  ⟨g1.mu,λb hb=>hb.elim (g1.ex b) λe=> .inr (wnew b e),λb hb hn=> .inl (g1.kp b hb hn),λb o Zz e=>k2 b o e,k2.cd⟩,λb hb=> .inr hb,λb hb hmu=>(fpw b hb).elim (λhw=>Al.ne (S1.rr.lt b (S1.mu b hmu)) (wnew b hw) rfl) λhn=>hn rfl (S1.mu b hmu)⟩ hl
 obtain ⟨ρ,o'⟩:=r
 cases o' with
 |next=>exact λh3 tk3 Mu3 Ex3 ow3 S3 g3=>he _ (p.on S3 g3 tk3) _ O' o _ hr (P.from p.lt p.S.mu g3)
 |brk =>
  obtain ⟨rfl,rfl⟩:=Prod.mk.inj (sm hr)
  exact P
 |ret d =>
  obtain ⟨rfl,rfl⟩:=Prod.mk.inj (sm hr)
  exact P
end
def kr (c:Cx):Prop:=c.tbl.all (λx=>dbg x&&dcl x)=true
section
variable {X:Wd} {sc:Scope} {mg mb:Str->Option Value}
theorem dm (ok:kr X.c) {i:Nat} (h:stoI X.c sc i=true) {P:Prop} (k:storable sc (X.c.tbl.getD i Str.empty)=true->X.c.tbl[i]? = some (X.c.tbl.getD i Str.empty)->((X.c.tbl.getD i Str.empty)==("__debug__":Str))=false->((X.c.tbl.getD i Str.empty)==("__classdict__":Str))=false->P):P:=by
 obtain ⟨h1,h2⟩:=dj h
 exact aa (List.all_eq_true.mp ok _ (List.mem_of_getElem? h2)) λh3 h4=>k h1 h2 (nt h3) (nt h4)
def pa (X:Wd) (sc:Scope) (s:S) (l:List Stmt):Prop:=cond (isSeq s) (SS X sc s (execs l)) (∃ st,l=[st]/\SS X sc s (exec st))
def UnS (X:Wd) (sc:Scope) (s:S):Prop:=∀ ss,(unS X.c sc s ss).1=true->pa X sc s (unS X.c sc s ss).2
theorem UnS.l {s:S} {ss:List Stmt} (h:UnS X sc s) (h1:isSeq s=true) (h2:(unS X.c sc s ss).1=true):SS X sc s (execs (unS X.c sc s ss).2):=by
 have:=h ss h2
 unfold pa at this
 rw [h1] at this;exact this
theorem UnS.s {s:S} {ss:List Stmt} (h:UnS X sc s) (h1:(!isSeq s)=true) (h2:(unS X.c sc s ss).1=true):SS X sc s (exec (hs (unS X.c sc s ss).2)):=by
 have:=h ss h2
 unfold pa at this
 rw [nt h1] at this
 obtain ⟨st,e,g⟩:=this
 rw [e];exact g
theorem jq {is:List Nat} {e:Expr} (h:varsB X.c sc is e=true):Tgs X.c sc (List.zipWith (nameE X.c) is (kids e)) is:=aa h λh1 h2=>oY (beq_iff_eq.mp h1) h2
theorem gc (B:X.Ok mg mb) (CT:X.Ct mg) (ok:kr X.c) (s:S):UnS X sc s:=by
 have me:=λ{t:T} {e:Expr} (h:(unE X.c sc t e).1=true)=>(bO B CT t).e h
 induction s with
 |skip=>exact λss h=>yp
 |seq a b ha hb=>exact λss h=>aa h λh h4=>aa h λh h3=>aa h λh1 h2=>Ak (ha.s h1 h3) (hb.l h2 h4)
 |asg i x e=>exact λss h=>aa h λh h3=>aa h λh1 h2=>⟨_,rfl,Ad (me h1) (dj h2).1 (dj h2).2 (nt h3)⟩
 |unp is e=>exact λss h=>aa h λh h3=>aa h λh1 h2=>⟨_,rfl,Am (me h1).vs (jq h2) (nt h3)⟩
 |multi is es =>
  refine λss h=>aa h λh h4=>aa h λh h3=>aa h λh1 h2=>⟨_,rfl,?_⟩
  have al:=(bO B CT es).l h1
  cases hf:is.any (·.2) with
  |true =>
   refine yk al (jq h2) hf ((Bool.or_eq_true_iff.mp h3).resolve_left λh=>aa h λh Zz=> ?_) (de h4)
   obtain ⟨p,hp,e⟩:=List.any_eq_true.mp hf
   exact nomatch (nt (List.all_eq_true.mp h p hp)).symm.trans e
  |false=>exact uW (mG al.as) (jq h2) (List.all_eq_true.mpr λp hp=>Bool.eq_false_iff.mpr (λe=>Bool.false_ne_true (hf.symm.trans (List.any_eq_true.mpr ⟨p,hp,e⟩)))▸rfl) ((Bool.or_eq_true_iff.mp h3).elim (λh=>aa h λZz h=>nt h) λh=>aa h λZz h=>nt h) (de h4)
 |aug i op e=>exact λss h=>aa h λh1 h2=>dm ok h2 λq1 q2 q3 q4=>⟨_,rfl,Ae (me h1).vs q1 q2 q4⟩
 |app i e=>exact λss h=>aa h λh h3=>aa h λh1 h2=>dm ok h2 λq1 q2 q3 q4=>⟨_,rfl,Ac (me h1) q1 q2 q3 q4 h3⟩
 |ext i e=>exact λss h=>aa h λh h3=>aa h λh1 h2=>dm ok h2 λq1 q2 q3 q4=>⟨_,rfl,Ah (me h1) q1 q2 q3 q4 h3⟩
 |revm i=>exact λss h=>aa h λh1 h2=>dm ok h1 λq1 q2 q3 q4=>⟨_,rfl,yn q1 q2 q3 q4 h2⟩
 |del i e=>exact λss h=>aa h λh1 h2=>dm ok h2 λq1 q2 q3 q4=>⟨_,rfl,Ag (me h1).vs q1 q2 q3 q4⟩
 |set2 i a j b es=>exact λss h=>aa h λh h5=>aa h λh h4=>aa h λh h3=>aa h λh1 h2=>dm ok h4 λq1 q2 q3 q4=>dm ok h5 λr1 r2 r3 r4=>⟨_,rfl,yo ((bO B CT es).l h1) (me h2).vs (me h3).vs ⟨q1,q2,q3,q4⟩ ⟨r1,r2,r3,r4⟩⟩
 |ifs t a b ha hb=>exact λss h=>aa h λh h5=>aa h λh h4=>aa h λh h3=>aa h λh1 h2=>⟨_,rfl,Bq (me h1).is (ha.l h2 h3) (hb.l h4 h5)⟩
 |fors tg one k it it2 a b ha hb =>
  refine λss h=>aa h λh h7=>aa h λh h6=>aa h λh h5=>aa h λh h4=>aa h λh h3=>aa h λh1 h2=> ?_
  obtain ⟨f1,f2⟩:=vQ B (me h1) (λhz=>me hz) h2
  exact ⟨_,rfl,Ai f1 (ha.l h4 h5) (hb.l h6 h7) (sZ h3) f2⟩
 |ret e =>
  refine λss h=>⟨_,rfl,?_⟩
  revert h
  show cond (skids (hs ss)).isEmpty _ _=true->SS X sc _ (exec (.Return (cond (skids (hs ss)).isEmpty none _) _))
  cases (skids (hs ss)).isEmpty with
  |true=>exact λh=>fE (P:=λt=>SS X sc (.ret t) _) h yl
  |false=>exact λh=>Aj (me h).vs
 |retv i=>exact λss h=>aa h λh1 h2=>aa (List.all_eq_true.mp ok _ (List.mem_of_getElem? (eL (de h1)))) λh3 h4=>⟨_,rfl,ym h2 (eL (de h1)) (nt h3) (nt h4)⟩
 |brk=>exact λss h=>⟨_,rfl,Af⟩
 |asrt e=>exact λss h=>⟨_,rfl,sN (me h).is⟩
 |bad=>exact λss h=>⟨_,rfl,λO p E O' o Q h P=>ai h⟩
theorem nq (B:X.Ok mg mb) (CT:X.Ct mg) (ok:kr X.c) {code:S} {body:List Stmt} (h:codeB X.c sc code body=true) (he:(unS X.c sc code body).2=body):SS X sc code (execs body):=aa h λh1 h2=>by
 have:=(gc (sc:=sc) B CT ok code).l h1 h2
 rw [he] at this;exact this
end
theorem jz (names:List (Str×NameKind)) (n:Nat) (x:Str) (h:(x,NameKind.cell)∈names):∃ c,(cellsFrom n names []).lookup x=some c:=Option.isSome_iff_exists.mp (cJ h)
theorem jy {ko:Str->Option NameKind}:∀ {bs:List (Str×Value)} {m:Str->Option Value} {x:Str},(∀ v,(x,v)∉bs)->PySem.bindL ko bs m x=m x
 | [],m,x,h=>rfl
 |(y,v) :: r,m,x,h=>by
  unfold PySem.bindL
  rw [jy λv' hm=>h v' (List.mem_cons_of_mem _ hm)]
  split
  ·have:x≠y:=λe=>h v (by rw [e];exact List.mem_cons_self)
   simp [this]
  ·rfl
theorem jw {ko:Str->Option NameKind}:∀ {bs:List (Str×Value)} {m:Str->Option Value} {x:Str},(∀ v,(x,v)∉bs)->PySem.bindC ko bs m x=m x
 | [],m,x,h=>rfl
 |(y,v) :: r,m,x,h=>by
  unfold PySem.bindC
  rw [jw λv' hm=>h v' (List.mem_cons_of_mem _ hm)]
  split
  ·rfl
  ·have:x≠y:=λe=>h v (by rw [e];exact List.mem_cons_self)
   simp [this]
theorem o8 {x:Str}:∀ {ns:List Str} {vs:List Value},x∉ns->∀ v,(x,v)∉ns.zip vs:=λh v hm=>h (List.of_mem_zip hm).1
theorem jx {ko:Str->Option NameKind}:∀ {ns:List Str} {vs:List Value} {m:Str->Option Value} {i:Nat} {x:Str} {v:Value},ns.Nodup->ns[i]? = some x->vs[i]? = some v->ko x=some .local->PySem.bindL ko (ns.zip vs) m x=some v
 |n :: ns,u :: vs,m,0,x,v,nd,h1,h2,hk=>by
  cases h1;cases h2
  rw [List.zip_cons_cons]
  unfold PySem.bindL
  rw [jy (o8 (List.nodup_cons.mp nd).1),if_pos hk]
  simp
 |n :: ns,u :: vs,m,i+1,x,v,nd,h1,h2,hk=>by
  rw [List.zip_cons_cons]
  unfold PySem.bindL
  exact jx (List.nodup_cons.mp nd).2 (by simpa using h1) (by simpa using h2) hk
 | [],_,_,_,_,_,_,h,_,_=>by simp at h
 |_ :: _,[],_,_,_,_,_,_,h,_=>by simp at h
theorem jv {ko:Str->Option NameKind}:∀ {ns:List Str} {vs:List Value} {m:Str->Option Value} {i:Nat} {x:Str} {v:Value},ns.Nodup->ns[i]? = some x->vs[i]? = some v->ko x≠some .local->PySem.bindC ko (ns.zip vs) m x=some v
 |n :: ns,u :: vs,m,0,x,v,nd,h1,h2,hk=>by
  cases h1;cases h2
  rw [List.zip_cons_cons]
  unfold PySem.bindC
  rw [jw (o8 (List.nodup_cons.mp nd).1),if_neg hk]
  simp
 |n :: ns,u :: vs,m,i+1,x,v,nd,h1,h2,hk=>by
  rw [List.zip_cons_cons]
  unfold PySem.bindC
  exact jv (List.nodup_cons.mp nd).2 (by simpa using h1) (by simpa using h2) hk
 | [],_,_,_,_,_,_,h,_,_=>by simp at h
 |_ :: _,[],_,_,_,_,_,_,h,_=>by simp at h
theorem i6 {n:Nat} {ds:List D} {i:Nat} {d:D} {b:Bool} (h:getE (ds.map (λd=>some (d,false))++List.replicate n none) i=some (d,b)):ds[i]? = some d/\b=false:=by
 unfold getE at h
 rw [List.getElem?_append] at h
 split at h
 ·rw [List.getElem?_map] at h
  cases hd:ds[i]? with
  |none=>rw [hd] at h;exact ai h
  |some e =>
   rw [hd] at h
   obtain ⟨rfl,rfl⟩:=Prod.mk.inj (sm h)
   exact ⟨rfl,rfl⟩
 ·rw [List.getElem?_replicate] at h
  split at h<;>exact ai h
structure DefAt (hB:Heap) (a:Addr) (name:Str) (params:Arguments) (body:List Stmt) (scope:Scope):Prop where
 at':∃ o pm cd doc P oc vs t,hB.get? a=some o/\o.data = .func (Calls.docDef name params body scope pm (.ref cd) doc)/\hB.get? cd=some oc/\oc.cls = .type "code"/\oc.data = .fields vs/\vs[1]? = some (.str name t)/\hB.IsCode cd P #[]/\hB.TableAt cd P #[]
structure eB (c:Cx) (ps:List Str) (name:Str) (params:Arguments) (body:List Stmt) (sc:Scope):Prop where
 kind:sc.kind = .function
 gen:sc.isGenerator=false
 co:sc.isCoroutine=false
 pre:c.tbl.take ps.length=ps
 sto:∀ x∈ps,storable sc x=true
 nd:c.tbl.Nodup
 free:∀ x,sc.names.lookup x≠some .free
 names:kr c
 bind:∀ pm cd doc (vs:List Value),vs.length=ps.length->bindArgs (Calls.docDef name params body sc pm cd doc) ⟨vs,[]⟩=pure (ps.zip vs)
theorem ya {c:Cx} {ps:List Str} (h:c.tbl.take ps.length=ps) {i:Nat} {x:Str} (hi:i<ps.length) (hx:c.tbl[i]? = some x):ps[i]? = some x:=by
 rw [<- h,List.getElem?_take]
 simp [hi,hx]
theorem vW {h:Heap} {b:Addr} (x:h.objs.size<=b):h.get? b=none:=by
 cases e:h.get? b with
 |none=>rfl
 |some o=>exact absurd (Heap.lt_size e) (Nat.not_lt.mpr x)
theorem jM {c:Cx} {ps:List Str} {name:Str} {params:Arguments} {body:List Stmt} {sc:Scope} (ok:eB c ps name params body sc):ps.Nodup:=by
 rw [<- ok.pre];exact (List.take_sublist _ _).nodup ok.nd
theorem tU {c:Cx} {ps:List Str} {name:Str} {params:Arguments} {body:List Stmt} {sc:Scope} (ok:eB c ps name params body sc) {X:Addr->Prop} {h h₁:Heap} {a:Addr} {cd:Value} {ds:List D} {vs:List Value} (hlen:ds.length=ps.length) (hX:∀ b,X b->Al h b) (hden:DenL h X ds vs)
  (keep:∀ b o,h.get? b=some o->h₁.get? b=some o) (ns:h₁.Ns h.objs.size (PySem.bindL (λx=>(envOfC name sc h.objs.size a cd).kindOf x) (ps.zip vs) λZz=>none)) (cl:∀ x b,(cellsFrom (h.objs.size+1) sc.names []).lookup x=some b->h₁.IsCell b (PySem.bindC (λx=>(envOfC name sc h.objs.size a cd).kindOf x) (ps.zip vs) (λZz=>none) x))
  (above:∀ x b,(cellsFrom (h.objs.size+1) sc.names []).lookup x=some b->h.objs.size+1<=b) (apart:∀ x y b,(cellsFrom (h.objs.size+1) sc.names []).lookup x=some b->(cellsFrom (h.objs.size+1) sc.names []).lookup y=some b->x=y) :
  SR (envOfC name sc h.objs.size a cd) c.tbl (λb=>b=h.objs.size\/∃ x,(cellsFrom (h.objs.size+1) sc.names []).lookup x=some b) (λb=>X b\/(b=h.objs.size\/∃ x,(cellsFrom (h.objs.size+1) sc.names []).lookup x=some b)) (λZz=>0) (ds.map (λd=>some (d,false))++List.replicate (c.tbl.length - ds.length) none) h₁:=by
 have muNone:∀ b,(b=h.objs.size\/∃ x,(cellsFrom (h.objs.size+1) sc.names []).lookup x=some b)->h.get? b=none:=λb hb=>vW (hb.elim (λe=>Nat.le_of_eq e.symm) λ⟨x,hx⟩=>Nat.le_of_succ_le (above x b hx))
 refine ⟨⟨⟨ok.kind,rfl,rfl⟩,ok.nd,?_,⟨.inr (.inl rfl),λx b hb=> .inr (.inr ⟨x,hb⟩)⟩,?_⟩,λb hb=> .inr hb,⟨.inl rfl,λx b Zz hb=> .inr ⟨x,hb⟩⟩,?_,?_⟩
 ·rintro b (hb |rfl |⟨x,hx⟩)
  ·exact (hX b hb).keep (.of keep)
  ·obtain ⟨o,es,ep,e,Zz⟩:=ns;exact ⟨o,e⟩
  ·obtain ⟨o,e,Zz⟩:=cl x b hx;exact ⟨o,e⟩
 ·refine ⟨_,_,⟨ns,cl,λx b hb=>Nat.ne_of_gt (above x b hb),apart,λx hx=> ?_⟩,?_⟩
  ·rcases hx with hx |hx
   ·exact jz sc.names _ x (PySem.mem_of_lookup hx)
   ·exact absurd hx (ok.free x)
  ·intro i x d b hx hg hs
   obtain ⟨hd,rfl⟩:=i6 hg
   obtain ⟨v,hv,dv⟩:=hden.get hd
   have hp:=ya ok.pre (by rw [<- hlen];exact (List.getElem?_eq_some_iff.mp hd).1) hx
   refine ⟨v,?_,Den.mono (λb o Zz Zz e=>keep b o e) (λb hb hn e=>e.elim hn λe=>hb.ne (muNone b e) rfl) _ _ dv,λe=>nomatch e⟩
   unfold valOf
   rcases bW (ok.sto x (List.mem_of_getElem? hp)) with e |e
   ·have hk:(envOfC name sc h.objs.size a cd).kindOf x=some .local:=e
    rw [hk]
    exact jx (jM ok) hp hv hk
   ·have hk:(envOfC name sc h.objs.size a cd).kindOf x=some .cell:=e
    rw [hk]
    exact jv (jM ok) hp hv (by rw [hk];decide)
 ·exact λi x d hx hs hg=>nomatch (i6 hg).2
 ·exact λi j x y d e hx hs hy hs' hg=>nomatch (i6 hg).2
theorem dz (off:Frk.fs=none) {X:Wd} (lim:X.hB.NoLimit) {ps:List Str} {name:Str} {params:Arguments} {body:List Stmt} {sc:Scope} (ok:eB X.c ps name params body sc) {a:Addr} (da:DefAt X.hB a name params body sc)
  {A:Around} {E:Value->Shared->Prop} {s:Shared} {Y:Addr->Prop} {ds:List D} {vs:List Value} {r:D} {Q:Value->Shared->Prop} (ar:Ar (X.n+1) A) (kp:KB X.hB s.heap) (hX:∀ b,Y b->Al s.heap b) (hden:DenL s.heap Y ds vs) (hlen:ds.length=ps.length)
  (ret:∀ v h' tk,Kp s.heap h'->Den h' Y r v->Q v {s with heap:=h',toks:=tk})
  (P:∀ (p:Ast X sc (ds.map (λd=>some (d,false))++List.replicate (X.c.tbl.length - ds.length) none)) (cd T:Addr),p.env=envOfC name sc s.heap.objs.size a (.ref cd)->p.A=A.deeper p.env->X.hB.IsCode cd T #[]->X.hB.TableAt cd T #[]->(∀ b,p.Mu b->s.heap.get? b=none)->Kp s.heap p.s.heap ->
   (∀ h' tk v Mu' Ex',Gr p.s.heap p.Mu p.Ex Mu' Ex' h'->Den h' Ex' r v->Q v {p.s with heap:=h',toks:=tk}) ->
   wpAny (model X.P X.w) p.A (execs body p.env) (λf s'=>Q (match f with | .ret v=>v |_=> .none) s') (λZz Zz=>False) p.s):wpAny (model X.P X.w) A (call (.ref a) vs) Q E s:=by
 obtain ⟨o,pm,cd,doc,tb,oc,vc,tc,h1,h2,h3,h4,h5,h6,h7,h8⟩:=da.at'
 refine wpAny_call ?_
 have hvl:vs.length=ps.length:=hden.length.trans hlen
 have nolim:s.heap.NoLimit:=let ⟨mc,x,y⟩:=lim;⟨mc,kp.ns x,y⟩
 have cr:s.heap.CodeRec (.ref cd) name:=⟨cd,oc,vc,tc,rfl,kp.ob h3 (.inl (bh h4 h5)),h5,h6⟩
 refine call_cells_ret (Nat.lt_of_le_of_lt (Nat.le_trans (Nat.le_add_right _ _) ar.depth) (by decide)) (kp.ob h1 (.inl (bi h2))) h2 nolim cr (ok.bind pm (.ref cd) doc vs hvl) (λx hx=> ?_) ?_ ok.co ok.gen ok.kind
 ·rcases bW (ok.sto x.1 (List.of_mem_zip (a:=x.1) (b:=x.2) hx).1) with e |e
  ·exact .inl e
  ·refine .inr ⟨e,?_⟩
   obtain ⟨q,hq⟩:=jz sc.names (s.heap.objs.size+1) x.1 (PySem.mem_of_lookup e)
   rw [hq];rfl
 ·intro h₁ tk fr cl
  have above:=λx b hx=>cl.above x b (PySem.mem_of_lookup hx)
  have muNone:∀ b,(b=s.heap.objs.size\/∃ x,(cellsFrom (s.heap.objs.size+1) sc.names []).lookup x=some b)->s.heap.get? b=none:=λb hb=>vW (hb.elim (λe=>Nat.le_of_eq e.symm) λ⟨x,hx⟩=>Nat.le_of_lt (above x b hx))
  exact P {A:=A.deeper (envOfC name sc s.heap.objs.size a (.ref cd)),s:={s with heap:=h₁,toks:=tk},env:=envOfC name sc s.heap.objs.size a (.ref cd),Mu:=_,Ex:=_,ow:=_,hsc:=rfl,S:=tU ok hlen hX hden fr.keep fr.ns cl.cell above (λx y b hx hy=>PySem.name_of_addr cl.apart (PySem.mem_of_lookup hx) (PySem.mem_of_lookup hy)),k:=kp.trans (.of fr.keep),hm:=λb hb=>kp.none (muNone b hb),ar:=ar.deep off _} cd tb rfl rfl h7 h8 muNone (.of fr.keep) λh' tk' v Mu' Ex' g dv=>ret v h' tk' (λb o e=>g.keep b o (λhm=>ai ((muNone b hm).symm.trans e)) (fr.keep _ _ e))
        (Den.mono (λb o Zz Zz e=>e) (λb hb n hx=>n (g.kp b (.inl hx) λhm=>(hX b hx).ne (muNone b hm) rfl)) _ _ dv)
theorem wN (off:Frk.fs=none) {prog:Program} {w:World} {c:Cx} {G:ag} {F F':FEnv} {hB:Heap} {n:Nat} {mg mb:Str->Option Value} (B:Base prog w c G hB mg mb)
  (CT:∀ f a,f∈c.fns->mg f=some (.ref a)->Ctr prog w hB n F f a) (lim:hB.NoLimit) {ps:List Str} {name:Str} {params:Arguments} {body:List Stmt} {sc:Scope} {code:S} (ok:eB c ps name params body sc)
  {a:Addr} (da:DefAt hB a name params body sc) (hc:codeB c sc code body=true) (hu:(unS c sc code body).2=body)
  (hF:∀ ds r,F' name ds=some r->ds.length=ps.length/\run G F c.tbl.length code ds=some r):Ctr prog w hB (n+1) F' name a:=by
 intro A E s Y ds vs r Q ar kp hX hden hr ret
 obtain ⟨hlen,hr⟩:=hF _ _ hr
 refine dz off (X:=⟨prog,w,c,G,F,hB,n⟩) lim ok da ar kp hX hden hlen ret λp cd tb Zz Zz Zz Zz Zz Zz fin=> ?_
 refine ae hr λq he hr=> ?_
 obtain ⟨O',o'⟩:=q
 have ss:=nq (X:=⟨prog,w,c,G,F,hB,n⟩) B CT ok.names hc hu
 cases o' with
 |next =>
  obtain rfl:=sm hr
  exact ss _ p _ O' .next _ he λh' tk' Mu' Ex' ow' S' g=>fin h' tk' .none Mu' Ex' g rfl
 |brk=>exact ai hr
 |ret d =>
  obtain rfl:=sm hr
  exact ss _ p _ O' (.ret d) _ he λh' tk' v Mu' Ex' g dv=>fin h' tk' v Mu' Ex' g dv
end Mine
namespace Mine
structure Fn where
 name:Str
 ps:List Str
 tbl:List Str
 code:S
noncomputable def cxw (c:Cx) (f:Fn):Cx:={c with tbl:=f.tbl}
noncomputable def SPL:Nat:=60
noncomputable def FF (G:ag) (fns:List Fn) (spn:List Str) (sp:Str->List D->Option D):Nat->FEnv
 |0=>λZz Zz=>none
 |k+1=>λf ds=>cond (spn.contains f) (if SPL<=k then sp f ds else none) ((fns.find? (λx=>x.name==f)).bind λx=>if ds.length=x.ps.length then run G (FF G fns spn sp k) x.tbl.length x.code ds else none)
theorem FF_s {G:ag} {fns:List Fn} {spn:List Str} {sp:Str->List D->Option D} {k:Nat} {f:Str} {ds:List D}:FF G fns spn sp (k+1) f ds=cond (spn.contains f) (if SPL<=k then sp f ds else none) ((fns.find? (λx=>x.name==f)).bind λx=>if ds.length=x.ps.length then run G (FF G fns spn sp k) x.tbl.length x.code ds else none):=rfl
variable [Jt:Tabs] [Jf:Frk]
theorem Base.cxw {prog:Program} {w:World} {c:Cx} {G:ag} {hB:Heap} {mg mb:Str->Option Value} (B:Base prog w c G hB mg mb) (f:Fn):Base prog w (cxw c f) G hB mg mb :=
 ⟨B.ns,B.bn,B.blt,B.cst,B.iset,B.idict,B.ndb,B.fn⟩
def tw (c:Cx) (hB:Heap) (mg:Str->Option Value) (f:Fn):Prop:=∃ params body sc,eB (cxw c f) f.ps f.name params body sc/\(∀ a,mg f.name=some (.ref a)->DefAt hB a f.name params body sc)/\codeB (cxw c f) sc f.code body=true/\(unS (cxw c f) sc f.code body).2=body
theorem zo (off:Frk.fs=none) {prog:Program} {w:World} {c:Cx} {G:ag} {hB:Heap} {mg mb:Str->Option Value} (B:Base prog w c G hB mg mb) (lim:hB.NoLimit) {fns:List Fn} {spn:List Str} {sp:Str->List D->Option D}
  (ok:∀ f∈fns,tw c hB mg f) (spc:∀ f a k,f∈spn->mg f=some (.ref a)->SPL<=k->Ctr prog w hB k (λf ds=>sp f ds) f a) (k:Nat):∀ (f:Str) (a:Addr),mg f=some (.ref a)->Ctr prog w hB k (FF G fns spn sp k) f a:=by
 induction k with
 |zero=>exact λf a ha A E s X ds vs r Q ar kp hX hd hr=>ai hr
 |succ k ih =>
  intro f a ha
  cases hc:spn.contains f with
  |true =>
   intro A E s X ds vs r Q ar kp hX hd hr P
   rw [FF_s,hc] at hr
   exact gd hr λhk hr=>spc f a (k+1) (List.contains_iff_mem.mp hc) ha (Nat.le_succ_of_le hk) A E s X ds vs r Q ar kp hX hd hr P
  |false =>
   cases hf:fns.find? (λx=>x.name==f) with
   |none =>
    intro A E s X ds vs r Q ar kp hX hd hr P
    rw [FF_s,hc,hf] at hr
    exact ai hr
   |some x =>
    obtain ⟨params,body,sc,dk,da,h1,h2⟩:=ok x (List.mem_of_find?_eq_some hf)
    have hn:=List.find?_some hf
    obtain rfl:x.name=f:=beq_iff_eq.mp hn
    refine wN off (F:=FF G fns spn sp k) (B.cxw x) (λg b Zz hb=>ih g b hb) lim dk (da a ha) h1 h2 λds r hr=> ?_
    rw [FF_s,hc,hf] at hr
    exact gd hr λhl hr=>⟨hl,hr⟩
end Mine
namespace Mine
section
variable {den:Code->Sem Fin} {prog:Program} {w:World}
theorem lZ:∀ {n:Nat} {s:Shared} {t:Thread} {s':Shared} {t':Thread},runN den prog w n s t = .running s' t'->s'.heap.life=s.heap.life
 |0,s,t,s',t',h=>by simp only [runN,Run.running.injEq] at h;rw [h.1]
 |n+1,s,t,s',t',h=>by
  simp only [runN] at h
  cases hs:step den prog w s t with
  |go s₁ t₁=>rw [hs] at h;exact (lZ h).trans (step_life den prog w s s₁ t t₁ hs)
  |halt o s₁=>rw [hs] at h;cases h
theorem l6:∀ {k:Nat} {s:Shared} {t:Thread} {s':Shared} {t':Thread} {o:Outcome} {s'':Shared},runN den prog w k s t = .running s' t'->step den prog w s' t' = .halt o s''->runN den prog w (k+1) s t = .halted o s''
 |0,s,t,s',t',o,s'',h,hs=>by
  simp only [runN,Run.running.injEq] at h
  obtain ⟨rfl,rfl⟩:=h
  simp only [runN,hs]
 |k+1,s,t,s',t',o,s'',h,hs=>by
  simp only [runN] at h
  cases e:step den prog w s t with
  |go s₁ t₁ =>
   rw [e] at h
   have:=l6 h hs
   rw [runN];simp only [e];exact this
  |halt o s₁=>rw [e] at h;cases h
theorem uS {n:Nat} {s:Shared} {t:Thread} {s':Shared} {t':Thread} (hr:s.asleep) (h:runN den prog w n s t = .running s' t') (hc:∀ k s₁ t₁,runN den prog w k s t = .running s₁ t₁->t₁.calm=true) :
  schedN den prog w n (.single s t) = .running (.single s' t'):=by
 rw [schedN_prefix den prog w n s t hr λk s₁ t₁ hk hrun=>⟨hc k s₁ t₁ hrun,λhs=> ?_⟩,h]
 ·rfl
 ·have h1:=l6 hrun hs
  have h2:=runN_mono den prog w (k+1) (n - (k+1)) s t _ _ h1
  rw [Nat.add_sub_of_le hk,h] at h2
  cases h2
end
structure BU (n:Nat) (A:Around):Prop where
 hd:A.handled=none
 depth:A.depth+n<=900
 units:A.units+4 * n<=9000
def fe (p:Program) (w:World) (defs:List DefItem) (consts:List (Str×PyData)) (objs:List (Str×(Obj->Prop))) (names:List Str):Prop :=
 ∀ (s:Shared) (mg mb:Str->Option Value) (c Pl F:Addr) (A:Around) (Q:Flow->Shared->Prop),BU 500 A->Mod s.heap mg c Pl s.heap mg #[] [] [] [] [] ->
  s.heap.Ns builtinsNs mb->(∀ x:Str,x≠"__name__"->mb x=bootBuiltins x)->(∀ x,x∉bootMainNames->mg x=none) ->
  (∀ h' mgN mg' ps' tk,(∀ x:Str,x≠"__name__"->mgN x=mg x)->Mod s.heap mgN c Pl h' mg' ps' defs consts objs names->Q .next {s with heap:=h',toks:=tk}) ->
  wpAny (model p w) A (execs p.main.body (mainEnv p c F)) Q (λZz Zz=>False) s
structure km (h:Heap) (mg mb:Str->Option Value):Prop where
 g:h.Ns mainGlobals mg
 b:h.Ns builtinsNs mb
 blt:∀ x:Str,x≠"__name__"->mb x=bootBuiltins x
 oth:∀ x,x∉bootMainNames->mg x=none
 bm:∃ bm o,mg "__builtins__"=some (.ref bm)/\bm≠builtinsNs/\bm≠mainGlobals/\h.get? bm=some o/\o.cls = .type "module"/\o.dict=some builtinsNs/\o.data = .plain
structure ng (p:Program) (w:World) (defs:List DefItem) (consts:List (Str×PyData)) (objs:List (Str×(Obj->Prop))) (names:List Str) (mg₀:Str->Option Value) (s₀ s₁:Shared):Prop where
 ran:∃ n t,schedN (denote table) p w n (.single s₀ (topStub p)) = .running (.single s₁ t)/\through t=true
 life:s₁.heap.life=s₀.heap.life
 os:s₁.os=s₀.os
 gens:s₁.gens = #[]
 mod:∃ h₀ mgN c Pl mg ps,(∀ x:Str,x≠"__name__"->mgN x=mg₀ x)/\Kq s₀.heap h₀/\s₀.heap.objs.size<=Pl/\Mod h₀ mgN c Pl s₁.heap mg ps defs consts objs names
theorem Ap {p:Program} {w:World} {defs:List DefItem} {consts:List (Str×PyData)} {objs:List (Str×(Obj->Prop))} {names:List Str} {mg mb:Str->Option Value} {s₀:Shared}
  (hann:hasAnns p.main.body=false) (hdoc:docOf p.main.body=none) (hbeh:behindTheImports p=p.main.body) (walk:fe p w defs consts objs names) (B:km s₀.heap mg mb) (hg:s₀.gens = #[])
  (Q:Fin->Shared->Prop) (hQ:∀ s₁,s₁.os=s₀.os->s₁.gens = #[]->(∃ h₀ mgN c Pl mg' ps,(∀ x:Str,x≠"__name__"->mgN x=mg x)/\Kq s₀.heap h₀/\s₀.heap.objs.size<=Pl/\Mod h₀ mgN c Pl s₁.heap mg' ps defs consts objs names)->Q (.done (.ret .none)) s₁) :
  wpAny (model p w) callerA (topStub p).cur Q (λZz Zz=>False) s₀:=by
 unfold topStub
 refine wpAny_bind (wpAny_moduleCode λc Pl h₁ tk₁ hk₁ hc hPl hcode=> ?_)
 unfold newBodyFrame
 refine wpAny_bind (wpAny_bind (wpAny_nsGet (B.g.keeps hk₁) (wpAny_alloc ?_)))
 rw [hbeh]
 have k₂:∀ o,Kq h₁ (h₁.push o):=λo=>Kq.push h₁ o
 refine wpAny_bind (wpAny_run (codeAny_body hann hdoc (wpAny_mono (E:=λZz Zz=>False) (walk _ mg mb c Pl _ _ _ ?_ ?_ ?_ B.blt B.oth λh' mgN mg' ps' tk hN X=> ?_) (λZz Zz x=>x) λZz Zz x=>x.elim)) (by decide))
 ·exact ⟨rfl,by show 1+claimMargin+1+500<=900;decide,by show 4+3+4 * 500<=9000;decide⟩
 ·obtain ⟨bm,o,e1,e2,e3,e4,e5,e6,e7⟩:=B.bm
  have lt:=B.g.lt
  have hbl:=Heap.lt_size e4
  have code:=hcode.push {cls:= .type "frame",slots:= #[some (.ref c),some (.ref mainNs),some (.ref mainNs),none,some ((mg "__name__").getD .none),none,some (.ref builtinsNs)]}
  refine ⟨⟨(B.g.keeps hk₁).keeps (k₂ _),code,⟨Nat.lt_of_lt_of_le lt hc,Nat.lt_of_lt_of_le lt hPl⟩,⟨bm,o,e1,e2,e3,Nat.ne_of_lt (Nat.lt_of_lt_of_le hbl hPl),k₂ _ _ _ (hk₁ _ _ e4),e5,e6,e7⟩⟩,
   λZz Zz Zz Zz e=>e,(λZz hd=>nomatch hd),(λZz hp=>nomatch hp),λZz Zz=>rfl,(λZz hd=>nomatch hd),(λZz hp=>nomatch hp),(λZz hp=>nomatch hp),(λZz hp=>nomatch hp),Nat.le_refl _,code.lt.2,((B.g.keeps hk₁).keeps (k₂ _)).lt,(λZz hd=>nomatch hd)⟩
 ·exact (B.b.keeps hk₁).keeps (k₂ _)
 ·refine wpAny_pure (hQ _ rfl hg ⟨_,mgN,c,Pl,mg',ps',hN,Kq.trans hk₁ (k₂ _),hPl,X⟩)
theorem u8 {p:Program} {w:World} {defs:List DefItem} {consts:List (Str×PyData)} {objs:List (Str×(Obj->Prop))} {names:List Str} {mg mb:Str->Option Value} {s₀:Shared}
  (hann:hasAnns p.main.body=false) (hdoc:docOf p.main.body=none) (hbeh:behindTheImports p=p.main.body) (walk:fe p w defs consts objs names) (B:km s₀.heap mg mb) (hg:s₀.gens = #[]) (hz:s₀.asleep) :
  ∃ s₁,ng p w defs consts objs names mg s₀ s₁:=by
 have W:=Ap (p:=p) (w:=w) hann hdoc hbeh walk B hg (λfin s'=>fin = .done (.ret .none)/\s'.os=s₀.os/\s'.gens = #[]/\∃ h₀ mgN c Pl mg' ps,(∀ x:Str,x≠"__name__"->mgN x=mg x)/\Kq s₀.heap h₀/\s₀.heap.objs.size<=Pl/\Mod h₀ mgN c Pl s'.heap mg' ps defs consts objs names) λs₁ h1 h2 h3=>⟨rfl,h1,h2,h3⟩
 have W1:=W (Ctx.of (.builtin "claim.caller" {}) []) default caller_in
 obtain ⟨n,s',O,p',leaf,hrun,hfo,hl,Zz⟩:=wp_reaches_first (M:=model p w) W1
 have calm:∀ k s₁ t₁,runN (denote table) p w k s₀ (topStub p) = .running s₁ t₁->t₁.calm=true:=by
  have W2:=wp_of_wpAny_done (M:=model p w) (R:=λr s'=>True/\leftWithCleanup s'.gens=false) caller_in (wpAny_mono W (by
   rintro fin s' ⟨h1,h2,h3,h4⟩
   exact ⟨_,h1,trivial,by rw [h3];simp [leftWithCleanup]⟩) λZz Zz x=>x.elim) default
  obtain ⟨N,r,s',hn,hR⟩:=(wp_iff_halts (M:=model p w) _ _ _ _).mp W2
  obtain ⟨s'',hr,hf,hc⟩:=runNI_real (denote table) p w hn (outcomeOf_ends r)
  exact hc
 obtain ⟨eh,ed,et,eo,eg⟩:=Shared.forget_eq hfo
 rcases hl with ⟨a,rfl,h1,h2,h3,h4⟩ |⟨e,_,x⟩
 ·refine ⟨O,⟨⟨n,_,uS hz hrun calm,?_⟩,lZ hrun,eo.trans h2,?_,?_⟩⟩
  ·rw [h1];rfl
  ·rw [h3] at eg
   have:(O.gens.map GenState.forget).size=0:=by rw [eg];simp
   rw [Array.size_map] at this
   exact Array.eq_empty_of_size_eq_zero this
  ·rw [eh];exact h4
 ·exact x.elim
section
set_option maxRecDepth 100000
theorem gz (P:Params):(boot_heap P).isNs mainGlobals=true:=by with_unfolding_all rfl
theorem gy (P:Params):(boot_heap P).isNs builtinsNs=true:=by with_unfolding_all rfl
theorem tF (P:Params):(boot_heap P).isNs cStatics=true:=by with_unfolding_all rfl
theorem kG (P:Params):(boot_heap P).bltView=bltViewBooted:=by with_unfolding_all rfl
theorem tE (P:Params):(boot_heap P).accountedOkI []=true:=by with_unfolding_all rfl
theorem wD (P:Params):(boot_heap P).bmainOk=true:=by with_unfolding_all rfl
theorem qw (P:Params):((boot_heap P).nsKeys mainGlobals).all (λx=>bootMainNames.contains x)=true:=by with_unfolding_all rfl
theorem pq (P:Params):(boot_heap P).nsMap cStatics "sys.recursionlimit"=none:=by with_unfolding_all rfl
end
theorem nr (P:Params):km (boot_heap P) ((boot_heap P).nsMap mainGlobals) ((boot_heap P).nsMap builtinsNs):=by
 refine ⟨.of_isNs (gz P),.of_isNs (gy P),λx hx=>Heap.of_bltView (gy P) (kG P) x hx,λx hx=>Heap.nsMap_none λhk=>hx ?_,?_⟩
 ·have:=List.all_eq_true.mp (qw P) x hk
  simpa using this
 ·obtain ⟨bm,ob,b1,b2,b3,b4,b5,b6⟩:=Heap.bmainOk_spec (wD P)
  refine ⟨bm,ob,b1,b2,?_,b3,b4,b5,b6⟩
  rintro rfl
  obtain ⟨o,es,ep,h1,h2,Zz⟩:=Heap.Ns.of_isNs (gz P)
  rw [h1] at b3;cases b3
  rw [h2] at b6;cases b6
theorem hZ {p:Program} (hop:opening p=plainProg p.main.scope.names):∀ w,(∃ s,AfterRun (opening p) w s)/\∀ s,AfterRun (opening p) w s->s.heap=boot_heap w.params/\s.gens = #[]/\s.asleep:=by
 intro w
 have h:=boot_plain w p.main.scope.names
 rw [<- hop,<- table_eq_tree] at h
 obtain ⟨s,h1,h2⟩:=Option.map_eq_some_iff.mp h
 have A:=AfterImport.of_importEnds h1
 refine ⟨⟨s,A⟩,λs' hs'=> ?_⟩
 obtain rfl:s'=s:=AfterImport.unique hs' A
 injection h2 with h2 h3
 injection h3 with h3 h4
 exact ⟨h2,h3,A.life⟩
structure TopAt (defs:List DefItem) (consts:List (Str×PyData)) (objs:List (Str×(Obj->Prop))) (names:List Str) (mg mb:Str->Option Value) (h:Heap):Prop where
 g:h.Ns mainGlobals mg
 b:h.Ns builtinsNs mb
 blt:∀ x:Str,x≠"__name__"->mb x=bootBuiltins x
 lim:h.NoLimit
 oth:∀ x,x∉names->x∉bootMainNames->mg x=none
 bm:∃ bm o,mg "__builtins__"=some (.ref bm)/\bm≠builtinsNs/\bm≠mainGlobals/\h.get? bm=some o/\o.cls = .type "module"/\o.dict=some builtinsNs/\o.data = .plain
 made:∀ d∈defs,∃ a,mg d.name=some (.ref a)/\DefAt h a d.name d.params d.body d.scope
 bound:∀ p∈consts,∃ v,mg p.1=some v/\IsDatum v p.2
 held:∀ p∈objs,∃ a o,mainGlobals<a/\mg p.1=some (.ref a)/\h.get? a=some o/\p.2 o
theorem DefAt.keep {h h':Heap} {a:Addr} {name:Str} {params:Arguments} {body:List Stmt} {scope:Scope} (k:Kq h h') (d:DefAt h a name params body scope):DefAt h' a name params body scope:=by
 obtain ⟨o,pm,cd,doc,P,oc,vs,t,h1,h2,h3,h4,h5,h6,h7,h8⟩:=d.at'
 exact ⟨o,pm,cd,doc,P,oc,vs,t,k _ _ h1,h2,k _ _ h3,h4,h5,h6,h7.keeps k,h8.keeps k⟩
theorem TopAt.keep {defs:List DefItem} {consts:List (Str×PyData)} {objs:List (Str×(Obj->Prop))} {names:List Str} {mg mb:Str->Option Value} {h h':Heap} (k:Kq h h') (T:TopAt defs consts objs names mg mb h):TopAt defs consts objs names mg mb h':=by
 refine ⟨T.g.keeps k,T.b.keeps k,T.blt,?_,T.oth,(let ⟨bm,o,h1,h2,h3,h4,h5⟩:=T.bm;⟨bm,o,h1,h2,h3,k _ _ h4,h5⟩),λd hd=> ?_,T.bound,λp hp=> ?_⟩
 ·obtain ⟨mc,x,y⟩:=T.lim;exact ⟨mc,x.keeps k,y⟩
 ·obtain ⟨a,h1,h2⟩:=T.made d hd;exact ⟨a,h1,h2.keep k⟩
 ·obtain ⟨a,o,h0,h1,h2,h3⟩:=T.held p hp;exact ⟨a,o,h0,h1,k _ _ h2,h3⟩
theorem yv {p:Program} {w:World} {defs:List DefItem} {consts:List (Str×PyData)} {objs:List (Str×(Obj->Prop))} {names:List Str} {s₀:Shared}
  (himp:importedModules p.main.body=[]) (hn:∀ x∈names,x∈p.boundNames) (hl:∀ x∈laidNames,x∉names) (hd:∀ d∈defs,d.params.defaults=[])
  (hh:s₀.heap=boot_heap w.params) {s₁:Shared} (T:ng p w defs consts objs names (s₀.heap.nsMap mainGlobals) s₀ s₁) :
  TopRan p w s₀ s₁/\∃ mg mb,TopAt defs consts objs names mg mb s₁.heap/\globalOf s₁.heap=mg:=by
 obtain ⟨ran,life,os,gens,h₀,mgN,c,Pl,mg,ps,hN,k₀,hP,X⟩:=T
 have BG:=gz w.params
 have BB:=gy w.params
 have BS:=tF w.params
 have bt:=kG w.params
 have ac:=tE w.params
 have bl:=pq w.params
 have bo:=nr w.params
 rw [<- hh] at BG BB BS bt ac bl bo
 have keep:∀ b o,b≠mainGlobals->s₀.heap.get? b=some o->s₁.heap.get? b=some o:=λb o hb e =>
  X.keep b o (Nat.ne_of_lt (Nat.lt_of_lt_of_le (Heap.lt_size e) hP)) hb (k₀ _ _ e)
 have gl:∀ x,globalOf s₁.heap x=mg x:=λx=>Claim2Try.globalOf_of_ns X.main.g x
 have gl0:∀ x,globalOf s₀.heap x=s₀.heap.nsMap mainGlobals x:=λx=>Pin.globalOf_eq BG x
 have stat:∀ k,staticOf s₁.heap k=staticOf s₀.heap k:=λk=>by
  obtain ⟨o,es,ep,e,Zz⟩:=Heap.Ns.of_isNs BS
  unfold staticOf
  rw [keep _ _ (by decide) e,e]
 have NB:s₁.heap.Ns builtinsNs (s₀.heap.nsMap builtinsNs):=(Heap.Ns.of_isNs BB).at λo=>keep _ o (by decide)
 refine ⟨⟨ran,life,Shared.rest_eq os,λb o e ht=>keep b o (λq=>ht (.inl q)) e,?_,?_,?_,?_,?_,?_,?_,?_⟩,mg,s₀.heap.nsMap builtinsNs,⟨X.main.g,NB,bo.blt,?_,?_,(let ⟨bm,o,h1,h2,h3,_,h4,h5⟩:=X.main.bmod;⟨bm,o,h1,h2,h3,h4,h5⟩),?_,X.bound,?_⟩,funext gl⟩
 ·rw [himp]
  have A:=Heap.accountedI_of_ok ac
  unfold staticsAccountedI at A ⊢
  simp only [stat]
  exact A
 ·intro key;exact .inl (stat key)
 ·obtain ⟨o,es,ep,e1,e2,e3,Zz⟩:=X.main.g
  exact ⟨o,es,ep,e1,e2,e3⟩
 ·intro x hx
  have:builtinOf s₁.heap x=builtinOf s₀.heap x:=by
   obtain ⟨o,es,ep,e,Zz⟩:=Heap.Ns.of_isNs BB
   unfold builtinOf
   rw [keep _ _ (by decide) e,e]
  rw [this]
  exact (Pin.builtinOf_eq BB x).trans (Heap.of_bltView BB bt x hx)
 ·obtain ⟨bm,o,h1,Zz,Zz,Zz,h2,h3,h4,Zz⟩:=X.main.bmod
  exact ⟨bm,o,(gl _).trans h1,h2,h3,h4⟩
 ·rw [gens];intro g hg;cases hg with |mk h=>cases h
 ·intro x v hv
  rw [gl] at hv
  by_cases hx:x∈names
  ·exact .inr (hn x hx)
  ·by_cases hb:x∈bootMainNames
   ·exact .inl hb
   ·rw [X.others x hx,hN x λq=>hb (q▸by decide),bo.oth x hb] at hv;cases hv
 ·intro x hx
  rw [gl,gl0,X.others x (hl x hx),hN x λq=>absurd (q▸hx) (by decide)]
 ·exact ⟨_,(Heap.Ns.of_isNs BS).at λo=>keep _ o (by decide),bl⟩
 ·intro x hx hb
  rw [X.others x hx,hN x λq=>hb (q▸by decide),bo.oth x hb]
 ·intro d hd'
  obtain ⟨a,c',o,pm,doc,Zz,Zz,h1,h2,h3,h4⟩:=(X.made d hd').plain (hd d hd')
  obtain ⟨a',o',fd,c2,P,g1,g2,g3,g4,Zz,Zz,Zz,g5,g6⟩:=X.tabs d hd'
  rw [h1] at g1;cases g1
  rw [h2] at g2;cases g2
  rw [h3] at g3;cases g3
  cases g4
  obtain ⟨q,oc,vs,t,e1,e2,e3,e4⟩:=h4
  cases e1
  obtain ⟨⟨oc',vs',f1,f2,f3,f4⟩,f5⟩:=id g6
  rw [e2] at f1;cases f1
  exact ⟨a,h1,⟨o,pm,c',doc,P,oc,vs,t,h2,h3,e2,f2,e3,e4,g5,g6⟩⟩
 ·intro q hq
  obtain ⟨a,o,h0,h1,h2,h3⟩:=X.held q hq
  exact ⟨a,o,Nat.lt_of_lt_of_le X.lowG h0,h1,h2,h3⟩
theorem lz {R:WRecords} {cl:Str->Option Addr} {P:Params} {ord:List DictEntry->List DictEntry}:∀ (ns:List Int) (s:Shared),∃ vs tk,layAllW R cl P ord (ns.map WData.int) s=some (vs,{s with toks:=tk})/\∀ (T:Tabs) h X,DenL h X (ns.map D.int) vs
 | [],s=>⟨[],s.toks,rfl,λT h X=>rfl⟩
 |n :: ns,s=>by
  obtain ⟨vs,tk,h1,h2⟩:=lz (R:=R) (cl:=cl) (P:=P) (ord:=ord) ns {s with toks:=s.toks+1}
  exact ⟨.int n s.toks :: vs,tk,(congrArg (λo:Option (List Value×Shared)=>match o with |some r=>some (Value.int n s.toks :: r.1,r.2) |none=>none) h1 :),λT h X=>⟨_,_,rfl,⟨_,rfl⟩,h2 T h X⟩⟩
theorem uq {R:WRecords} {cl:Str->Option Addr} {P:Params} {ord:List DictEntry->List DictEntry} (ns:List Int) (s:Shared):∃ a s',layAllW R cl P ord [.list (ns.map WData.int)] s=some ([.ref a],s')/\∀ T:Tabs,DenL s'.heap (λZz=>False) [.list (ns.map D.int)] [.ref a]:=by
 obtain ⟨vs,tk,e1,e2⟩:=lz (R:=R) (cl:=cl) (P:=P) (ord:=ord) ns s
 refine ⟨s.heap.objs.size,{s with heap:=s.heap.push {cls:= .type "list",data:= .seq vs.toArray},toks:=tk},?_,λT=>⟨_,_,rfl,⟨_,vs.toArray,rfl,λe=>e,⟨0,Heap.get?_push_size _ rfl⟩,e2 T _ _⟩,rfl⟩⟩
 unfold layAllW layW
 rw [e1];rfl
theorem xt {R:WRecords} {x:WData} (h:WShape.has R x .int=true):∃ i,x = .int i:=by
 cases x with
 |int i=>exact ⟨i,rfl⟩
 |_=>exact (Bool.false_ne_true h).elim
theorem ue {R:WRecords} {x:WData} (h:WShape.has R x (.list .int)=true):∃ xs,x = .list xs/\WShape.hasItems R xs .int=true:=by
 cases x with
 |list xs=>exact ⟨xs,rfl,(Bool.or_false _).symm.trans h⟩
 |_=>exact (Bool.false_ne_true h).elim
theorem gr {R:WRecords}:∀ (xs:List WData),WShape.hasItems R xs .int=true->∃ ns:List Int,xs=ns.map WData.int
 | [],_=>⟨[],rfl⟩
 |x :: xs,h=>aa (a:=WShape.has R x .int) h λh1 h2 =>
  let ⟨i,e1⟩:=xt h1
  let ⟨ns,e2⟩:=gr xs h2
  ⟨i :: ns,by rw [e1,e2];rfl⟩
theorem xC {R:WRecords} {l:OpenLaw} (hmost:l.most=some 63) (hbound:l.bound=none) {n:Nat} {xs:List WData} (hn:xs.length=n) (h:l.pre.holds R {args:=[.list xs]}=true):n<=63:=by
 unfold OpenLaw.pre at h
 rw [hmost,hbound] at h
 have h:WTm.holds R (.and (.not (.lit (.bool (decide ((63:Int)<((xs.length:Nat):Int)))))) (.lit (.bool true))) {args:=[.list xs]}=true:=h
 rw [hn] at h
 cases hb:decide ((63:Int)<(n:Int)) with
 |true=>rw [hb] at h;exact (Bool.false_ne_true h).elim
 |false=>exact Nat.not_lt.mp λq=>of_decide_eq_false hb (Int.ofNat_lt.mpr q)
theorem yb {l:OpenLaw} (hmost:l.most=some 63) (hbound:l.bound=none) {args:List WData} (h:l.row.toRowW.claim.pre args=true):∃ ns:List Int,args=[.list (ns.map WData.int)]/\ns.length<=63:=by
 obtain ⟨h1,h2⟩:=pre_splitW h
 have h1:WShape.hasAll l.row.toRowW.records args [.list .int]=true:=h1
 revert h1 h2
 exact match args with
 | [x]=>λh2 h1=>aa (a:=WShape.has l.row.toRowW.records x (.list .int)) h1 λh1 Zz =>
  let ⟨xs,e,hi⟩:=ue h1
  let ⟨ns,e2⟩:=gr xs hi
  ⟨ns,by rw [e,e2],xC (xs:=xs) hmost hbound (by rw [e2,List.length_map]) (by rw [e] at h2;exact h2)⟩
 | []=>λZz h1=>(Bool.false_ne_true h1).elim
 |x :: y :: r=>λZz h1=>aa (a:=WShape.has l.row.toRowW.records x (.list .int)) h1 λZz h2=>(Bool.false_ne_true h2).elim
theorem rx {l:OpenLaw} {defs:List DefItem} {consts:List (Str×PyData)} {objs:World->List (Str×(Obj->Prop))} {names:List Str}
  (said:l.row.wellSaid=true) (wit:l.row.toRowW.promised) (hop:opening l.prog=plainProg l.prog.main.scope.names) (hfence:∀ s,fenceModules? l.prog s=some s)
  (himp:importedModules l.prog.main.body=[]) (hann:hasAnns l.prog.main.body=false) (hdoc:docOf l.prog.main.body=none) (hbeh:behindTheImports l.prog=l.prog.main.body)
  (how:opensWell l.prog=true) (hb:l.prog.bare) (hwr:l.writes=false) (hmost:l.most=some 63) (hbound:l.bound=none)
  (hn:∀ x∈names,x∈l.prog.boundNames) (hl:∀ x∈laidNames,x∉names) (hd:∀ d∈defs,d.params.defaults=[])
  (hdef:∃ d∈defs,d.name=l.name/\l.prog.theDef l.name=some (d.params,d.body,d.scope)/\d.params.kwonlyargs=[]/\d.params.kw_defaults=[])
  (walk:∀ w,fe l.prog w defs consts (objs w) names)
  (call:∀ (w:World) (s:Shared) (mg mb:Str->Option Value) (a:Addr) (ns:List Int) (vs:List Value),TopAt defs consts (objs w) names mg mb s.heap->mg l.name=some (.ref a)->ns.length<=63->(∀ T:Tabs,DenL s.heap (λZz=>False) [.list (ns.map D.int)] vs)->s.gens = #[] ->
   wpAny (model l.prog w) callerA (PySem.call (.ref a) vs) (λv s'=>∃ h' tk,OldK s.heap h'/\v = .bool true/\s' = {s with heap:=h',toks:=tk}) (λZz Zz=>False) s):l.row.Holds:=by
 refine ⟨said,wit,⟨hb,how,rfl⟩,wit.witness,λw=>⟨(hZ hop w).1,λs₀ hs=> ?_⟩⟩
 obtain ⟨hh,hg,hz⟩:=(hZ hop w).2 s₀ hs
 have BO:=nr w.params
 rw [<- hh] at BO
 obtain ⟨s,T⟩:=u8 hann hdoc hbeh (walk w) BO hg hz
 obtain ⟨TR,mg,mb,TA,gl⟩:=yv himp hn hl hd hh T
 have hz1:s.asleep:=Shared.asleep_of_life T.life hz
 obtain ⟨d,hdm,hdn,hdt,hk1,hk2⟩:=hdef
 obtain ⟨a,ha,da⟩:=TA.made d hdm
 refine ⟨s₀,hfence s₀,hg,s,TR,?_,(λx hx=>nomatch hx),(λx hx=>nomatch hx),?_⟩
 ·intro n hn'
  obtain rfl:n=l.name:=by
   have:n∈(if l.row.pinned=true then [l.row.name] else []):=hn'
   have hp:l.row.pinned=true:=rfl
   rw [if_pos hp] at this
   exact List.mem_singleton.mp this
  obtain ⟨o,pm,cd,doc,P,oc,vs,t,h1,h2,Zz⟩:=da.at'
  refine ⟨a,o,_,d.params,d.body,d.scope,?_,h1,h2,hdt,hdn,hdn,rfl,rfl,rfl,rfl,rfl,rfl,.inl ⟨hd d hdm,rfl⟩,[],?_,.inl ⟨rfl,rfl⟩⟩
  ·rw [gl,<- hdn];exact ha
  ·rw [hk1,hk2];rfl
 ·refine ClaimW.callFrom_of_specG (c:=l.row.toRowW.claim) hz1 T.gens λargs hpre hlay ord hord=> ?_
  obtain ⟨ns,rfl,hlen⟩:=yb hmost hbound hpre
  obtain ⟨al,s2,hlaid,den⟩:=uq (R:=l.row.toRowW.claim.records) (cl:=classAt s.heap) (P:=w.params) (ord:=ord) ns s
  have keeps:=layAllW_keeps _ _ _ hlaid
  have hal:=layAllW_rest _ _ _ hlaid
  obtain ⟨as,hrd,hin,hold⟩:=reads_layAllW hord _ _ _ hlaid hlay _ (λZz Zz e=>e)
  refine ⟨_,_,hlaid,?_⟩
  have L:Laid l.row.toRowW.claim.records w s s2 [.list (ns.map WData.int)] [.ref al] as:=⟨⟨ord,hord,hlaid⟩,hrd,hin,hold,keeps,hal.1.trans T.gens,hal.2.2.1⟩
  have C:=call w s2 mg mb a ns [.ref al] (TA.keep keeps) (hdn▸ha) hlen den (hal.1.trans T.gens)
  have hi:=ident_freeW (r:=l.row.toRowW) rfl rfl rfl
  refine wpAny_bind (wpAny_nsGet (TA.g.keeps keeps) ?_)
  show wpAny _ _ (match mg l.name with |some f=>_ |none=>_) _ _ _
  rw [<- hdn,ha]
  refine wpAny_bind (wpAny_mono C ?_ λZz Zz x=>x.elim)
  rintro v s' ⟨h',tk',kp,rfl,rfl⟩
  refine wpAny_pure ⟨_,rfl,?_⟩
  have g:GoodWG l.row.toRowW.claim (classAt s.heap) (ExcName.means s.heap) [.list (ns.map WData.int)] s2 (.ok (.ret (.bool true)))
    {s2 with heap:=h',toks:=tk'}:=by
   refine ⟨.inl ⟨_,.bool true,[],rfl,λZz=>rfl,.bool true,?_,λZz=>⟨List.nodup_nil,λZz h=>nomatch h⟩⟩,kp,rfl,?_⟩
   ·show (WShape.has l.row.toRowW.records (.bool true) .bool&&WTm.holds l.row.toRowW.records (.eq .res (.lit (.bool true))) {args:=[.list (ns.map WData.int)],res:=some (.bool true),after:=[.list (ns.map WData.int)]})=true
    kernel_rfl!
   ·intro y hy;rw [show ({s2 with heap:=h',toks:=tk'}:Shared).gens = #[] from hal.1.trans T.gens] at hy;cases hy with |mk h=>cases h
  have z:=g.laid (c:=l.row.toRowW.claim) rfl rfl hi L
  refine ⟨z.1,z.2.1,z.2.2,λq=> ?_⟩
  rw [show l.row.writes=l.writes from rfl,hwr] at q
  cases q
inductive Trip (n:Int):List Value->Prop
 |nil:Trip n []
 |cons {l:Int} {t:Tok} {v w:Value} {r:List Value}:l<n->Trip n r->Trip n (.int l t :: v :: w :: r)
theorem Trip.mono {n m:Int} (h:n<=m):∀ {l:List Value},Trip n l->Trip m l
 |_,.nil=> .nil
 |_,.cons a b=> .cons (Int.lt_of_lt_of_le a h) (b.mono h)
theorem Trip.add {n:Int} {l:Int} {t:Tok} {v w:Value} (h:l<n):∀ {r:List Value},Trip n r->Trip n (r++[.int l t,v,w])
 |_,.nil=> .cons h .nil
 |_,.cons a b=> .cons a (Trip.add h b)
theorem Trip.among {n:Int} {pos:Pos} (h:n<=pos.line) {r:List Value} (t:Trip n r):codeAmong pos r=none:=by
 induction t with
 |nil=>rfl
 | @cons l t v w r a b ih =>
  have e:(l==(pos.line:Int))=false:=beq_eq_false_iff_ne.mpr (Int.ne_of_lt (Int.lt_of_lt_of_le a h))
  cases v with
  |int col t' =>
   show (if (l==(pos.line:Int))&&_ then _ else codeAmong pos r)=none
   rw [e];exact ih
  |_=>rfl
noncomputable def plainPar (a:Arguments):Arguments:=⟨[],a.args,none,[],[],none,[]⟩
noncomputable def itemOf:Stmt->DefItem
 | .FunctionDef name params body _ _ _ scope _ _ pos=>⟨name,plainPar params,body,scope,pos⟩
 |_=>⟨"",⟨[],[],none,[],[],none,[]⟩,[],default,default⟩
noncomputable def mkDef (d:DefItem):Stmt:= .FunctionDef d.name (plainPar d.params) d.body [] none [] d.scope none d.name d.pos
noncomputable def isPlain (main:Scope) (names:List Str) (line:Nat) (d:DefItem):Bool:=d.params.args.all (·.annotation.isNone)&&d.scope.names.all (λx=> !(x.2 == .free))&&(docOf d.body).isNone&&main.names.lookup d.name==some .local && !names.contains d.name && !(d.name==("__builtins__":Str)) && !(d.name==("__name__":Str))&&decide (line<=d.pos.line)
theorem lL (e:Env):∀ (as:List Arg),as.all (·.annotation.isNone)=true->annotationsOf as e=[]
 | [],_=>rfl
 |⟨arg,ann,pos⟩ :: r,h=>aa h λh1 h2=>by
  cases ann with
  |some _=>exact nomatch h1
  |none=>exact lL e r h2
theorem pV {name:Str} {as:List Arg} {body:List Stmt} {scope:Scope} {pos:Pos} (h:as.all (·.annotation.isNone)=true):PlainDefTree name ⟨[],as,none,[],[],none,[]⟩ body scope pos:=by
 intro env
 have e:annTrees ⟨[],as,none,[],[],none,[]⟩ none env=[]:=by
  have:as++[]++Option.toList none++[]++Option.toList none=as:=by simp
  show annotationsOf (as++[]++Option.toList none++[]++Option.toList none) env++_=_
  rw [this,lL env as h];rfl
 rw [exec_def,e]
 rfl
section
variable {p:Program} {w:World} {A:Around} {E:Value->Shared->Prop} {c Pl F:Addr} {h₀:Heap} {consts:List (Str×PyData)} {objs:List (Str×(Obj->Prop))} {Q:Flow->Shared->Prop} {rest:List Stmt}
theorem hJ (x:Str):("":Str)++x=x:=by
 show Str.append _ _=_
 cases x
 simp [Str.append]
 rfl
theorem vn (hmod:p.main.scope.kind = .module) {d:DefItem} {s:Shared} {mg₀ mg:Str->Option Value} {ps:Array Value} {defs:List DefItem} {names:List Str} {line:Nat} (X:Mod h₀ mg₀ c Pl s.heap mg ps defs consts objs names) (T:Trip line ps.toList) (hN:("__name__":Str)∉names) (hp:isPlain p.main.scope names line d=true)
  (k:∀ h' mg' ps' tk,Mod h₀ mg₀ c Pl h' mg' ps' (⟨d.name,plainPar d.params,d.body,d.scope,d.pos⟩ :: defs) consts objs (d.name :: names)->Trip ((d.pos.line+1:Nat):Int) ps'.toList->("__name__":Str)∉d.name :: names->wpAny (model p w) A (execs rest (mainEnv p c F)) Q E {s with heap:=h',toks:=tk}) :
  wpAny (model p w) A (execs (mkDef d :: rest) (mainEnv p c F)) Q E s:=by
 unfold isPlain at hp
 refine aa hp λhp g9=>aa hp λhp g8=>aa hp λhp g7=>aa hp λhp g6=>aa hp λhp g5=>aa hp λhp g4=>aa hp λg2 g3=> ?_
 have g5:=beq_iff_eq.mp g5
 have g9:(line:Int)<=d.pos.line:=Int.ofNat_le.mpr (of_decide_eq_true g9)
 have no:∀ {b:Bool},(!b)=true->b=false:=λh=>by rwa [Bool.not_eq_true'] at h
 refine wpAny_execs_cons (X.def_plain (prog:=p) (F:=F) (pV g2) (λx hx q=> ?_) (Option.isNone_iff_eq_none.mp g4) g5 ?_ ?_ ?_ ?_ hmod ?_ rfl)
 ·have:=List.all_eq_true.mp g3 x hx;rw [q] at this;exact nomatch this
 ·unfold qualnameIn
  rw [show Env.kindOf {scope:=p.main.scope,locals:=mainGlobals,globals:=mainGlobals,cells:=[]} d.name=some .local from g5]
  exact hJ _
 ·intro hm;exact nomatch (List.contains_iff_mem.mpr hm).symm.trans (no g6)
 ·intro h' mg' c' tk X'
  refine k _ _ _ _ X' ?_ λhm=> ?_
  ·rw [Array.toList_append]
   exact Trip.add (Int.ofNat_lt.mpr (Nat.lt_succ_self _)) (T.mono (Int.le_trans g9 (Int.ofNat_le.mpr (Nat.le_succ _))))
  ·rcases List.mem_cons.mp hm with e |e
   ·exact beq_eq_false_iff_ne.mp (no g8) e.symm
   ·exact hN e
 ·intro q;exact beq_eq_false_iff_ne.mp (no g7) q
 ·exact T.among g9
end
theorem uY:isSubtype (.type "dict") (.type "dict")=pure true:=by rw [isSubtype_type];kernel_rfl
theorem rn:typeLookup (.type "dict") ("__iter__":Str)=pure (some (.builtin "dict.__iter__")):=by rw [typeLookup_type,builtinLookup_eq_fast];kernel_rfl
theorem jd {h:Heap} {b:Addr} (x:h.objs.size<=b):h.get? b=none:=by
 cases e:h.get? b with
 |none=>rfl
 |some o=>exact absurd (Heap.lt_size e) (Nat.not_lt.mpr x)
inductive Sts:List (Int×Value)->List (Int×Str)->Prop
 |nil:Sts [] []
 |cons {k:Int} {x:Str} {t:Tok} {r:List (Int×Value)} {r':List (Int×Str)}:Sts r r'->Sts ((k,.str x t) :: r) ((k,x) :: r')
section
variable {kvs more:List (Int×Value)} {l m:List (Int×Str)}
theorem Sts.keys (h:Sts kvs l):kvs.map (·.1)=l.map (·.1):=by
 induction h with
 |nil=>rfl
 |cons _ ih=>exact congrArg (List.cons _) ih
theorem Sts.length (h:Sts kvs l):kvs.length=l.length:=(List.length_map _).symm.trans ((congrArg List.length h.keys).trans (List.length_map _))
theorem Sts.append (h:Sts kvs l) (g:Sts more m):Sts (kvs++more) (l++m):=by
 induction h with
 |nil=>exact g
 |cons _ ih=>exact .cons ih
theorem Sts.look (i:Int) (h:Sts kvs l):(l.lookup i=none/\valueAt kvs i=none)\/∃ x t,l.lookup i=some x/\valueAt kvs i=some (.str x t):=by
 induction h with
 |nil=>exact .inl ⟨rfl,rfl⟩
 | @cons k x t r r' _ ih =>
  unfold valueAt at ih ⊢
  rw [List.lookup_cons,List.find?_cons]
  by_cases hk:i=k
  ·rw [beq_iff_eq.mpr hk,decide_eq_true hk.symm];exact .inr ⟨x,t,rfl,rfl⟩
  ·rw [beq_eq_false_iff_ne.mpr hk,decide_eq_false (Ne.symm hk)];exact ih
end
section
variable {prog:Program} {w:World} {A:Around} {E:Value->Shared->Prop} {s:Shared}
structure By (prog:Program) (w:World) (A:Around) (E:Value->Shared->Prop) (kx:Int×Str) (it:Sem Value×Sem Value):Prop where
 k:∀ {s:Shared} {Q:Value->Shared->Prop},(∀ t tk,Q (.int kx.1 t) {s with toks:=tk})->wpAny (model prog w) A it.1 Q E s
 v:∀ {s:Shared} {Q:Value->Shared->Prop},(∀ t tk,Q (.str kx.2 t) {s with toks:=tk})->wpAny (model prog w) A it.2 Q E s
inductive Itms (prog:Program) (w:World) (A:Around) (E:Value->Shared->Prop):List (Int×Str)->List (Sem Value×Sem Value)->Prop
 |nil:Itms prog w A E [] []
 |cons {kx:Int×Str} {it:Sem Value×Sem Value} {l:List (Int×Str)} {its:List (Sem Value×Sem Value)}:By prog w A E kx it->Itms prog w A E l its->Itms prog w A E (kx :: l) (it :: its)
theorem Itms.ne {l:List (Int×Str)} {its:List (Sem Value×Sem Value)} (h:Itms prog w A E l its):its.isEmpty=l.isEmpty:=by
 cases h with
 |nil=>rfl
 |cons _ _=>rfl
theorem Itms.snoc {kx:Int×Str} {it:Sem Value×Sem Value} (a:By prog w A E kx it) {l:List (Int×Str)} {its:List (Sem Value×Sem Value)} (h:Itms prog w A E l its):Itms prog w A E (l++[kx]) (its++[it]):=by
 induction h with
 |nil=>exact .cons a .nil
 |cons b _ ih=>exact .cons b ih
theorem iq {i:Int} {t:Tok}:(intKind prog w).is i (.int i t)=true:=by simp [intKind,Value.isInt]
theorem sj {d:Addr} {kvs:List (Int×Value)} {k:Int} {key v:Value} {Q:Unit->Shared->Prop} (hkey:(intKind prog w).is k key=true) (hm:s.heap.DictOf (intKind prog w) d kvs) (hnot:k∉kvs.map (·.1))
  (hQ:∀ h',h'.DictOf (intKind prog w) d (kvs++[(k,v)])->Heap.SameBut d s.heap h'->Q () {s with heap:=h'}) (hsz:kvs.length<=sizeLine) :
  wpAny (model prog w) A (dictPut d ((intKind prog w).hash k) key v) Q E s:=by
 obtain ⟨o,es,ep,ho,hc,hd,hk,hp,hn⟩:=hm
 have hi:(es.findIdx? λe=>(intKind prog w).is k e.key)=none:=by
  obtain ⟨es⟩:=es
  rw [List.findIdx?_toArray]
  refine (hp.findIdx k).trans (List.findIdx?_eq_none_iff.mpr λx hx=>decide_eq_false λe=>hnot (List.mem_map.mpr ⟨x,hx,e⟩))
 unfold dictPut
 refine wpAny_bind (wpAny_dictFind_of hkey ho hd hk ?_)
 rw [hi]
 refine wpAny_updateDictKeys (hz:=by rw [<- Array.length_toList,hp.length];exact hsz) ho hd (hQ _ ⟨_,_,ep+1,Heap.get?_update_self _ ho (Obj.isFreed_of_dict (Obj.data_mapDictKeys hd _)),
   hc.mapDictKeys _,Obj.data_mapDictKeys hd _,hk.push hkey _,?_,?_⟩ (Heap.SameBut.update ..))
 ·rw [Array.toList_push];exact hp.append hkey _ v
 ·rw [List.map_append,List.nodup_append]
  exact ⟨hn,List.nodup_cons.mpr ⟨List.not_mem_nil,List.nodup_nil⟩,λa ha b hb e=>hnot ((e.trans (List.mem_singleton.mp hb:b=k))▸ha)⟩
theorem sF {d:Addr} {kvs:List (Int×Value)} {k:Int} {key v:Value} {Q:Unit->Shared->Prop} (hkey:(intKind prog w).is k key=true) (hm:s.heap.DictOf (intKind prog w) d kvs) (hnot:k∉kvs.map (·.1))
  (hQ:∀ h',h'.DictOf (intKind prog w) d (kvs++[(k,v)])->Heap.SameBut d s.heap h'->Q () {s with heap:=h',toks:=s.toks+1}) (hsz:kvs.length<=sizeLine) :
  wpAny (model prog w) A (dictSet d key v) Q E s:=by
 refine wpAny_dictSet_pairs (hsz:=hsz) hkey hm λh' h1 h2=>hQ h' ?_ h2
 unfold stored at h1
 rw [if_neg λq=>let ⟨x,hx,he⟩:=List.any_eq_true.mp q;hnot (List.mem_map.mpr ⟨x,hx,of_decide_eq_true he⟩)] at h1
 exact h1
theorem j6 {l:List (Int×Str)} {its:List (Sem Value×Sem Value)} (h:Itms prog w A E l its):∀ {s:Shared} {Q:List (Value×Value)->Shared->Prop},
  (∀ vs kvs tk,Carries (intKind prog w) vs kvs->Sts kvs l->Q vs {s with toks:=tk})->wpAny (model prog w) A (evalPairs its) Q E s:=by
 induction h with
 |nil=>exact λ{s Q} hq=>evalPairs_nil (hq [] [] s.toks trivial .nil)
 | @cons kx it l its a r ih=>exact λ{s Q} hq=>wpAny_bind (a.k λt tk=>wpAny_bind (wpAny_holding (a.v λt' tk'=>wpAny_bind (wpAny_holding (ih λvs kvs tk'' hc hs=>wpAny_pure (hq _ ((kx.1,.str kx.2 t') :: kvs) _ ⟨iq,rfl,hc⟩ (.cons hs)))))))
end
section
variable {prog:Program} {w:World} {A:Around} {E:Value->Shared->Prop} {s:Shared}
theorem wb {d:Addr} {h0 h h':Heap} (hd:h0.objs.size<=d) (k:Kq h0 h) (sb:Heap.SameBut d h h'):Kq h0 h':=λb o e =>
 (sb.2 b λq=>absurd (Heap.lt_size e) (Nat.not_lt.mpr (q▸hd))).trans (k b o e)
theorem lJ (h:Heap):(h.push {cls:= .type "dict",data:= .dict #[]}).DictOf (intKind prog w) h.objs.size [] :=
 ⟨_,#[],0,Heap.get?_push_size _ rfl,⟨rfl,rfl,rfl⟩,rfl,λe he=>absurd he (Array.not_mem_empty e),.nil,List.nodup_nil⟩
theorem xA {h h':Heap} {d:Addr} {kvs:List (Int×Value)} (k:Kq h h') (x:h.DictOf (intKind prog w) d kvs):h'.DictOf (intKind prog w) d kvs:=let ⟨o,es,ep,e1,e2⟩:=x;⟨o,es,ep,k _ _ e1,e2⟩
theorem wQ {h:Heap} {d:Addr} {kvs:List (Int×Value)} (x:h.DictOf (intKind prog w) d kvs):d<h.objs.size:=let ⟨_,_,_,e1,_⟩:=x;Heap.lt_size e1
theorem jH {α β:Type} {la l:List (α×β)} {kx:α×β} (h:((la++[kx]++l).map (·.1)).Nodup):kx.1∉la.map (·.1):=λhin=>by
 rw [List.map_append,List.map_append] at h
 exact (List.nodup_append.mp (List.nodup_append.mp h).1).2.2 _ hin _ (List.mem_singleton.mpr rfl) rfl
theorem yg {d:Addr} {l:List (Int×Str)} {its:List (Sem Value×Sem Value)} (h:Itms prog w A E l its):∀ {acc:List (Int×Value)} {la:List (Int×Str)} {s:Shared} {Q:PUnit->Shared->Prop},s.heap.DictOf (intKind prog w) d acc->Sts acc la->((la++l).map (·.1)).Nodup->(la++l).length<=sizeLine ->
  (∀ h' tk kvs,h'.DictOf (intKind prog w) d kvs->Sts kvs (la++l)->Heap.SameBut d s.heap h'->Q PUnit.unit {s with heap:=h',toks:=tk}) ->
  wpAny (model prog w) A (forIn its PUnit.unit λ(x:Sem Value×Sem Value) (Zz:PUnit)=>(do let kv <- x.1;let vv <- holding [kv] x.2;holding [kv,vv] (dictSet d kv vv);pure (ForInStep.yield PUnit.unit):Sem (ForInStep PUnit))) Q E s:=by
 induction h with
 |nil =>
  intro acc la s Q hm hs hn hz hQ
  rw [List.forIn_nil]
  rw [List.append_nil] at hQ
  exact wpAny_pure (hQ s.heap s.toks acc hm hs (Heap.SameBut.refl _ _))
 | @cons kx it l its a r ih =>
  intro acc la s Q hm hs hn hz hQ
  rw [List.append_cons] at hn hz hQ
  rw [List.forIn_cons]
  refine wpAny_bind (wpAny_bind (a.k λt tk=>wpAny_bind (wpAny_holding (a.v λt' tk'=>wpAny_bind (wpAny_holding (sF iq hm (by rw [hs.keys];exact jH hn) (λh1 hm1 sb1=>wpAny_pure ?_) ?_))))))
  ·exact ih hm1 (hs.append (.cons .nil)) hn hz λh' tk kvs g1 g2 g3=>hQ h' tk kvs g1 g2 (sb1.trans g3)
  ·rw [hs.length]
   exact Nat.le_trans (by rw [List.length_append,List.length_append,Nat.add_assoc];exact Nat.le_add_right _ _) hz
theorem oU {l:List (Int×Str)} {its:List (Sem Value×Sem Value)} {Q:Addr->Shared->Prop} (h:Itms prog w A E l its) (hn:(l.map (·.1)).Nodup) (hz:l.length<=sizeLine)
  (hQ:∀ d h' tk kvs,s.heap.objs.size<=d->Kq s.heap h'->h'.DictOf (intKind prog w) d kvs->Sts kvs l->Q d {s with heap:=h',toks:=tk}):wpAny (model prog w) A (subDict its) Q E s:=by
 have fin:∀ {h':Heap},Heap.SameBut s.heap.objs.size (s.heap.push {cls:= .type "dict",data:= .dict #[]}) h'->Kq s.heap h':=λsb=>wb (Nat.le_refl _) (Kq.push _ _) sb
 unfold subDict
 refine wpAny_bind (wpAny_alloc (wpAny_bind (wpAny_holding ?_)))
 by_cases hc:its.length<=15
 ·rw [if_pos hc]
  refine wpAny_bind (j6 h λvs kvs tk hc hs=>wpAny_holding (wpAny_bind (wpAny_storeAll (knd:=intKind prog w) vs kvs [] _ _ hc (lJ _) (by rw [List.length_nil,Nat.zero_add,hs.length];exact hz) λh' hm sb=>wpAny_pure (wpAny_pure (hQ _ h' _ kvs (Nat.le_refl _) (fin sb) ?_ hs)))))
  rw [merged_append_of_fresh [] kvs (by rw [List.nil_append,hs.keys];exact hn)] at hm
  exact hm
 ·rw [if_neg hc]
  exact wpAny_bind (wpAny_rule (wpAny_bind (yg (la:=[]) h (lJ _) .nil hn hz λh' tk' kvs hm hs sb=>wpAny_pure (wpAny_pure (hQ _ h' tk' kvs (Nat.le_refl _) (fin sb) hm hs)))))
theorem pZ {m i x:Nat} {rest:List Nat} (h:x :: rest=List.range' i (m - i)):x=i/\i<m/\rest=List.range' (i+1) (m - (i+1)):=by
 cases e:m - i with
 |zero=>rw [e] at h;exact nomatch h
 |succ k =>
  rw [e,List.range'_succ] at h
  injection h with h1 h2
  exact ⟨h1,Nat.lt_of_sub_eq_succ e,by rw [h2,<- Nat.sub_sub,e];rfl⟩
structure BV (prog:Program) (w:World) (d o:Addr) (oo:Obj) (kvs more:List (Int×Value)) (h0:Heap) (rest:List Nat) (i:Nat) (h:Heap):Prop where
 r:rest=List.range' i (more.length - i)
 dd:h.DictOf (intKind prog w) d (kvs++more.take i)
 oo:h.get? o=some oo
 sb:Heap.SameBut d h0 h
theorem uA {d o:Addr} {kvs more:List (Int×Value)} {Q:Unit->Shared->Prop} (hdo:d≠o) (hoS:(o==sysModules)=false) (hd:s.heap.DictOf (intKind prog w) d kvs) (ho:s.heap.DictOf (intKind prog w) o more)
  (hne:kvs≠[]) (hn:((kvs++more).map (·.1)).Nodup) (hz:(kvs++more).length<=sizeLine)
  (hQ:∀ h',h'.DictOf (intKind prog w) d (kvs++more)->Heap.SameBut d s.heap h'->Q () {s with heap:=h'}):wpAny (model prog w) A (mergeMapping d (.ref o) false) Q E s:=by
 obtain ⟨oo,eso,epo,hoo,hco,hdo',hko,hpo,hno⟩:=ho
 have hlen:eso.size=more.length:=Array.length_toList.symm.trans hpo.length
 obtain ⟨od,esd,epd,hod,hcd,hdd,hkd,hpd,hnd⟩:=id hd
 have he:¬ esd.isEmpty=true:=λe=>hne (List.length_eq_zero_iff.mp (hpd.length.symm.trans (by rw [Array.isEmpty_iff.mp e];rfl)))
 unfold mergeMapping
 refine wpAny_bind (wpAny_isInstance ⟨oo,hoo,hco.1⟩ uY ?_)
 rw [if_pos rfl]
 refine wpAny_bind (wpAny_specialOf ⟨oo,hoo,hco.1⟩ rn (wpAny_bind (wpAny_pure ?_)))
 rw [show ((some (Value.builtin "dict.__iter__"):Option Value)==some (.builtin "dict.__iter__"))=true from by decide]
 show wpAny _ _ (if (o==sysModules)=true then _ else _) _ _ _
 rw [if_neg (by rw [hoS];exact Bool.false_ne_true)]
 refine wpAny_bind (wpAny_dictEntries hod hdd ?_)
 rw [if_neg he]
 refine wpAny_bind (wpAny_dictEntries hoo hdo' (wpAny_bind (wpAny_dictEpoch hoo hdo' ?_)))
 rw [hlen,List.range_eq_range']
 refine wpAny_bind (wpAny_forIn_list _ (λrest Zz s'=>∃ h' i,s' = {s with heap:=h'}/\BV prog w d o oo kvs more s.heap rest i h') _ (λx rest b s' hI=> ?_) (λb s' hI=> ?_) _ _ ⟨s.heap,0,rfl,rfl,by rw [List.take_zero,List.append_nil];exact hd,hoo,Heap.SameBut.refl _ _⟩)
 ·obtain ⟨h',i,rfl,hI⟩:=hI
  obtain ⟨rfl,hlt,hrest⟩:=pZ hI.r
  have hlt':x<eso.size:=hlen▸hlt
  obtain ⟨hkey,hval⟩:=hpo.get? (e:=eso[x]) (by rw [Array.getElem?_toList,Array.getElem?_eq_getElem hlt']) (List.getElem?_eq_getElem hlt)
  obtain ⟨k',hkey',hhash⟩:=hko eso[x] (Array.getElem_mem hlt')
  obtain rfl:k'=more[x].1:=(intKind prog w).inj _ _ _ hkey' hkey
  have htk:more.take (x+1)=more.take x++[more[x]]:=by rw [List.take_add_one,List.getElem?_eq_getElem hlt];rfl
  have e:kvs++more.take x++[more[x]]++more.drop (x+1)=kvs++more:=by rw [List.append_assoc kvs,<- htk,List.append_assoc,List.take_append_drop]
  refine wpAny_bind (wpAny_dictEntries hI.oo hdo' ?_)
  rw [Array.getElem?_eq_getElem hlt']
  show wpAny _ _ (holding _ (if false=true then _ else _) >>= _) _ _ _
  rw [if_neg Bool.false_ne_true,hhash,hval]
  refine wpAny_bind (wpAny_holding (sj hkey hI.dd (jH (e.symm▸hn)) (λh2 hd2 hs2=> ?_) ?_))
  ·have ho2:h2.get? o=some oo:=(hs2.2 o (Ne.symm hdo)).trans hI.oo
   refine wpAny_bind (wpAny_dictEpoch ho2 hdo' ?_)
   rw [if_neg (by rw [bne_self_eq_false];exact Bool.false_ne_true)]
   exact wpAny_pure ⟨h2,x+1,rfl,hrest,by rw [htk,<- List.append_assoc];exact hd2,ho2,hI.sb.trans hs2⟩
  ·exact Nat.le_trans (by rw [List.length_append,List.length_append];exact Nat.add_le_add_left (List.length_take_le' _ _) _) hz
 ·obtain ⟨h',i,rfl,hI⟩:=hI
  have hi:more.take i=more:=List.take_of_length_le (by
   rcases Nat.lt_or_ge i more.length with h |h
   ·have:=hI.r
    rw [<- Nat.succ_sub_one (more.length - i),Nat.sub_one,Nat.pred_succ,<- Nat.sub_add_cancel (Nat.sub_pos_of_lt h)] at this
    exact nomatch this
   ·exact h)
  exact wpAny_pure (hQ h' (by have:=hI.dd;rw [hi] at this;exact this) hI.sb)
end
section
variable {prog:Program} {w:World} {A:Around} {E:Value->Shared->Prop} {s:Shared}
inductive qk (prog:Program) (w:World) (h0:Heap):Heap->List (Int×Str)->Option Addr->Prop
 |none:qk prog w h0 h0 [] none
 |some {d:Addr} {h:Heap} {done:List (Int×Str)} {kvs:List (Int×Value)}:h0.objs.size<=d->Kq h0 h->done≠[]->h.DictOf (intKind prog w) d kvs->Sts kvs done->qk prog w h0 h done (some d)
noncomputable def flushS (run:List (Sem Value×Sem Value)) (main:Option Addr):Sem (Option Addr):=do
 if run.isEmpty then return main
 match main with
 |none=>return some (<- subDict run)
 |some d =>
  let sub <- holding [.ref d] (subDict run)
  (holding [.ref d,.ref sub] (mergeMapping d (.ref sub) false)).onRaise λx=>do let _ <- holding [.ref d,x] (runValue (.builtin "proto.let_go" {}))
  return some d
theorem Ao {d:Addr} (h:2<=d):(d==sysModules)=false:=beq_eq_false_iff_ne.mpr λq=>absurd (q▸h:2<=sysModules) (by decide)
theorem lc {h0:Heap} {done run:List (Int×Str)} {runI:List (Sem Value×Sem Value)} {main:Option Addr} {Q:Option Addr->Shared->Prop} (hbig:2<=h0.objs.size) (a:qk prog w h0 s.heap done main) (hr:Itms prog w A E run runI) (hn:((done++run).map (·.1)).Nodup) (hz:(done++run).length<=sizeLine)
  (hQ:∀ m h' tk,qk prog w h0 h' (done++run) m->Q m {s with heap:=h',toks:=tk}):wpAny (model prog w) A (flushS runI main) Q E s:=by
 cases hru:run with
 |nil =>
  rw [hru] at hr hQ
  cases hr with
  |nil =>
   rw [List.append_nil] at hQ
   exact wpAny_pure (hQ _ _ _ a)
 |cons k r =>
  have hne:¬ runI.isEmpty=true:=by rw [hr.ne,hru];exact Bool.false_ne_true
  have hnr:(run.map (·.1)).Nodup:=by rw [List.map_append] at hn;exact (List.nodup_append.mp hn).2.1
  have hzr:run.length<=sizeLine:=Nat.le_trans (by rw [List.length_append];exact Nat.le_add_left _ _) hz
  have hdn:done++run≠[]:=by rw [hru];exact List.append_ne_nil_of_right_ne_nil _ (List.cons_ne_nil _ _)
  unfold flushS
  rw [if_neg hne]
  cases a with
  |none=>exact wpAny_bind (oU hr hnr hzr λd h1 tk1 kvs g1 g2 g3 g4=>wpAny_pure (hQ _ _ _ (.some g1 g2 hdn g3 g4)))
  | @some d _ _ kvs a1 a2 a3 a4 a5 =>
   have lt:=wQ a4
   refine wpAny_bind (wpAny_holding (oU hr hnr hzr λd1 h1 tk1 kvs1 g1 g2 g3 g4=> ?_))
   refine wpAny_bind (wpAny_onRaise (wpAny_holding (uA (kvs:=kvs) (more:=kvs1) (Nat.ne_of_lt (Nat.lt_of_lt_of_le lt g1)) (Ao (Nat.le_trans hbig (Nat.le_trans a1 (Nat.le_trans (Nat.le_of_lt lt) g1)))) (xA g2 a4) g3 ?_ ?_ ?_ λh2 q1 q2=>wpAny_pure (hQ _ _ _ (.some a1 (wb a1 (a2.trans g2) q2) hdn q1 (a5.append g4))))))
   ·exact λq=>a3 (List.length_eq_zero_iff.mp (a5.length.symm.trans (by rw [q];rfl)))
   ·rw [(a5.append g4).keys];exact hn
   ·rw [(a5.append g4).length];exact hz
noncomputable def itP (p:Sem Value×Sem Value):Option (Sem Value)×Sem Value:=(some p.1,p.2)
inductive DI (prog:Program) (w:World) (A:Around) (E:Value->Shared->Prop) (s:Shared) (l:List (Int×Str)):List (Option (Sem Value)×Sem Value)->Option Addr×List (Sem Value×Sem Value)->Shared->Prop
 |mk {h':Heap} {tk:Nat} {main:Option Addr} {done run more:List (Int×Str)} {runI moreI:List (Sem Value×Sem Value)} {rest:List (Option (Sem Value)×Sem Value)}:l=done++run++more->Itms prog w A E run runI->Itms prog w A E more moreI->rest=moreI.map itP->qk prog w s.heap h' done main ->
   DI prog w A E s l rest (main,runI) {s with heap:=h',toks:=tk}
variable {l:List (Int×Str)} (hn:(l.map (·.1)).Nodup) (hz:l.length<=sizeLine) (hbig:2<=s.heap.objs.size)
theorem si {done run more:List (Int×Str)} (hl:l=done++run++more) (hn:(l.map (·.1)).Nodup):((done++run).map (·.1)).Nodup:=by
 rw [hl,List.map_append] at hn
 exact (List.nodup_append.mp hn).1
theorem uM {done run more:List (Int×Str)} (hl:l=done++run++more) (hz:l.length<=sizeLine):(done++run).length<=sizeLine:=Nat.le_trans (by rw [hl,List.length_append (bs:=more)];exact Nat.le_add_right _ _) hz
noncomputable def gatherS (x:Option (Sem Value)×Sem Value) (b:Option Addr×List (Sem Value×Sem Value)) (k:Sem Value):Sem (ForInStep (Option Addr×List (Sem Value×Sem Value))) :=
 if (b.2++[(k,x.2)]).length==17 then (do let main <- flushS (b.2++[(k,x.2)]) b.1;pure (.yield (main,[]))) else pure (.yield (b.1,b.2++[(k,x.2)]))
include hn hz hbig in
theorem yw {k v:Sem Value} {rest:List (Option (Sem Value)×Sem Value)} {b:Option Addr×List (Sem Value×Sem Value)} {s':Shared} (h:DI prog w A E s l ((some k,v) :: rest) b s') :
  wpAny (model prog w) A (gatherS (some k,v) b k) (λr s'=>match r with | .yield b'=>DI prog w A E s l rest b' s' | .done b'=>False) E s':=by
 cases h with
 |mk hl hr hm hrest ha =>
  rename_i h' tk main done run more runI moreI
  cases hm with
  |nil=>cases hrest
  |cons a r =>
   rename_i kx it more moreI
   injection hrest with e1 e2
   cases e1
   have hl':=hl.trans (List.append_cons _ _ _)
   rw [List.append_assoc done] at hl'
   have hrun:=hr.snoc a
   unfold gatherS
   by_cases hc:((runI++[(it.1,it.2)]).length==17)=true
   ·rw [if_pos hc]
    refine wpAny_bind (lc hbig ha hrun (si hl' hn) (uM hl' hz) λm h2 tk2 a2=>wpAny_pure (.mk (done:=done++(run++[kx])) (run:=[]) ?_ .nil r e2 a2))
    rw [List.append_nil];exact hl'
   ·rw [if_neg hc]
    exact wpAny_pure (.mk hl' hrun r e2 ha)
include hn hz hbig in
theorem pB {its:List (Sem Value×Sem Value)} {Q:Value->Shared->Prop} (h:Itms prog w A E l its) (h0:l≠[])
  (hQ:∀ d h' tk kvs,s.heap.objs.size<=d->Kq s.heap h'->h'.DictOf (intKind prog w) d kvs->Sts kvs l->Q (.ref d) {s with heap:=h',toks:=tk}) :
  wpAny (model prog w) A (dictDisplay (its.map itP)) Q E s:=by
 unfold dictDisplay
 refine wpAny_bind (wpAny_forIn_list _ (DI prog w A E s l) _ (λx rest b s' hI=> ?_) (λb s' hI=> ?_) _ _ (.mk (done:=[]) (run:=[]) rfl .nil h rfl .none))
 ·obtain ⟨k,v⟩:=x
  cases k with
  |some k=>exact wpAny_mono (yw hn hz hbig hI) (λr s' hr=>by
    cases r with
    |yield b'=>exact hr
    |done b'=>exact hr.elim) λZz Zz e=>e
  |none =>
   cases hI with
   |mk hl hr hm hrest ha =>
    cases hm with
    |nil=>cases hrest
    |cons a r=>cases hrest
 ·cases hI with
  |mk hl hr hm hrest ha =>
   cases hm with
   |cons a r=>cases hrest
   |nil =>
    rw [List.append_nil] at hl
    refine wpAny_bind (show wpAny _ _ (flushS _ _) _ _ _ from lc hbig ha hr (hl▸hn) (hl▸hz) λm h2 tk2 a2=> ?_)
    rw [<- hl] at a2
    cases a2 with
    |none=>exact absurd rfl h0
    |some g1 g2 g3 g4 g5=>exact wpAny_pure (hQ _ _ _ _ g1 g2 g4 g5)
noncomputable def cOf:Expr->Const
 | .Constant c _ _=>c
 |_=> .none
noncomputable def intC:Const->Int
 | .int i=>i
 |_=>0
noncomputable def strC:Const->Str
 | .str x=>x
 |_=>Str.empty
noncomputable def cI (e:Expr):Int:=intC (cOf e)
noncomputable def cS (e:Expr):Str:=strC (cOf e)
noncomputable def intE (e:Expr):Expr:= .Constant (.int (cI e)) (numE e) e.pos
noncomputable def strE (e:Expr):Expr:= .Constant (.str (cS e)) (numE e) e.pos
noncomputable def dictLit (ks vs:List Expr):List (Int×Str):=List.zipWith (λk v=>(cI k,cS v)) ks vs
theorem rC {env:Env} {pos:Pos}:∀ ks vs:List Expr,
  ∃ its,(evalEachOpt (ks.map λk=>some (intE k)) env).zip ((evalEach (vs.map strE) env).map λv=>do let x <- v;standAt pos;pure x)=its.map itP/\Itms prog w A E (dictLit ks vs) its:=by
 intro ks
 induction ks with
 |nil=>exact λZz=>⟨[],rfl,.nil⟩
 |cons k ks ih =>
  intro vs
  cases vs with
  |nil=>exact ⟨[],rfl,.nil⟩
  |cons v vs =>
   obtain ⟨its,e,hi⟩:=ih vs
   exact ⟨(eval (intE k) env,do let x <- eval (strE v) env;standAt pos;pure x) :: its,congrArg (List.cons _) e,.cons ⟨λhq=>wpAny_Constant_int (env:=env) (k:=numE k) (pos:=k.pos) (hq _ _),λhq=>wpAny_bind (wpAny_Constant_str (env:=env) (k:=numE v) (pos:=v.pos) (wpAny_bind (wpAny_standAt (wpAny_pure (hq _ _)))))⟩ hi⟩
noncomputable def below:List (Int×Str)->Int->Bool
 | [],_=>true
 |q :: _,a=>decide (a<q.1)
noncomputable def ascend:List (Int×Str)->Bool
 | []=>true
 |p :: r=>below r p.1&&ascend r
theorem qo {r:List (Int×Str)}:∀ {a:Int},below r a=true->ascend r=true->∀ p∈r,a<p.1:=by
 induction r with
 |nil=>exact λZz Zz Zz hp=>nomatch hp
 |cons q r ih=>exact λhb h p hp=>aa h λh1 h2=>(List.mem_cons.mp hp).elim (λe=>e▸de hb) λhp=>Int.lt_trans (de hb) (ih h1 h2 p hp)
theorem kz {l:List (Int×Str)}:ascend l=true->(l.map (·.1)).Nodup:=by
 induction l with
 |nil=>exact λZz=>List.nodup_nil
 |cons p r ih=>exact λh=>aa h λh1 h2=>List.nodup_cons.mpr ⟨λhm=>let ⟨q,hq,e⟩:=List.mem_map.mp hm;absurd e (Int.ne_of_gt (qo h1 h2 q hq)),ih h2⟩
theorem wR {env:Env} {ks vs:List Expr} {pos:Pos} {Q:Value->Shared->Prop} (ha:ascend (dictLit ks vs)=true) (hz:(dictLit ks vs).length<=sizeLine) (h0:dictLit ks vs≠[]) (hbig:2<=s.heap.objs.size)
  (hQ:∀ d h' tk kvs,s.heap.objs.size<=d->Kq s.heap h'->h'.DictOf (intKind prog w) d kvs->Sts kvs (dictLit ks vs)->Q (.ref d) {s with heap:=h',toks:=tk}) :
  wpAny (model prog w) A (eval (.Dict (ks.map λk=>some (intE k)) (vs.map strE) pos) env) Q E s:=by
 obtain ⟨its,e,hi⟩:=rC (prog:=prog) (w:=w) (A:=A) (E:=E) (env:=env) (pos:=pos) ks vs
 rw [arm_eval_Dict,e]
 exact wpAny_bind (wpAny_standAt (pB (kz ha) hz hbig hi h0 hQ))
end
end Mine
namespace Mine
variable [Jt:Tabs] [Jf:Frk]
def iP (prog:Program) (w:World) (l:List (Int×Str)) (o:Obj):Prop :=
 ∃ es ep kvs,o.ExactDict/\o.data = .dict es ep/\KeysOf (intKind prog w) es/\Pairs (intKind prog w) es.toList kvs/\(kvs.map (·.1)).Nodup/\Sts kvs l
def hK (prog:Program) (w:World) (l:List Int) (o:Obj):Prop :=
 ∀ (h:Heap) (a:Addr),h.get? a=some o->∃ n,h.SetOf (intKind prog w) a (λk=>l.contains k) n
section
variable {p:Program} {w:World} {A:Around} {E:Value->Shared->Prop} {c Pl F:Addr} {h₀:Heap} {consts:List (Str×PyData)} {objs:List (Str×(Obj->Prop))} {Q:Flow->Shared->Prop} {rest:List Stmt}
 {s:Shared} {mg₀ mg:Str->Option Value} {ps:Array Value} {defs:List DefItem} {names:List Str} {line:Nat}
theorem th {x:Str} {k:Nat} {p1 p2 pos:Pos} (hmod:p.main.scope.kind = .module) (hloc:p.main.scope.names.lookup ("__name__":Str)=some .local) (X:Mod h₀ mg₀ c Pl s.heap mg ps defs consts objs names) (hN:("__name__":Str)∉names)
  (kk:∀ h' mgN mg' tk,(∀ x:Str,x≠"__name__"->mgN x=mg₀ x)->Mod h₀ mgN c Pl h' mg' ps defs consts objs names->wpAny (model p w) A (execs rest (mainEnv p c F)) Q E {s with heap:=h',toks:=tk}) :
  wpAny (model p w) A (execs (.Assign [.Name ("__name__":Str) p1] (.Constant (.str x) k p2) pos :: rest) (mainEnv p c F)) Q E s:=by
 refine wpAny_execs_cons (wpAny_Assign_Name (wpAny_Constant_str ?_) rfl)
 refine wpAny_storeName_local (env:=mainEnv p c F) hloc X.main.g (λh' hg' hs'=> ?_)
  (by show (p.main.scope.kind == .class || (p.main.scope.kind == .module&&mainGlobals != mainGlobals))=false;rw [hmod];rfl)
 obtain ⟨bm,o,hbm,hne0,hneG,hneP,hbo,hrest⟩:=X.main.bmod
 have keep:∀ b o,b≠Pl->b≠mainGlobals->s.heap.get? b=some o->h'.get? b=some o:=λb o Zz hG e=>(hs'.2 _ hG).trans e
 have up:∀ {b:Addr},h₀.objs.size<=b->b≠Pl/\b≠mainGlobals:=λhb=>⟨Nat.ne_of_gt (Nat.lt_of_lt_of_le X.lowP hb),Nat.ne_of_gt (Nat.lt_of_lt_of_le X.lowG hb)⟩
 have nm:∀ y∈names,y≠("__name__":Str):=λy hy q=>hN (q▸hy)
 refine kk h' (λy=>if y=("__name__":Str) then some (.str x s.toks) else mg₀ y) (λy=>if y=("__name__":Str) then some (.str x s.toks) else mg y) _ (λy hy=>if_neg hy) ?_
 refine ⟨⟨hg',X.main.code.sameBut hs' (Nat.ne_of_gt X.main.low.1) (Nat.ne_of_gt X.main.low.2),X.main.low,
   ⟨bm,o,(if_neg (by decide)).trans hbm,hne0,hneG,hneP,(hs'.2 _ hneG).trans hbo,hrest⟩⟩,λb o hP hG e=>keep b o hP hG (X.keep b o hP hG e),?_,?_,?_,X.dnames,X.cnames,?_,X.onames,Nat.le_trans X.grows (Nat.le_of_eq hs'.1.symm),X.lowP,X.lowG,?_⟩
 ·intro e he
  obtain ⟨a₁,c₁,o₁,pm₁,doc₁,dV₁,h1,h2,h3,h4,h5,h6,h7⟩:=X.made e he
  refine ⟨a₁,c₁,o₁,pm₁,doc₁,dV₁,h1,h2,?_,keep _ _ (up h1).1 (up h1).2 h4,h5,
   h6.at λo=>keep _ o (up h2).1 (up h2).2,h7.above λb o hb=>keep b o (up hb).1 (up hb).2⟩
  show (if e.name=_ then _ else mg e.name)=_
  rw [if_neg (nm _ (X.dnames e he))];exact h3
 ·intro q hq
  obtain ⟨v,hv,hd⟩:=X.bound q hq
  refine ⟨v,?_,hd⟩
  show (if q.1=_ then _ else mg q.1)=_
  rw [if_neg (nm _ (X.cnames q hq))];exact hv
 ·intro y hy
  show (if y=_ then _ else mg y)=(if y=_ then _ else mg₀ y)
  split
  ·rfl
  ·exact X.others y hy
 ·intro q hq
  obtain ⟨a,o,hN',hb,ho,hqo⟩:=X.held q hq
  refine ⟨a,o,hN',?_,keep _ _ (up hN').1 (up hN').2 ho,hqo⟩
  show (if q.1=_ then _ else mg q.1)=_
  rw [if_neg (nm _ (X.onames q hq))];exact hb
 ·intro e he
  obtain ⟨a₁,o₁,fd₁,c₁,P₁,h1,r⟩:=(X.tabs e he).above (h':=h') λb o hb=>keep b o (up hb).1 (up hb).2
  refine ⟨a₁,o₁,fd₁,c₁,P₁,?_,r⟩
  show (if e.name=_ then _ else mg e.name)=_
  rw [if_neg (nm _ (X.dnames e he))];exact h1
theorem vo {x:Str} {i:Int} {k:Nat} {p1 p2 pos:Pos} (hmod:p.main.scope.kind = .module) (hloc:p.main.scope.names.lookup x=some .local) (X:Mod h₀ mg₀ c Pl s.heap mg ps defs consts objs names) (hx:x∉names) (hb:x≠"__builtins__")
  (kk:∀ h' mg' tk,Mod h₀ mg₀ c Pl h' mg' ps defs ((x,.int i) :: consts) objs (x :: names)->wpAny (model p w) A (execs rest (mainEnv p c F)) Q E {s with heap:=h',toks:=tk}) :
  wpAny (model p w) A (execs (.Assign [.Name x p1] (.Constant (.int i) k p2) pos :: rest) (mainEnv p c F)) Q E s :=
 wpAny_execs_cons (X.assign hloc hx (λQ' hq=>wpAny_Constant_int (hq _ _ λh=> .int i _)) (λh' mg' tk Y=>kk h' mg' tk Y) hb hmod rfl)
theorem vq {x y:Str} {k:Nat} {p1 p2 pos:Pos} (hmod:p.main.scope.kind = .module) (hloc:p.main.scope.names.lookup x=some .local) (X:Mod h₀ mg₀ c Pl s.heap mg ps defs consts objs names) (hx:x∉names) (hb:x≠"__builtins__")
  (kk:∀ h' mg' tk,Mod h₀ mg₀ c Pl h' mg' ps defs ((x,.str y) :: consts) objs (x :: names)->wpAny (model p w) A (execs rest (mainEnv p c F)) Q E {s with heap:=h',toks:=tk}) :
  wpAny (model p w) A (execs (.Assign [.Name x p1] (.Constant (.str y) k p2) pos :: rest) (mainEnv p c F)) Q E s :=
 wpAny_execs_cons (X.assign hloc hx (λQ' hq=>wpAny_Constant_str (hq _ _ λh=> .str y _)) (λh' mg' tk Y=>kk h' mg' tk Y) hb hmod rfl)
theorem td {x:Str} {ks vs:List Expr} {p1 p2 pos:Pos} (hmod:p.main.scope.kind = .module) (hloc:p.main.scope.names.lookup x=some .local) (X:Mod h₀ mg₀ c Pl s.heap mg ps defs consts objs names) (hx:x∉names) (hb:x≠"__builtins__")
  (ha:ascend (dictLit ks vs)=true) (hz:(dictLit ks vs).length<=sizeLine) (h0:dictLit ks vs≠[])
  (kk:∀ h' mg' tk,Mod h₀ mg₀ c Pl h' mg' ps defs consts ((x,iP p w (dictLit ks vs)) :: objs) (x :: names)->wpAny (model p w) A (execs rest (mainEnv p c F)) Q E {s with heap:=h',toks:=tk}) :
  wpAny (model p w) A (execs (.Assign [.Name x p1] (.Dict (ks.map λk=>some (intE k)) (vs.map strE) p2) pos :: rest) (mainEnv p c F)) Q E s:=by
 refine wpAny_execs_cons (X.assign_obj hloc hx (λQ' hq=> ?_) (λh' mg' tk Y=>kk h' mg' tk Y) hb hmod rfl)
 refine wR ha hz h0 (Nat.le_trans (by decide) (Nat.succ_le_of_lt X.main.g.lt)) λd h' tk kvs hn k hm hs=> ?_
 obtain ⟨o,es,ep,e1,e2,e3,e4,e5,e6⟩:=hm
 exact hq d o h' tk hn e1 ⟨es,ep,kvs,e2,e3,e4,e5,e6,hs⟩ k
theorem lq:∀ ns:List Int,ints? (ns.map D.int)=some ns
 | []=>rfl
 |n :: ns=>ad rfl (aQ (lq ns) rfl)
theorem ui {vs:List Value} {ns:List Int} (h:∀ h X,DenL h X (ns.map .int) vs):IntsAre vs ns:=(gM (h:={}) (X:=λZz=>False) (lq ns) (h _ _)).1
theorem uy {env:Env} {pos:Pos} (es:List Expr):∀ {s:Shared} {Q:List Value->Shared->Prop},(∀ vs tk,(∀ h X,DenL h X ((es.map cI).map .int) vs)->Q vs {s with toks:=tk})->wpAny (model p w) A (spliced (backTo pos (starEach (es.map intE) env))) Q E s:=by
 induction es with
 |nil =>
  intro s Q hq
  exact PySem.Calls.spliced_nil (hq [] s.toks λZz Zz=>rfl)
 |cons e r ih =>
  intro s Q hq
  exact PySem.Calls.spliced_cons (wpAny_Constant_int (k:=numE e) (pos:=e.pos) (ih λvs tk hv=>hq _ _ λh X=>⟨_,_,rfl,⟨_,rfl⟩,hv h X⟩))
theorem tH:bootBuiltins ("set":Str)=some (.type "set"):=by decide +kernel
theorem dN {x:Str} {pos:Pos} {mb:Str->Option Value} {T:String} {R:Value->Shared->Prop} (hmod:p.main.scope.kind = .module) (hg:s.heap.Ns mainGlobals mg) (hb:s.heap.Ns builtinsNs mb) (hx:mg x=none) (hv:mb x=some (.type T)) (h:R (.type T) s)
  (hd:(x==("__debug__":Str))=false):wpAny (model p w) A (eval (.Name x pos) (mainEnv p c F)) R E s :=
 PySem.Calls.Name_module hmod rfl (PySem.Calls.loadGlobal_builtin hg hx hb hv h) hd
theorem vp {x:Str} {es:List Expr} {a b:Int} {ka kb:Nat} {p1 p2 p3 p4 p5 p6 p7 p8 p9 p10 p11 pos:Pos} {l:List Int} {mb:Str->Option Value} (hmod:p.main.scope.kind = .module) (hloc:p.main.scope.names.lookup x=some .local) (X:Mod h₀ mg₀ c Pl s.heap mg ps defs consts objs names) (hx:x∉names) (hb:x≠"__builtins__")
  (hB:s.heap.Ns builtinsNs mb) (blt:∀ x:Str,x≠"__name__"->mb x=bootBuiltins x) (m1:mg ("set":Str)=none) (m2:mg ("list":Str)=none) (m3:mg ("range":Str)=none) (hh:A.handled=none)
  (hsm:Builtin.Range.small a b 1=true) (hsz:Builtin.Range.rangeSize a b 1=((b - a).toNat:Int)) (hab:(b - a).toNat<1000) (hl:l=es.map cI++(List.range (b - a).toNat).map (λ(i:Nat)=>a+(i:Int))) (hlen:l.length<1000) (hfm:firstMet (λi=>l.getD i 0) l.length=l)
  (kk:∀ h' mg' tk,Mod h₀ mg₀ c Pl h' mg' ps defs consts ((x,hK p w l) :: objs) (x :: names)->wpAny (model p w) A (execs rest (mainEnv p c F)) Q E {s with heap:=h',toks:=tk}) :
  wpAny (model p w) A (execs (.Assign [.Name x p1] (.Call (.Name ("set":Str) p2) [.BinOp (.List (es.map intE) p3) .Add (.Call (.Name ("list":Str) p4) [.Call (.Name ("range":Str) p5) [.Constant (.int a) ka p6,.Constant (.int b) kb p7] [] p8] [] p9) p10] [] pos) p11 :: rest) (mainEnv p c F)) Q E s:=by
 refine wpAny_execs_cons (X.assign_obj hloc hx (λQ' hq=> ?_) (λh' mg' tk Y=>kk h' mg' tk Y) hb hmod rfl)
 refine wpAny_Call_ofName (dN hmod X.main.g hB m1 ((blt _ (by decide)).trans tH) ?_ (by decide))
 refine PyProof.Rows.callWith_type rfl (PySem.Calls.evalArgs_plain (PySem.Calls.spliced_cons (wpAny_BinOp (wpAny_List (uy _ λvs tk hv=>⟨?_,?_⟩)))))
 ·exact Nat.le_trans (Nat.le_of_eq ((hv s.heap λZz=>False).length.trans (List.length_map _))) (Nat.le_trans (by rw [hl,List.length_append];exact Nat.le_add_right _ _) (Nat.le_trans (Nat.le_of_lt hlen) (by rw [sizeLine_eq];decide)))
 ·let hp:=s.heap.push {cls:= .type "list",data:= .seq vs.toArray}
  have k1:Kq s.heap hp:=Kq.push _ _
  have sz1:hp.objs.size=s.heap.objs.size+1:=Heap.size_push ..
  have L1:hp.PlainList s.heap.objs.size vs.toArray:=⟨0,Heap.get?_push_size _ rfl⟩
  refine wpAny_Call_ofName (dN (s:={s with heap:=hp,toks:=tk}) hmod (X.main.g.keeps k1) (hB.keeps k1) m2 ((blt _ (by decide)).trans kH) ?_ (by decide))
  refine PyProof.Rows.callWith_type rfl (PySem.Calls.evalArgs_plain (PySem.Calls.spliced_cons ?_))
  refine wpAny_Call_ofName (dN (s:={s with heap:=hp,toks:=tk}) hmod (X.main.g.keeps k1) (hB.keeps k1) m3 ((blt _ (by decide)).trans eE) ?_ (by decide))
  refine PyProof.Rows.callWith_type rfl (PySem.Calls.evalArgs_plain (PySem.Calls.spliced_cons (wpAny_Constant_int (k:=ka) (pos:=p6) (PySem.Calls.spliced_cons (wpAny_Constant_int (k:=kb) (pos:=p7) (PySem.Calls.spliced_nil (call_range_2 ?_)))))))
  refine PySem.Calls.spliced_nil ?_
  refine call_list_range hh (IsRange.new _ a b 1 _ _ _) hsm hsz (Nat.le_of_lt (Nat.lt_trans hab (by decide))) λh2 tk2 acc cc k2 hl2 hit=> ?_
  have sz2:hp.objs.size+1<h2.objs.size:=by
   have:=Heap.lt_size hl2
   rw [Heap.size_push] at this;exact this
  have k2':Kq hp h2:=Kq.trans (Kq.push _ _) k2
  have dl:∀ h X,DenL h X (((List.range (b - a).toNat).map (λ(i:Nat)=>a+(i:Int))).map .int) acc.toList:=λh X=>DenL.of_get (hit.1.trans ((List.length_map _).trans ((List.length_map _).trans List.length_range)).symm) λi d hi=>by
   have hlt:i<(b - a).toNat:=Nat.lt_of_lt_of_eq (List.getElem?_eq_some_iff.mp hi).1 ((List.length_map _).trans ((List.length_map _).trans List.length_range))
   rw [List.getElem?_map,List.getElem?_map,List.getElem?_range hlt] at hi
   cases hi
   have hlt':i<acc.size:=Nat.lt_of_lt_of_eq hlt hit.1.symm
   obtain ⟨tk,ht⟩:=hit.2 i acc[i] (Array.getElem?_eq_getElem hlt')
   refine ⟨acc[i],by rw [Array.getElem?_toList];exact Array.getElem?_eq_getElem hlt',tk,?_⟩
   rw [ht,Int.mul_one]
  have L2:h2.PlainList s.heap.objs.size vs.toArray:=PL.at' L1 λo Zz=>k2' _ o
  have all:∀ h X,DenL h X (l.map .int) (vs++acc.toList):=λh X=>by
   rw [hl,List.map_append]
   exact (hv h X).append (dl h X)
  have ll:vs.length+acc.size=l.length:=List.length_append.symm.trans ((all s.heap λZz=>False).length.trans (List.length_map _))
  obtain ⟨c2,L2⟩:=L2
  refine PySem.P.add_list L2 hl2 ?_ (Nat.le_trans (Nat.le_of_eq ll) (Nat.le_trans (Nat.le_of_lt hlen) (by rw [sizeLine_eq];decide)))
  refine PySem.Calls.spliced_nil ?_
  refine call_set_list hh (items:=vs.toArray++acc) (ns:=l) ⟨_,Heap.get?_push_size _ rfl,rfl,_,rfl⟩ (ui λh X=>by rw [Array.toList_append];exact all h X) ?_ ?_
  ·exact Nat.lt_of_le_of_lt (Nat.succ_le_succ (Nat.le_of_eq (Array.size_append.trans ll))) (Nat.lt_of_le_of_lt hlen (by decide))
  ·intro h3 tk3 hset hk3
   obtain ⟨o,es,ep,t,e1,e2,e3,e4,e5,e6,e7,e8⟩:=hset
   have k3:Kq h2 h3:=λbb o e=>hk3 bb o (by
    have:=Heap.lt_size e
    show bb<(h2.push _).objs.size
    rw [Heap.size_push];exact Nat.lt_succ_of_lt this) (Heap.get?_push_of_some _ e)
   refine hq _ o h3 tk3 ?_ e1 (λh a' ha=>⟨_,o,es,ep,t,ha,e2,e3,e4,λk=> ?_,e6,e7,e8⟩) ((k1.trans k2').trans k3)
   ·show s.heap.objs.size<=(h2.push _).objs.size
    rw [Heap.size_push];exact Nat.le_succ_of_le (Nat.le_of_lt (Nat.lt_trans (Nat.lt_succ_of_lt (Nat.lt_of_lt_of_eq (Nat.lt_succ_self _) sz1.symm)) sz2))
   ·rw [<- e5 k,Array.size_append.trans ll,hfm]
    refine ⟨λh=>List.any_eq_true.mpr ⟨k,List.contains_iff_mem.mp h,BEq.rfl⟩,λh=> ?_⟩
    obtain ⟨x,hx,e⟩:=List.any_eq_true.mp h
    exact List.contains_iff_mem.mpr (beq_iff_eq.mp e▸hx)
end
end Mine
namespace Mine
section
variable {prog:Program} {w:World} {hB:Heap} {a:Addr} {o:Obj}
theorem xy {l:List Int} (s:Shared) (ho:s.heap.get? a=some o) (P:hK prog w l o) (A:Around) (E:Value->Shared->Prop) (i:Int) (t:Tok) (Q:Value->Shared->Prop) (hQ:∀ tk,Q (.bool (l.contains i)) {s with toks:=tk}) :
  wpAny (model prog w) A (compareOp .In (.int i t) (.ref a)) Q E s:=by
 obtain ⟨n,hs⟩:=P s.heap a ho
 exact wpAny_inSet_of (knd:=intKind prog w) (k:=i) iq rfl hs (hQ _)
theorem uf {l:List (Int×Str)} (s:Shared) (ho':s.heap.get? a=some o) (ha:mainGlobals<a) (P:iP prog w l o):s.TypeIs (.ref a) "dict"/\(∃ ob,s.heap.get? a=some ob/\ob.dict=none) /\
  ∀ (A:Around) (E:Value->Shared->Prop) (i:Int) (t:Tok) (Q:Value->Shared->Prop) (dv:Value),(∀ tk,match l.lookup i with |some v=>∀ t',Q (.str v t') {s with toks:=tk} |none=>Q dv {s with toks:=tk}) ->
   wpAny (model prog w) A (call (.builtin "dict.get") [.ref a,.int i t,dv]) Q E s/\(dv = .none->wpAny (model prog w) A (call (.builtin "dict.get") [.ref a,.int i t]) Q E s):=by
 obtain ⟨es,ep,kvs,e1,e2,e3,e4,e5,e6⟩:=P
 have hT:s.TypeIs (.ref a) "dict":=⟨o,ho',e1.1⟩
 refine ⟨hT,⟨o,ho',e1.2.1⟩,λA E i t Q dv hQ=> ?_⟩
 have hm:s.heap.DictOf (intKind prog w) a kvs:=⟨o,es,ep,ho',e1,e2,e3,e4,e5⟩
 have hmap:=hm.mapOf
 have hne:(a==sysModules)=false:=by
  rw [beq_eq_false_iff_ne];intro q;rw [q] at ha;exact absurd ha (by decide)
 have hk:(intKind prog w).is i (.int i t)=true:=iq
 have hl:=e6.look i
 have fin:∀ tk,Q ((valueAt kvs i).getD dv) {s with toks:=tk}:=λtk=>by
  have hq:=hQ tk
  rcases hl with ⟨e1,e2⟩ |⟨x,t,e1,e2⟩
  ·rw [e1] at hq;rw [e2];exact hq
  ·rw [e1] at hq;rw [e2];exact hq t
 refine ⟨call_meetsIn F.slot_dict_get hT F.entry_dict_get (F.args_dict_get_3 _ _ _) (meets_dict_get_default (intKind prog w) a hk hne dv) ⟨_,hmap,fin _⟩,λq=> ?_⟩
 subst q
 exact call_meetsIn F.slot_dict_get hT F.entry_dict_get (F.args_dict_get_2 _ _) (meets_dict_get (intKind prog w) a hk hne) ⟨_,hmap,fin _⟩
end
theorem sG {prog:Program} {w:World} {h:Heap} {a:Addr} {o:Obj} {l:List Int} (ho:h.get? a=some o) (P:hK prog w l o):isTab o=false:=by
 obtain ⟨n,o',es,ep,t,e1,e2,e3,Zz⟩:=P h a ho
 obtain rfl:=sm (ho.symm.trans e1)
 exact dA e2.1 (by rw [e3];rfl)
end Mine
namespace Mine
variable [Jt:Tabs] [Jf:Frk]
inductive OD where
 |dict (l:List (Int×Str))
 |set (l:List Int)
def OD.P (p:Program) (w:World):OD->Obj->Prop
 | .dict l=>iP p w l
 | .set l=>hK p w l
structure TS where
 defs:List DefItem
 consts:List (Str×PyData)
 objs:List (Str×OD)
 names:List Str
 line:Nat
noncomputable def TS.os (p:Program) (w:World) (t:TS):List (Str×(Obj->Prop)):=t.objs.map λx=>(x.1,x.2.P p w)
noncomputable def isStrC:Const->Bool
 | .str _=>true
 |_=>false
noncomputable def kindV (v:Expr):Nat:=cond (v.ctorIdx==19) (cond (isStrC (cOf v)) 1 0) (cond (v.ctorIdx==6) 2 3)
noncomputable def keysE (v:Expr):List Expr:=(kids v).take (numE v)
noncomputable def valsE (v:Expr):List Expr:=(kids v).drop (numE v)
noncomputable def setS:Str:="set"
noncomputable def sumE (v:Expr):Expr:=kid 1 v
noncomputable def lstE (v:Expr):Expr:=kid 0 (sumE v)
noncomputable def lcE (v:Expr):Expr:=kid 1 (sumE v)
noncomputable def rngE (v:Expr):Expr:=kid 1 (lcE v)
noncomputable def setE' (v:Expr):Expr:= .Call (.Name setS (kid 0 v).pos) [.BinOp (.List ((kids (lstE v)).map intE) (lstE v).pos) .Add (.Call (.Name listS (kid 0 (lcE v)).pos) [.Call (.Name rangeS (kid 0 (rngE v)).pos) [intE (kid 1 (rngE v)),intE (kid 2 (rngE v))] [] (rngE v).pos] [] (lcE v).pos) (sumE v).pos] [] v.pos
noncomputable def setL (v:Expr):List Int:=(kids (lstE v)).map cI++(List.range (cI (kid 2 (rngE v)) - cI (kid 1 (rngE v))).toNat).map (λ(i:Nat)=>cI (kid 1 (rngE v))+(i:Int))
noncomputable def rebV (v:Expr):Expr:=match kindV v with
 |0=>intE v
 |1=>strE v
 |2=> .Dict ((keysE v).map λk=>some (intE k)) ((valsE v).map strE) v.pos
 |_=>setE' v
noncomputable def nmOf:Expr->Str
 | .Name x _=>x
 |_=>Str.empty
noncomputable def rebS (st:Stmt):Stmt:=cond (st.ctorIdx==0) (mkDef (itemOf st)) (.Assign [.Name (nmOf (skid 1 st)) (skid 1 st).pos] (rebV (skid 0 st)) st.pos)
noncomputable def dictOk (l:List (Int×Str)):Bool:=ascend l&&decide (l.length<=sizeLine) && !l.isEmpty
noncomputable def setOk (names:List Str) (a b:Int) (l:List Int):Bool:= !names.contains setS && !names.contains listS && !names.contains rangeS&&Builtin.Range.small a b 1&&decide (Builtin.Range.rangeSize a b 1=((b - a).toNat:Int))&&decide ((b - a).toNat<1000)&&decide (l.length<1000)&&decide (firstMet (λi=>l.getD i 0) l.length=l)
noncomputable def TS.obj (t:TS) (x:Str) (o:OD):TS:={t with objs:=(x,o) :: t.objs,names:=x :: t.names}
noncomputable def TS.cst (t:TS) (x:Str) (d:PyData):TS:={t with consts:=(x,d) :: t.consts,names:=x :: t.names}
noncomputable def stepV (t:TS) (x:Str) (v:Expr):Option TS:=match kindV v with
 |0=>some (t.cst x (.int (cI v)))
 |1=>some (t.cst x (.str (cS v)))
 |2=>if dictOk (dictLit (keysE v) (valsE v)) then some (t.obj x (.dict (dictLit (keysE v) (valsE v)))) else none
 |_=>if setOk t.names (cI (kid 1 (rngE v))) (cI (kid 2 (rngE v))) (setL v) then some (t.obj x (.set (setL v))) else none
noncomputable def stepA (t:TS) (x:Str) (v:Expr):Option TS :=
 if x==("__name__":Str) then (if kindV v=1 then some t else none)
 else if t.names.contains x || x==("__builtins__":Str) then none else stepV t x v
noncomputable def TS.def (t:TS) (d:DefItem):TS:={t with defs:=⟨d.name,plainPar d.params,d.body,d.scope,d.pos⟩ :: t.defs,names:=d.name :: t.names,line:=d.pos.line+1}
noncomputable def stepT (main:Scope) (t:TS) (st:Stmt):Option TS:=cond (st.ctorIdx==0) (if isPlain main t.names t.line (itemOf st) then some (t.def (itemOf st)) else none)
 (if main.names.lookup (nmOf (skid 1 st))==some .local then stepA t (nmOf (skid 1 st)) (skid 0 st) else none)
noncomputable def runT (main:Scope):TS->List Stmt->Option TS
 |t,[]=>some t
 |t,s :: r=>(stepT main t s).bind λt'=>runT main t' r
section
variable {p:Program} {w:World} {A:Around} {c Pl F:Addr} {h₀:Heap} {Q:Flow->Shared->Prop} {mb:Str->Option Value}
structure Tp (p:Program) (w:World) (c Pl:Addr) (h₀:Heap) (mg0:Str->Option Value) (s:Shared) (t:TS) (mg₀ mg:Str->Option Value) (ps:Array Value):Prop where
 X:Mod h₀ mg₀ c Pl s.heap mg ps t.defs t.consts (t.os p w) t.names
 T:Trip t.line ps.toList
 N:("__name__":Str)∉t.names
 m:∀ x:Str,x≠"__name__"->mg₀ x=mg0 x
theorem vt (hmod:p.main.scope.kind = .module) (hh:A.handled=none) (hB:h₀.Ns builtinsNs mb) (blt:∀ x:Str,x≠"__name__"->mb x=bootBuiltins x) {mg0:Str->Option Value} (oth:∀ x,x∉bootMainNames->mg0 x=none) {s:Shared} {mg₀ mg:Str->Option Value} {ps:Array Value} {t t1:TS} {x:Str} {v:Expr} {p1 pos:Pos} {rest:List Stmt}
  (K:Tp p w c Pl h₀ mg0 s t mg₀ mg ps) (hloc:p.main.scope.names.lookup x=some .local) (hnm:x≠"__name__") (hnew:x∉t.names) (hb:x≠"__builtins__") (hv:stepV t x v=some t1)
  (k:∀ h' mg' tk,Tp p w c Pl h₀ mg0 {s with heap:=h',toks:=tk} t1 mg₀ mg' ps->wpAny (model p w) A (execs rest (mainEnv p c F)) Q (λZz Zz=>False) {s with heap:=h',toks:=tk}) :
  wpAny (model p w) A (execs (.Assign [.Name x p1] (rebV v) pos :: rest) (mainEnv p c F)) Q (λZz Zz=>False) s:=by
 have hN':("__name__":Str)∉x :: t.names:=λq=>(List.mem_cons.mp q).elim (λe=>hnm e.symm) K.N
 unfold stepV at hv
 unfold rebV
 generalize kindV v=kd at *
 match kd with
 |0 =>
  obtain rfl:=sm hv
  exact vo hmod hloc K.X hnew hb λh' mg' tk X'=>k h' mg' tk ⟨X',K.T,hN',K.m⟩
 |1 =>
  obtain rfl:=sm hv
  exact vq hmod hloc K.X hnew hb λh' mg' tk X'=>k h' mg' tk ⟨X',K.T,hN',K.m⟩
 |2 =>
  refine gd hv λhc hv=>aa hc λhc c3=>aa hc λc1 c2=> ?_
  obtain rfl:=sm hv
  exact td hmod hloc K.X hnew hb c1 (of_decide_eq_true c2) (λq=>by rw [q] at c3;exact nomatch c3) λh' mg' tk X'=>k h' mg' tk ⟨X',K.T,hN',K.m⟩
 |n+3 =>
  refine gd hv λhc hv=>aa hc λhc c7=>aa hc λhc c6=>aa hc λhc c5=>aa hc λhc c4=>aa hc λhc c3=>aa hc λhc n3=>aa hc λn1 n2=> ?_
  obtain rfl:=sm hv
  have n0:∀ {y:Str},(!t.names.contains y)=true->y∉bootMainNames->mg y=none:=λ{y} h1 h2=>by
   rw [K.X.others y (oq h1),K.m y λq=>h2 (q▸by decide)];exact oth y h2
  have hBs:s.heap.Ns builtinsNs mb:=hB.at λo=>K.X.keep _ o (Nat.ne_of_lt (Nat.lt_trans (by decide) K.X.main.low.2)) (by decide)
  exact vp hmod hloc K.X hnew hb hBs blt (n0 n1 (by decide)) (n0 n2 (by decide)) (n0 n3 (by decide)) hh c3 (of_decide_eq_true c4) (of_decide_eq_true c5) rfl (of_decide_eq_true c6) (of_decide_eq_true c7) λh' mg' tk X'=>k h' mg' tk ⟨X',K.T,hN',K.m⟩
theorem vr (hmod:p.main.scope.kind = .module) (hh:A.handled=none) (hB:h₀.Ns builtinsNs mb) (blt:∀ x:Str,x≠"__name__"->mb x=bootBuiltins x) {mg0:Str->Option Value} (oth:∀ x,x∉bootMainNames->mg0 x=none) (sts:List Stmt) :
  ∀ {s:Shared} {mg₀ mg:Str->Option Value} {ps:Array Value} {t t':TS},sts.map rebS=sts->runT p.main.scope t sts=some t'->Tp p w c Pl h₀ mg0 s t mg₀ mg ps ->
  (∀ h' mgN mg' ps' tk,(∀ x:Str,x≠"__name__"->mgN x=mg0 x)->Mod h₀ mgN c Pl h' mg' ps' t'.defs t'.consts (t'.os p w) t'.names->Q .next {s with heap:=h',toks:=tk}) ->
  wpAny (model p w) A (execs sts (mainEnv p c F)) Q (λZz Zz=>False) s:=by
 induction sts with
 |nil =>
  intro s mg₀ mg ps t t' Zz h K k
  obtain rfl:=sm h
  exact wpAny_pure (k _ mg₀ mg ps s.toks K.m K.X)
 |cons st sts ih =>
  intro s mg₀ mg ps t t' hr h K k
  obtain ⟨r1,r2⟩:=List.cons.inj hr
  refine ae h λt1 hs h=> ?_
  rw [<- r1]
  unfold stepT at hs
  unfold rebS
  cases hst:st.ctorIdx==0 with
  |true =>
   rw [hst] at hs
   refine gd hs λhp hs=> ?_
   obtain rfl:=sm hs
   exact vn hmod K.X K.T K.N hp λh' mg' ps' tk X' T' hN'=>ih (s:={s with heap:=h',toks:=tk}) r2 h ⟨X',T',hN',K.m⟩ k
  |false =>
   rw [hst] at hs
   refine gd hs λhloc hs=> ?_
   have hloc:=beq_iff_eq.mp hloc
   show wpAny _ A (execs (.Assign [.Name (nmOf (skid 1 st)) _] (rebV (skid 0 st)) _ :: sts) _) _ _ _
   generalize nmOf (skid 1 st)=x at *
   generalize skid 0 st=v at *
   unfold stepA at hs
   by_cases hx:(x==("__name__":Str))=true
   ·rw [if_pos hx] at hs
    refine gd hs λhk hs=> ?_
    obtain rfl:=sm hs
    obtain rfl:=beq_iff_eq.mp hx
    unfold rebV
    rw [hk]
    exact th hmod hloc K.X K.N λh' mgN mg' tk hn X'=>ih (s:={s with heap:=h',toks:=tk}) r2 h ⟨X',K.T,K.N,λy hy=>(hn y hy).trans (K.m y hy)⟩ k
   ·rw [if_neg hx] at hs
    refine fD hs λhf hs=>jN hf λf1 f2=> ?_
    exact vt hmod hh hB blt oth K hloc (λq=>hx (beq_iff_eq.mpr q)) (λq=>nomatch (List.contains_iff_mem.mpr q).symm.trans f1) (beq_eq_false_iff_ne.mp f2) hs λh' mg' tk K'=>ih (s:={s with heap:=h',toks:=tk}) r2 h K' k
theorem tj (hmod:p.main.scope.kind = .module) {t:TS} (hr:p.main.body.map rebS=p.main.body) (h:runT p.main.scope ⟨[],[],[],[],0⟩ p.main.body=some t):fe p w t.defs t.consts (t.os p w) t.names:=by
 intro s mg mb c Pl F A Q ar X hb blt oth k
 exact vr hmod ar.hd hb blt oth p.main.body hr h ⟨X,.nil,List.not_mem_nil,λZz Zz=>rfl⟩ k
end
end Mine
namespace Mine
noncomputable def OD.set? : OD->Option (List Int)
 | .set l=>some l
 | .dict _=>none
noncomputable def OD.dict? : OD->Option (List (Int×Str))
 | .dict l=>some l
 | .set _=>none
noncomputable def pyD:PyData->Option D
 | .int i=>some (.int i)
 | .str y=>some (.str y)
 |_=>none
noncomputable def gOf (t:TS):ag where
 const:=λx=>(t.consts.lookup x).bind pyD
 iset:=λx=>(t.objs.lookup x).bind OD.set?
 idict:=λx=>(t.objs.lookup x).bind OD.dict?
structure fc where
 name:Str
 tbl:List Str
 code:S
noncomputable def parsOf (a:Arguments):List Str:=a.args.map (·.arg)
noncomputable def findD (t:TS) (x:Str):Option DefItem:=t.defs.find? (λd=>d.name==x)
noncomputable def atT (c:Cx) (tb:List Str):Cx:={c with tbl:=tb}
noncomputable def mkFn (t:TS) (s:fc):Fn:={name:=s.name,ps:=(findD t s.name).elim [] λd=>parsOf d.params,tbl:=s.tbl,code:=s.code}
noncomputable def nodupB:List Str->Bool
 | []=>true
 |x :: r=> !r.contains x&&nodupB r
theorem bB:∀ {l:List Str},nodupB l=true->l.Nodup
 | [],_=>List.nodup_nil
 |x :: r,h=>aa h λh1 h2=>List.nodup_cons.mpr ⟨oq h1,bB h2⟩
noncomputable def defB (c:Cx) (tb:List Str) (d:DefItem):Bool:=d.scope.kind == .function && !d.scope.isGenerator && !d.scope.isCoroutine&&tb.take (parsOf d.params).length==parsOf d.params&&(parsOf d.params).all (λx=>storable d.scope x)&&nodupB tb &&
  d.scope.names.all (λx=> !(x.2 == .free))&&tb.all (λx=>dbg x&&dcl x)
noncomputable def sigB (c:Cx) (s:fc) (d:DefItem):Bool:=defB c s.tbl d&&codeB (atT c s.tbl) d.scope s.code d.body
noncomputable def sigOk (c:Cx) (t:TS) (s:fc):Bool:=(findD t s.name).elim false (sigB c s)
noncomputable def bodyOf (t:TS) (s:fc):List Stmt:=(findD t s.name).elim [] λd=>d.body
noncomputable def bodyU (c:Cx) (t:TS) (s:fc):List Stmt:=(findD t s.name).elim [] λd=>(unS (atT c s.tbl) d.scope s.code d.body).2
theorem pQ {x:Str} {ns:List Str}:∀ {vs:List Value},ns.length=vs.length->x∈ns->((ns.zip vs).lookup x).isNone=false:=by
 induction ns with
 |nil=>exact λZz h=>nomatch h
 |cons n ns ih =>
  intro vs hl hx
  cases vs with
  |nil=>exact nomatch hl
  |cons v vs =>
   show (match x==n with |true=>some v |false=>(ns.zip vs).lookup x).isNone=false
   cases h:x==n with
   |true=>rfl
   |false=>exact ih (Nat.succ.inj hl) ((List.mem_cons.mp hx).resolve_left (beq_eq_false_iff_ne.mp h))
theorem ua {f g:Str->Option (Str×Value)} {l:List Str} (h:∀ x∈l,f x=g x):l.filterMap f=l.filterMap g:=by
 induction l with
 |nil=>rfl
 |cons x r ih=>rw [List.filterMap_cons,List.filterMap_cons,h x List.mem_cons_self,ih λy hy=>h y (List.mem_cons_of_mem _ hy)]
theorem j7 {ns:List Str}:∀ {vs:List Value},ns.Nodup->ns.length=vs.length->ns.filterMap (λn=>((ns.zip vs).lookup n).map (n,·))=ns.zip vs:=by
 induction ns with
 |nil=>exact λZz Zz=>rfl
 |cons n ns ih =>
  intro vs nd hl
  cases vs with
  |nil=>exact nomatch hl
  |cons v vs =>
   have nd:=List.nodup_cons.mp nd
   rw [List.filterMap_cons_some (b:=(n,v)) (by show ((match n==n with |true=>some v |false=>(ns.zip vs).lookup n).map (n,·))=_;rw [beq_self_eq_true];rfl)]
   refine congrArg _ (Eq.trans (ua λx hx=> ?_) (ih nd.2 (Nat.succ.inj hl)))
   show ((match x==n with |true=>some v |false=>(ns.zip vs).lookup x).map (x,·))=_
   rw [beq_eq_false_iff_ne.mpr λ(e:x=n)=>nd.1 (e▸hx)]
theorem gn {fd:FuncData} {as:List Arg} (hp:fd.params=⟨[],as,none,[],[],none,[]⟩) (hd:fd.defaults = .none) (nd:(as.map (·.arg)).Nodup) (vs:List Value) (hl:vs.length=(as.map (·.arg)).length) :
  bindArgs fd ⟨vs,[]⟩=pure ((as.map (·.arg)).zip vs):=by
 cases fd
 cases hp
 cases hd
 refine (if_neg ?_).trans ((if_neg ?_).trans ?_)
 ·exact λh=>Nat.lt_irrefl _ (Nat.lt_of_lt_of_eq (of_decide_eq_true (Bool.and_eq_true_iff.mp h).1) hl)
 ·exact λh=>absurd ((congrArg (λl:List Str=> !l.isEmpty) (List.filter_eq_nil_iff.mpr λx hx h=>Bool.false_ne_true ((pQ hl.symm (List.mem_of_mem_take hx)).symm.trans h):List.filter _ (List.take _ (as.map (·.arg)))=[])).symm.trans h) Bool.false_ne_true
 ·refine Eq.trans (b:=(forIn ([]:List (Str×Value)) _ _ >>= _:Sem _)) (congrArg (λl=>(forIn l _ _ >>= _:Sem _)) (show List.zip _ (List.drop _ [])=[] by rw [List.drop_nil];exact List.zip_nil_right)) ?_
  exact congrArg (pure:List (Str×Value)->Sem _) (Eq.trans (congrArg (List.filterMap _) (List.append_nil (as.map λ(x:Arg)=>x.arg))) (j7 nd hl.symm))
theorem iS {name:Str} {as:List Arg} {body:List Stmt} {sc:Scope} (nd:(as.map (·.arg)).Nodup) (pm cd doc:Value) (vs:List Value) (hl:vs.length=(as.map (·.arg)).length) :
  bindArgs (Calls.docDef name ⟨[],as,none,[],[],none,[]⟩ body sc pm cd doc) ⟨vs,[]⟩=pure ((as.map (·.arg)).zip vs):=gn rfl rfl nd vs hl
variable [Jt:Tabs] [Jf:Frk]
theorem bI {t:TS} {consts:List (Str×PyData)} {objs:List (Str×(Obj->Prop))} {names:List Str} {mg mb:Str->Option Value} {h:Heap} (T:TopAt t.defs consts objs names mg mb h) {x:Str} {d:DefItem} (hd:findD t x=some d) {a:Addr} (ha:mg x=some (.ref a)):DefAt h a x d.params d.body d.scope:=by
 have hm:=List.mem_of_find?_eq_some hd
 have hn:=List.find?_some hd
 obtain rfl:d.name=x:=beq_iff_eq.mp hn
 obtain ⟨a',h1,h2⟩:=T.made d hm
 rw [Value.ref.inj (sm (ha.symm.trans h1))];exact h2
theorem fV {c:Cx} {tb:List Str} {d:DefItem} (hs:defB c tb d=true) {name:Str} (hp:d.params=plainPar d.params):eB (atT c tb) (parsOf d.params) name d.params d.body d.scope :=
 aa hs λhs g8=>aa hs λhs g7=>aa hs λhs g6=>aa hs λhs g5=>aa hs λhs g4=>aa hs λhs g3=>aa hs λg1 g2=>⟨beq_iff_eq.mp g1,nt g2,nt g3,beq_iff_eq.mp g4,λx hx=>List.all_eq_true.mp g5 x hx,bB g6,λx q=>(by have:=List.all_eq_true.mp g7 _ (PySem.mem_of_lookup q);exact nomatch this),g8,λpm cd doc vs hl=>by
  rw [hp] at hl g4 ⊢
  exact iS (show (parsOf (plainPar d.params)).Nodup by rw [<- beq_iff_eq.mp g4];exact (List.take_sublist _ _).nodup (bB g6)) pm cd doc vs hl⟩
theorem Bc {p:Program} {w:World} {t:TS} {names:List Str} {mg mb:Str->Option Value} {h:Heap} (T:TopAt t.defs t.consts (t.os p w) names mg mb h) (c:Cx) {s:fc} (hs:sigOk c t s=true) (hu:bodyU c t s=bodyOf t s) (hp:∀ d∈t.defs,d.params=plainPar d.params):tw c h mg (mkFn t s):=by
 unfold sigOk at hs
 unfold bodyU bodyOf at hu
 unfold mkFn
 cases hd:findD t s.name with
 |none=>rw [hd] at hs;exact nomatch hs
 |some d =>
  rw [hd] at hs hu
  exact aa hs λq1 q2=>⟨d.params,d.body,d.scope,fV q1 (hp d (List.mem_of_find?_eq_some hd)),λa ha=>bI T hd ha,q2,hu⟩
theorem yc {d:PyData} {e:D} {v:Value} {h:Heap} {X:Addr->Prop} (hd:pyD d=some e) (iv:IsDatum v d):e.scalar=true/\Den h X e v:=by
 cases iv {} with
 |int i t=>exact sm hd▸⟨rfl,_,rfl⟩
 |str y t=>exact sm hd▸⟨rfl,_,rfl⟩
 |_=>exact ai hd
theorem wq {p:Program} {w:World} {t:TS} {mg mb:Str->Option Value} {h:Heap} (hfa:∀ b,Al h b->¬ Tabs.fa b) (T:TopAt t.defs t.consts (t.os p w) t.names mg mb h) (c:Cx) (hb:bnames.all (λx=> !t.names.contains x)=true) (hf:c.fns.all (λx=>(findD t x).isSome)=true) (hnd:(c.sets++c.dicts).all (λx=> !(x==("__debug__":Str)))=true) :
  Base p w c (gOf t) h mg mb:=by
 have held:∀ {x:Str} {o:OD},t.objs.lookup x=some o->∃ a ob,mainGlobals<a/\mg x=some (.ref a)/\h.get? a=some ob/\o.P p w ob:=λ{x o} hl=>T.held (x,o.P p w) (List.mem_map.mpr ⟨_,PySem.mem_of_lookup hl,rfl⟩)
 have nb:∀ x∈bnames,x∉bootMainNames/\x≠"__name__":=by decide
 refine ⟨T.g,T.b,λx hx=>⟨T.oth x (oq (List.all_eq_true.mp hb x hx)) (nb x hx).1,T.blt x (nb x hx).2⟩,λx d hx hd=> ?_,λx l hx hl=> ?_,λx l hx hl=> ?_,λx hx=>nt (List.all_eq_true.mp hnd x (List.mem_append.mpr hx)),λx hx=> ?_⟩
 ·refine ae hd λq hq hd=> ?_
  obtain ⟨v,hv,di⟩:=T.bound _ (PySem.mem_of_lookup hq)
  have:=yc (h:=h) (X:=λZz=>False) hd di
  exact ⟨this.1,v,hv,this.2⟩
 ·refine ae hl λo ho hl=> ?_
  obtain ⟨a,ob,h0,h1,h2,h3⟩:=held ho
  cases o with
  |dict _=>exact ai hl
  |set l' =>
   obtain rfl:=sm hl
   exact ⟨a,h1,λA E s i tk Q k hu hq=>xy s (k.ob h2 (.inl (sG h2 h3))) h3 A E i tk Q hq⟩
 ·refine ae hl λo ho hl=> ?_
  obtain ⟨a,ob,h0,h1,h2,h3⟩:=held ho
  cases o with
  |set _=>exact ai hl
  |dict l' =>
   obtain rfl:=sm hl
   refine ⟨a,h1,λs k=> ?_⟩
   obtain ⟨es,ep,kvs,e1,e2,Zz⟩:=id h3
   obtain ⟨g1,g2,g3⟩:=uf s ((k.kp a ob h2).obF e2 (hfa a ⟨ob,h2⟩)) h0 h3
   exact ⟨g1,g2,λA E i tk Q dv Zz hq=>g3 A E i tk Q dv hq⟩
 ·obtain ⟨d,hd⟩:=Option.isSome_iff_exists.mp (List.all_eq_true.mp hf x hx)
  have hn:=List.find?_some hd
  obtain rfl:d.name=x:=beq_iff_eq.mp hn
  obtain ⟨a,h1,h2⟩:=T.made d (List.mem_of_find?_eq_some hd)
  obtain ⟨o,pm,cd,doc,P,oc,vs,tt,e1,e2,Zz⟩:=h2.at'
  exact ⟨a,o,_,h1,e1,e2⟩
structure KD (D:Addr) (h h':Heap):Prop where
 kp:∀ b o,b≠D->h.get? b=some o->Gw h' b o
 cd:Cd h h'
theorem KD.trans {D:Addr} {a b c:Heap} (x:KD D a b) (y:KD D b c):KD D a c:=⟨λi o n e=>(x.kp i o n e).then (λo' e'=>y.kp i o' n e') y.cd,x.cd.trans y.cd⟩
theorem Kp.kd {a b:Heap} (k:Kp a b) (D:Addr):KD D a b:=⟨λi o Zz e=>k i o e,k.cd⟩
theorem KD.ns {D a:Addr} {h h':Heap} {m:Str->Option Value} (k:KD D h h') (n:h.Ns a m) (hn:a≠D):h'.Ns a m:=Ns.gw n λo e=>k.kp a o hn e
theorem KD.cell {D a:Addr} {h h':Heap} {v:Option Value} (k:KD D h h') (n:h.IsCell a v) (hn:a≠D):h'.IsCell a v :=
 let ⟨o,e1,e2⟩:=n;⟨o,(k.kp a o hn e1).ob (.inl (cP e2)),e2⟩
theorem KD.kpB {D:Addr} {hB h h':Heap} (k0:KB hB h) (hD:hB.get? D=none) (k:KD D h h'):KB hB h':=k0.cdt (λb o e=>(k0.kp b o e).then (λo' e'=>k.kp b o' (λq=>ai (hD.symm.trans (q▸e))) e') k.cd) k.cd
theorem KD.atD {D:Addr} {h h':Heap} {items:Array Value} (pl:h.PlainList D items) (sb:Heap.SameBut D h h'):KD D h h' :=
 ⟨λb o n e=> .inl (sb.extBut b o n e),Cd.sb (λb o n e=>sb.extBut b o n e) (PL.nofields pl) λd=>absurd d (PL.nodt pl)⟩
theorem Gr.kd {h h':Heap} {Mu Ex Mu' Ex':Addr->Prop} (g:Gr h Mu Ex Mu' Ex' h') (D:Addr) {h0:Heap} (k:KD D h0 h) (hn:∀ b,Mu b->h0.get? b=none):KD D h0 h' :=
 ⟨λb o n e=>(k.kp b o n e).then (λo' e'=>g.keep b o' (λq=>ai ((hn b q).symm.trans e)) e') g.cd,k.cd.trans g.cd⟩
theorem Gr.kp0 {h h':Heap} {Mu Ex Mu' Ex':Addr->Prop} (g:Gr h Mu Ex Mu' Ex' h') {h0:Heap} (k:Kp h0 h) (hn:∀ b,Mu b->h0.get? b=none):Kp h0 h' :=
 λb o e=>(k b o e).then (λo' e'=>g.keep b o' (λq=>ai ((hn b q).symm.trans e)) e') g.cd
structure Clo (h:Heap) (f:Addr) (qual:Str) (params:Arguments) (body:List Stmt) (sc:Scope) (cl:List (Str×Addr)) (cm:Str->Option Value):Prop where
 fo:∃ o doc pm cd ct oc vs t,h.get? f=some o/\o.data = .func (fnX "inner" qual params body sc cl .none .none doc pm none (.ref cd) ct)/\h.get? cd=some oc/\oc.cls = .type "code"/\oc.data = .fields vs/\vs[1]? = some (.str qual t)
 cell:∀ x c,cl.lookup x=some c->h.IsCell c (cm x)
 inj:∀ x y c,cl.lookup x=some c->cl.lookup y=some c->x=y
 has:∀ x,sc.names.lookup x=some .free->∃ c,cl.lookup x=some c
 fr:∀ x c,cl.lookup x=some c->sc.names.lookup x=some .free
section
variable {h h':Heap} {f D:Addr} {qual:Str} {params:Arguments} {body:List Stmt} {sc:Scope} {cl:List (Str×Addr)} {cm:Str->Option Value}
theorem Clo.to (C:Clo h f qual params body sc cl cm) (k:∀ b o,isTab o=false->h.get? b=some o->(∀ is n,o.data ≠ .seq is n)->h'.get? b=some o):Clo h' f qual params body sc cl cm:=by
 refine ⟨?_,λx c e=> ?_,C.inj,C.has,C.fr⟩
 ·obtain ⟨o,doc,pm,cd,ct,oc,vs,t,e1,e2,e3,e4,e5,e6⟩:=C.fo
  exact ⟨o,doc,pm,cd,ct,oc,vs,t,k f o (bi e2) e1 (λis n q=>nomatch e2.symm.trans q),e2,k cd oc (bh e4 e5) e3 (λis n q=>nomatch e5.symm.trans q),e4,e5,e6⟩
 ·obtain ⟨o,e1,e2⟩:=C.cell x c e
  exact ⟨o,k c o (cP e2) e1 (λis n q=>nomatch e2.symm.trans q),e2⟩
theorem Clo.keep (C:Clo h f qual params body sc cl cm) (k:Kp h h'):Clo h' f qual params body sc cl cm:=C.to λb o t e Zz=>k.ob e (.inl t)
theorem Clo.kd (C:Clo h f qual params body sc cl cm) (k:KD D h h') {items:Array Value} (pl:h.PlainList D items):Clo h' f qual params body sc cl cm :=
 C.to λb o t e n=>(k.kp b o (λq=>let ⟨n0,l0⟩:=pl;n _ _ (congrArg Obj.data (sm (e.symm.trans (q▸l0))))) e).ob (.inl t)
theorem Clo.nseq (C:Clo h f qual params body sc cl cm) {x:Str} {c:Addr} (e:cl.lookup x=some c) {items:Array Value} (pl:h.PlainList D items):c≠D:=λq=>by
 obtain ⟨o,e1,e2⟩:=C.cell x c e
 obtain ⟨n0,l0⟩:=pl
 have e:Data.cell _=Data.seq _ _:=e2.symm.trans (congrArg Obj.data (sm (e1.symm.trans (q▸l0))))
 exact nomatch e
end
inductive FV (val:Str->Option Value) (h:Heap) (Ex:Addr->Prop):List Str->MEnv->Prop where
 |nil:FV val h Ex [] []
 |no {x:Str} {t:List Str} {O:MEnv}:FV val h Ex t O->FV val h Ex (x :: t) (none :: O)
 |has {x:Str} {t:List Str} {O:MEnv} {v:Value} {d:D}:val x=some v->Den h Ex d v->FV val h Ex t O->FV val h Ex (x :: t) (some (d,false) :: O)
theorem FV.get {val:Str->Option Value} {h:Heap} {Ex:Addr->Prop} {t:List Str} {O:MEnv} (V:FV val h Ex t O):∀ {i:Nat} {x:Str} {d:D} {b:Bool},t[i]? = some x->getE O i=some (d,b)->∃ v,val x=some v/\DenV h Ex b d v/\b=false:=by
 induction V with
 |nil=>exact λh1 Zz=>ai h1
 |no V ih =>
  intro i x d b h1 h2
  cases i with
  |zero=>exact ai h2
  |succ i=>exact ih h1 h2
 |has hv hd V ih =>
  intro i x d b h1 h2
  cases i with
  |zero =>
   obtain ⟨rfl,rfl⟩:=Prod.mk.inj (sm h2)
   exact ⟨_,sm h1▸hv,hd,rfl⟩
  |succ i=>exact ih h1 h2
def cg (env:Env):Addr->Prop:=λb=>b=env.locals\/∃ x,env.cells.lookup x=some b
theorem FV.rr {env:Env} {m cm:Str->Option Value} {h:Heap} {tbl:List Str} {O:MEnv} (ok:j8 env) (F:FrM env h m cm) (nd:tbl.Nodup) (V:FV (valOf env m cm) h (cg env) tbl O):RR env tbl (cg env) (λZz=>0) O h:=by
 refine ⟨ok,nd,?_,⟨.inl rfl,λx c hc=> .inr ⟨x,hc⟩⟩,m,cm,F,λi x d b h1 h2 h3=> ?_⟩
 ·rintro b (e |⟨x,hx⟩)
  ·obtain ⟨o,Zz,Zz,ho,Zz⟩:=F.ns;exact ⟨o,e▸ho⟩
  ·obtain ⟨o,ho,Zz⟩:=F.cell x b hx;exact ⟨o,ho⟩
 ·obtain ⟨v,e1,e2,e3⟩:=V.get h1 h2
  exact ⟨v,e1,e2,λq=>nomatch e3.symm.trans q⟩
def iB (env:Env):Addr->Prop:=λb=>b=env.locals
theorem FV.sr {env:Env} {m cm:Str->Option Value} {h:Heap} {tbl:List Str} {O:MEnv} (ok:j8 env) (F:FrM env h m cm) (nd:tbl.Nodup) (nc:∀ x c,env.cells.lookup x=some c->env.scope.names.lookup x=some .free) (V:FV (valOf env m cm) h (cg env) tbl O):SR env tbl (iB env) (cg env) (λZz=>0) O h:=by
 have no:∀ {i:Nat} {x:Str} {d:D} {P:Prop},tbl[i]? = some x->getE O i=some (d,true)->P:=λh1 h2=>let ⟨_,_,_,e⟩:=V.get h1 h2;nomatch e
 refine ⟨V.rr ok F nd,λb e=> .inl e,⟨rfl,λn c sn hc=> ?_⟩,λi x d h1 Zz h2=>no h1 h2,λi j x y d e h1 Zz Zz Zz h2 Zz Zz=>no h1 h2⟩
 unfold storable at sn
 rw [nc n c hc] at sn
 exact nomatch sn
noncomputable def innB (sc:Scope) (tbl ps:List Str):Bool:=sc.kind == .function && !sc.isGenerator && !sc.isCoroutine&&sc.names.all (λx=> !(x.2 == .cell))&&ps.all (λx=>sc.names.lookup x==some .local)&&nodupB tbl&&nodupB ps
noncomputable def valS (sc:Scope) (m cm:Str->Option Value) (x:Str):Option Value:=valK (m x) (cm x) (sc.names.lookup x)
noncomputable def parM (ps:List Str) (vs:List Value):Str->Option Value:=λx=>(ps.zip vs).reverse.lookup x
theorem mK (off:Frk.fs=none) {prog:Program} {w:World} {hB:Heap} {n:Nat} (lim:hB.NoLimit) {sc:Scope} {tbl ps:List Str} (I:innB sc tbl ps=true) {as:List Arg} (hps:as.map (·.arg)=ps) {A:Around} {s:Shared} {f:Addr} {fd:FuncData} {body:List Stmt} {cm:Str->Option Value} {vs:List Value} {o:Obj}
  (e1:s.heap.get? f=some o) (e2:o.data = .func fd) (hp:fd.params=⟨[],as,none,[],[],none,[]⟩) (hd:fd.defaults = .none) (hb:fd.body = .stmts body) (hsc:fd.scope=sc) (hgl:(callEnv fd s.heap.objs.size f).globals=mainGlobals) (hbl:(callEnv fd s.heap.objs.size f).builtins=builtinsNs) (hcr:s.heap.CodeRec fd.code fd.qualname)
  (cell:∀ x c,(callEnv fd s.heap.objs.size f).cells.lookup x=some c->s.heap.IsCell c (cm x)) (inj:∀ x y c,(callEnv fd s.heap.objs.size f).cells.lookup x=some c->(callEnv fd s.heap.objs.size f).cells.lookup y=some c->x=y)
  (has:∀ x,sc.names.lookup x=some .free->∃ c,(callEnv fd s.heap.objs.size f).cells.lookup x=some c) (fr:∀ x c,(callEnv fd s.heap.objs.size f).cells.lookup x=some c->sc.names.lookup x=some .free)
  (kp:KB hB s.heap) (ar:Ar (n+1) A) (hl:vs.length=ps.length) {O:MEnv} (V:∀ h Ex,Kp s.heap h->(∀ b,Ex b->s.heap.get? b=none\/∃ x,(callEnv fd s.heap.objs.size f).cells.lookup x=some b)->FV (valS sc (parM ps vs) cm) h Ex tbl O)
  {E:Value->Shared->Prop} {Q:Value->Shared->Prop}
  (P:∀ env h tk,env=callEnv fd s.heap.objs.size f->SR env tbl (iB env) (cg env) (λZz=>0) O h->h.Ns env.locals (parM ps vs)->Kp s.heap h->s.heap.get? env.locals=none->Ar n (A.deeper env) ->
   wpAny (model prog w) (A.deeper env) (execs body env) (λf s'=>Q (match f with | .ret v=>v |_=> .none) s') (λe s'=>wpAny (model prog w) (A.deeper env) (leaving env e) (λZz s''=>E e s'') (λe' s''=>E e' s'') s') {s with heap:=h,toks:=tk}) :
  wpAny (model prog w) A (call (.ref f) vs) Q E s:=by
 refine aa I λI g7=>aa I λI g6=>aa I λI g5=>aa I λI g4=>aa I λI g3=>aa I λg1 g2=> ?_
 subst hsc
 refine wpAny_call (codeAny_call_plain (fd:=fd) (binds:=ps.zip vs) (Nat.lt_of_le_of_lt (Nat.le_trans (Nat.le_add_right _ _) ar.depth) (by decide)) e1 e2 (let ⟨mc,y,z⟩:=lim;⟨mc,kp.ns y,z⟩) hcr hb ?_ ?_ ?_ ?_ (nt g3) (nt g2) (beq_iff_eq.mp g1))
 ·rw [<- hps];exact gn hp hd (hps▸bB g7) vs (hl.trans (congrArg _ hps.symm))
 ·intro x hx q
  have:=nt (List.all_eq_true.mp g4 x hx)
  rw [q] at this
  exact nomatch this
 ·exact λy hy=>beq_iff_eq.mp (List.all_eq_true.mp g5 _ (List.of_mem_zip (a:=y.1) (b:=y.2) hy).1)
 ·intro h₀ hns0 hk0
  have k:Kp s.heap h₀:= .of hk0
  have hn:s.heap.get? (callEnv fd s.heap.objs.size f).locals=none:=aI _
  have cell0:=λx c e=>k.cell (cell x c e)
  have hF:FrM (callEnv fd s.heap.objs.size f) h₀ (parM ps vs) cm:=⟨hns0,cell0,λx c e q=>let ⟨o,g1,_⟩:=cell x c e;ai (hn.symm.trans (q▸g1)),inj,λx hx=>hx.elim (λq=>by
   have:=nt (List.all_eq_true.mp g4 _ (PySem.mem_of_lookup q))
   exact nomatch this) (has x)⟩
  have VV:FV (valOf (callEnv fd s.heap.objs.size f) (parM ps vs) cm) h₀ (cg (callEnv fd s.heap.objs.size f)) tbl O:=V h₀ _ k λb e=>e.elim (λe=> .inl (e▸hn)) .inr
  exact P _ h₀ _ rfl (VV.sr ⟨beq_iff_eq.mp g1,hgl,hbl⟩ hF (bB g6) fr) hns0 k hn (ar.deep off _)
theorem Clo.call (off:Frk.fs=none) {prog:Program} {w:World} {hB:Heap} {n:Nat} (lim:hB.NoLimit) {sc:Scope} {tbl ps:List Str} (I:innB sc tbl ps=true) {as:List Arg} (hps:as.map (·.arg)=ps) {A:Around} {s:Shared} {f:Addr} {qual:Str} {body:List Stmt} {cl:List (Str×Addr)} {cm:Str->Option Value} {vs:List Value}
  (C:Clo s.heap f qual ⟨[],as,none,[],[],none,[]⟩ body sc cl cm) (kp:KB hB s.heap) (ar:Ar (n+1) A) (hl:vs.length=ps.length) {O:MEnv} (V:∀ h Ex,Kp s.heap h->(∀ b,Ex b->s.heap.get? b=none\/∃ x,cl.lookup x=some b)->FV (valS sc (parM ps vs) cm) h Ex tbl O)
  {E:Value->Shared->Prop} {Q:Value->Shared->Prop}
  (P:∀ env h tk E',env.cells=cl->env.scope=sc->SR env tbl (iB env) (cg env) (λZz=>0) O h->Kp s.heap h->s.heap.get? env.locals=none->Ar n (A.deeper env) ->
   wpAny (model prog w) (A.deeper env) (execs body env) (λf s'=>Q (match f with | .ret v=>v |_=> .none) s') E' {s with heap:=h,toks:=tk}) :
  wpAny (model prog w) A (PySem.call (.ref f) vs) Q E s:=by
 obtain ⟨o,doc,pm,cd,ct,oc,vc,t,e1,e2,e3,e4,e5,e6⟩:=C.fo
 exact mK off lim I hps e1 e2 rfl rfl rfl rfl rfl rfl ⟨cd,oc,vc,t,rfl,e3,e5,e6⟩ C.cell C.inj C.has C.fr kp ar hl V λenv h tk he S Zz k hn ar'=>P env h tk _ (he▸rfl) (he▸rfl) S k hn ar'
end Mine
namespace Mine
theorem xO (x k:Nat):x &&& (x / 2 ^ k * 2 ^ k)=x / 2 ^ k * 2 ^ k:=by
 apply Nat.eq_of_testBit_eq
 intro i
 rw [Nat.testBit_and,<- Nat.shiftRight_eq_div_pow,<- Nat.shiftLeft_eq,Nat.testBit_shiftLeft,Nat.testBit_shiftRight]
 by_cases h:k<=i
 ·rw [Nat.add_sub_of_le h];simp [h]
 ·simp [h]
theorem xl {a c m:Nat} (h:c+m=a):(a:Int)+(c:Int) - 2 * (c:Int)=(m:Int):=by
 rw [Int.two_mul,<- Int.sub_sub,Int.add_sub_cancel,<- h]
 exact (congrArg (· - (c:Int)) (Int.add_comm (c:Int) m)).trans (Int.add_sub_cancel _ _)
theorem yK {x:Int} (k:Nat) (h:0<=x):Builtin.bitXor x (x.fdiv (2 ^ k) * 2 ^ k)=x.fmod (2 ^ k):=by
 obtain ⟨a,rfl⟩:=Int.eq_ofNat_of_zero_le h
 have hp:(0:Int)<=2 ^ k:=Int.le_of_lt (Int.pow_pos (by decide))
 have e1:(a:Int).fdiv (2 ^ k)=((a / 2 ^ k:Nat):Int):=by
  rw [Int.fdiv_eq_ediv_of_nonneg _ hp];simp
 have e2:(a:Int).fmod (2 ^ k)=((a % 2 ^ k:Nat):Int):=by
  rw [Int.fmod_eq_emod_of_nonneg _ hp];simp
 have e3:((a / 2 ^ k:Nat):Int) * 2 ^ k=((a / 2 ^ k * 2 ^ k:Nat):Int):=by simp
 rw [e1,e2,e3,bitXor_and]
 have e4:Builtin.bitAnd (a:Int) ((a / 2 ^ k * 2 ^ k:Nat):Int)=((a / 2 ^ k * 2 ^ k:Nat):Int):=by
  unfold Builtin.bitAnd
  rw [decide_eq_true (Int.natCast_nonneg _),decide_eq_true (Int.natCast_nonneg _)]
  simp only [Int.toNat_natCast,xO]
 rw [e4]
 exact xl ((Nat.mul_comm _ _▸Nat.div_add_mod a (2 ^ k):a / 2 ^ k * 2 ^ k+a % 2 ^ k=a))
end Mine
namespace Mine
theorem an {G:ag} {F:FEnv} {O O1:MEnv} {a b:S} {r:Option (MEnv×Out)} (h:ex G F O a=some (O1,.next)) (k:ex G F O1 b=r):ex G F O (.seq a b)=r:=ad h k
theorem c8 {G:ag} {F:FEnv} {O:MEnv} {i:Nat} {e:T} {d:D} (h:ev G F O false e=some d):ex G F O (.asg i false e)=some (setE O i d false,.next):=ad h rfl
theorem nK {G:ag} {F:FEnv} {O:MEnv} {i:Nat} {e:T} {d:D} (h:ev G F O false e=some d) (hf:freshT e d=true):ex G F O (.asg i true e)=some (setE O i d true,.next):=ad h (by rw [hf];rfl)
theorem af {G:ag} {F:FEnv} {O:MEnv} {b:Bool} {op:Operator} {a c:T} {x y d:D} (h1:ev G F O true a=some x) (h2:ev G F O true c=some y) (h:binD op x y=some d):ev G F O b (.bin op a c)=some d:=ad h1 (ad h2 h)
theorem aW {G:ag} {F:FEnv} {O:MEnv} {b:Bool} {a r:T} {x:D} {xs:List D} (h1:ev G F O b a=some x) (h2:ev G F O b r=some (.tup xs)):ev G F O b (.cons a r)=some (.tup (x :: xs)):=ad h1 (ad h2 rfl)
theorem g0 {a:Int} (h:a.natAbs<2 ^ 64):small a=true:=by
 unfold small BIG
 exact decide_eq_true (Nat.lt_trans h (Nat.pow_lt_pow_right (by decide) (by decide)))
theorem oh {a b:Int} (h0:0<=a) (hab:a<=b):a.natAbs<=b.natAbs:=by
 obtain ⟨a,rfl⟩:=Int.eq_ofNat_of_zero_le h0
 obtain ⟨b,rfl⟩:=Int.eq_ofNat_of_zero_le (Int.le_trans h0 hab)
 exact Int.ofNat_le.mp hab
theorem cq {a b:Int} (h:small b=true) (h0:0<=a) (hab:a<=b):small a=true:=by
 unfold small at h ⊢
 exact decide_eq_true (Nat.lt_of_le_of_lt (oh h0 hab) (of_decide_eq_true h))
theorem aV {n:Nat} (h:n<=1000000):small (n:Int)=true:=g0 (Nat.lt_of_le_of_lt h (by decide))
theorem gY {n:Nat} (h:n<=4000):sizeOk n=true:=decide_eq_true (Nat.le_trans h (by decide))
theorem i8 {n:Nat} (h:n<=1000000):idxOk (n:Int)=true:=decide_eq_true (Nat.lt_of_le_of_lt h (by decide))
theorem dY {x:Int} {k:Nat} (h:0<=x):0<=x.fdiv (2 ^ k)/\x.fdiv (2 ^ k)<=x:=by
 have hp:(0:Int)<2 ^ k:=Int.pow_pos (by decide)
 rw [Int.fdiv_eq_ediv_of_nonneg _ (Int.le_of_lt hp)]
 exact ⟨Int.ediv_nonneg h (Int.le_of_lt hp),Int.ediv_le_self _ h⟩
theorem iY {x:Int} {k:Nat} (h:0<=x):0<=x.fmod (2 ^ k)/\x.fmod (2 ^ k)<=x:=by
 have hp:(0:Int)<2 ^ k:=Int.pow_pos (by decide)
 rw [Int.fmod_eq_emod_of_nonneg _ (Int.le_of_lt hp)]
 refine ⟨Int.emod_nonneg _ (Int.ne_of_gt hp),?_⟩
 have h1:=Int.mul_ediv_add_emod x (2 ^ k)
 have h2:0<=2 ^ k * (x / 2 ^ k):=Int.mul_nonneg (Int.le_of_lt hp) (Int.ediv_nonneg h (Int.le_of_lt hp))
 exact Int.le_trans (Int.le_add_of_nonneg_left h2) (Int.le_of_eq h1)
theorem xK (L len:Nat):((L:Int)+((L+len:Nat):Int)).fdiv (2 ^ (1:Int).toNat)=((L+len / 2:Nat):Int) :=
 (Int.fdiv_eq_ediv_of_nonneg _ (by decide)).trans (congrArg Int.ofNat (show (L+(L+len)) / 2=_ by rw [<- Nat.add_assoc,<- Nat.two_mul,Nat.mul_add_div (by decide)]))
theorem rI {G:ag} {F:FEnv} {O:MEnv} {b:Bool} {i j:Nat} {L len:Nat} (h1:ev G F O true (.var i)=some (.int (L:Int))) (h2:ev G F O true (.var j)=some (.int ((L+len:Nat):Int))):ev G F O b (.bin .RShift (.bin .Add (.var i) (.var j)) (.cst (.int 1)))=some (.int ((L+len / 2:Nat):Int)) :=
 af (af h1 h2 rfl) rfl (congrArg (some ∘ D.int) (xK L len))
theorem sK {L a nn:Nat} (h1:a<=1000000) (h2:nn<=1000000):binD .Mult (.int (((L+a:Nat):Int) - (L:Int))) (.int (nn:Int))=some (.int ((a * nn:Nat):Int)):=by
 have e:((L+a:Nat):Int) - (L:Int)=(a:Int):=by rw [Int.natCast_add,Int.add_comm,Int.add_sub_cancel]
 rw [e,Int.natCast_mul]
 exact aq (by rw [aV h1,aV h2];rfl) rfl
theorem l8 {G:ag} {F:FEnv} {O:MEnv} {b:Bool} {i j k:Nat} {L a nn:Nat} (h0:ev G F O true (.var i)=some (.int ((L+a:Nat):Int))) (h1:ev G F O true (.var j)=some (.int (L:Int))) (h2:ev G F O true (.var k)=some (.int (nn:Int))) (ha:a<=1000000) (hn:nn<=1000000):ev G F O b (.bin .Mult (.bin .Sub (.var i) (.var j)) (.var k))=some (.int ((a * nn:Nat):Int)) :=
 af (af h0 h1 rfl) h2 (sK ha hn)
theorem rU {G:ag} {F:FEnv} {O:MEnv} {b:Bool} {i j:Nat} {L R:Int} (h1:ev G F O true (.var i)=some (.int L)) (h2:ev G F O true (.var j)=some (.int R)):ev G F O b (.cmp .Eq (.bin .Add (.var i) (.cst (.int 1))) (.var j))=some (.bool (L+1==R)) :=
 ad (af h1 rfl rfl) (ad h2 rfl)
theorem rm (L:Nat):(((L:Nat):Int)+1==((L+1:Nat):Int))=true:=beq_iff_eq.mpr rfl
theorem ou {L len:Nat} (h:2<=len):(((L:Nat):Int)+1==((L+len:Nat):Int))=false:=beq_eq_false_iff_ne.mpr λe=>by
 have:L+1=L+len:=Int.ofNat.inj e
 rw [<- Nat.add_left_cancel this] at h
 exact absurd h (by decide)
theorem cj {len:Nat} (h:2<=len):1<=len / 2/\1<=len - len / 2:=⟨Nat.div_pos h (by decide),Nat.sub_pos_of_lt (Nat.div_lt_self (Nat.lt_of_lt_of_le (by decide) h) (by decide))⟩
theorem ck {len k:Nat} (h:len<=2 ^ (k+1)):len / 2<=2 ^ k/\len - len / 2<=2 ^ k:=by
 rw [Nat.pow_succ] at h
 refine ⟨Nat.div_le_of_le_mul (Nat.mul_comm _ _▸h),Nat.sub_le_of_le_add ?_⟩
 cases Nat.lt_or_ge (len / 2) (2 ^ k) with
 |inl l=>exact Nat.le_trans (Nat.le_of_lt_succ (Nat.lt_mul_div_succ len (show 0<2 by decide))) (by show 2 * (len / 2)+1<=_;rw [Nat.two_mul,Nat.add_right_comm];exact Nat.add_le_add_right l _)
 |inr l=>exact Nat.le_trans h (Nat.mul_two _▸Nat.add_le_add_left l _)
theorem gJ (L len:Nat):L+len / 2+(len - len / 2)=L+len:=(Nat.add_assoc _ _ _).trans (congrArg (L + ·) (Nat.add_sub_of_le (Nat.div_le_self _ _)))
variable [Jt:Tabs] [Jf:Frk]
theorem jF {env:Env} {r:List Stmt}:∀ (l:List Stmt),execs (l++r) env=execs l env >>= λf=>match f with | .next=>execs r env |f=>pure f
 | []=>rfl
 |st :: l=>by
  rw [List.cons_append,arm_execs_cons,arm_execs_cons,bind_assoc]
  refine congrArg (exec st env >>= ·) (funext λf=> ?_)
  cases f with
  |next=>exact jF l
  |_=>rfl
theorem tm {M:Model} {A:Around} {E:Value->Shared->Prop} {env:Env} {l r:List Stmt} {Q:Flow->Shared->Prop} {s:Shared} (h:wpAny M A (execs l env) (λf s'=>match f with | .next=>wpAny M A (execs r env) Q E s' |f=>Q f s') E s):wpAny M A (execs (l++r) env) Q E s:=by
 rw [jF]
 refine wpAny_bind (wpAny_mono h (λf s' h'=> ?_) λZz Zz e=>e)
 cases f with
 |next=>exact h'
 |_=>exact wpAny_pure h'
theorem fx {prog:Program} {w:World} {A:Around} {E:Value->Shared->Prop} {s:Shared} {env:Env} {g:Str} {gp cp pos:Pos} {args:List Expr} {Q:Flow->Shared->Prop} (hk:env.scope.kind = .function) (h:wpAny (model prog w) A (eval (.Call (.Name g gp) args [] cp) env) (λv s'=>v = .none/\Q .next s') E s) :
  wpAny (model prog w) A (exec (.Expr (.Call (.Name g gp) args [] cp) pos) env) Q E s:=by
 refine wpAny_Expr (wpAny_mono h (λv s' hv=> ?_) λZz Zz e=>e) (by unfold interactive;rw [hk];rfl) rfl
 rw [hv.1];exact hv.2
section
variable {X:Wd} {sc:Scope} {mg mb:Str->Option Value} {O:MEnv}
theorem nZ {M:Model} {A:Around} {E:Value->Shared->Prop} {s:Shared} {env:Env} {cm:Str->Option Value} {x:Str} {c:Addr} {v:Value} {pos:Pos} {Q:Value->Shared->Prop} (hk:env.scope.kind = .function) (hv:s.heap.IsCell c (cm x)) (hl:celK (env.scope.names.lookup x)=true) (hc:env.cells.lookup x=some c) (hx:cm x=some v) (h1:(x==("__debug__":Str))=false) (h2:(x==("__classdict__":Str))=false) (hQ:Q v s) :
  wpAny M A (eval (.Name x pos) env) Q E s:=by
 rw [hx] at hv
 have e:env.kindOf x=some .cell\/env.kindOf x=some .free:=by
  show env.scope.names.lookup x=some .cell\/env.scope.names.lookup x=some .free
  cases hk:env.scope.names.lookup x with
  |none=>rw [hk] at hl;exact nomatch hl
  |some k =>
   rw [hk] at hl
   cases k with
   |cell=>exact .inl rfl
   |free=>exact .inr rfl
   |_=>exact nomatch hl
 exact e.elim (λe=>wpAny_Name (wpAny_loadName_cell hk e hc hv hQ) h1) λe=>wpAny_Name (wpAny_loadName_free hk e hc hv hQ h2) h1
theorem cU {t:T} {es:List Expr} (ha:AS X sc t es) (p:At X sc O) {cm:Str->Option Value} {c f:Addr} (hv:p.s.heap.IsCell c (cm ("inner":Str))) {q pos:Pos} {E:Value->Shared->Prop} {ds:List D} {Q:Value->Shared->Prop} (hl:celK (p.env.scope.names.lookup ("inner":Str))=true) (hc:p.env.cells.lookup ("inner":Str)=some c) (hx:cm ("inner":Str)=some (.ref f))
  {o:Obj} {fd:FuncData} (ho:p.s.heap.get? f=some o) (hfd:o.data = .func fd) (hd:ev X.G X.F O true t=some (.tup ds)) (hs:ds.all (·.scalar)=true)
  (hQ:∀ h' vs tk,Kp p.s.heap h'->DenL h' (λZz=>False) ds vs->wpAny (model X.P X.w) p.A (call (.ref f) vs) Q E {p.s with heap:=h',toks:=tk}):wpAny (model X.P X.w) p.A (eval (.Call (.Name ("inner":Str) q) es [] pos) p.env) Q E p.s:=by
 refine wpAny_Call_ofName (nZ p.R.ok.kind hv hl hc hx (by decide) (by decide) ?_)
 exact PySem.Calls.callWith_function (o:=o) (fd:=fd) (bv ha p hd λvs h' tk k' dl=>⟨⟨k'.ob ho (.inl (bi hfd)),hfd⟩,hQ h' vs tk k' (DenRL.free dl)⟩)
end
theorem SR.far {env:Env} {tbl:List Str} {Mu Ex:Addr->Prop} {ow:Nat->Addr} {O:MEnv} {h h':Heap} {D:Addr} (S:SR env tbl Mu Ex ow O h) (k:KD D h h') {items items':Array Value} (pl:h.PlainList D items) (pl':h'.PlainList D items')
  (hs:∀ i d b,getE O i=some (d,b)->d.scalar=true/\b=false):SR env tbl Mu Ex ow O h':=by
 obtain ⟨⟨ok,nd,lt,own,m,cm,F,hv⟩,mu,fr,ho,hi⟩:=S
 obtain ⟨n1,n2⟩:=iC F pl
 refine ⟨⟨ok,nd,λb hb=> ?_,own,m,cm,⟨k.ns F.ns n1.symm,λx c e=>k.cell (F.cell x c e) λq=>n2 x (q▸e),F.offL,F.inj,F.has⟩,λi x d b h1 h2 h3=> ?_⟩,mu,fr,ho,hi⟩
 ·by_cases q:b=D
  ·exact q▸PL.al pl'
  ·obtain ⟨o,e⟩:=lt b hb;exact (k.kp b o q e).al
 ·obtain ⟨v,e1,e2,e3⟩:=hv i x d b h1 h2 h3
  obtain ⟨q1,q2⟩:=hs i d b h2
  subst q2
  exact ⟨v,e1,Den.scal q1 e2,e3⟩
end Mine
namespace Mine
theorem bc {O:MEnv} {i:Nat} {d:D} {x:Bool} (h:i<O.length):getE (setE O i d x) i=some (d,x):=by
 unfold getE setE
 rw [List.getElem?_set_self h];rfl
theorem aR {O:MEnv} {i j:Nat} {d:D} {x:Bool} (h:i≠j):getE (setE O i d x) j=getE O j:=by
 unfold getE setE
 rw [List.getElem?_set_ne h]
theorem setE_len {O:MEnv} {i:Nat} {d:D} {x:Bool}:(setE O i d x).length=O.length:=List.length_set
theorem bF {O:MEnv} {i:Nat}:(clearE O [i]).length=O.length:=List.length_set
theorem fC {O:MEnv} {i j:Nat} (h:j≠i):getE (clearE O [i]) j=getE O j:=by
 show getE (O.set i none) j=_
 unfold getE
 rw [List.getElem?_set_ne (Ne.symm h)]
section
variable {G:ag} {F:FEnv} {O:MEnv} {b:Bool} {x y z d:D} {a c e t u:T}
theorem ab {i:Nat} (h:getE O i=some (d,false)):ev G F O b (.var i)=some d:=ad h rfl
theorem aX {i:Nat} {x:Bool} (h:getE O i=some (d,x)):ev G F O true (.var i)=some d:=ad h (by
 cases x with
 |true=>rfl
 |false=>rfl)
theorem eW (h:d.scalar=true):ev G F O b (.cst d)=some d:=aq h rfl
theorem ak {i:Int}:ev G F O b (.cst (.int i))=some (.int i):=rfl
theorem bN {i:Str}:ev G F O b (.cst (.str i))=some (.str i):=rfl
theorem ao:ev G F O b (.cst .none)=some .none:=rfl
theorem mF {op:UnaryOp} (h:ev G F O true a=some x) (k:unD op x=some d):ev G F O b (.un op a)=some d:=ad h k
theorem aj {op:CmpOp} {r:Bool} (h1:ev G F O true a=some x) (h2:ev G F O true c=some y) (h:cmpD op x y=some r):ev G F O b (.cmp op a c)=some (.bool r):=ad h1 (ad h2 (aQ h rfl))
theorem ki {r:Bool} (h:ev G F O true c=some x) (ht:truthy x=some r) (h1:r=true->ev G F O b t=some d) (h2:r=false->ev G F O b u=some d):ev G F O b (.ite c t u)=some d:=ad h (ad ht (by
 cases r with
 |true=>exact h1 rfl
 |false=>exact h2 rfl))
theorem qj {r s:Bool} (h1:ev G F O b a=some (.bool r)) (h2:r=false->ev G F O b c=some (.bool s)):ev G F O b (.bop .Or a c)=some (.bool (r || s)):=ad h1 (by
 cases r with
 |true=>rfl
 |false=>exact h2 rfl)
theorem qi:ev G F O b .nil=some (.tup []):=rfl
theorem aB (h1:ev G F O b a=some x):ev G F O b (.cons a .nil)=some (.tup [x]):=aW h1 rfl
theorem aC (h1:ev G F O b a=some x) (h2:ev G F O b c=some y):ev G F O b (.cons a (.cons c .nil))=some (.tup [x,y]):=aW h1 (aB h2)
theorem fP (h1:ev G F O b a=some x) (h2:ev G F O b c=some y) (h3:ev G F O b e=some z):ev G F O b (.cons a (.cons c (.cons e .nil)))=some (.tup [x,y,z]):=aW h1 (aC h2 h3)
theorem ah {n:Nat} (h:n<=1048576):sizeOk n=true:=decide_eq_true h
theorem bP {es:T} {xs:List D} (h:ev G F O false es=some (.tup xs)) (hl:sizeOk xs.length=true:=by rfl):ev G F O b (.list es)=some (.list xs):=ad h (aq hl rfl)
theorem a8 {es:T} {xs:List D} (h:ev G F O false es=some (.tup xs)) (hl:sizeOk xs.length=true:=by rfl):ev G F O b (.tup es)=some (.tup xs):=ad h (aq hl rfl)
theorem aD {i:T} (h1:ev G F O true a=some x) (h2:ev G F O true i=some y) (h:idxD x y=some d):ev G F O b (.idx a i)=some d:=ad h1 (ad h2 h)
theorem a7 {l s:T} {l' u' s':D} (h1:ev G F O true a=some x) (h2:ev G F O true l=some l') (h3:ev G F O true u=some u') (h4:ev G F O true s=some s') (h:sliD x l' u' s'=some d):ev G F O b (.sli a l u s)=some d:=ad h1 (ad h2 (ad h3 (ad h4 h)))
theorem au {f:Str} {ds:List D} (h:ev G F O false t=some (.tup ds)) (k:F f ds=some d):ev G F O b (.call f t)=some d:=ad h k
theorem yy {f:Str} {ds:List D} (h:ev G F O true t=some (.tup ds)) (k:F f ds=some d) (hs:d.scalar=true):ev G F O b (.callb f t)=some d:=ad h (ad (a:=ds) rfl (ad k (aq hs rfl)))
theorem aG {f:BF} {ds:List D} (h:ev G F O true t=some (.tup ds)) (k:bltD f ds=some d):ev G F O b (.blt f t)=some d:=ad h k
theorem bd {m:MF} {ds:List D} (h1:ev G F O true a=some x) (h:ev G F O true t=some (.tup ds)) (k:methD m x ds=some d):ev G F O b (.meth m a t)=some d:=ad h1 (ad h k)
theorem mE {n:Str} {i:Int} {l:List (Int×Str)} (h:ev G F O true t=some (.int i)) (k:ev G F O true u=some x) (hl:G.idict n=some l) (hx:x.scalar=true):ev G F O b (.dget n t u)=some ((l.lookup i).elim x .str):=ad h (ad (a:=i) rfl (ad k (ad hl (aq hx rfl))))
theorem yz {n:Str} {i:Int} {l:List Int} (h:ev G F O true t=some (.int i)) (hl:G.iset n=some l):ev G F O b (.inset n t)=some (.bool (l.contains i)):=ad h (ad (a:=i) rfl (aQ hl rfl))
end
section
variable {G:ag} {F:FEnv} {O O':MEnv} {a b e rest:S} {d x y z:D} {r:Option (MEnv×Out)}
theorem az (h:ex G F O a=some (O',.ret d)):ex G F O (.seq a b)=some (O',.ret d):=ad h rfl
theorem xa (h:ex G F O a=some (O',.brk)):ex G F O (.seq a b)=some (O',.brk):=ad h rfl
theorem aN {t:T} (h:ev G F O false t=some d):ex G F O (.seq (.ret t) b)=some (O,.ret d):=ad (aQ h rfl) rfl
theorem aJ {c:T} (h:ev G F O true c=some x) (ht:truthy x=some true) (k:ex G F O a=r):ex G F O (.ifs c a e)=r:=ad h (ad ht k)
theorem a6 {c:T} (h:ev G F O true c=some x) (ht:truthy x=some false) (k:ex G F O e=r):ex G F O (.ifs c a e)=r:=ad h (ad ht k)
theorem qQ {is:List Nat} {t:T} {ds:List D} (h:ev G F O false t=some (.tup ds)) (k:setAll O is ds=some O'):ex G F O (.unp is t)=some (O',.next):=ad h (aQ k rfl)
theorem eJ {is:List (Nat×Bool)} {t:T} {ds:List D} (h:ev G F O false t=some (.tup ds)) (hf:freshAll is t ds=true) (k:setMulti O is ds=some O'):ex G F O (.multi is t)=some (O',.next):=ad h (aq hf (aQ k rfl))
theorem zl {i:Nat} {t:T} {xs:List D} (h:own? O i=some xs) (k:ev G F O false t=some d):ex G F O (.app i t)=some (setE O i (.list (xs++[d])) true,.next):=ad h (aQ k rfl)
theorem kV {i:Nat} {op:Operator} {t:T} {m n:Int} (h:getE O i=some (.int m,false)) (k:ev G F O true t=some (.int n)) (ho:augOk op=true) (hd:binD op (.int m) (.int n)=some d):ex G F O (.aug i op t)=some (setE O i d false,.next):=ad h (ad (a:=m) rfl (ad k (ad (a:=n) rfl (gH (c:=(false || !augOk op)=true) (by rw [ho];decide) (aQ hd rfl)))))
theorem aH {n:Nat} {ds:List D} (O:MEnv) (hs:ds.map (λd=>some (d,false))++List.replicate (n - ds.length) none=O) (h:ex G F O a=some (O',.ret d)):run G F n a ds=some d:=by
 unfold run
 rw [hs];exact ad h rfl
theorem en {i:Nat} {xs:List D} (h:getE O i=some (.list xs,true)) (hs:sizeOk xs.length=true):own? O i=some xs:=ad h (ad (a:=xs) rfl (aq (c:=(true&&sizeOk xs.length)=true) hs rfl))
theorem gk {i:Nat} {t:T} {xs:List D} (h:getE O i=some (.list xs,true)) (hs:sizeOk xs.length=true) (hv:ev G F O false t=some d) (k:ex G F (setE O i (.list (xs++[d])) true) rest=r):ex G F O (.seq (.app i t) rest)=r:=an (zl (en h hs) hv) k
theorem AH {i:Nat} {xs:List D} (h:getE O i=some (.list xs,true)) (hs:sizeOk xs.length=true) (k:ex G F (setE O i (.list xs.reverse) true) rest=r):ex G F O (.seq (.revm i) rest)=r:=an (aQ (en h hs) rfl) k
theorem wh {i:Nat} {t:T} {xs ys:List D} (h:getE O i=some (.list xs,true)) (hs:sizeOk xs.length=true) (hv:ev G F O false t=some (.list ys)) (hy:sizeOk ys.length=true) (k:ex G F (setE O i (.list (xs++ys)) true) rest=r):ex G F O (.seq (.ext i t) rest)=r:=an (ad (en h hs) (ad hv (ad (a:=ys) rfl (aq hy rfl)))) k
theorem aE {i:Nat} {e:T} (h:ev G F O false e=some d) (k:ex G F (setE O i d false) rest=r):ex G F O (.seq (.asg i false e) rest)=r:=an (c8 h) k
theorem cH {i:Nat} {e:T} (h:ev G F O false e=some d) (hf:freshT e d=true) (k:ex G F (setE O i d true) rest=r):ex G F O (.seq (.asg i true e) rest)=r:=an (nK h hf) k
theorem bu (k:ex G F O rest=r):ex G F O (.seq .skip rest)=r:=an rfl k
theorem bU {c:T} (h:ev G F O true c=some x) (ht:truthy x=some false) (k:ex G F O (.seq e rest)=r):ex G F O (.seq (.ifs c a e) rest)=r:=(congrArg (λo:Option (MEnv×Out)=>o.bind λp=>cond p.2.isNext (ex G F p.1 rest) (some p)) (a6 h ht rfl)).trans k
theorem Bv {c:T} (h:ev G F O true c=some x) (ht:truthy x=some true) (k:ex G F O (.seq a rest)=r):ex G F O (.seq (.ifs c a e) rest)=r:=(congrArg (λo:Option (MEnv×Out)=>o.bind λp=>cond p.2.isNext (ex G F p.1 rest) (some p)) (aJ h ht rfl)).trans k
theorem iO {i j:Nat} {t:T} (h:ev G F O false t=some (.tup [x,y])) (k:ex G F (setE (setE O i x false) j y false) rest=r):ex G F O (.seq (.unp [i,j] t) rest)=r:=an (qQ h rfl) k
theorem mL {i j:Nat} {es:T} (h:ev G F O false es=some (.tup [x,y])) (hf:freshAll [(i,false),(j,false)] es [x,y]=true) (k:ex G F (setE (setE O i x false) j y false) rest=r):ex G F O (.seq (.multi [(i,false),(j,false)] es) rest)=r:=an (eJ h hf rfl) k
theorem vw {i j l:Nat} {es:T} (h:ev G F O false es=some (.tup [x,y,z])) (hf:freshAll [(i,false),(j,false),(l,false)] es [x,y,z]=true) (k:ex G F (setE (setE (setE O i x false) j y false) l z false) rest=r):ex G F O (.seq (.multi [(i,false),(j,false),(l,false)] es) rest)=r:=an (eJ h hf rfl) k
theorem vx {i j l m:Nat} {es:T} {u:D} (h:ev G F O false es=some (.tup [x,y,z,u])) (hf:freshAll [(i,false),(j,false),(l,false),(m,false)] es [x,y,z,u]=true) (k:ex G F (setE (setE (setE (setE O i x false) j y false) l z false) m u false) rest=r):ex G F O (.seq (.multi [(i,false),(j,false),(l,false),(m,false)] es) rest)=r:=an (eJ h hf rfl) k
end
noncomputable def bodyT (G:ag) (F:FEnv) (tg:List Nat) (one:Bool) (b:S):MEnv->D->Option (MEnv×Out):=λO d=>(bindT O tg one d).bind λO'=>ex G F O' b
theorem il {G:ag} {F:FEnv} {O O':MEnv} {tg:List Nat} {one:Bool} {k:IK} {it it2:T} {body els:S} {xs:List D} {o:Out} (he:enumOk one k=true) (hi:evI G F (freeze O it) false k it it2=some xs) (hl:loopL (bodyT G F tg one body) (freeze O it) xs=some (O',o)) :
  ex G F O (.fors tg one k it it2 body els)=o.aft (ex G F O' els) O':=gH (by rw [he];decide) (ad hi (ad hl rfl))
section
variable {G:ag} {F:FEnv} {O O':MEnv} {tg:List Nat} {one:Bool} {k:IK} {it it2:T} {body els rest:S} {xs:List D} {d:D} {r:Option (MEnv×Out)}
theorem cB (he:enumOk one k=true) (hi:evI G F (freeze O it) false k it it2=some xs) (hl:loopL (bodyT G F tg one body) (freeze O it) xs=some (O',.next)) (kk:ex G F O' rest=r):ex G F O (.seq (.fors tg one k it it2 body .skip) rest)=r:=an ((il he hi hl).trans rfl) kk
theorem AF {O2:MEnv} (he:enumOk one k=true) (hi:evI G F (freeze O it) false k it it2=some xs) (hl:loopL (bodyT G F tg one body) (freeze O it) xs=some (O',.next)) (ke:ex G F O' els=some (O2,.next)) (kk:ex G F O2 rest=r):ex G F O (.seq (.fors tg one k it it2 body els) rest)=r:=an ((il he hi hl).trans ke) kk
theorem AE (he:enumOk one k=true) (hi:evI G F (freeze O it) false k it it2=some xs) (hl:loopL (bodyT G F tg one body) (freeze O it) xs=some (O',.brk)) (kk:ex G F O' rest=r):ex G F O (.seq (.fors tg one k it it2 body els) rest)=r:=an ((il he hi hl).trans rfl) kk
theorem AG (he:enumOk one k=true) (hi:evI G F (freeze O it) false k it it2=some xs) (hl:loopL (bodyT G F tg one body) (freeze O it) xs=some (O',.ret d)):ex G F O (.seq (.fors tg one k it it2 body els) rest)=some (O',.ret d):=az ((il he hi hl).trans rfl)
end
section
variable {f:MEnv->D->Option (MEnv×Out)} {O O':MEnv} {x d:D} {xs:List D}
theorem aw {r:Option (MEnv×Out)} (h:f O x=some (O',.next)) (k:loopL f O' xs=r):loopL f O (x :: xs)=r:=ad h k
theorem rE (h:f O x=some (O',.brk)):loopL f O (x :: xs)=some (O',.brk):=ad h rfl
theorem rF (h:f O x=some (O',.ret d)):loopL f O (x :: xs)=some (O',.ret d):=ad h rfl
end
theorem jC {α:Type} {f:D->Option (Option D)} {inj:α->D} {c:α->Bool} {y:α->D}:∀ {l:List α},(∀ a∈l,f (inj a)=some (cond (c a) (some (y a)) none))->compL f (l.map inj)=some ((l.filter c).map y)
 | [],_=>rfl
 |a :: l,h=>ad (h a List.mem_cons_self) (aQ (jC λb hb=>h b (List.mem_cons_of_mem _ hb)) (by
  rw [List.filter_cons]
  cases c a
  ·rfl
  ·rfl))
section
variable {G:ag} {F:FEnv} {O:MEnv} {elt it it2 cnd:T} {k:IK} {b:Bool} {α:Type} {inj:α->D} {l:List α}
theorem kU {tg locs:List Nat} {one:Bool} {τ:α->MEnv} {c:α->Bool} {y:α->D} (he:enumOk one k=true) (hf:feedD k (ev G F O true it) (ev G F O true it2)=some (l.map inj)) (hb:∀ a∈l,bindT (clearE O locs) tg one (inj a)=some (τ a))
  (hc:∀ a∈l,∃ x,ev G F (τ a) true cnd=some x/\truthy x=some (c a)) (hy:∀ a∈l,c a=true->ev G F (τ a) false elt=some (y a)):ev G F O b (.comp elt tg one k it it2 cnd locs)=some (.list ((l.filter c).map y)) :=
 gH (by rw [he];decide) (ad hf (aQ (jC λa ha=>by
  obtain ⟨x,hx,htx⟩:=hc a ha
  refine ad (hb a ha) (ad hx (ad htx ?_))
  cases e:c a with
  |false=>rfl
  |true=>exact aQ (hy a ha e) rfl) rfl))
theorem lb (l:List α):(l.filter λZz=>true)=l:=List.filter_eq_self.mpr λZz Zz=>rfl
theorem tX {tg locs:List Nat} {one:Bool} {τ:α->MEnv} {y:α->D} (he:enumOk one k=true) (hf:feedD k (ev G F O true it) (ev G F O true it2)=some (l.map inj)) (hb:∀ a∈l,bindT (clearE O locs) tg one (inj a)=some (τ a))
  (hy:∀ a∈l,ev G F (τ a) false elt=some (y a)):ev G F O b (.comp elt tg one k it it2 (.cst (.bool true)) locs)=some (.list (l.map y)) :=
 (kU (c:=λZz=>true) (y:=y) he hf hb (λa Zz=>⟨_,rfl,rfl⟩) (λa ha Zz=>hy a ha)).trans (by rw [lb])
theorem ft {i:Nat} {c:α->Bool} {y:α->D} (he:enumOk true k=true) (hf:feedD k (ev G F O true it) (ev G F O true it2)=some (l.map inj)) (hi:i<O.length)
  (hc:∀ a∈l,∀ O',getE O' i=some (inj a,false)->(∀ j,j≠i->getE O' j=getE O j)->O'.length=O.length->(∃ x,ev G F O' true cnd=some x/\truthy x=some (c a))/\(c a=true->ev G F O' false elt=some (y a))) :
  ev G F O b (.comp elt [i] true k it it2 cnd [i])=some (.list ((l.filter c).map y)):=by
 have hs:∀ a∈l,_:=λa ha=>hc a ha (setE (clearE O [i]) i (inj a) false) (bc (by rw [bF];exact hi)) (λj hj=>(aR (Ne.symm hj)).trans (fC hj)) (setE_len.trans bF)
 exact kU (τ:=λa=>setE (clearE O [i]) i (inj a) false) he hf (λa Zz=>rfl) (λa ha=>(hs a ha).1) (λa ha=>(hs a ha).2)
theorem bV {i:Nat} {c:α->Bool} {y:α->D} (he:enumOk true k=true) (hf:feedD k (ev G F O true it) (ev G F O true it2)=some (l.map inj)) (hi:i<O.length)
  (hc:∀ a∈l,∀ O',getE O' i=some (inj a,false)->(∀ j,j≠i->getE O' j=getE O j)->O'.length=O.length->ev G F O' true cnd=some (.bool (c a))/\(c a=true->ev G F O' false elt=some (y a))) :
  ev G F O b (.comp elt [i] true k it it2 cnd [i])=some (.list ((l.filter c).map y)) :=
 ft he hf hi λa ha O' h1 h2 h3=>⟨⟨_,(hc a ha O' h1 h2 h3).1,rfl⟩,(hc a ha O' h1 h2 h3).2⟩
theorem aU {i:Nat} {y:α->D} (he:enumOk true k=true) (hf:feedD k (ev G F O true it) (ev G F O true it2)=some (l.map inj)) (hi:i<O.length)
  (hy:∀ a∈l,∀ O',getE O' i=some (inj a,false)->(∀ j,j≠i->getE O' j=getE O j)->O'.length=O.length->ev G F O' false elt=some (y a)) :
  ev G F O b (.comp elt [i] true k it it2 (.cst (.bool true)) [i])=some (.list (l.map y)) :=
 (bV (c:=λZz=>true) (y:=y) he hf hi (λa ha O' h1 h2 h3=>⟨rfl,λZz=>hy a ha O' h1 h2 h3⟩)).trans (by rw [lb])
end
theorem dO:∀ (n a:Nat),rangeD (a:Int) n=(List.range' a n).map λi:Nat=>D.int (i:Int)
 |0,a=>rfl
 |n+1,a=>congrArg (D.int a :: ·) (dO n (a+1))
theorem pX (n:Nat):rangeD 0 n=(List.range n).map λi:Nat=>D.int (i:Int):=by
 rw [List.range_eq_range']
 exact dO n 0
theorem cE {n:Nat} (h:n<=1048576):idxOk (n:Int)=true:=decide_eq_true (Nat.lt_of_le_of_lt h (by decide))
theorem db {xs:List D} {i:Nat} {d:D} (h:xs[i]? = some d) (hl:xs.length<=1048576):idxL xs (i:Int)=some d :=
 aq (cE (Nat.le_trans (Nat.le_of_lt (List.getElem?_eq_some_iff.mp h).1) hl)) ((if_pos (Int.natCast_nonneg i)).trans h)
theorem ju {α:Type} [BEq α] {f:D->D->Option Bool} {inj:α->D} (h:∀ a b,f (inj a) (inj b)=some (a==b)):∀ {xs ys:List α},xs.length=ys.length->allEq f (xs.map inj) (ys.map inj)=some (xs==ys)
 | [],[],_=>rfl
 |x :: xs,y :: ys,hl=>ad (h x y) (aQ (ju h (Nat.succ.inj hl)) rfl)
 | [],_ :: _,hl=>nomatch hl
 |_ :: _,[],hl=>nomatch hl
theorem kS {α:Type} [BEq α] [LawfulBEq α] {inj:α->D} (h:∀ a b,eqN 3 (inj a) (inj b)=some (a==b)) (xs ys:List α):eqD (.list (xs.map inj)) (.list (ys.map inj))=some (xs==ys):=by
 show (if (xs.map inj).length=(ys.map inj).length then allEq (eqN 3) (xs.map inj) (ys.map inj) else some false)=_
 rw [List.length_map,List.length_map]
 by_cases hl:xs.length=ys.length
 ·rw [if_pos hl];exact ju h hl
 ·rw [if_neg hl,beq_eq_false_iff_ne.mpr λ(q:xs=ys)=>hl (congrArg List.length q)]
theorem tV (xs ys:List Int):eqD (.list (xs.map .int)) (.list (ys.map .int))=some (xs==ys):=kS (λZz Zz=>rfl) xs ys
theorem qq {xs ys:List D} (h1:xs.length<=1048576) (h2:ys.length<=1048576):binD .Add (.list xs) (.list ys)=some (.list (xs++ys)):=aq (c:=(sizeOk xs.length&&sizeOk ys.length)=true) (by rw [ah h1,ah h2];rfl) rfl
theorem pj {a b:Int} (h:b≠0):binD .Mod (.int a) (.int b)=some (.int (a.fmod b)):=gH (λq=>h (beq_iff_eq.mp q)) rfl
theorem AW {a b:Int} (h:b≠0) (hs:small b=true):binD .FloorDiv (.int a) (.int b)=some (.int (a.fdiv b)):=gH (c:=(b==0 || !small b)=true) (by rw [beq_eq_false_iff_ne.mpr h,hs];decide) rfl
theorem cM {a b:Int} (h1:small a=true) (h2:small b=true):binD .Mult (.int a) (.int b)=some (.int (a * b)):=aq (c:=(small a&&small b)=true) (by rw [h1,h2];rfl) rfl
theorem pk {a:Int} {n:Nat} (h1:small a=true) (h2:n<=1000000):binD .LShift (.int a) (.int (n:Int))=some (.int (a * 2 ^ n)):=aq (c:=(decide (0<=(n:Int))&&decide ((n:Int).toNat<=1000000)&&small a)=true) (by rw [decide_eq_true (Int.natCast_nonneg n),h1,decide_eq_true (show (n:Int).toNat<=1000000 from h2)];rfl) rfl
theorem AZ {a b:Int} (h:0<=b):binD .RShift (.int a) (.int b)=some (.int (a.fdiv (2 ^ b.toNat))):=aq (decide_eq_true h) rfl
theorem AX {a b:Int} (h:0<=b) (h2:b.toNat<=1000000) (h3:a.natAbs<18446744073709551616):binD .Pow (.int a) (.int b)=some (.int (a ^ b.toNat)):=aq (c:=(decide (0<=b)&&decide (b.toNat<=1000000)&&decide (a.natAbs<18446744073709551616))=true) (by rw [decide_eq_true h,decide_eq_true h2,decide_eq_true h3];rfl) rfl
theorem fT {xs:List D} (h:xs.length<=1048576):bltD .len [.list xs]=some (.int xs.length):=aq (ah h) rfl
theorem yZ {x:Str} (h:x.length<=1048576):bltD .len [.str x]=some (.int x.length):=aq (ah h) rfl
theorem tC {a b:Int} (h:b≠0) (hs:small b=true):bltD .divmod [.int a,.int b]=some (.tup [.int (a.fdiv b),.int (a.fmod b)]):=gH (c:=(b==0 || !small b)=true) (by rw [beq_eq_false_iff_ne.mpr h,hs];decide) rfl
theorem cD {xs:List D} (h:xs.length<=1048576):iterD (.list xs)=some xs:=aq (ah h) rfl
theorem bw {G:ag} {F:FEnv} {O:MEnv} {e it2:T} {d:D} {xs:List D} (h:ev G F O true e=some d) (hi:iterD d=some xs):feedD .plain (ev G F O true e) (ev G F O true it2)=some xs:=ad h hi
theorem c9 {G:ag} {F:FEnv} {O:MEnv} {e it2:T} {d:D} {xs:List D} (h:ev G F O false e=some d) (hi:iterD d=some xs):evI G F O false .plain e it2=some xs:=ad h hi
theorem oO {n:Nat} (hn:n<=1048576):rngD 0 (n:Int)=some ((List.range n).map λi:Nat=>D.int (i:Int)):=by
 rw [<- pX]
 have e:((n:Int) - 0).toNat=n:=by rw [Int.sub_zero];rfl
 unfold rngD
 rw [e]
 exact aq (c:=(sizeOk n&&idxOk (n:Int)&&idxOk 0)=true) (by rw [ah hn,cE hn];rfl) rfl
theorem b9 {G:ag} {F:FEnv} {O:MEnv} {e it2:T} {n:Nat} (h:ev G F O true e=some (.int (n:Int))) (hn:n<=1048576):feedD .range1 (ev G F O true e) (ev G F O true it2)=some ((List.range n).map λi:Nat=>D.int (i:Int)):=ad h (oO hn)
theorem zm {G:ag} {F:FEnv} {O:MEnv} {e it2:T} {xs:List D} (h:ev G F O false e=some (.list xs)) (hs:sizeOk xs.length=true):evI G F O false .rev e it2=some xs.reverse:=ad h (ad (a:=xs) rfl (aq hs rfl))
theorem gD {G:ag} {F:FEnv} {O:MEnv} {b:Bool} {e it2:T} {n:Nat} (h:ev G F O true e=some (.int (n:Int))) (hn:n<=1048576):evI G F O false .range1 e it2=some ((List.range n).map λi:Nat=>D.int (i:Int)):=ad h (oO hn)
theorem eU:∀ {ds:List Int},ints? (ds.map .int)=some ds
 | []=>rfl
 |d :: ds=>ad (a:=d) rfl (aQ eU rfl)
theorem j0:∀ {ts:List Str},strs? (ts.map .str)=some ts
 | []=>rfl
 |d :: ds=>ad (a:=d) rfl (aQ j0 rfl)
theorem vE {i:Int} (h:i.natAbs<18446744073709551616):bltD .hex [.int i]=some (.str (hexS i)):=aq (decide_eq_true h) rfl
theorem iy {x:Str} {ts:List Str} (h:sizeOk (x.length * ts.length+(ts.map (·.length)).sum)=true):methD .join (.str x) [.list (ts.map .str)]=some (.str (Txt.join x ts)):=ad (a:=ts) j0 (aq h rfl)
end Mine
namespace Mine
variable [Jt:Tabs] [Jf:Frk]
theorem zr {a b:Array Value} (h:Data.fields a=Data.fields b):a=b:=sm (congrArg (λd:Data=>match d with | .fields v=>some v |_=>none) h)
theorem TabV.triples {h:Heap} {b:Addr} {l:List Value} (T:TabV h b l):TriplesOk l:=by
 induction T with
 |nil=>trivial
 |cons _ _ _ _ _ ih=>exact ih
theorem TabV.among {h:Heap} {b:Addr} {pos:Pos} {cv:Value} {l:List Value} (T:TabV h b l) (e:codeAmong pos l=some cv):∃ a o vs t,cv = .ref a/\h.get? a=some o/\o.cls = .type "code"/\o.data = .fields vs/\vs[1]? = some (.str (Tabs.q pos.line pos.col) t):=by
 induction T with
 |nil=>exact ai e
 | @cons l c t u a o vs tq r e1 e2 e3 e4 T ih =>
  have e:(if (l==(pos.line:Int)&&c==pos.col)=true then some (Value.ref a) else codeAmong pos r)=some cv:=e
  cases hq:(l==(pos.line:Int)&&c==pos.col) with
  |true =>
   rw [hq] at e
   rw [<- sm e]
   exact aa hq λq1 q2=>⟨a,_,_,_,rfl,e1,e2,e3,by rw [<- beq_iff_eq.mp q1,<- beq_iff_eq.mp q2];exact e4⟩
  |false =>
   rw [hq] at e
   exact ih e
theorem sW {hB h:Heap} {P:Addr} (k:KB hB h) (e:hB.get? P=some (tabObj #[])):∃ ps:Array Value,h.get? P=some (tabObj ps)/\TabV h P ps.toList:=by
 rcases k.kp P _ e with g |⟨_,vs,more,_,e2,g,T⟩ |⟨_,es,n,sl,e2,_⟩
 ·exact ⟨#[],g,.nil⟩
 ·have e2:Data.fields #[]=Data.fields vs:=e2
  obtain rfl : #[]=vs:=zr e2
  exact ⟨#[]++more,g,by rw [Array.toList_append];exact T⟩
 ·exact nomatch (e2:Data.fields #[]=Data.dict es n)
theorem pA {hB h:Heap} {cd P:Addr} (k:KB hB h) (C:CodeHd hB cd P):CodeHd h cd P:=by
 obtain ⟨o,vs,file,tf,flags,tg,inF,text,tt,e,hc,r⟩:=C
 exact ⟨o,vs,file,tf,flags,tg,inF,text,tt,k.ob e (.inl (bh hc r.1)),hc,r⟩
section
variable {M:Model} {A:Around} {E:Value->Shared->Prop} {s:Shared} {name qual:Str} {params:Arguments} {body:List Stmt} {scope:Scope} {env:Env} {cd P:Addr} {ps:Array Value} {pos:Pos} {firstLine:Nat} {mg:Str->Option Value}
 {q:Str×Addr} {r:List (Str×Addr)} {Q:Value->Shared->Prop}
theorem rO (hcl:closureFor scope env=pure (q :: r)) (hge:env.globals=mainGlobals) (hg:s.heap.Ns mainGlobals mg) (hcode:env.code = .ref cd) (C:CodeHd s.heap cd P) (hP:s.heap.get? P=some (tabObj ps)) (T:TabV s.heap P ps.toList) (htb:Tabs.tb P) (hq:Tabs.q pos.line pos.col=qual)
  (hgP:mainGlobals≠P) (hb:s.heap.BuiltinsAt mg P) (hdoc:docOf body=none)
  (h:∀ f h' tk doc pm c' ct o oc vs t,Kp s.heap h'->s.heap.get? f=none->h'.get? f=some o->o.data = .func (fnX name qual params body scope (q :: r) .none .none doc pm none (.ref c') ct)->h'.get? c'=some oc->oc.cls = .type "code"->oc.data = .fields vs->vs[1]? = some (.str qual t) ->
   Q (.ref f) {s with heap:=h',toks:=tk}):wpAny M A (makeFunction name qual params (.stmts body) scope env [] [] [] pos firstLine) Q E s:=by
 cases ha:codeAmong pos ps.toList with
 |some cv =>
  obtain ⟨a,o,vs,t,rfl,e1,e2,e3,e4⟩:=T.among ha
  refine makeFunction_hit hcl hge hg hcode C hP T.triples ha hb λctv doc h' tk k sz=> ?_
  rw [hq] at e4
  refine h _ _ tk doc _ a ctv _ o vs t (Kp.trans (.of k) (Kp.push h' _)) (jd sz) (Heap.get?_push_size _ rfl) rfl (Heap.get?_push_of_some _ (k _ _ e1)) e2 e3 e4
 |none =>
  obtain ⟨bm,ob,hbm,hne0,Zz,hneP,hbo,hcls,hdict,hdata⟩:=hb
  rw [makeFunction_eq]
  simp only [List.zip_nil_right,List.filterMap_nil,List.isEmpty_nil,if_true,pure_bind]
  unfold makeTail
  rw [hcl,hge]
  refine wpAny_bind (wpAny_pure ?_)
  simp only [List.isEmpty_cons,Bool.false_eq_true,if_false]
  refine wpAny_bind (wpAny_newTextTuple ?_)
  have kk:∀ (o:Obj) b o',s.heap.get? b=some o'->(s.heap.push o).get? b=some o':=λo b o' e=>Heap.get?_push_of_some _ e
  refine wpAny_bind (wpAny_functionCodeX hcode ((C.keeps (kk _)).code (kk _ _ _ hP) T.triples) ((C.keeps (kk _)).tab (kk _ _ _ hP)) ha λc' h' tk hx hge' hlt Zz hrec htab hnew=> ?_)
  obtain ⟨P',Zz,Zz,⟨oc,vs',f1,f2,f3,Zz⟩,Zz⟩:=hnew
  obtain ⟨c2,oc2,vs2,t2,g1,g2,g3,g4⟩:=hrec
  obtain rfl:=Value.ref.inj g1
  obtain rfl:=sm (f1.symm.trans g2)
  obtain rfl:=zr (f3.symm.trans g3)
  have hx':Heap.ExtBut P s.heap h':=λb o hb' e=>hx b o hb' (kk _ _ _ e)
  have hg':=(hg.push _).extBut hx hgP
  refine wpAny_bind (wpAny_builtinsFor hg' hbm hne0 (hx' _ _ hneP hbo) hcls hdict hdata ?_)
  refine wpAny_bind (wpAny_nsGet hg' ?_)
  rw [hdoc]
  refine wpAny_bind (wpAny_pure (wpAny_newObj_type ?_ (by size_fits)))
  have sz:s.heap.objs.size<=h'.objs.size:=by
   have h1:(s.heap.push {cls:= .type "tuple",data:= .seq _}).objs.size<=c':=hge'
   rw [Heap.size_push] at h1
   have h2:c'<h'.objs.size:=hlt
   exact Nat.le_of_lt (Nat.lt_of_lt_of_le (Nat.lt_of_lt_of_le (Nat.lt_succ_self _) h1) (Nat.le_of_lt h2))
  have kp:Kp s.heap h':=λb o e=>by
   by_cases hbP:b=P
   ·subst hbP
    obtain rfl:=sm (hP.symm.trans e)
    refine .inr (.inl ⟨htb,ps,_,rfl,rfl,htab.2,?_⟩)
    exact .cons f1 f2 f3 (by rw [hq];exact g4) .nil
   ·exact .inl (hx' b o hbP e)
  exact h _ _ tk _ _ c' _ _ oc _ t2 (kp.trans (Kp.push h' _)) (jd sz) (Heap.get?_push_size _ rfl) rfl (Heap.get?_push_of_some _ f1) f2 f3 g4
end
noncomputable abbrev inS:Str:="inner"
def RV (env:Env) (tbl:List Str) (Ex:Addr->Prop) (ow:Nat->Addr) (O:MEnv) (h:Heap) (m cm:Str->Option Value):Prop :=
 ∀ i x d b,tbl[i]? = some x->getE O i=some (d,b)->seen env.scope x=true->∃ v,valOf env m cm x=some v/\DenV h Ex b d v/\(b=true->v = .ref (ow i))
theorem RV.cell {env:Env} {tbl:List Str} {Ex:Addr->Prop} {ow:Nat->Addr} {O:MEnv} {h:Heap} {m cm:Str->Option Value} (V:RV env tbl Ex ow O h m cm) {i:Nat} {x:Str} {d:D} {b:Bool} (h1:tbl[i]? = some x) (h2:getE O i=some (d,b)) (hk:env.scope.names.lookup x=some .cell):∃ v,cm x=some v/\DenV h Ex b d v/\(b=true->v = .ref (ow i)):=by
 obtain ⟨v,e,r⟩:=V i x d b h1 h2 (by unfold seen;rw [hk];rfl)
 unfold valOf Env.kindOf at e
 rw [hk] at e
 exact ⟨v,e,r⟩
theorem SR.re {env:Env} {tbl:List Str} {Mu Ex:Addr->Prop} {ow:Nat->Addr} {O:MEnv} {h h':Heap} {m cm:Str->Option Value} (S:SR env tbl Mu Ex ow O h) (lt:∀ b,Ex b->Al h' b) (F:FrM env h' m cm) (V:RV env tbl Ex ow O h' m cm):SR env tbl Mu Ex ow O h' :=
 ⟨⟨S.rr.ok,S.rr.nd,lt,S.rr.own,m,cm,F,V⟩,S.mu,S.fr,S.own,S.inj⟩
theorem sQ {prog:Program} {w:World} {A:Around} {E:Value->Shared->Prop} {s:Shared} {env:Env} {tbl:List Str} {Mu Ex:Addr->Prop} {ow:Nat->Addr} {O:MEnv} {x:Str} {c:Addr} {v:Value} {Q:Unit->Shared->Prop} (S:SR env tbl Mu Ex ow O s.heap) (hx:x∉tbl) (hk:env.scope.names.lookup x=some .cell) (hc:env.cells.lookup x=some c)
  (P:∀ h' m cm,SR env tbl Mu Ex ow O h'->FrM env h' m cm->RV env tbl Ex ow O h' m cm->cm x=some v->Heap.SameBut c s.heap h'->Q () {s with heap:=h'}):wpAny (model prog w) A (storeName env x v) Q E s:=by
 obtain ⟨m,cm,F,V⟩:=S.rr.fr
 refine wpAny_storeName_cell S.rr.ok.kind hk hc (F.cell x c hc) λh' hc' sb=> ?_
 have kk:∀ b o,b≠c->s.heap.get? b=some o->h'.get? b=some o:=λb o n e=>sb.extBut b o n e
 have F':FrM env h' m (λy=>if y=x then some v else cm y):=⟨F.ns.at' λo e=>kk _ o (F.offL x c hc).symm e,λy cy hy=>by
  by_cases q:y=x
  ·rw [if_pos q]
   obtain rfl:=sm ((q▸hc).symm.trans hy)
   exact hc'
  ·rw [if_neg q]
   obtain ⟨o,e1,e2⟩:=F.cell y cy hy
   exact ⟨o,kk cy o (λe=>q (F.inj y x cy hy (e▸hc))) e1,e2⟩,F.offL,F.inj,F.has⟩
 have kf:KF (· = x) env s.heap h':=⟨λb o Zz n e=> .inl (kk b o (λq=>n x rfl (q▸hc)) e),Cd.sb kk (λo e vs q=>let ⟨o',e1,e2⟩:=F.cell x c hc;nomatch e2.symm.trans ((congrArg Obj.data (sm (e1.symm.trans e))).trans q)) λ⟨o,es,n,e1,e2⟩=>let ⟨o',e3,e4⟩:=F.cell x c hc;nomatch e4.symm.trans ((congrArg Obj.data (sm (e3.symm.trans e1))).trans e2)⟩
 have V':RV env tbl Ex ow O h' m (λy=>if y=x then some v else cm y):=λi y d b h1 h2 h3=>by
  obtain ⟨u,e1,e2,e3⟩:=V i y d b h1 h2 h3
  refine ⟨u,?_,dW F S.rr.own kf e2,e3⟩
  unfold valOf at e1 ⊢
  show valK (m y) (if y=x then some v else cm y) _=_
  rw [if_neg λ(q:y=x)=>hx (q▸List.mem_of_getElem? h1)]
  exact e1
 refine P h' m _ (S.re (λb hb=> ?_) F' V') F' V' (if_pos rfl) sb
 by_cases q:b=c
 ·obtain ⟨o,e,Zz⟩:=hc';exact ⟨o,q▸e⟩
 ·obtain ⟨o,e⟩:=S.rr.lt b hb;exact ⟨o,kk b o q e⟩
section
variable {X:Wd} {sc isc:Scope} {O:MEnv} {mg mb:Str->Option Value}
def HasB (mg:Str->Option Value) (h:Heap):Prop:=∃ bm o,mg "__builtins__"=some (.ref bm)/\bm≠builtinsNs/\bm≠mainGlobals/\h.get? bm=some o/\o.cls = .type "module"/\o.dict=some builtinsNs/\o.data = .plain
theorem HasB.at {h hB:Heap} (k:KB hB h) {P:Addr} (hP:hB.get? P=some (tabObj #[])) (x:HasB mg hB):h.BuiltinsAt mg P:=by
 obtain ⟨bm,o,b1,b2,b3,b4,b5,b6,b7⟩:=x
 refine ⟨bm,o,b1,b2,b3,λq=> ?_,k.ob b4 (.inl (rk b5 b7)),b5,b6,b7⟩
 have e:Data.plain=Data.fields #[]:=b7.symm.trans (congrArg Obj.data (sm (b4.symm.trans (q▸hP))))
 exact nomatch e
theorem qE (p:Ast X sc O) (B:X.Ok mg mb) (hbm:HasB mg X.hB) {cd T:Addr} (hcode:p.env.code = .ref cd) (h7:X.hB.IsCode cd T #[]) (h8:X.hB.TableAt cd T #[]) (htb:Tabs.tb T) {as:List Arg} {ib:List Stmt} {pd:Pos} {qual:Str} {q:Str×Addr} {r:List (Str×Addr)} (hann:as.all (·.annotation.isNone)=true) (hdoc:docOf ib=none)
  (hqn:qualnameIn p.env inS inS=qual) (hq:Tabs.q pd.line pd.col=qual) (hl:sc.names.lookup inS=some .cell) (hx:inS∉X.c.tbl) {cI:Addr} (hc:p.env.cells.lookup inS=some cI) (hcl:closureFor isc p.env=pure (q :: r))
  (hsub:∀ z∈q :: r,p.env.cells.lookup z.1=some z.2/\isc.names.lookup z.1=some .free) (hfs:isc.names.all (λz=> !(z.2 == .free) || ((q :: r).lookup z.1).isSome)=true) {E:Value->Shared->Prop} {Q:Flow->Shared->Prop}
  (P:∀ h tk m cm f,SR p.env X.c.tbl p.Mu p.Ex p.ow O h->Gr p.s.heap p.Mu p.Ex p.Mu p.Ex h->FrM p.env h m cm->RV p.env X.c.tbl p.Ex p.ow O h m cm->cm inS=some (.ref f)->Clo h f qual ⟨[],as,none,[],[],none,[]⟩ ib isc (q :: r) cm->Q .next {p.s with heap:=h,toks:=tk}) :
  wpAny (model X.P X.w) p.A (exec (.FunctionDef inS ⟨[],as,none,[],[],none,[]⟩ ib [] none [] isc none inS pd) p.env) Q E p.s:=by
 obtain ⟨ps,hP,TV⟩:=sW p.k h8.2
 have hk:p.env.scope.names.lookup inS=some .cell:=p.hsc.symm▸hl
 refine nestDef_K rfl rfl ?_ ?_
 ·have:as++[]++Option.toList none++[]++Option.toList none=as:=by rw [List.append_nil];exact (List.append_nil _).trans ((List.append_nil _).trans (List.append_nil _))
  show annotationsOf (as++[]++Option.toList none++[]++Option.toList none) p.env++_=_
  rw [this,lL p.env as hann];rfl
 rw [hqn]
 refine rO hcl p.S.rr.ok.glob (p.k.ns B.ns) hcode (pA p.k (CodeHd.of h7 h8)) hP TV htb hq (λe=> ?_) (hbm.at p.k h8.2) hdoc λf h1 tk1 doc pm c' ct o oc vs t k1 hfN f1 f2 f3 f4 f5 f6=> ?_
 ·obtain ⟨o',es,ep,e1,e2,Zz⟩:=B.ns
  have e:Data.dict es ep=Data.fields #[]:=e2.symm.trans (congrArg Obj.data (sm (e1.symm.trans (e▸h8.2))))
  exact nomatch e
 refine sQ (s:={p.s with heap:=h1,toks:=tk1}) (p.S.keep k1) hx hk hc λh2 m cm S2 F2 V2 hf sb=> ?_
 have kk:∀ b o,b≠cI->h1.get? b=some o->h2.get? b=some o:=λb o n e=>sb.extBut b o n e
 have muI:p.Mu cI:=p.S.fr.2 inS cI (by unfold storable;rw [hk];rfl) hc
 obtain ⟨m0,cm0,F0,Zz⟩:=(p.S.keep k1).rr.fr
 obtain ⟨oI,g1,g2⟩:=F0.cell _ cI hc
 have cd2:Cd h1 h2:=Cd.sb kk (λo e vs q=>nomatch g2.symm.trans ((congrArg Obj.data (sm (g1.symm.trans e))).trans q)) λ⟨o,es,n,e1,e2⟩=>nomatch g2.symm.trans ((congrArg Obj.data (sm (g1.symm.trans e1))).trans e2)
 have lk:∀ x c,(q :: r).lookup x=some c->p.env.cells.lookup x=some c/\isc.names.lookup x=some .free:=λx c e=>hsub (x,c) (PySem.mem_of_lookup e)
 refine P h2 tk1 m cm f S2 ⟨λZz e=> .inl e,λZz e=> .inl e,λZz e Zz=>e,λb o n e=>(k1 b o e).then (λo' e'=> .inl (kk b o' (λq=>n (q▸muI)) e')) cd2,k1.cd.trans cd2⟩ F2 V2 hf ⟨?_,λx c e=>F2.cell x c (lk x c e).1,λx y c e1 e2=>F2.inj x y c (lk x c e1).1 (lk y c e2).1,λx hx=> ?_,λx c e=>(lk x c e).2⟩
 ·refine ⟨o,doc,pm,c',ct,oc,vs,t,kk f o (λq=> ?_) f1,f2,kk c' oc (λq=> ?_) f3,f4,f5,f6⟩
  ·exact nomatch f2.symm.trans ((congrArg Obj.data (sm (f1.symm.trans (q▸g1)))).trans g2)
  ·exact nomatch f5.symm.trans ((congrArg Obj.data (sm (f3.symm.trans (q▸g1)))).trans g2)
 ·have:=List.all_eq_true.mp hfs _ (PySem.mem_of_lookup hx)
  exact Option.isSome_iff_exists.mp this
end
end Mine
namespace Mine
noncomputable def dig (n:Nat):Nat->Nat->Int->List Int
 |0,_,x=>[x]
 |f+1,len,x=>if len<=1 then [x] else dig n f (len / 2) (x.fmod (2 ^ (len / 2 * n)))++dig n f (len - len / 2) (x.fdiv (2 ^ (len / 2 * n)))
theorem fW (n f:Nat) (x:Int):dig n f 1 x=[x]:=by cases f<;>rfl
theorem fX (n f len:Nat) (x:Int) (h:2<=len):dig n (f+1) len x=dig n f (len / 2) (x.fmod (2 ^ (len / 2 * n)))++dig n f (len - len / 2) (x.fdiv (2 ^ (len / 2 * n))):=if_neg (Nat.not_le.mpr h)
theorem bZ (n:Nat):∀ (f len:Nat) (x:Int),1<=len->len<=2 ^ f->(dig n f len x).length=len
 |0,len,x,h1,h2=>Nat.le_antisymm h1 h2
 |f+1,len,x,h1,h2=>by
  rcases Nat.lt_or_ge 1 len with h |h
  ·rw [fX n f len x h,List.length_append,bZ n f _ _ (cj h).1 (ck h2).1,bZ n f _ _ (cj h).2 (ck h2).2]
   exact Nat.add_sub_cancel' (Nat.div_le_self _ _)
  ·obtain rfl:=Nat.le_antisymm h h1
   rw [fW];rfl
noncomputable def tb8:List Str:=["x","L","R","mid","shift","upper","lower","n"]
noncomputable def nm8:List (Str×NameKind):=[("x",.local),("L",.local),("R",.local),("mid",.local),("shift",.local),("upper",.local),("lower",.local),("a_digits",.free),("inner",.free),("n",.free)]
noncomputable def pms:List Str:=["x","L","R"]
noncomputable def adS:Str:="a_digits"
noncomputable def tI1:T:= .cmp .Eq (.bin .Add (.var 1) (.cst (.int 1))) (.var 2)
noncomputable def blkI:S:= .seq (.asg 3 false (.bin .RShift (.bin .Add (.var 1) (.var 2)) (.cst (.int 1)))) (.seq (.asg 4 false (.bin .Mult (.bin .Sub (.var 3) (.var 1)) (.var 7))) (.seq (.asg 5 false (.bin .RShift (.var 0) (.var 4))) (.seq (.asg 6 false (.bin .BitXor (.var 0) (.bin .LShift (.var 5) (.var 4)))) .skip)))
noncomputable def aI1:T:= .cons (.var 6) (.cons (.var 1) (.cons (.var 3) .nil))
noncomputable def aI2:T:= .cons (.var 5) (.cons (.var 3) (.cons (.var 2) .nil))
noncomputable def callN (as:List Expr) (e:Expr):Expr:= .Call (.Name inS (kid 0 e).pos) as [] e.pos
noncomputable def unA (c:Cx) (sc:Scope) (t:T) (e:Expr):Bool×List Expr:=el t (un c sc t none (argsE e))
noncomputable def unT (c:Cx) (sc:Scope) (t:T) (e:Expr):Bool×Expr:=e1 t (un c sc t none [e])
noncomputable def inI (c:Cx) (sc:Scope) (ib:List Stmt):Bool×List Stmt :=
 let s0:=hs ib;let b0:=hs (sbod s0);let tg:=skid 1 b0
 let t:=unT c sc tI1 (skid 0 s0);let x:=unT c sc (.var 0) (skid 0 b0);let l:=unT c sc (.var 1) (kid 1 tg)
 let m:=unS c sc blkI ib.tail;let c1:=hs ib.tail.tail.tail.tail.tail;let c2:=hs ib.tail.tail.tail.tail.tail.tail
 let a1:=unA c sc aI1 (skid 0 c1);let a2:=unA c sc aI2 (skid 0 c2)
 (t.1&&x.1&&l.1&&m.1&&a1.1&&a2.1,.If t.2 [.Assign [.Subscript (.Name adS (kid 0 tg).pos) l.2 tg.pos] x.2 b0.pos,.Return none (hs (sbod s0).tail).pos] [] s0.pos :: (m.2++[.Expr (callN a1.2 (skid 0 c1)) c1.pos,.Expr (callN a2.2 (skid 0 c2)) c2.pos]))
noncomputable def sI (x L R:Int) (m sh up lo:Option (D×Bool)) (nn:Nat):MEnv:=[some (.int x,false),some (.int L,false),some (.int R,false),m,sh,up,lo,some (.int nn,false)]
noncomputable def oi (i:Int):Option (D×Bool):=some (.int i,false)
theorem wy {G:ag} {F:FEnv} {x:Int} {L len nn:Nat} (hx0:0<=x) (hxs:small x=true) (ha:len / 2<=1000000) (hn:nn<=1000000) (hb:len / 2 * nn<=1000000) :
  ex G F (sI x L ((L+len:Nat):Int) none none none none nn) blkI=some (sI x L ((L+len:Nat):Int) (oi ((L+len / 2:Nat):Int)) (oi ((len / 2 * nn:Nat):Int)) (oi (x.fdiv (2 ^ (len / 2 * nn)))) (oi (x.fmod (2 ^ (len / 2 * nn)))) nn,.next):=by
 refine an (c8 (rI rfl rfl)) (an (c8 (l8 rfl rfl rfl ha hn)) (an (c8 (af rfl rfl (aq (c:=decide ((0:Int)<=((len / 2 * nn:Nat):Int))=true) (decide_eq_true (Int.natCast_nonneg _)) rfl))) (an (c8 (af rfl (af rfl rfl (aq (c:=(decide ((0:Int)<=((len / 2 * nn:Nat):Int))&&decide ((len / 2 * nn)<=1000000)&&small (x.fdiv (2 ^ (len / 2 * nn))))=true) ?_ rfl)) ?_)) rfl)))
 ·rw [decide_eq_true (Int.natCast_nonneg _),decide_eq_true hb,cq hxs (dY hx0).1 (dY hx0).2];rfl
 ·exact congrArg (some ∘ D.int) (yK _ hx0)
noncomputable def flatM (O:MEnv):Bool:=O.all λo=>o.elim true λp=>p.1.scalar && !p.2
theorem xi {O:MEnv} (h:flatM O=true):∀ i d b,getE O i=some (d,b)->d.scalar=true/\b=false:=λi d b hg=>by
 unfold getE at hg
 cases e:O[i]? with
 |none=>rw [e] at hg;exact ai hg
 |some o =>
  rw [e] at hg
  obtain rfl:o=some (d,b):=hg
  exact aa (List.all_eq_true.mp h _ (List.mem_of_getElem? e)) λh1 h2=>⟨h1,nt h2⟩
structure Filled (a b:Array Value) (L:Nat) (dl:List Int):Prop where
 size:b.size=a.size
 inn:∀ j k,dl[j]? = some k->∃ t,b[L+j]? = some (Value.int k t)
 out:∀ j,(j<L\/L+dl.length<=j)->b[j]? = a[j]?
theorem Filled.one {a:Array Value} {L:Nat} {x:Int} {t:Tok} (h:L<a.size):Filled a (a.setIfInBounds L (.int x t)) L [x]:=by
 refine ⟨Array.size_setIfInBounds,λj k e=> ?_,λj hj=> ?_⟩
 ·cases j with
  |zero =>
   obtain rfl:x=k:=sm e
   exact ⟨t,by rw [Nat.add_zero,Array.getElem?_setIfInBounds,if_pos rfl,if_pos h]⟩
  |succ j=>exact ai e
 ·rw [Array.getElem?_setIfInBounds,if_neg λq=> ?_]
  rw [q] at hj
  exact hj.elim (Nat.lt_irrefl _) λe=>Nat.lt_irrefl _ e
theorem Filled.app {a b c:Array Value} {L:Nat} {d e:List Int} (x:Filled a b L d) (y:Filled b c (L+d.length) e):Filled a c L (d++e):=by
 refine ⟨y.size.trans x.size,λj k h=> ?_,λj hj=> ?_⟩
 ·rcases Nat.lt_or_ge j d.length with q |q
  ·rw [List.getElem?_append_left q] at h
   rw [y.out _ (.inl (Nat.add_lt_add_left q _))]
   exact x.inn j k h
  ·rw [List.getElem?_append_right q] at h
   have:=y.inn _ k h
   rw [Nat.add_assoc,Nat.add_sub_cancel' q] at this
   exact this
 ·rw [List.length_append,<- Nat.add_assoc] at hj
  rw [y.out j (hj.imp (λq=>Nat.lt_of_lt_of_le q (Nat.le_add_right _ _)) id),x.out j (hj.imp id λq=>Nat.le_trans (Nat.le_add_right _ _) q)]
theorem xr {L len nn:Nat} (hL:L+len<=100000) (hnb:len * nn<=1000000):L+len / 2<=100000/\L+len / 2+(len - len / 2)<=100000/\len / 2 * nn<=1000000/\(len - len / 2) * nn<=1000000 :=
 ⟨Nat.le_trans (Nat.add_le_add_left (Nat.div_le_self _ _) _) hL,Nat.le_trans (Nat.le_of_eq (gJ L len)) hL,Nat.le_trans (Nat.mul_le_mul_right nn (Nat.div_le_self len 2)) hnb,Nat.le_trans (Nat.mul_le_mul_right nn (Nat.sub_le len _)) hnb⟩
variable [Jt:Tabs] [Jf:Frk]
theorem qD {prog:Program} {w:World} {hB:Heap} {mg:Str->Option Value} {fns:List Str} {n:Nat}:∀ f a,f∈fns->mg f=some (.ref a)->Ctr prog w hB n (λZz Zz=>none) f a:=λf a Zz Zz A E s X ds vs r Q ar kp hX hd hr=>ai hr
structure Bx (cl:List (Str×Addr)) (cm:Str->Option Value) (z:Str) (D f:Addr) (nn:Nat):Prop where
 a:∃ c,cl.lookup z=some c
 i:∃ c,cl.lookup inS=some c
 mA:cm z=some (.ref D)
 mI:cm inS=some (.ref f)
 mN:∃ t,cm ("n":Str)=some (.int nn t)
theorem BY {sc:Scope} (hnm:sc.names=nm8) {x L R:Int} {nn:Nat} {vs:List Value} {cm:Str->Option Value} (mN:∃ t,cm ("n":Str)=some (.int nn t)) {h h':Heap} {Y Ex:Addr->Prop} (dl:DenL h Y [.int x,.int L,.int R] vs):FV (valS sc (parM pms vs) cm) h' Ex tb8 (sI x L R none none none none nn):=by
 obtain ⟨v1,r1,rfl,⟨t1,rfl⟩,v2,r2,rfl,⟨t2,rfl⟩,v3,r3,rfl,⟨t3,rfl⟩,e⟩:=dl
 obtain rfl:r3=[]:=e
 obtain ⟨tn,hn⟩:=mN
 have e:∀ y,valS sc (parM pms [.int x t1,.int L t2,.int R t3]) cm y=valK (parM pms [.int x t1,.int L t2,.int R t3] y) (cm y) (nm8.lookup y):=λy=>by unfold valS;rw [hnm]
 exact .has ((e _).trans rfl) ⟨t1,rfl⟩ (.has ((e _).trans rfl) ⟨t2,rfl⟩ (.has ((e _).trans rfl) ⟨t3,rfl⟩ (.no (.no (.no (.no (.has ((e _).trans hn) ⟨tn,rfl⟩ .nil)))))))
section
variable {prog:Program} {w:World} {c:Cx} {G:ag} {hB:Heap} {mg mb:Str->Option Value} {sc:Scope} {ib:List Stmt} {as:List Arg} {qual:Str} {cl:List (Str×Addr)} {cm:Str->Option Value} {f D:Addr} {nn:Nat} {ps:List Str}
structure eX (prog:Program) (w:World) (c:Cx) (G:ag) (hB:Heap) (mg mb:Str->Option Value) (sc:Scope) (ps:List Str) (as:List Arg):Prop where
 B:Base prog w c G hB mg mb
 lim:hB.NoLimit
 ok:kr c
 I:innB sc c.tbl ps=true
 has:as.map (·.arg)=ps
noncomputable abbrev wd0 (prog:Program) (w:World) (c:Cx) (G:ag) (hB:Heap):Wd:=⟨prog,w,c,G,λZz Zz=>none,hB,0⟩
noncomputable abbrev Ast.inn {A:Around} {s:Shared} {env:Env} {h:Heap} {O:MEnv} (tk:Nat) (hsc:env.scope=sc) (S:SR env c.tbl (iB env) (cg env) (λZz=>0) O h) (kp:KB hB h) (hn:hB.get? env.locals=none) {n:Nat} (ar:Ar n A):Ast (wd0 prog w c G hB) sc O :=
 ⟨A,{s with heap:=h,toks:=tk},env,iB env,cg env,λZz=>0,hsc,S,kp,λb e=>e▸hn,ar.mono (Nat.zero_le _)⟩
theorem kc (N:eX prog w c G hB mg mb sc ps as) {t:T} {e:Expr} (h:(unA c sc t e).1=true):AS (wd0 prog w c G hB) sc t (unA c sc t e).2:=((bO (X:=wd0 prog w c G hB) N.B qD t).l h).as
theorem eM (N:eX prog w c G hB mg mb sc ps as) {t:T} {e:Expr} (h:(unT c sc t e).1=true):All (wd0 prog w c G hB) sc t (unT c sc t e).2:=(bO (X:=wd0 prog w c G hB) N.B qD t).e h
theorem vS (N:eX prog w c G hB mg mb sc ps as) {s:S} {ss:List Stmt} (h1:isSeq s=true) (h:(unS c sc s ss).1=true):SS (wd0 prog w c G hB) sc s (execs (unS c sc s ss).2):=(gc (X:=wd0 prog w c G hB) N.B qD N.ok s).l h1 h
theorem zB (off:Frk.fs=none) (N:eX prog w c G hB mg mb sc pms as) (htb:c.tbl=tb8) (hnm:sc.names=nm8) (hi:(inI c sc ib).1=true) (hr:(inI c sc ib).2=ib) (hn1:nn<=4000) (K:Bx cl cm adS D f nn) (hD:hB.get? D=none) :
  ∀ (fu len:Nat) (x:Int) (L:Nat),1<=len->len<=2 ^ fu->0<=x->small x=true->L+len<=100000->len * nn<=1000000->∀ (A:Around) (E:Value->Shared->Prop) (s:Shared) (items:Array Value) (vs:List Value) (Y:Addr->Prop) (Q:Value->Shared->Prop),Ar (fu+1) A->KB hB s.heap->Clo s.heap f qual ⟨[],as,none,[],[],none,[]⟩ ib sc cl cm->s.heap.PlainList D items->L+len<=items.size->DenL s.heap Y [.int x,.int (L:Int),.int ((L+len:Nat):Int)] vs ->
   (∀ h' tk items',KD D s.heap h'->h'.PlainList D items'->Filled items items' L (dig nn fu len x)->Q .none {s with heap:=h',toks:=tk}) ->
   wpAny (model prog w) A (call (.ref f) vs) Q E s:=by
 intro fu
 induction fu using Nat.strongRecOn with
 |_ fu ih =>
  intro len x L hl1 hl2 hx0 hxs hL hnb A E s items vs Y Q ar kp C pl hsz dl hQ
  refine C.call off N.lim N.I N.has kp ar dl.length (λh Ex Zz Zz=>htb▸BY hnm K.mN dl) λenv h₀ tk E' hcel hsc S k0 hn ar1=> ?_
  refine aa hi λhi q6=>aa hi λhi q5=>aa hi λhi q4=>aa hi λhi q3=>aa hi λq1 q2=> ?_
  have hnB:hB.get? env.locals=none:=kp.none hn
  let p:Ast (wd0 prog w c G hB) sc _:= .inn (s:=s) tk hsc S (kp.trans k0) hnB ar1
  have kl:celK (env.scope.names.lookup adS)=true/\celK (env.scope.names.lookup inS)=true:=by rw [hsc,hnm];exact ⟨rfl,rfl⟩
  obtain ⟨cA,hcA⟩:=K.a
  obtain ⟨cI,hcI⟩:=K.i
  rw [<- hr]
  refine wpAny_execs_cons (wpAny_If ((eM N q1).is _ p.at _ _ _ _ (rU rfl rfl) rfl λh1 tk1 k1=> ?_))
  have S1:=S.keep k1
  have k01:=k0.trans k1
  have pl1:h1.PlainList D items:=PL.at' pl (k01.at D)
  let p1:Ast (wd0 prog w c G hB) sc _:= .inn (s:=s) tk1 hsc S1 (kp.trans k01) hnB ar1
  rcases Nat.lt_or_ge 1 len with hlen |hlen
  ·obtain ⟨fu',rfl⟩:∃ fu',fu=fu'+1:=by
    cases fu with
    |zero=>exact absurd (Nat.lt_of_lt_of_le hlen hl2) (by decide)
    |succ k=>exact ⟨k,rfl⟩
   rw [ou hlen,if_neg (by decide)]
   refine wpAny_execs_nil (tm ?_)
   obtain ⟨o1,o2,o3,o4⟩:=xr (nn:=nn) hL hnb
   obtain ⟨f1,f2⟩:=cj hlen
   obtain ⟨g1,g2⟩:=ck hl2
   have up:=dY (k:=len / 2 * nn) hx0
   have lo:=iY (k:=len / 2 * nn) hx0
   refine vS N rfl q4 _ p1 _ _ _ _ (wy hx0 hxs (Nat.le_trans (Nat.le_trans (Nat.le_add_left _ _) o1) (by decide)) (Nat.le_trans hn1 (by decide)) o3) λh2 tk2 Mu2 Ex2 ow2 S2 g=> ?_
   have kd2:KD D s.heap h2:=g.kd D (k01.kd D) λb e=>e▸hn
   have kp2:Kp s.heap h2:=g.kp0 k01 λb e=>e▸hn
   have pl2:h2.PlainList D items:=PL.at' pl (kp2.at D)
   have C2:=C.keep kp2
   let p2:Ast (wd0 prog w c G hB) sc _:=p1.on S2 g tk2
   obtain ⟨oF,doc,pm,cd,ct,oc,vc,t,e1,e2,Zz⟩:=C2.fo
   refine wpAny_execs_cons (fx S.rr.ok.kind (cU (kc N q5) p2.at (C2.cell _ cI hcI) kl.2 (hcel▸hcI) K.mI e1 e2 (ds:=[.int (x.fmod (2 ^ (len / 2 * nn))),.int (L:Int),.int ((L+len / 2:Nat):Int)]) rfl rfl λh3 us tk3 k3 dl3=> ?_))
   have kp3:=kp2.trans k3
   have pl3:h3.PlainList D items:=PL.at' pl (kp3.at D)
   refine ih fu' (Nat.lt_succ_self _) (len / 2) _ L f1 g1 lo.1 (cq hxs lo.1 lo.2) o1 o3 (A.deeper env) E' {s with heap:=h3,toks:=tk3} items us _ _ ar1 (kp.trans kp3) (C.keep kp3) pl3 (Nat.le_trans (Nat.add_le_add_left (Nat.div_le_self _ _) _) hsz) dl3 λh4 tk4 items1 kd4 pl4 fl1=>⟨rfl,?_⟩
   have S4:=(S2.keep k3).far kd4 pl3 pl4 (xi rfl)
   have kd4':=(kp3.kd D).trans kd4
   let p4:Ast (wd0 prog w c G hB) sc _:={p2 with s:={s with heap:=h4,toks:=tk4},S:=S4,k:=kd4'.kpB kp hD}
   have C4:=C.kd kd4' pl
   obtain ⟨oF,doc,pm,cd,ct,oc,vc,t,e1,e2,Zz⟩:=C4.fo
   refine wpAny_execs_cons (fx S.rr.ok.kind (cU (kc N q6) p4.at (C4.cell _ cI hcI) kl.2 (hcel▸hcI) K.mI e1 e2 (ds:=[.int (x.fdiv (2 ^ (len / 2 * nn))),.int ((L+len / 2:Nat):Int),.int ((L+len:Nat):Int)]) rfl rfl λh5 us tk5 k5 dl5=> ?_))
   have kd5:=kd4'.trans (k5.kd D)
   have pl5:h5.PlainList D items1:=PL.at' pl4 (k5.at D)
   have hLL:=gJ L len
   refine ih fu' (Nat.lt_succ_self _) (len - len / 2) _ (L+len / 2) f2 g2 up.1 (cq hxs up.1 up.2) o2 o4 (A.deeper env) E' {s with heap:=h5,toks:=tk5} items1 us _ _ ar1 (kd5.kpB kp hD) (C.kd kd5 pl) pl5 (Nat.le_trans (Nat.le_of_eq hLL) (Nat.le_trans hsz (Nat.le_of_eq fl1.size.symm))) (hLL.symm▸dl5) λh6 tk6 items2 kd6 pl6 fl2=>⟨rfl,?_⟩
   refine wpAny_execs_nil (hQ h6 tk6 items2 (kd5.trans kd6) pl6 ?_)
   rw [fX _ _ _ _ hlen]
   exact fl1.app (by rw [bZ _ _ _ _ f1 g1];exact fl2)
  ·obtain rfl:=Nat.le_antisymm hlen hl1
   rw [rm,if_pos rfl]
   refine wpAny_execs_cons (wpAny_Assign_Subscript ((eM N q2).vs _ p1.at _ true (.int x) _ rfl λv h2 tk2 k2 d2 Zz=> ?_) rfl)
   obtain ⟨tx,rfl⟩:=d2.top
   let p2:Ast (wd0 prog w c G hB) sc _:=p1.to k2 tk2
   refine nZ (s:={s with heap:=h2,toks:=tk2}) S.rr.ok.kind ((C.keep (k01.trans k2)).cell _ cA hcA) kl.1 (hcel▸hcA) K.mA (by decide) (by decide) ?_
   refine (eM N q3).vs _ p2.at _ true (.int (L:Int)) _ rfl λv h3 tk3 k3 d3 Zz=> ?_
   obtain ⟨tL,rfl⟩:=d3.top
   have k3':=(k01.trans k2).trans k3
   obtain ⟨n3,l3⟩:h3.PlainList D items:=PL.at' pl (k3'.at D)
   refine eY (s:={s with heap:=h3,toks:=tk3}) l3 (Int.natCast_nonneg _) (Int.ofNat_lt.mpr hsz) (Int.lt_of_le_of_lt (Int.ofNat_le.mpr (Nat.le_trans (Nat.le_add_right L 1) hL)) (by decide)) ?_
   refine wpAny_execs_cons (wpAny_Return_none ?_)
   have l4:=cb l3 (λxs=>xs.setIfInBounds (L:Int).toNat (.int x tx))
   refine hQ _ _ _ ((k3'.kd D).trans (KD.atD ⟨n3,l3⟩ (Heap.SameBut.update ..))) ⟨_,l4⟩ ?_
   rw [fW]
   exact .one hsz
end
end Mine
namespace Mine
noncomputable def i2dLen (a n:Int):Nat:=(Builtin.Int.intBits a+n.toNat - 1) / n.toNat
noncomputable def i2d (a:Int) (n:Nat):List Int:=if a=0 then [] else dig n 12 (i2dLen a n) a
noncomputable def i2dSpec (ds:List D):Option D:=(two? ds).bind λp=>ii (λa n=>if decide (0<=a)&&small a&&decide (1<=n)&&decide (n<=4000) then some (.list ((i2d a n.toNat).map .int)) else none) p.1 p.2
theorem dQ {a:Int} (h:small a=true):Builtin.Int.intBits a<=4000:=PySem.intBits_le_iff.mpr (by unfold small BIG at h;exact Nat.lt_of_lt_of_le (de h) (Nat.le_refl _))
theorem n6 {b m:Nat} (hb:b<=4000) (h1:1<=m) (h2:m<=4000):(b+m - 1) / m<=4000/\(b+m - 1) / m * m<=8000/\(1<=b->1<=(b+m - 1) / m):=by
 have e:b+m - 1<=8000:=Nat.le_trans (Nat.sub_le _ _) (Nat.le_trans (Nat.add_le_add hb h2) (by decide))
 refine ⟨Nat.div_le_of_le_mul ?_,Nat.le_trans (Nat.div_mul_le_self _ _) e,λh=>Nat.div_pos ?_ h1⟩
 ·exact Nat.le_trans (Nat.sub_le_sub_right (Nat.add_le_add_right hb m) 1) (Nat.le_trans (Nat.le_of_eq (Nat.sub_add_comm (n:=4000) (by decide))) (Nat.le_trans (show 3999+m<=3999 * m+m from Nat.add_le_add_right (Nat.mul_le_mul_left 3999 h1) m) (Nat.le_of_eq ((Nat.succ_mul 3999 m).symm.trans (Nat.mul_comm _ _)))))
 ·rw [Nat.add_comm,Nat.add_sub_assoc h];exact Nat.le_add_right _ _
theorem rA {a n:Int} (h0:0<=a) (hs:small a=true) (h1:1<=n) (h2:n<=4000):(((Builtin.Int.intBits a:Nat):Int)+n - 1).fdiv n=(i2dLen a n:Int)/\i2dLen a n<=4000/\i2dLen a n * n.toNat<=8000/\(a≠0->1<=i2dLen a n):=by
 obtain ⟨m,rfl⟩:=Int.eq_ofNat_of_zero_le (Int.le_trans (by decide) h1)
 have h1:1<=m:=Int.ofNat_le.mp h1
 obtain ⟨g1,g2,g3⟩:=n6 (dQ hs) h1 (Int.ofNat_le.mp h2)
 refine ⟨?_,g1,g2,λh=>g3 ?_⟩
 ·rw [Int.fdiv_eq_ediv_of_nonneg _ (Int.natCast_nonneg _)]
  have:((Builtin.Int.intBits a:Nat):Int)+(m:Int) - 1=((Builtin.Int.intBits a+m - 1:Nat):Int):=(Int.ofNat_sub (Nat.le_trans h1 (Nat.le_add_left _ _))).symm
  rw [this];rfl
 ·have:(a==0)=false:=beq_eq_false_iff_ne.mpr h
  unfold Builtin.Int.intBits
  rw [this]
  exact Nat.le_add_left 1 _
end Mine
namespace Mine
noncomputable def tb3:List Str:=["a","n","a_digits"]
noncomputable def nm5:List (Str×NameKind):=[("a",.local),("n",.cell),("a_digits",.cell),("inner",.cell),("len",.globalImplicit)]
noncomputable def vI:T:= .bin .Mult (.list (.cons (.cst (.int 0)) .nil)) (.bin .FloorDiv (.bin .Sub (.bin .Add (.meth .bitlen (.var 0) .nil) (.var 1)) (.cst (.int 1))) (.var 1))
noncomputable def aO:T:= .cons (.var 0) (.cons (.cst (.int 0)) (.cons (.blt .len (.cons (.var 2) .nil)) .nil))
noncomputable def defN (d:DefItem):Stmt:= .FunctionDef inS (plainPar d.params) d.body [] none [] d.scope none inS d.pos
noncomputable def outI (c:Cx) (sc:Scope) (body:List Stmt):Bool×List Stmt :=
 let s2:=hs body.tail.tail;let e0:=hs (sbod s2)
 let a:=unS c sc (.asg 2 true vI) body;let t:=unT c sc (.var 0) (skid 0 s2);let g:=unA c sc aO (skid 0 e0);let r:=unS c sc (.retv 2) body.tail.tail.tail
 (a.1&&t.1&&g.1&&r.1,[hs a.2,defN (itemOf (hs body.tail)),.If t.2 [.Expr (callN g.2 (skid 0 e0)) e0.pos] [] s2.pos,hs r.2])
noncomputable def defInB (sc:Scope) (tbl ps:List Str) (nm:List (Str×NameKind)) (d:DefItem):Bool:=d.params.args.map (·.arg)==ps&&d.params.args.all (·.annotation.isNone)&&(docOf d.body).isNone&&d.scope.names==nm&&innB d.scope tbl ps&&tbl.all (λx=>dbg x&&dcl x)
noncomputable def i2dB (c:Cx) (d:DefItem):Bool:=let q:=itemOf (hs d.body.tail)
 (outI (atT c tb3) d.scope d.body).1&&(inI (atT c tb8) q.scope q.body).1&&d.scope.names==nm5&&defB c tb3 d&&parsOf d.params==(["a","n"]:List Str)&&defInB d.scope tb8 pms nm8 q
noncomputable def i2dU (c:Cx) (d:DefItem):List Stmt×List Stmt:=let q:=itemOf (hs d.body.tail);((outI (atT c tb3) d.scope d.body).2,(inI (atT c tb8) q.scope q.body).2)
theorem zb (L:Nat):cellsFrom (L+1) nm5 []=[(inS,L+3),(adS,L+2),(("n":Str),L+1)]:=rfl
theorem gG (n:Nat):(List.replicate n [D.int 0]).flatten.length=n:=by
 induction n with
 |zero=>rfl
 |succ n ih=>rw [List.replicate_succ,List.flatten_cons,List.length_append,ih,Nat.add_comm];rfl
theorem uw {n:Int}:i2dLen 0 n=0:=by
 unfold i2dLen
 rcases Nat.eq_zero_or_pos n.toNat with h |h
 ·rw [h];rfl
 ·exact Nat.div_eq_of_lt (by rw [show Builtin.Int.intBits 0=0 from rfl,Nat.zero_add];exact Nat.sub_lt h (by decide))
variable [Jt:Tabs] [Jf:Frk]
theorem Bs {G:ag} {F:FEnv} {a n:Int} {O:MEnv} {b:Bool} (h0:0<=a) (hs:small a=true) (h1:1<=n) (h2:n<=4000) (e0:ev G F O true (.var 0)=some (.int a)) (e1:ev G F O true (.var 1)=some (.int n)):ev G F O b vI=some (.list (List.replicate (i2dLen a n) [D.int 0]).flatten):=by
 obtain ⟨g1,g2,Zz,Zz⟩:=rA h0 hs h1 h2
 have hn:n.natAbs<2 ^ 64:=Nat.lt_of_le_of_lt (oh (Int.le_trans (by decide) h1) h2) (by decide)
 have z:(n==0)=false:=beq_eq_false_iff_ne.mpr λe=>absurd (e▸h1) (by decide)
 refine af (x:= .list [.int 0]) rfl (af (af (af (x:= .int (Builtin.Int.intBits a)) (ad e0 rfl) e1 rfl) rfl rfl) e1 (y:= .int n) (d:= .int (i2dLen a n)) ?_) ?_
 ·refine gH (c:=(n==0 || !small n)=true) ?_ (congrArg (some ∘ D.int) g1)
  rw [z,g0 hn];decide
 ·refine aq (c:=(sizeOk ([D.int 0].length * (i2dLen a n:Int).toNat)&&idxOk (i2dLen a n:Int))=true) ?_ rfl
  have e:[D.int 0].length * (i2dLen a n:Int).toNat=i2dLen a n:=Nat.one_mul _
  rw [e,gY g2,i8 (Nat.le_trans g2 (by decide))];rfl
theorem mS {a b:Array Value} {dl:List Int} (f:Filled a b 0 dl) (hl:dl.length=a.size) (h:Heap) (Ex:Addr->Prop):DenL h Ex (dl.map .int) b.toList:=by
 refine DenL.of_get (by rw [Array.length_toList,f.size,List.length_map,hl]) λi d hi=> ?_
 rw [List.getElem?_map] at hi
 cases e:dl[i]? with
 |none=>rw [e] at hi;exact ai hi
 |some k =>
  rw [e] at hi
  obtain ⟨t,ht⟩:=f.inn i k e
  rw [Nat.zero_add] at ht
  refine ⟨.int k t,by rw [Array.getElem?_toList];exact ht,?_⟩
  rw [<- sm hi]
  exact ⟨t,rfl⟩
section
variable {prog:Program} {w:World} {c:Cx} {G:ag} {hB:Heap} {mg mb:Str->Option Value} {d:DefItem} {name:Str} {a:Addr}
theorem Base.at (B:Base prog w c G hB mg mb) (tb:List Str):Base prog w (atT c tb) G hB mg mb:=⟨B.ns,B.bn,B.blt,B.cst,B.iset,B.idict,B.ndb,B.fn⟩
theorem wO (off:Frk.fs=none) (B:Base prog w c G hB mg mb) (hbm:HasB mg hB) (lim:hB.NoLimit) (hd:i2dB c d=true) (hu1:(i2dU c d).1=d.body) (hu2:(i2dU c d).2=(itemOf (hs d.body.tail)).body) (hp:d.params=plainPar d.params) (da:DefAt hB a name d.params d.body d.scope) (htb:∀ cd P,hB.TableAt cd P #[]->Tabs.tb P)
  (hq:Tabs.q (itemOf (hs d.body.tail)).pos.line (itemOf (hs d.body.tail)).pos.col=name++(".<locals>.":Str)++inS) {F':FEnv} (hF:∀ ds r,F' name ds=some r->i2dSpec ds=some r) {k:Nat} (hk:60<=k):Ctr prog w hB k F' name a:=by
 intro A E s Y ds vs r Q ar kp hX hden hr ret
 have hr:=hF _ _ hr
 revert hden
 refine ae hr λp hp2 hr=>iM (P:=λds=>DenL s.heap Y ds vs->_) hp2 (pK (P:=λx y=>DenL s.heap Y [x,y] vs->_) hr λav nv hr hden=>gd hr λhc hr=> ?_)
 refine aa hc λhc n2=>aa hc λhc n1=>aa hc λa0 as1=> ?_
 have a0:=de a0;have n1:=de n1;have n2:=de n2
 obtain rfl:=sm hr
 refine aa hd λhd d6=>aa hd λhd d5=>aa hd λhd d4=>aa hd λhd d3=>aa hd λd1 d2=> ?_
 refine aa d6 λd6 w6=>aa d6 λd6 w5=>aa d6 λd6 w4=>aa d6 λd6 w3=>aa d6 λw1 w2=> ?_
 refine aa d1 λd1 u4=>aa d1 λd1 u3=>aa d1 λu1 u2=> ?_
 have hnm:d.scope.names=nm5:=eq_of_beq d3
 have hin:(itemOf (hs d.body.tail)).scope.names=nm8:=eq_of_beq w4
 have B3:(Wd.mk prog w (atT c tb3) G (λZz Zz=>none) hB 58).Ok mg mb:=B.at tb3
 have CT:(Wd.mk prog w (atT c tb3) G (λZz Zz=>none) hB 58).Ct mg:=qD
 have ok3:=fV (name:=name) d4 hp
 refine dz off (X:=⟨prog,w,atT c tb3,G,λZz Zz=>none,hB,58⟩) lim ok3 da (ar.mono (Nat.le_trans (show 59<=60 by decide) hk)) kp hX hden (congrArg List.length (eq_of_beq d5)).symm ret λp cd T he Zz h7 h8 hnew k0 fin=> ?_
 rw [<- hu1]
 have hcel:p.env.cells=[(inS,s.heap.objs.size+3),(adS,s.heap.objs.size+2),(("n":Str),s.heap.objs.size+1)]:=by rw [he];show cellsFrom _ d.scope.names []=_;rw [hnm];exact zb _
 have hl:∀ {x k},nm5.lookup x=some k->p.env.scope.names.lookup x=some k:=λh=>by rw [p.hsc,hnm];exact h
 have lk:∀ {x k},([(inS,s.heap.objs.size+3),(adS,s.heap.objs.size+2),(("n":Str),s.heap.objs.size+1)]:List (Str×Addr)).lookup x=some k->p.env.cells.lookup x=some k:=λh=>by rw [hcel];exact h
 have fk:∀ {x k},nm8.lookup x=some k->(itemOf (hs d.body.tail)).scope.names.lookup x=some k:=λh=>by rw [hin];exact h
 obtain ⟨l1,l2,l3,l4⟩:=rA a0 as1 n1 n2
 refine wpAny_execs_cons ((gc B3 CT ok3.names (.asg 2 true vI)).s rfl u1 _ p _ _ _ _ (nK (Bs a0 as1 n1 n2 rfl rfl) rfl) λh1 tk1 Mu1 Ex1 ow1 S1 g1=> ?_)
 let p1:Ast _ d.scope _:=p.on S1 g1 tk1
 refine wpAny_execs_cons (qE p1 B3 hbm (he▸rfl) h7 h8 (htb _ _ h8) w2 (Option.isNone_iff_eq_none.mp w3) ?_ hq (by rw [hnm];rfl) (oq rfl) (lk rfl) (q:=(("n":Str),s.heap.objs.size+1)) (r:=[(inS,s.heap.objs.size+3),(adS,s.heap.objs.size+2)]) ?_ ?_ (by rw [hin];rfl) λh2 tk2 m cm f S2 g2 F2 V2 hf C=> ?_)
 ·unfold qualnameIn
  rw [show p1.env.kindOf inS=some .cell from hl rfl,if_neg (by decide)]
  show p.env.qual++_=_
  rw [he];rfl
 ·unfold closureFor cellOf
  show _=_
  rw [hin,show p1.env.cells=_ from hcel];rfl
 ·refine List.forall_mem_cons.mpr ⟨⟨lk rfl,fk rfl⟩,List.forall_mem_cons.mpr ⟨⟨lk rfl,fk rfl⟩,List.forall_mem_cons.mpr ⟨⟨lk rfl,fk rfl⟩,λZz h=>nomatch h⟩⟩⟩
 let p2:Ast _ d.scope _:=p1.on S2 g2 tk2
 refine wpAny_execs_cons (wpAny_If (((bO B3 CT (.var 0)).e u2).is _ p2.at _ (.int av) _ _ rfl rfl λh3 tk3 k3=> ?_))
 let p3:Ast _ d.scope _:=p2.to k3 tk3
 have G3:=(g1.trans p.lt p.S.mu g2).trans p.lt p.S.mu (Gr.of_kp k3 _ _)
 have ret:=gc (sc:=d.scope) B3 CT ok3.names (.retv 2)
 cases hz:(av==0) with
 |true =>
  rw [if_neg (show ¬ ((!(true))=true) by decide)]
  refine wpAny_execs_nil (wpAny_execs_cons (ret.s rfl u4 _ p3 _ _ _ _ rfl λh6 tk6 v Mu6 Ex6 g6 dv=>fin h6 tk6 v _ _ (G3.trans p.lt p.S.mu g6) ?_))
  obtain rfl:=eq_of_beq hz
  rw [uw] at dv
  exact dv
 |false =>
  rw [if_pos (show (!(false))=true by decide)]
  have zn:av≠0:=beq_eq_false_iff_ne.mp hz
  have C3:=C.keep k3
  obtain ⟨o,doc,pm,cd',ct,oc,vc,t,e1,e2,Zz⟩:=C3.fo
  refine wpAny_execs_cons (fx p.S.rr.ok.kind (cU ((bO B3 CT aO).l u3).as p3.at (C3.cell inS _ rfl) (by rw [hl (x:=inS) rfl];rfl) (lk rfl) hf e1 e2 (ds:=[.int av,.int ((0:Nat):Int),.int ((0+i2dLen av nv:Nat):Int)]) (aW rfl (aW rfl (aW (ad (aW rfl rfl) (aq (by rw [gG];exact gY l2) (by rw [gG,Nat.zero_add]))) rfl))) rfl λh4 us tk4 k4 dl4=> ?_))
  have seenA:seen p.env.scope adS=true:=by unfold seen;rw [hl (x:=adS) rfl];rfl
  have S4:=p3.S.keep k4
  obtain ⟨items,ds0,e0,pl4,dl0⟩:=S4.rr.own_al (i:=2) (x:=adS) rfl seenA rfl
  have hz2:items.size=i2dLen av nv:=by
   have:=dl0.length
   rw [<- vU e0,gG,Array.length_toList] at this
   exact this
  obtain ⟨vA,mA,Zz,hA⟩:=V2.cell (i:=2) (x:=adS) rfl rfl (hl rfl)
  obtain ⟨vN,mN,⟨tN,hN⟩,Zz⟩:=V2.cell (i:=1) (x:=("n":Str)) (b:=false) rfl rfl (hl rfl)
  have hnv:nv=(nv.toNat:Int):=(Int.toNat_of_nonneg (Int.le_trans (by decide) n1)).symm
  have mu2:=S4.own 2 adS _ rfl seenA rfl
  refine zB (prog:=prog) (w:=w) (c:=atT c tb8) (G:=G) (mg:=mg) (mb:=mb) (sc:=(itemOf (hs d.body.tail)).scope) (as:=(itemOf (hs d.body.tail)).params.args) (nn:=nv.toNat) off ⟨B.at tb8,lim,w6,w5,eq_of_beq w1⟩ rfl hin d2 hu2 (Int.toNat_le.mpr n2) ⟨⟨_,rfl⟩,⟨_,rfl⟩,by rw [mA,hA rfl],hf,tN,by rw [mN,hN,<- hnv]⟩ (p2.hm _ mu2) 12 (i2dLen av nv) av 0 (l4 zn) (Nat.le_trans l2 (by decide)) a0 as1 (by rw [Nat.zero_add];exact Nat.le_trans l2 (by decide)) (Nat.le_trans l3 (by decide)) p.A _ {p.s with heap:=h4,toks:=tk4} items us _ _ (p.ar.mono (show 13<=58 by decide)) ((p3.k).trans k4) (C3.keep k4) pl4 (by rw [Nat.zero_add,hz2];exact Nat.le_refl _) dl4 λh5 tk5 items' kd5 pl5 fl=>⟨rfl,?_⟩
  obtain ⟨S5,g5⟩:=S4.mutOwn (c:=atT c tb3) (i:=2) (x:=adS) rfl seenA rfl kd5.kp kd5.cd pl5 (mS fl (by rw [bZ _ _ _ _ (l4 zn) (Nat.le_trans l2 (by decide)),hz2]) _ _)
  have G5:=(G3.trans p.lt p.S.mu (Gr.of_kp k4 _ _)).trans p.lt p.S.mu g5
  let p5:Ast _ d.scope _:=p.on S5 G5 tk5
  refine wpAny_execs_nil (wpAny_execs_cons (ret.s rfl u4 _ p5 _ _ _ _ rfl λh6 tk6 v Mu6 Ex6 g6 dv=>fin h6 tk6 v _ _ (G5.trans p.lt p.S.mu g6) ?_))
  unfold i2d
  rw [if_neg zn]
  exact dv
end
end Mine
namespace Mine
noncomputable def und (n:Nat):List Int->Int
 | []=>0
 |x :: r=>x+2 ^ n * und n r
theorem cu (n:Nat):∀ (a b:List Int),und n (a++b)=und n a+2 ^ (n * a.length) * und n b
 | [],b=>by rw [List.nil_append,List.length_nil,Nat.mul_zero,Int.pow_zero,Int.one_mul];exact (Int.zero_add _).symm
 |x :: a,b=>by
  rw [List.cons_append,und,und,cu n a b,List.length_cons,Nat.mul_add,Nat.mul_one,Int.pow_add,Int.mul_add,Int.add_assoc,Int.mul_comm (2 ^ (n * a.length)) (2 ^ n),Int.mul_assoc]
theorem ce (n:Nat):∀ (a:List Int),(∀ x∈a,0<=x)->0<=und n a
 | [],_=>Int.le_refl _
 |x :: a,h=>Int.add_nonneg (h x List.mem_cons_self) (Int.mul_nonneg (Int.le_of_lt (Int.pow_pos (by decide))) (ce n a λy hy=>h y (List.mem_cons_of_mem _ hy)))
theorem zY (k:Nat) {x:Int} (h:0<=x):x<=2 ^ k * x:=by
 have h1:(1:Int)<=2 ^ k:=Int.pow_pos (by decide)
 have:=Int.mul_le_mul_of_nonneg_right h1 h
 rwa [Int.one_mul] at this
theorem vg (n:Nat) {a b:List Int} (h:∀ x∈a++b,0<=x):und n b<=und n (a++b):=by
 rw [cu]
 have h1:=ce n a λx hx=>h x (List.mem_append_left _ hx)
 have h2:=ce n b λx hx=>h x (List.mem_append_right _ hx)
 exact Int.le_trans (zY (n * a.length) h2) (Int.le_add_of_nonneg_left h1)
theorem ve (n:Nat) {a b:List Int} (h:∀ x∈a++b,0<=x):und n a<=und n (a++b):=by
 rw [cu]
 have h2:=ce n b λx hx=>h x (List.mem_append_right _ hx)
 exact Int.le_add_of_nonneg_right (Int.mul_nonneg (Int.le_of_lt (Int.pow_pos (by decide))) h2)
noncomputable def part (n:Nat) (is:List Int) (L len:Nat):Int:=und n ((is.drop L).take len)
theorem xY (n:Nat) {is:List Int} (h:∀ x∈is,0<=x) (L len:Nat):0<=part n is L len/\part n is L len<=und n is:=by
 have e1:is.take L++is.drop L=is:=List.take_append_drop L is
 have e2:(is.drop L).take len++(is.drop L).drop len=is.drop L:=List.take_append_drop len _
 have h2:∀ x∈is.drop L,0<=x:=λx hx=>h x (List.mem_of_mem_drop hx)
 have a1:=ve n (a:=(is.drop L).take len) (b:=(is.drop L).drop len) (e2.symm▸h2)
 have a2:=vg n (a:=is.take L) (b:=is.drop L) (e1.symm▸h)
 rw [e2] at a1
 rw [e1] at a2
 exact ⟨ce n _ λx hx=>h2 x (List.mem_of_mem_take hx),Int.le_trans a1 a2⟩
theorem uJ (n:Nat) {is:List Int} {L:Nat} (h:L<is.length):part n is L 1=is[L]:=by
 unfold part
 rw [List.drop_eq_getElem_cons h,List.take_succ_cons,List.take_zero,und,und,Int.mul_zero,Int.add_zero]
theorem uK (n:Nat) {is:List Int} {L len a:Nat} (h:a<=len) (hL:L+len<=is.length):part n is (L+a) (len - a) * 2 ^ (a * n)+part n is L a=part n is L len:=by
 unfold part
 conv=>rhs;rw [<- Nat.add_sub_cancel' h,List.take_add,List.drop_drop,cu]
 have:((is.drop L).take a).length=a:=by
  rw [List.length_take,List.length_drop]
  exact Nat.min_eq_left (Nat.le_sub_of_add_le (Nat.le_trans (Nat.le_of_eq (Nat.add_comm _ _)) (Nat.le_trans (Nat.add_le_add_left h _) hL)))
 rw [this,Nat.mul_comm n a,Int.mul_comm (2 ^ (a * n)),Int.add_comm]
noncomputable def tbJ:List Str:=["L","R","mid","shift","digits","n"]
noncomputable def nmJ:List (Str×NameKind):=[("L",.local),("R",.local),("mid",.local),("shift",.local),("digits",.free),("inner",.free),("n",.free)]
noncomputable def pmJ:List Str:=["L","R"]
noncomputable def dgS:Str:="digits"
noncomputable def tJ1:T:= .cmp .Eq (.bin .Add (.var 0) (.cst (.int 1))) (.var 1)
noncomputable def blkJ:S:= .seq (.asg 2 false (.bin .RShift (.bin .Add (.var 0) (.var 1)) (.cst (.int 1)))) (.seq (.asg 3 false (.bin .Mult (.bin .Sub (.var 2) (.var 0)) (.var 5))) .skip)
noncomputable def aJ1:T:= .cons (.var 2) (.cons (.var 1) .nil)
noncomputable def aJ2:T:= .cons (.var 0) (.cons (.var 2) .nil)
noncomputable def inJ (c:Cx) (sc:Scope) (ib:List Stmt):Bool×List Stmt :=
 let s0:=hs ib;let b0:=hs (sbod s0);let s3:=hs ib.tail.tail.tail;let e:=skid 0 s3;let l:=kid 0 e
 let t:=unT c sc tJ1 (skid 0 s0);let d:=unT c sc (.idx (.var 4) (.var 0)) (skid 0 b0);let m:=unS c sc blkJ ib.tail
 let a1:=unA c sc aJ1 (kid 0 l);let h:=unT c sc (.var 3) (kid 1 l);let a2:=unA c sc aJ2 (kid 1 e)
 (t.1&&d.1&&m.1&&a1.1&&h.1&&a2.1,.If t.2 [.Return (some d.2) b0.pos] [] s0.pos :: (m.2++[.Return (some (.BinOp (.BinOp (callN a1.2 (kid 0 l)) .LShift h.2 l.pos) .Add (callN a2.2 (kid 1 e)) e.pos)) s3.pos]))
noncomputable def sJ (L R:Int) (m sh:Option (D×Bool)) (ds:List D) (nn:Nat):MEnv:=[some (.int L,false),some (.int R,false),m,sh,some (.list ds,false),some (.int nn,false)]
theorem wz {G:ag} {F:FEnv} {ds:List D} {L len nn:Nat} (ha:len / 2<=1000000) (hn:nn<=1000000) :
  ex G F (sJ L ((L+len:Nat):Int) none none ds nn) blkJ=some (sJ L ((L+len:Nat):Int) (oi ((L+len / 2:Nat):Int)) (oi ((len / 2 * nn:Nat):Int)) ds nn,.next) :=
 an (c8 (rI rfl rfl)) (an (c8 (l8 rfl rfl rfl ha hn)) rfl)
theorem AV {G:ag} {F:FEnv} {O:MEnv} {is:List Int} {L:Nat} {i j:Nat} (h1:ev G F O true (.var i)=some (.list (is.map .int))) (h2:ev G F O true (.var j)=some (.int (L:Int))) (h:L<is.length) (hL:L<=1000000):ev G F O true (.idx (.var i) (.var j))=some (.int is[L]):=by
 refine ad h1 (ad h2 ?_)
 refine aq (c:=idxOk (L:Int)=true) (i8 hL) ?_
 rw [if_pos (Int.natCast_nonneg _),Int.toNat_natCast,List.getElem?_map,List.getElem?_eq_getElem h];rfl
variable [Jt:Tabs] [Jf:Frk]
theorem eN {h h':Heap} {X X':Addr->Prop} {is:List Int} {vs:List Value} (d:DenL h X (is.map .int) vs):DenL h' X' (is.map .int) vs:=by
 induction is generalizing vs with
 |nil=>exact d
 |cons i r ih =>
  obtain ⟨v,q,e,a,b⟩:=d
  exact ⟨v,q,e,a,ih b⟩
theorem BZ {sc:Scope} (hnm:sc.names=nmJ) {L R:Int} {nn:Nat} {vs:List Value} {cm:Str->Option Value} {is:List Int} {D:Addr} {items:Array Value} (mD:cm dgS=some (.ref D)) (mN:∃ t,cm ("n":Str)=some (.int nn t)) {h h':Heap} {Y Ex:Addr->Prop} (dl:DenL h Y [.int L,.int R] vs) (hx:¬ Ex D) (pl:h'.PlainList D items) (di:DenL h (λZz=>False) (is.map .int) items.toList) :
  FV (valS sc (parM pmJ vs) cm) h' Ex tbJ (sJ L R none none (is.map .int) nn):=by
 obtain ⟨v1,r1,rfl,⟨t1,rfl⟩,v2,r2,rfl,⟨t2,rfl⟩,e⟩:=dl
 obtain rfl:r2=[]:=e
 obtain ⟨tn,hn⟩:=mN
 have e:∀ y,valS sc (parM pmJ [.int L t1,.int R t2]) cm y=valK (parM pmJ [.int L t1,.int R t2] y) (cm y) (nmJ.lookup y):=λy=>by unfold valS;rw [hnm]
 exact .has ((e _).trans rfl) ⟨t1,rfl⟩ (.has ((e _).trans rfl) ⟨t2,rfl⟩ (.no (.no (.has ((e _).trans mD) ⟨D,items,rfl,hx,pl,eN di⟩ (.has ((e _).trans hn) ⟨tn,rfl⟩ .nil)))))
section
variable {prog:Program} {w:World} {c:Cx} {G:ag} {hB:Heap} {mg mb:Str->Option Value} {sc:Scope} {ib:List Stmt} {as:List Arg} {qual:Str} {cl:List (Str×Addr)} {cm:Str->Option Value} {f D:Addr} {nn:Nat} {is:List Int} {items:Array Value}
theorem zC (off:Frk.fs=none) (N:eX prog w c G hB mg mb sc pmJ as) (htb:c.tbl=tbJ) (hnm:sc.names=nmJ) (hi:(inJ c sc ib).1=true) (hr:(inJ c sc ib).2=ib) (hn1:nn<=4000) (K:Bx cl cm dgS D f nn) (hpos:∀ x∈is,0<=x) (hsm:small (und nn is)=true) (hsz:is.length<=100000) (hnb:is.length * nn<=1000000) :
  ∀ (fu len:Nat) (L:Nat),1<=len->len<=2 ^ fu->L+len<=is.length->∀ (A:Around) (E:Value->Shared->Prop) (s:Shared) (vs:List Value) (Y:Addr->Prop) (Q:Value->Shared->Prop),Ar (fu+1) A->KB hB s.heap->Clo s.heap f qual ⟨[],as,none,[],[],none,[]⟩ ib sc cl cm->s.heap.PlainList D items->DenL s.heap (λZz=>False) (is.map .int) items.toList->DenL s.heap Y [.int (L:Int),.int ((L+len:Nat):Int)] vs ->
   (∀ h' tk t,Kp s.heap h'->Q (.int (part nn is L len) t) {s with heap:=h',toks:=tk}) ->
   wpAny (model prog w) A (call (.ref f) vs) Q E s:=by
 intro fu
 induction fu using Nat.strongRecOn with
 |_ fu ih =>
  intro len L hl1 hl2 hL A E s vs Y Q ar kp C pl di dl hQ
  refine C.call off N.lim N.I N.has kp ar dl.length (O:=sJ L ((L+len:Nat):Int) none none (is.map .int) nn) (λh Ex k hx=>htb▸BZ hnm K.mA K.mN dl (λe=> ?_) (PL.at' pl (k.at D)) di) λenv h₀ tk E' hcel hsc S k0 hn ar1=> ?_
  ·rcases hx D e with q |⟨x,q⟩
   ·obtain ⟨o,e⟩:=PL.al pl;exact ai (q.symm.trans e)
   ·exact C.nseq q pl rfl
  refine aa hi λhi q6=>aa hi λhi q5=>aa hi λhi q4=>aa hi λhi q3=>aa hi λq1 q2=> ?_
  have hnB:hB.get? env.locals=none:=kp.none hn
  let p:Ast (wd0 prog w c G hB) sc _:= .inn (s:=s) tk hsc S (kp.trans k0) hnB ar1
  have kl:celK (env.scope.names.lookup inS)=true:=by rw [hsc,hnm];rfl
  obtain ⟨cI,hcI⟩:=K.i
  rw [<- hr]
  refine wpAny_execs_cons (wpAny_If ((eM N q1).is _ p.at _ _ _ _ (rU rfl rfl) rfl λh1 tk1 k1=> ?_))
  have S1:=S.keep k1
  have k01:=k0.trans k1
  let p1:Ast (wd0 prog w c G hB) sc _:= .inn (s:=s) tk1 hsc S1 (kp.trans k01) hnB ar1
  rcases Nat.lt_or_ge 1 len with hlen |hlen
  ·obtain ⟨fu',rfl⟩:∃ fu',fu=fu'+1:=by
    cases fu with
    |zero=>exact absurd (Nat.lt_of_lt_of_le hlen hl2) (by decide)
    |succ k=>exact ⟨k,rfl⟩
   rw [ou hlen,if_neg (by decide)]
   refine wpAny_execs_nil (tm ?_)
   obtain ⟨f1,f2⟩:=cj hlen
   obtain ⟨g1,g2⟩:=ck hl2
   have hle:len<=is.length:=Nat.le_trans (Nat.le_add_left _ _) hL
   have ha:len / 2 * nn<=1000000:=Nat.le_trans (Nat.mul_le_mul_right nn (Nat.le_trans (Nat.div_le_self _ _) hle)) hnb
   refine vS N rfl q3 _ p1 _ _ _ _ (wz (Nat.le_trans (Nat.le_trans (Nat.div_le_self _ _) hle) (Nat.le_trans hsz (by decide))) (Nat.le_trans hn1 (by decide))) λh2 tk2 Mu2 Ex2 ow2 S2 g=> ?_
   have kp2:Kp s.heap h2:=g.kp0 k01 λb e=>e▸hn
   have C2:=C.keep kp2
   let p2:Ast (wd0 prog w c G hB) sc _:=p1.on S2 g tk2
   obtain ⟨oF,doc,pm,cd,ct,oc,vc,t,e1,e2,Zz⟩:=C2.fo
   refine wpAny_execs_cons (wpAny_Return_some (wpAny_BinOp (wpAny_BinOp (cU (kc N q4) p2.at (C2.cell _ cI hcI) kl (hcel▸hcI) K.mI e1 e2 (ds:=[.int ((L+len / 2:Nat):Int),.int ((L+len:Nat):Int)]) rfl rfl λh3 us tk3 k3 dl3=> ?_))))
   have kp3:=kp2.trans k3
   have hLL:=gJ L len
   refine ih fu' (Nat.lt_succ_self _) (len - len / 2) (L+len / 2) f2 g2 (Nat.le_trans (Nat.le_of_eq hLL) hL) (A.deeper env) E' {s with heap:=h3,toks:=tk3} us _ _ ar1 (kp.trans kp3) (C.keep kp3) (PL.at' pl (kp3.at D)) (eN di) (hLL.symm▸dl3) λh4 tk4 t4 k4=> ?_
   have kp4:=kp3.trans k4
   have S4:=(S2.keep k3).keep k4
   let p4:Ast (wd0 prog w c G hB) sc _:={p2 with s:={s with heap:=h4,toks:=tk4},S:=S4,k:=kp.trans kp4}
   obtain ⟨b0,b1⟩:=xY nn hpos (L+len / 2) (len - len / 2)
   refine (eM N q5).vs _ p4.at _ true (.int ((len / 2 * nn:Nat):Int)) _ rfl λv h5 tk5 k5 d5 Zz=> ?_
   refine eD (s:={s with heap:=h5,toks:=tk5}) (Ex:=p4.Ex) (op:= .LShift) (a:= .int (part nn is (L+len / 2) (len - len / 2))) (d:= .int (part nn is (L+len / 2) (len - len / 2) * 2 ^ (len / 2 * nn))) (S4.keep k5).rr.lt ⟨_,rfl⟩ d5.top (aq (c:=(decide ((0:Int)<=((len / 2 * nn:Nat):Int))&&decide (((len / 2 * nn:Nat):Int).toNat<=1000000)&&small (part nn is (L+len / 2) (len - len / 2)))=true) ?_ rfl) λv6 h6 tk6 k6 d6 Zz=> ?_
   ·rw [Int.toNat_natCast,decide_eq_true (Int.natCast_nonneg _),decide_eq_true ha,cq hsm b0 b1];rfl
   have kp6:=(kp4.trans k5).trans k6
   have C6:=C.keep kp6
   let p6:Ast (wd0 prog w c G hB) sc _:={p2 with s:={s with heap:=h6,toks:=tk6},S:=(S4.keep k5).keep k6,k:=kp.trans kp6}
   obtain ⟨oF,doc,pm,cd,ct,oc,vc,t,e1,e2,Zz⟩:=C6.fo
   refine cU (kc N q6) p6.at (C6.cell _ cI hcI) kl (hcel▸hcI) K.mI e1 e2 (ds:=[.int (L:Int),.int ((L+len / 2:Nat):Int)]) rfl rfl λh7 us tk7 k7 dl7=> ?_
   have kp7:=kp6.trans k7
   refine ih fu' (Nat.lt_succ_self _) (len / 2) L f1 g1 (Nat.le_trans (Nat.add_le_add_left (Nat.div_le_self _ _) _) hL) (A.deeper env) E' {s with heap:=h7,toks:=tk7} us _ _ ar1 (kp.trans kp7) (C.keep kp7) (PL.at' pl (kp7.at D)) (eN di) dl7 λh8 tk8 t8 k8=> ?_
   refine eD (s:={s with heap:=h8,toks:=tk8}) (Ex:=p6.Ex) (op:= .Add) (b:= .int (part nn is L (len / 2))) (d:= .int (part nn is L len)) ((p6.S.keep k7).keep k8).rr.lt (d6.keep (k7.trans k8)).top ⟨_,rfl⟩ (congrArg (some ∘ Mine.D.int) (uK nn (Nat.div_le_self _ _) hL)) λv9 h9 tk9 k9 d9 Zz=> ?_
   obtain ⟨t9,rfl⟩:=d9
   exact hQ h9 tk9 t9 ((kp7.trans k8).trans k9)
  ·obtain rfl:=Nat.le_antisymm hlen hl1
   rw [rm,if_pos rfl]
   refine wpAny_execs_cons (wpAny_Return_some ((eM N q2).vs _ p1.at _ true (.int is[L]) _ (AV rfl rfl hL (Nat.le_trans (Nat.le_trans (Nat.le_add_right _ _) hL) (Nat.le_trans hsz (by decide)))) λv h2 tk2 k2 d2 Zz=> ?_))
   obtain ⟨t,rfl⟩:=d2.top
   rw [<- uJ nn hL]
   exact hQ h2 tk2 t (k01.trans k2)
end
end Mine
namespace Mine
noncomputable def s_pretty_flags:S :=
 (.seq (.asg 1 true (.list .nil)) <|
 (.seq (.fors [2] true .range1 (.cst (.int 32)) .nil (.seq (.asg 3 false (.bin .LShift (.cst (.int 1)) (.var 2))) <|
  (.seq (.ifs (.bin .BitAnd (.var 0) (.var 3)) (.seq (.app 1 (.dget "COMPILER_FLAG_NAMES" (.var 3) (.blt .hex (.cons (.var 3) .nil)))) <|
   (.seq (.aug 0 .BitXor (.var 3)) <|
   (.seq (.ifs (.un .Not (.var 0)) (.seq .brk <|
    .skip) .skip) <|
   .skip))) .skip) <|
  .skip)) (.seq (.app 1 (.blt .hex (.cons (.var 0) .nil))) <|
  .skip)) <|
 (.seq (.ret (.meth .join (.cst (.str ", ")) (.cons (.var 1) .nil))) <|
 .skip)))
noncomputable def s_div2n1n:S :=
 (.seq (.ifs (.cmp .LtE (.bin .Sub (.meth .bitlen (.var 0) .nil) (.var 2)) (.glob "_DIV_LIMIT")) (.seq (.ret (.blt .divmod (.cons (.var 0) (.cons (.var 1) .nil)))) <|
  .skip) .skip) <|
 (.seq (.asg 3 false (.bin .BitAnd (.var 2) (.cst (.int 1)))) <|
 (.seq (.ifs (.var 3) (.seq (.aug 0 .LShift (.cst (.int 1))) <|
  (.seq (.aug 1 .LShift (.cst (.int 1))) <|
  (.seq (.aug 2 .Add (.cst (.int 1))) <|
  .skip))) .skip) <|
 (.seq (.asg 4 false (.bin .RShift (.var 2) (.cst (.int 1)))) <|
 (.seq (.asg 5 false (.bin .Sub (.bin .LShift (.cst (.int 1)) (.var 4)) (.cst (.int 1)))) <|
 (.seq (.multi [(6,false),(7,false)] (.cons (.bin .RShift (.var 1) (.var 4)) (.cons (.bin .BitAnd (.var 1) (.var 5)) .nil))) <|
 (.seq (.unp [8,9] (.call "_div3n2n" (.cons (.bin .RShift (.var 0) (.var 2)) (.cons (.bin .BitAnd (.bin .RShift (.var 0) (.var 4)) (.var 5)) (.cons (.var 1) (.cons (.var 6) (.cons (.var 7) (.cons (.var 4) .nil)))))))) <|
 (.seq (.unp [10,9] (.call "_div3n2n" (.cons (.var 9) (.cons (.bin .BitAnd (.var 0) (.var 5)) (.cons (.var 1) (.cons (.var 6) (.cons (.var 7) (.cons (.var 4) .nil)))))))) <|
 (.seq (.ifs (.var 3) (.seq (.aug 9 .RShift (.cst (.int 1))) <|
  .skip) .skip) <|
 (.seq (.ret (.tup (.cons (.bin .BitOr (.bin .LShift (.var 8) (.var 4)) (.var 10)) (.cons (.var 9) .nil)))) <|
 .skip))))))))))
noncomputable def s_divmod_pos:S :=
 (.seq (.asg 2 false (.meth .bitlen (.var 1) .nil)) <|
 (.seq (.asg 3 false (.call "_int2digits" (.cons (.var 0) (.cons (.var 2) .nil)))) <|
 (.seq (.asg 4 false (.cst (.int 0))) <|
 (.seq (.asg 5 true (.list .nil)) <|
 (.seq (.fors [6] true .rev (.var 3) .nil (.seq (.unp [7,4] (.call "_div2n1n" (.cons (.bin .Add (.bin .LShift (.var 4) (.var 2)) (.var 6)) (.cons (.var 1) (.cons (.var 2) .nil))))) <|
  (.seq (.app 5 (.var 7)) <|
  .skip)) .skip) <|
 (.seq (.revm 5) <|
 (.seq (.asg 8 false (.callb "_digits2int" (.cons (.var 5) (.cons (.var 2) .nil)))) <|
 (.seq (.ret (.tup (.cons (.var 8) (.cons (.var 4) .nil)))) <|
 .skip))))))))
noncomputable def s_int_divmod:S :=
 (.seq (.ifs (.cmp .Eq (.var 1) (.cst (.int 0))) (.seq .bad <|
  .skip) (.seq (.ifs (.cmp .Lt (.var 1) (.cst (.int 0))) (.seq (.unp [2,3] (.call "int_divmod" (.cons (.un .USub (.var 0)) (.cons (.un .USub (.var 1)) .nil)))) <|
   (.seq (.ret (.tup (.cons (.var 2) (.cons (.un .USub (.var 3)) .nil)))) <|
   .skip)) (.seq (.ifs (.cmp .Lt (.var 0) (.cst (.int 0))) (.seq (.unp [2,3] (.call "int_divmod" (.cons (.un .Invert (.var 0)) (.cons (.var 1) .nil)))) <|
    (.seq (.ret (.tup (.cons (.un .Invert (.var 2)) (.cons (.bin .Add (.var 1) (.un .Invert (.var 3))) .nil)))) <|
    .skip)) (.seq (.ret (.call "_divmod_pos" (.cons (.var 0) (.cons (.var 1) .nil)))) <|
    .skip)) <|
   .skip)) <|
  .skip)) <|
 .skip)
noncomputable def s_ellipsis_match:S :=
 (.seq (.ifs (.cmp .NotIn (.glob "ELLIPSIS_MARKER") (.var 0)) (.seq (.ret (.cmp .Eq (.var 0) (.var 1))) <|
  .skip) .skip) <|
 (.seq (.asg 2 true (.meth .split (.var 0) (.cons (.glob "ELLIPSIS_MARKER") .nil))) <|
 (.seq (.asrt (.cmp .GtE (.blt .len (.cons (.var 2) .nil)) (.cst (.int 2)))) <|
 (.seq (.multi [(3,false),(4,false)] (.cons (.cst (.int 0)) (.cons (.blt .len (.cons (.var 1) .nil)) .nil))) <|
 (.seq (.asg 5 false (.idx (.var 2) (.cst (.int 0)))) <|
 (.seq (.ifs (.var 5) (.seq (.ifs (.meth .startswith (.var 1) (.cons (.var 5) .nil)) (.seq (.asg 3 false (.blt .len (.cons (.var 5) .nil))) <|
   (.seq (.del 2 (.cst (.int 0))) <|
   .skip)) (.seq (.ret (.cst (.bool false))) <|
   .skip)) <|
  .skip) .skip) <|
 (.seq (.asg 5 false (.idx (.var 2) (.un .USub (.cst (.int 1))))) <|
 (.seq (.ifs (.var 5) (.seq (.ifs (.meth .endswith (.var 1) (.cons (.var 5) .nil)) (.seq (.aug 4 .Sub (.blt .len (.cons (.var 5) .nil))) <|
   (.seq (.del 2 (.un .USub (.cst (.int 1)))) <|
   .skip)) (.seq (.ret (.cst (.bool false))) <|
   .skip)) <|
  .skip) .skip) <|
 (.seq (.ifs (.cmp .Gt (.var 3) (.var 4)) (.seq (.ret (.cst (.bool false))) <|
  .skip) .skip) <|
 (.seq (.fors [5] true .plain (.var 2) .nil (.seq (.asg 3 false (.meth .find3 (.var 1) (.cons (.var 5) (.cons (.var 3) (.cons (.var 4) .nil))))) <|
  (.seq (.ifs (.cmp .Lt (.var 3) (.cst (.int 0))) (.seq (.ret (.cst (.bool false))) <|
   .skip) .skip) <|
  (.seq (.aug 3 .Add (.blt .len (.cons (.var 5) .nil))) <|
  .skip))) .skip) <|
 (.seq (.ret (.cst (.bool true))) <|
 .skip)))))))))))
noncomputable def s_in_table_b1:S :=
 (.seq (.ret (.inset "b1_set" (.blt .ord (.cons (.var 0) .nil)))) <|
 .skip)
noncomputable def s_map_table_b3:S :=
 (.seq (.asg 1 false (.dget "b3_exceptions" (.blt .ord (.cons (.var 0) .nil)) (.cst .none))) <|
 (.seq (.ifs (.cmp .IsNot (.var 1) (.cst .none)) (.seq (.retv 1) <|
  .skip) .skip) <|
 (.seq (.ret (.meth .lower (.var 0) .nil)) <|
 .skip)))
noncomputable def s_law_unseen:S :=
 (.seq (.ret (.bin .Add (.list (.cons (.cst (.int 173)) (.cons (.cst (.int 847)) (.cons (.cst (.int 6150)) (.cons (.cst (.int 6155)) (.cons (.cst (.int 6156)) (.cons (.cst (.int 6157)) (.cons (.cst (.int 8203)) (.cons (.cst (.int 8204)) (.cons (.cst (.int 8205)) (.cons (.cst (.int 8288)) (.cons (.cst (.int 65279)) .nil)))))))))))) (.lrange (.cst (.int 65024)) (.cst (.int 65040))))) <|
 .skip)
theorem sf (n a b:Nat):(2:Int) ^ (n * (a+b))=2 ^ (n * a) * 2 ^ (n * b):=by rw [Nat.mul_add,Int.pow_add]
theorem ba (k:Nat):(0:Int)<2 ^ k:=Int.pow_pos (by decide)
theorem d8 {b:Int} (hb:0<b) (a:Int):0<=a.fmod b/\a.fmod b<b:=by
 rw [Int.fmod_eq_emod_of_nonneg _ (Int.le_of_lt hb)]
 exact ⟨Int.emod_nonneg _ (Int.ne_of_gt hb),Int.emod_lt_of_pos _ hb⟩
theorem nO {a b c:Int} (hb:0<b) (h0:0<=a) (h:a<c * b):0<=a.fdiv b/\a.fdiv b<c:=by
 rw [Int.fdiv_eq_ediv_of_nonneg _ (Int.le_of_lt hb)]
 exact ⟨Int.ediv_nonneg h0 (Int.le_of_lt hb),Int.ediv_lt_of_lt_mul hb h⟩
theorem n7 {len:Nat} (h1:1<=len) (h2:¬ 2<=len):len=1:=Nat.le_antisymm (Nat.le_of_lt_succ (Nat.lt_of_not_le h2)) h1
theorem jp (n:Nat) (x:Int):und n [x]=x:=by rw [und,und,Int.mul_zero,Int.add_zero]
theorem jo (n:Nat):∀ (f len:Nat) (x:Int),1<=len->len<=2 ^ f->0<=x->und n (dig n f len x)=x
 |0,len,x,h1,h2,h3=>jp n x
 |f+1,len,x,h1,h2,h3=>by
  by_cases h:2<=len
  ·obtain ⟨p1,p2⟩:=cj h
   obtain ⟨q1,q2⟩:=ck h2
   rw [fX _ _ _ _ h,cu,bZ _ _ _ _ p1 q1,jo n f _ _ p1 q1 (iY h3).1,jo n f _ _ p2 q2 (dY h3).1,Nat.mul_comm n]
   exact Int.fmod_add_mul_fdiv x _
  ·obtain rfl:=n7 h1 h
   rw [fW];exact jp n x
theorem kO (n:Nat):∀ (f len:Nat) (x:Int),1<=len->len<=2 ^ f->0<=x->x<2 ^ (n * len)->∀ d∈dig n f len x,0<=d/\d<2 ^ n
 |0,len,x,h1,h2,h3,h4,d,hd=>by
  obtain rfl:len=1:=Nat.le_antisymm h2 h1
  rw [List.mem_singleton.mp hd]
  rw [Nat.mul_one] at h4;exact ⟨h3,h4⟩
 |f+1,len,x,h1,h2,h3,h4,d,hd=>by
  by_cases h:2<=len
  ·obtain ⟨p1,p2⟩:=cj h
   obtain ⟨q1,q2⟩:=ck h2
   rw [fX _ _ _ _ h] at hd
   have hp:=ba (len / 2 * n)
   rcases List.mem_append.mp hd with hd |hd
   ·refine kO n f _ _ p1 q1 (iY h3).1 ?_ d hd
    rw [Nat.mul_comm n];exact (d8 hp x).2
   ·refine kO n f _ _ p2 q2 (dY h3).1 (nO hp h3 ?_).2 d hd
    rw [Nat.mul_comm (len / 2),<- sf,Nat.sub_add_cancel (Nat.div_le_self _ _)]
    exact h4
  ·obtain rfl:=n7 h1 h
   rw [fW] at hd
   rw [List.mem_singleton.mp hd]
   rw [Nat.mul_one] at h4;exact ⟨h3,h4⟩
theorem bX (a:Int) (h:0<=a) (k:Nat):Builtin.Int.intBits a<=k↔a<2 ^ k:=by
 obtain ⟨m,rfl⟩:=Int.eq_ofNat_of_zero_le h
 rw [PySem.intBits_le_iff,show ((2:Int) ^ k)=((2 ^ k:Nat):Int) from (Int.natCast_pow 2 k).symm]
 exact Int.ofNat_lt.symm
theorem gK {a:Int} {n:Nat} (h0:0<=a) (hs:small a=true) (h1:1<=n) (h2:n<=4000):i2dSpec [.int a,.int (n:Int)]=some (.list ((i2d a n).map .int)) :=
 aq (c:=(decide (0<=a)&&small a&&decide ((1:Int)<=n)&&decide ((n:Int)<=4000))=true) (by rw [decide_eq_true h0,hs,decide_eq_true (show (1:Int)<=n from Int.ofNat_le.mpr h1),decide_eq_true (show (n:Int)<=4000 from Int.ofNat_le.mpr h2)];rfl) rfl
theorem ra {a:Int} {n:Nat} (h0:0<=a) (h1:1<=n):a<2 ^ (n * i2dLen a n):=by
 rw [<- bX a h0]
 show _<=n * ((Builtin.Int.intBits a+n - 1) / n)
 generalize Builtin.Int.intBits a=b
 exact Nat.le_of_add_le_add_right (Nat.le_trans (Nat.le_of_eq (Nat.sub_add_cancel (Nat.le_trans h1 (Nat.le_add_left n b))).symm) (Nat.lt_mul_div_succ (b+n - 1) h1))
theorem dc {k:Nat} (h:k<=4000):k<=2 ^ 12:=Nat.le_trans h (by decide)
theorem pP {a:Int} {n:Nat} (hs:small a=true) (h1:1<=n) (h2:n<=4000):i2dLen a n<=4000/\i2dLen a n * n<=8000/\(a≠0->1<=i2dLen a n):=by
 obtain ⟨g1,g2,g3⟩:=n6 (dQ hs) h1 h2
 refine ⟨g1,g2,λh=>g3 ?_⟩
 unfold Builtin.Int.intBits
 rw [beq_eq_false_iff_ne.mpr h]
 exact Nat.le_add_left 1 _
theorem f9 {a:Int} {n:Nat} (h0:0<=a) (hs:small a=true) (h1:1<=n) (h2:n<=4000):und n (i2d a n)=a/\(∀ d∈i2d a n,0<=d/\d<2 ^ n)/\(i2d a n).length * n<=8000/\(i2d a n).length<=4000:=by
 unfold i2d
 by_cases hz:a=0
 ·rw [if_pos hz,hz];exact ⟨rfl,λd hd=>(nomatch hd),by rw [List.length_nil,Nat.zero_mul];decide,by decide⟩
 ·rw [if_neg hz]
  obtain ⟨g2,g3,g4⟩:=pP hs h1 h2
  have hb:=ra h0 h1
  rw [bZ _ _ _ _ (g4 hz) (dc g2)]
  exact ⟨jo n 12 _ a (g4 hz) (dc g2) h0,kO n 12 _ a (g4 hz) (dc g2) h0 hb,g3,g2⟩
theorem mC (n:Nat):∀ (ds:List Int),(∀ d∈ds,0<=d/\d<2 ^ n)->und n ds<2 ^ (n * ds.length)
 | [],_=>by rw [List.length_nil,Nat.mul_zero];exact Int.zero_lt_one
 |d :: ds,h=>by
  have h1:=(h d List.mem_cons_self).2
  have h2:=mC n ds λx hx=>h x (List.mem_cons_of_mem _ hx)
  rw [und,List.length_cons,Nat.mul_add,Nat.mul_one,Int.pow_add,Int.mul_comm (2 ^ (n * ds.length))]
  have h3:2 ^ n * (und n ds+1)<=2 ^ n * 2 ^ (n * ds.length):=Int.mul_le_mul_of_nonneg_left h2 (Int.le_of_lt (ba n))
  rw [Int.mul_add,Int.mul_one,Int.add_comm] at h3
  exact Int.lt_of_lt_of_le (Int.add_lt_add_right h1 _) h3
theorem mB (n:Nat) {x:Int} (h:0<=x/\x<2 ^ n) (r:Int):(x+2 ^ n * r) % 2 ^ n=x:=by rw [Int.add_mul_emod_self_left];exact Int.emod_eq_of_lt h.1 h.2
theorem oZ (n:Nat):∀ (xs ys:List Int),xs.length=ys.length->(∀ d∈xs,0<=d/\d<2 ^ n)->(∀ d∈ys,0<=d/\d<2 ^ n)->und n xs=und n ys->xs=ys
 | [],[],_,_,_,_=>rfl
 |x :: xs,y :: ys,hl,h1,h2,h=>by
  rw [und,und] at h
  obtain rfl:x=y:=by rw [<- mB n (h1 x List.mem_cons_self) (und n xs),<- mB n (h2 y List.mem_cons_self) (und n ys),h]
  have:=Int.eq_of_mul_eq_mul_left (Int.ne_of_gt (ba n)) (Int.add_left_cancel h)
  rw [oZ n xs ys (Nat.succ.inj hl) (λd hd=>h1 d (List.mem_cons_of_mem _ hd)) (λd hd=>h2 d (List.mem_cons_of_mem _ hd)) this]
 | [],_ :: _,hl,_,_,_=>nomatch hl
 |_ :: _,[],hl,_,_,_=>nomatch hl
theorem zL {B n k:Nat} (hn:1<=n) (h1:¬ B<=n * k) (h2:B<=n * (k+1)):(B+n - 1) / n=k+1:=by
 rw [Nat.add_sub_assoc hn]
 refine Nat.div_eq_of_lt_le ?_ ?_
 ·rw [Nat.add_mul,Nat.one_mul,Nat.mul_comm k]
  exact Nat.le_trans (Nat.le_of_eq (show n * k+n=n * k+1+(n - 1) by rw [Nat.add_assoc,Nat.add_sub_of_le hn])) (Nat.add_le_add_right (Nat.lt_of_not_le h1) _)
 ·rw [Nat.mul_comm]
  exact Nat.add_lt_add_of_le_of_lt h2 (Nat.sub_lt hn (by decide))
theorem mR {n:Nat} {ds:List Int} {z:Int} (hn:1<=n) (hn2:n<=4000) (hd:∀ d∈ds++[z],0<=d/\d<2 ^ n) (hz:z≠0) (hs:small (und n (ds++[z]))=true):i2d (und n (ds++[z])) n=ds++[z]:=by
 have hnn:=ce n (ds++[z]) λx hx=>(hd x hx).1
 obtain ⟨g1,g2,Zz,Zz⟩:=f9 (n:=n) hnn hs hn hn2
 have hz0:1<=z:=Int.lt_iff_le_and_ne.mpr ⟨(hd z (List.mem_append_right _ List.mem_cons_self)).1,Ne.symm hz⟩
 have hlow:2 ^ (n * ds.length)<=und n (ds++[z]):=by
  rw [cu,jp]
  have h1:=ce n ds λx hx=>(hd x (List.mem_append_left _ hx)).1
  have:=Int.mul_le_mul_of_nonneg_left hz0 (Int.le_of_lt (ba (n * ds.length)))
  rw [Int.mul_one] at this
  exact Int.le_trans this (Int.le_add_of_nonneg_left h1)
 have hup:=mC n (ds++[z]) hd
 have hne:und n (ds++[z])≠0:=Int.ne_of_gt (Int.lt_of_lt_of_le (ba _) hlow)
 refine oZ n _ _ ?_ g2 hd g1
 unfold i2d
 rw [if_neg hne]
 obtain ⟨l2,l3,l4⟩:=pP hs hn hn2
 rw [bZ _ _ _ _ (l4 hne) (dc l2)]
 rw [<- bX _ hnn] at hup
 have hb1:¬ Builtin.Int.intBits (und n (ds++[z]))<=n * ds.length:=by rw [bX _ hnn];exact Int.not_lt.mpr hlow
 rw [List.length_append] at hup ⊢
 exact zL hn hb1 hup
end Mine
namespace Mine
noncomputable def d2iB (n:Int) (is:List Int):Bool:=is.all (λx=>decide (0<=x))&&decide (0<=n)&&decide (n<=4000)&&decide (is.length<=4096)&&decide (is.length * n.toNat<=1000000)&&small (und n.toNat is)
noncomputable def d2iSpec (ds:List D):Option D:=(two? ds).bind λp=>p.1.list?.bind λds=>p.2.int?.bind λn=>(ints? ds).bind λis=>if d2iB n is then some (.int (und n.toNat is)) else none
noncomputable def tbK:List Str:=["digits","n"]
noncomputable def nmK:List (Str×NameKind):=[("digits",.cell),("n",.cell),("inner",.cell),("len",.globalImplicit)]
noncomputable def aK:T:= .cons (.cst (.int 0)) (.cons (.blt .len (.cons (.var 0) .nil)) .nil)
noncomputable def outJ (c:Cx) (sc:Scope) (body:List Stmt):Bool×List Stmt :=
 let s1:=hs body.tail;let e:=skid 0 s1
 let t:=unT c sc (.var 0) (kid 0 e);let g:=unA c sc aK (kid 1 e);let z:=unT c sc (.cst (.int 0)) (kid 2 e)
 (t.1&&g.1&&z.1,[defN (itemOf (hs body)),.Return (some (.IfExp t.2 (callN g.2 (kid 1 e)) z.2 e.pos)) s1.pos])
noncomputable def d2iOk (c:Cx) (d:DefItem):Bool:=let q:=itemOf (hs d.body)
 (outJ (atT c tbK) d.scope d.body).1&&(inJ (atT c tbJ) q.scope q.body).1&&d.scope.names==nmK&&defB c tbK d&&parsOf d.params==(["digits","n"]:List Str)&&defInB d.scope tbJ pmJ nmJ q
noncomputable def d2iU (c:Cx) (d:DefItem):List Stmt×List Stmt:=let q:=itemOf (hs d.body);((outJ (atT c tbK) d.scope d.body).2,(inJ (atT c tbJ) q.scope q.body).2)
theorem zc (L:Nat):cellsFrom (L+1) nmK []=[(inS,L+3),(("n":Str),L+2),(dgS,L+1)]:=rfl
theorem nV {ds:List D} {is:List Int} (h:ints? ds=some is):ds=is.map .int:=by
 induction ds generalizing is with
 |nil=>rw [<- sm h];rfl
 |cons d ds ih =>
  refine ae h λi hi h=>ay h λns h1 h2=> ?_
  rw [<- h2,ih h1]
  exact aS (P:=λd=>d :: _=_) hi rfl
variable [Jt:Tabs] [Jf:Frk]
section
variable {prog:Program} {w:World} {c:Cx} {G:ag} {hB:Heap} {mg mb:Str->Option Value} {d:DefItem} {name:Str} {a:Addr}
theorem wM (off:Frk.fs=none) (B:Base prog w c G hB mg mb) (hbm:HasB mg hB) (lim:hB.NoLimit) (hd:d2iOk c d=true) (hu1:(d2iU c d).1=d.body) (hu2:(d2iU c d).2=(itemOf (hs d.body)).body) (hp:d.params=plainPar d.params) (da:DefAt hB a name d.params d.body d.scope) (htb:∀ cd P,hB.TableAt cd P #[]->Tabs.tb P)
  (hq:Tabs.q (itemOf (hs d.body)).pos.line (itemOf (hs d.body)).pos.col=name++(".<locals>.":Str)++inS) {F':FEnv} (hF:∀ ds r,F' name ds=some r->d2iSpec ds=some r) {k:Nat} (hk:60<=k):Ctr prog w hB k F' name a:=by
 intro A E s Y ds vs r Q ar kp hX hden hr ret
 have hr:=hF _ _ hr
 revert hden
 refine ae hr λp hp2 hr=>iM (P:=λds=>DenL s.heap Y ds vs->_) hp2 ?_
 refine ae hr λds hds hr=>ae hr λnv hnv hr=>bH (P:=λx=>DenL s.heap Y [x,_] vs->_) hds (aS (P:=λx=>DenL s.heap Y [_,x] vs->_) hnv ?_)
 refine ae hr λis his hr2=>gd hr2 λhc hr3 hden=> ?_
 obtain rfl:=nV his
 obtain rfl:=sm hr3
 refine aa hc λhc c6=>aa hc λhc c5=>aa hc λhc c4=>aa hc λhc c3=>aa hc λc1 c2=> ?_
 have hpos:∀ x∈is,0<=x:=λx hx=>de (List.all_eq_true.mp c1 x hx)
 have c2:=de c2;have c3:=de c3;have c4:=de c4;have c5:=de c5
 refine aa hd λhd d6=>aa hd λhd d5=>aa hd λhd d4=>aa hd λhd d3=>aa hd λd1 d2=> ?_
 refine aa d6 λd6 w6=>aa d6 λd6 w5=>aa d6 λd6 w4=>aa d6 λd6 w3=>aa d6 λw1 w2=> ?_
 refine aa d1 λd1 u3=>aa d1 λu1 u2=> ?_
 have hnm:d.scope.names=nmK:=eq_of_beq d3
 have hin:(itemOf (hs d.body)).scope.names=nmJ:=eq_of_beq w4
 have B3:(Wd.mk prog w (atT c tbK) G (λZz Zz=>none) hB 58).Ok mg mb:=B.at tbK
 have CT:(Wd.mk prog w (atT c tbK) G (λZz Zz=>none) hB 58).Ct mg:=qD
 have ok3:=fV (name:=name) d4 hp
 refine dz off (X:=⟨prog,w,atT c tbK,G,λZz Zz=>none,hB,58⟩) lim ok3 da (ar.mono (Nat.le_trans (show 59<=60 by decide) hk)) kp hX hden (congrArg List.length (eq_of_beq d5)).symm ret λp cd T he Zz h7 h8 hnew k0 fin=> ?_
 rw [<- hu1]
 have hcel:p.env.cells=[(inS,s.heap.objs.size+3),(("n":Str),s.heap.objs.size+2),(dgS,s.heap.objs.size+1)]:=by rw [he];show cellsFrom _ d.scope.names []=_;rw [hnm];exact zc _
 have hl:∀ {x k},nmK.lookup x=some k->p.env.scope.names.lookup x=some k:=λh=>by rw [p.hsc,hnm];exact h
 have lk:∀ {x k},([(inS,s.heap.objs.size+3),(("n":Str),s.heap.objs.size+2),(dgS,s.heap.objs.size+1)]:List (Str×Addr)).lookup x=some k->p.env.cells.lookup x=some k:=λh=>by rw [hcel];exact h
 have fk:∀ {x k},nmJ.lookup x=some k->(itemOf (hs d.body)).scope.names.lookup x=some k:=λh=>by rw [hin];exact h
 refine wpAny_execs_cons (qE p B3 hbm (he▸rfl) h7 h8 (htb _ _ h8) w2 (Option.isNone_iff_eq_none.mp w3) ?_ hq (by rw [hnm];rfl) (oq rfl) (lk rfl) (q:=(("n":Str),s.heap.objs.size+2)) (r:=[(inS,s.heap.objs.size+3),(dgS,s.heap.objs.size+1)]) ?_ ?_ (by rw [hin];rfl) λh2 tk2 m cm f S2 g2 F2 V2 hf C=> ?_)
 ·unfold qualnameIn
  rw [show p.env.kindOf inS=some .cell from hl rfl,if_neg (by decide)]
  show p.env.qual++_=_
  rw [he];rfl
 ·unfold closureFor cellOf
  show _=_
  rw [hin,hcel];rfl
 ·exact List.forall_mem_cons.mpr ⟨⟨lk rfl,fk rfl⟩,List.forall_mem_cons.mpr ⟨⟨lk rfl,fk rfl⟩,List.forall_mem_cons.mpr ⟨⟨lk rfl,fk rfl⟩,λZz h=>nomatch h⟩⟩⟩
 let p2:Ast _ d.scope _:=p.on S2 g2 tk2
 have hsz:sizeOk (is.map D.int).length=true:=decide_eq_true (by rw [List.length_map];exact Nat.le_trans c4 (by decide))
 refine wpAny_execs_cons (wpAny_Return_some (wpAny_IfExp (((bO B3 CT (.var 0)).e u1).is _ p2.at _ (.list (is.map .int)) (!(is.map D.int).isEmpty) _ rfl (aq hsz rfl) λh3 tk3 k3=> ?_)))
 let p3:Ast _ d.scope _:=p2.to k3 tk3
 have G3:=g2.trans p.lt p.S.mu (Gr.of_kp k3 _ _)
 cases is with
 |nil =>
  rw [if_neg (show ¬ (!(([]:List Int).map D.int).isEmpty)=true from Bool.false_ne_true)]
  refine ((bO B3 CT (.cst (.int 0))).e u3).vs _ p3.at _ true (.int 0) _ rfl λv h4 tk4 k4 d4 Zz=> ?_
  exact fin h4 tk4 v _ _ (G3.trans p.lt p.S.mu (Gr.of_kp k4 _ _)) d4.top
 |cons i0 ir =>
  rw [if_pos (show (!((i0 :: ir).map D.int).isEmpty)=true from rfl)]
  have C3:=C.keep k3
  obtain ⟨o,doc,pm,cd',ct,oc,vc,t,e1,e2,Zz⟩:=C3.fo
  obtain ⟨vD,mD,⟨D,items,hD,xD,plD,dlD⟩,Zz⟩:=V2.cell (i:=0) (x:=dgS) (b:=false) rfl rfl (hl rfl)
  obtain ⟨vN,mN,⟨tN,hN⟩,Zz⟩:=V2.cell (i:=1) (x:=("n":Str)) (b:=false) rfl rfl (hl rfl)
  have hnv:nv=(nv.toNat:Int):=(Int.toNat_of_nonneg c2).symm
  refine cU ((bO B3 CT aK).l u2).as p3.at (C3.cell inS _ rfl) (by rw [hl (x:=inS) rfl];rfl) (lk rfl) hf e1 e2 (ds:=[.int ((0:Nat):Int),.int ((0+(i0 :: ir).length:Nat):Int)]) (aW rfl (aW (ad (aW rfl rfl) (aq hsz (by rw [List.length_map,Nat.zero_add]))) rfl)) rfl λh4 us tk4 k4 dl4=> ?_
  refine zC (prog:=prog) (w:=w) (c:=atT c tbJ) (G:=G) (mg:=mg) (mb:=mb) (sc:=(itemOf (hs d.body)).scope) (as:=(itemOf (hs d.body)).params.args) (nn:=nv.toNat) (is:=i0 :: ir) off ⟨B.at tbJ,lim,w6,w5,eq_of_beq w1⟩ rfl hin d2 hu2 (Int.toNat_le.mpr c3) ⟨⟨_,rfl⟩,⟨_,rfl⟩,by rw [mD,hD],hf,tN,by rw [mN,hN,<- hnv]⟩ hpos c6 (Nat.le_trans c4 (by decide)) c5 12 (i0 :: ir).length 0 (Nat.le_add_left _ _) (Nat.le_trans c4 (by decide)) (by rw [Nat.zero_add];exact Nat.le_refl _) p.A _ {p.s with heap:=h4,toks:=tk4} us _ _ (p.ar.mono (show 13<=58 by decide)) (p3.k.trans k4) (C3.keep k4) (PL.at' plD ((k3.trans k4).at D)) (eN dlD) dl4 λh5 tk5 t5 k5=> ?_
  refine fin h5 tk5 _ _ _ (G3.trans p.lt p.S.mu (Gr.of_kp (k4.trans k5) _ _)) ⟨t5,?_⟩
  show Value.int (und _ (((i0 :: ir).drop 0).take (i0 :: ir).length)) t5=_
  rw [List.drop_zero,List.take_length]
end
end Mine
namespace Mine
noncomputable abbrev iv (i:Int):Option (D×Bool):=some (.int i,false)
theorem mW {G:ag} {F:FEnv} (hG:G.const "_DIV_LIMIT"=some (.int 4000)) {a b n:Int} (hb:small b=true) (hb0:b≠0) (hbits:((Builtin.Int.intBits a:Nat):Int) - n<=4000) :
  run G F 11 s_div2n1n [.int a,.int b,.int n]=some (.tup [.int (a.fdiv b),.int (a.fmod b)]) :=
 aH [iv a,iv b,iv n,none,none,none,none,none,none,none,none] rfl (az (aJ (aj (x:= .int (((Builtin.Int.intBits a:Nat):Int) - n)) (y:= .int 4000) (r:=true) rfl hG (congrArg some (decide_eq_true hbits))) rfl (aN (aG (aC rfl rfl) (tC hb0 hb)))))
noncomputable def ld (b:Int) (n:Nat):Int->List Int->List Int×Int
 |r,[]=>([],r)
 |r,d :: ds=>((r * 2 ^ n+d).fdiv b :: (ld b n ((r * 2 ^ n+d).fmod b) ds).1,(ld b n ((r * 2 ^ n+d).fmod b) ds).2)
noncomputable def hv (n:Nat) (r:Int) (ds:List Int):Int:=ds.foldl (λacc d=>acc * 2 ^ n+d) r
theorem zx (n:Nat) (r:Int) (xs:List Int) (d:Int):hv n r (xs++[d])=hv n r xs * 2 ^ n+d:=by
 unfold hv;rw [List.foldl_append];rfl
theorem lj (n:Nat):∀ (ds:List Int),hv n 0 ds.reverse=und n ds
 | []=>rfl
 |d :: ds=>by rw [List.reverse_cons,zx,lj n ds,und,Int.mul_comm,Int.add_comm]
theorem xE (q0 r d b q m p:Int) (h:m+b * q=r * p+d):(q0 * p+q) * b+m=(q0 * b+r) * p+d:=by
 rw [Int.add_mul,Int.add_mul,Int.mul_right_comm q0,Int.mul_comm q b,Int.add_assoc,Int.add_comm (b * q) m,h,Int.add_assoc]
theorem ry {b:Int} {n:Nat}:∀ (ds:List Int) (q0 r:Int),hv n q0 (ld b n r ds).1 * b+(ld b n r ds).2=hv n (q0 * b+r) ds
 | [],q0,r=>rfl
 |d :: ds,q0,r=>(ry (n:=n) ds (q0 * 2 ^ n+(r * 2 ^ n+d).fdiv b) ((r * 2 ^ n+d).fmod b)).trans (congrArg (hv n · ds) (xE q0 r d b _ _ _ (Int.fmod_add_mul_fdiv (r * 2 ^ n+d) b)))
theorem zJ {b r d p:Int} (hp:0<p) (h0:0<=r) (h1:r<b) (hd:0<=d/\d<p):0<=r * p+d/\r * p+d<b * p:=by
 refine ⟨Int.add_nonneg (Int.mul_nonneg h0 (Int.le_of_lt hp)) hd.1,?_⟩
 have:(r+1) * p<=b * p:=Int.mul_le_mul_of_nonneg_right h1 (Int.le_of_lt hp)
 rw [Int.add_mul,Int.one_mul] at this
 exact Int.lt_of_lt_of_le (Int.add_lt_add_left hd.2 _) this
theorem vT {b:Int} {n:Nat} (hb:0<b):∀ (ds:List Int) (r:Int),0<=r->r<b->(∀ d∈ds,0<=d/\d<2 ^ n)->(0<=(ld b n r ds).2/\(ld b n r ds).2<b)/\(∀ q∈(ld b n r ds).1,0<=q/\q<2 ^ n)/\(ld b n r ds).1.length=ds.length
 | [],r,h0,h1,_=>⟨⟨h0,h1⟩,λZz h=>(nomatch h),rfl⟩
 |d :: ds,r,h0,h1,h=>by
  obtain ⟨t0,t1⟩:=zJ (ba n) h0 h1 (h d List.mem_cons_self)
  obtain ⟨m0,m1⟩:=d8 hb (r * 2 ^ n+d)
  obtain ⟨i1,i2,i3⟩:=vT hb ds _ m0 m1 λx hx=>h x (List.mem_cons_of_mem _ hx)
  refine ⟨i1,λq hq=> ?_,congrArg Nat.succ i3⟩
  rcases List.mem_cons.mp hq with rfl |hq
  ·exact nO hb t0 (Int.mul_comm b _▸t1)
  ·exact i2 q hq
noncomputable def dvT:T:= .call "_div2n1n" (.cons (.bin .Add (.bin .LShift (.var 4) (.var 2)) (.var 6)) (.cons (.var 1) (.cons (.var 2) .nil)))
noncomputable def dvB:S:= .seq (.unp [7,4] dvT) (.seq (.app 5 (.var 7)) .skip)
theorem wW {G:ag} {F:FEnv} {x0 x3 x6 x7 x8:Option (D×Bool)} {b r d q m:Int} {n:Nat} {qs:List D} (hr:small r=true) (hn:n<=4000) (hF:F "_div2n1n" [.int (r * 2 ^ n+d),.int b,.int (n:Int)]=some (.tup [.int q,.int m])) (hq:qs.length<=1048576) :
  bodyT G F [6] true dvB [x0,iv b,iv n,x3,iv r,some (.list qs,true),x6,x7,x8] (.int d)=some ([x0,iv b,iv n,x3,iv m,some (.list (qs++[.int q]),true),iv d,iv q,x8],.next) :=
 ad (a:=[x0,iv b,iv n,x3,iv r,some (.list qs,true),iv d,x7,x8]) rfl (an (qQ (au (fP (af (af (x:= .int r) (y:= .int (n:Int)) rfl rfl (pk hr (Nat.le_trans hn (by decide)))) rfl rfl) rfl rfl) hF) rfl)
  (gk (xs:=qs) rfl (ah hq) rfl rfl))
theorem lD {G:ag} {F:FEnv} {b:Int} {n:Nat} (hb:0<b) (hn:n<=4000) (hbs:small b=true)
  (hF:∀ t:Int,0<=t->t<b * 2 ^ n->F "_div2n1n" [.int t,.int b,.int (n:Int)]=some (.tup [.int (t.fdiv b),.int (t.fmod b)])) {x0 x3 x8:Option (D×Bool)} :
  ∀ (ds:List Int) (r:Int) (qs:List D) (x6 x7:Option (D×Bool)),0<=r->r<b->(∀ d∈ds,0<=d/\d<2 ^ n)->qs.length+ds.length<=5000 ->
   ∃ x6' x7',loopL (bodyT G F [6] true dvB) [x0,iv b,iv n,x3,iv r,some (.list qs,true),x6,x7,x8] (ds.map .int) =
    some ([x0,iv b,iv n,x3,iv (ld b n r ds).2,some (.list (qs++(ld b n r ds).1.map .int),true),x6',x7',x8],.next)
 | [],r,qs,x6,x7,_,_,_,_=>⟨x6,x7,by rw [show (ld b n r []).1.map D.int=[] from rfl,List.append_nil];rfl⟩
 |d :: ds,r,qs,x6,x7,h0,h1,h,hl=>by
  obtain ⟨t0,t1⟩:=zJ (ba n) h0 h1 (h d List.mem_cons_self)
  obtain ⟨m0,m1⟩:=d8 hb (r * 2 ^ n+d)
  have hl2:qs.length+1+ds.length<=5000:=Nat.le_trans (Nat.le_of_eq (Nat.add_right_comm qs.length 1 ds.length)) hl
  obtain ⟨y6,y7,ih⟩:=lD (G:=G) hb hn hbs hF (x0:=x0) (x3:=x3) (x8:=x8) ds ((r * 2 ^ n+d).fmod b) (qs++[.int ((r * 2 ^ n+d).fdiv b)]) (iv d) (iv ((r * 2 ^ n+d).fdiv b)) m0 m1 (λx hx=>h x (List.mem_cons_of_mem _ hx)) (by rw [List.length_append];exact hl2)
  refine ⟨y6,y7,aw (wW (cq hbs h0 (Int.le_of_lt h1)) hn (hF _ t0 t1) (Nat.le_trans (Nat.le_trans (Nat.le_add_right _ _) hl) (by decide))) (ih.trans ?_)⟩
  rw [List.append_assoc];rfl
theorem kL {ds:List Int} {n:Nat} (h0:∀ d∈ds,0<=d) (hn:n<=4000) (hl:ds.length<=4000) (hs:small (und n ds)=true) (hln:ds.length * n<=1000000):d2iSpec [.list (ds.map .int),.int (n:Int)]=some (.int (und n ds)) :=
 ad (a:=ds) eU (aq (c:=d2iB n ds=true) (by
  unfold d2iB
  rw [List.all_eq_true.mpr λx hx=>decide_eq_true (h0 x hx),decide_eq_true (Int.natCast_nonneg n),decide_eq_true (show (n:Int)<=4000 from Int.ofNat_le.mpr hn),decide_eq_true (Nat.le_trans hl (by decide)),decide_eq_true (show ds.length * (n:Int).toNat<=1000000 from hln)]
  exact hs) rfl)
theorem Bg {a b:Int} {n:Nat} (ha:0<=a) (has:small a=true) (hb:0<b) (hn1:1<=n) (hn4:n<=4000) :
  hv n 0 (ld b n 0 (i2d a n).reverse).1=a.fdiv b/\(ld b n 0 (i2d a n).reverse).2=a.fmod b/\d2iSpec [.list ((ld b n 0 (i2d a n).reverse).1.map .int).reverse,.int (n:Int)]=some (.int (hv n 0 (ld b n 0 (i2d a n).reverse).1))/\(ld b n 0 (i2d a n).reverse).1.length<=4000:=by
 obtain ⟨g1,g2,g3,g4⟩:=f9 (n:=n) ha has hn1 hn4
 obtain ⟨l1,l2,l3⟩:=vT (n:=n) hb (i2d a n).reverse 0 (Int.le_refl _) hb λd hd=>g2 d (List.mem_reverse.mp hd)
 have lv:=ry (b:=b) (n:=n) (i2d a n).reverse 0 0
 rw [Int.zero_mul,Int.add_zero,lj,g1] at lv
 rw [List.length_reverse] at l3
 generalize (ld b n 0 (i2d a n).reverse).1=qs at *
 generalize (ld b n 0 (i2d a n).reverse).2=rr at *
 have hq:und n qs.reverse=hv n 0 qs:=by rw [<- lj,List.reverse_reverse]
 have hq0:0<=hv n 0 qs:=by rw [<- hq];exact ce n _ λx hx=>(l2 x (List.mem_reverse.mp hx)).1
 have hqa:hv n 0 qs<=a:=by
  have:hv n 0 qs * 1<=hv n 0 qs * b:=Int.mul_le_mul_of_nonneg_left hb hq0
  rw [Int.mul_one] at this
  exact Int.le_trans this (lv▸Int.le_add_of_nonneg_right l1.1)
 have hqr:a / b=hv n 0 qs/\a % b=rr:=(Int.ediv_emod_unique hb).mpr ⟨by rw [Int.mul_comm,Int.add_comm];exact lv,l1.1,l1.2⟩
 refine ⟨?_,?_,?_,l3▸g4⟩
 ·rw [Int.fdiv_eq_ediv_of_nonneg _ (Int.le_of_lt hb)];exact hqr.1.symm
 ·rw [Int.fmod_eq_emod_of_nonneg _ (Int.le_of_lt hb)];exact hqr.2.symm
 ·rw [<- List.map_reverse,<- hq]
  exact kL (λd hd=>(l2 d (List.mem_reverse.mp hd)).1) hn4 (by rw [List.length_reverse,l3];exact g4) (cq has (hq▸hq0) (hq▸hqa)) (by rw [List.length_reverse,l3];exact Nat.le_trans g3 (by decide))
theorem jh {G:ag} {F:FEnv} (h1:∀ ds,F "_int2digits" ds=i2dSpec ds) (h2:∀ ds,F "_digits2int" ds=d2iSpec ds)
  (hF:∀ a b n:Int,small b=true->b≠0->((Builtin.Int.intBits a:Nat):Int) - n<=4000->F "_div2n1n" [.int a,.int b,.int n]=some (.tup [.int (a.fdiv b),.int (a.fmod b)]))
  {a b:Int} (ha:0<=a) (has:small a=true) (hb:0<b) (hbs:small b=true):run G F 9 s_divmod_pos [.int a,.int b]=some (.tup [.int (a.fdiv b),.int (a.fmod b)]):=by
 obtain ⟨n,hn⟩:∃ n:Nat,n=Builtin.Int.intBits b:=⟨_,rfl⟩
 have hn4:n<=4000:=by rw [hn];exact dQ hbs
 have hbn:b<2 ^ n:=by rw [<- bX b (Int.le_of_lt hb),hn];exact Nat.le_refl _
 have hn1:1<=n:=by
  rcases Nat.eq_zero_or_pos n with h |h
  ·rw [h] at hbn;exact absurd hb (Int.not_lt.mpr (Int.lt_add_one_iff.mp hbn))
  ·exact h
 obtain ⟨Zz,g2,Zz,g4⟩:=f9 (n:=n) ha has hn1 hn4
 obtain ⟨e1,e2,e3,e4⟩:=Bg (b:=b) ha has hb hn1 hn4
 obtain ⟨x6,x7,hloop⟩:=lD (G:=G) (F:=F) (b:=b) hb hn4 hbs (λt t0 t1=>hF t b n hbs (Int.ne_of_gt hb) (by
   have:t<2 ^ (n+n):=by
    rw [Int.pow_add]
    exact Int.lt_of_lt_of_le t1 (Int.mul_le_mul_of_nonneg_right (Int.le_of_lt hbn) (Int.le_of_lt (ba n)))
   exact Int.sub_right_le_of_le_add (Int.ofNat_le.mpr (Nat.le_trans ((bX t t0 _).mpr this) (Nat.add_le_add_right hn4 n))))) (x0:=iv a) (x3:=some (.list ((i2d a n).map .int),false)) (x8:=none) (i2d a n).reverse 0 [] none none (Int.le_refl _) hb (λd hd=>g2 d (List.mem_reverse.mp hd)) (by rw [List.length_reverse,List.length_nil,Nat.zero_add];exact Nat.le_trans g4 (by decide))
 rw [List.nil_append] at hloop
 have hz:sizeOk ((i2d a n).map D.int).length=true:=ah (by rw [List.length_map];exact Nat.le_trans g4 (by decide))
 have hz2:sizeOk ((ld b n 0 (i2d a n).reverse).1.map D.int).length=true:=ah (by rw [List.length_map];exact Nat.le_trans e4 (by decide))
 rw [<- e1,<- e2]
 exact aH [iv a,iv b,none,none,none,none,none,none,none] rfl (aE (d:= .int (n:Int)) (by rw [hn];rfl) (aE (au (aC rfl rfl) ((h1 _).trans (gK ha has hn1 hn4))) (aE rfl (cH (d:= .list []) rfl rfl
  (cB rfl (zm (xs:=(i2d a n).map D.int) rfl hz) (by rw [<- List.map_reverse];exact hloop)
  (AH (xs:=(ld b n 0 (i2d a n).reverse).1.map .int) rfl hz2
  (aE (yy (aC rfl rfl) ((h2 _).trans e3) rfl) (aN (a8 (aC rfl rfl))))))))))
noncomputable def pv1:Int->Int->List Int->Option (Int×List Int)
 |b,val,[]=>if Builtin.bitAnd b 64==0 then some (val,[]) else none
 |b,val,x :: r=>if Builtin.bitAnd b 64==0 then some (val,x :: r) else pv1 x (val * 64+x % 64) r
noncomputable def pv:List Int->Option (Int×List Int)
 | []=>none
 |b :: r=>pv1 b (b % 64) r
noncomputable def rd:Nat->List Int->List Int
 |0,_=>[]
 |n+1,xs=>match pv xs with
  |none=>[]
  |some (v,r)=>v :: rd n r
theorem pv1_nil {b val:Int}:pv1 b val []=if Builtin.bitAnd b 64==0 then some (val,[]) else none:=rfl
theorem pv1_cons {b val x:Int} {r:List Int}:pv1 b val (x :: r)=if Builtin.bitAnd b 64==0 then some (val,x :: r) else pv1 x (val * 64+x % 64) r:=rfl
theorem lV {b val:Int} (h:(Builtin.bitAnd b 64==0)=true) (r:List Int):pv1 b val r=some (val,r):=by
 cases r with
 |nil=>exact if_pos h
 |cons x r=>exact if_pos h
theorem kF (a:Nat):¬ (0<=Builtin.bitNot (a:Int)):=by unfold Builtin.bitNot;omega
theorem qr (a c:Nat):Builtin.bitOr (a:Int) (c:Int)=((a ||| c:Nat):Int):=by
 unfold Builtin.bitOr Builtin.bitAnd
 rw [decide_eq_false (kF a),decide_eq_false (kF c)]
 simp only [bitNot_bitNot,Int.toNat_natCast]
theorem BR {a c:Int} (h0:0<=a) (c0:0<=c) (c1:c<64):Builtin.bitOr (a * 2 ^ 6) c=a * 64+c:=by
 obtain ⟨a,rfl⟩:=Int.eq_ofNat_of_zero_le h0
 obtain ⟨c,rfl⟩:=Int.eq_ofNat_of_zero_le c0
 have e:(a:Int) * (2:Int) ^ 6=((a <<< 6:Nat):Int):=by rw [Nat.shiftLeft_eq];rfl
 show Builtin.bitOr ((a:Int) * (2:Int) ^ 6) (c:Int)=(a:Int) * 64+(c:Int)
 rw [e,qr,<- Nat.shiftLeft_add_eq_or_of_lt (show c<2 ^ 6 from Int.ofNat_lt.mp c1),Nat.shiftLeft_eq];rfl
theorem lM:entryFor table "next"=some Builtin.«next» :=entryFor_of_fast (by kernel_rfl)
theorem oy (a:Value):PySem.argsOk "next" ⟨[a],[]⟩:=by unfold PySem.argsOk;kernel_rfl
theorem uj:entryFor table "iter"=some Builtin.«iter» :=entryFor_of_fast (by kernel_rfl)
theorem xz (a:Value):PySem.argsOk "iter" ⟨[a],[]⟩:=by unfold PySem.argsOk;kernel_rfl
section
variable {prog:Program} {w:World} {A:Around} {E:Value->Shared->Prop} {s:Shared} {it l:Addr} {i:Nat} {items:Array Value}
theorem xS {x:Value} {Q:Option Value->Shared->Prop} (hit:s.heap.IsListIter it l i) (hl:s.heap.IsList l items) (hx:items[i]? = some x)
  (hQ:∀ h',h'.IsListIter it l (i+1)->Heap.SameBut it s.heap h'->Q (some x) {s with heap:=h'}):wpAny (model prog w) A (callSpecial? (.ref it) (Str.ofString "__next__")) Q E s:=by
 obtain ⟨o,ho,hc,hd⟩:=id hit
 obtain ⟨ol,hol,Zz,nl,hdl⟩:=hl
 refine wpAny_callSpecial?_slot (name:=Str.ofString "__next__") hit.typeIs slot_listiter_next (wpAny_call_entry slot_listiter_next hit.typeIs entry_listiter_next ?_ (args_listiter_next _))
 show wpAny _ _ (field (.ref it) 0 >>= _) _ _ s
 refine wpAny_bind (wpAny_field ho hd (x:= .ref l) rfl ?_)
 show wpAny _ _ (if (Value.ref l==Value.none)=true then _ else _) _ _ s
 rw [if_neg (show ¬ ((Value.ref l==Value.none)=true) from Bool.false_ne_true)]
 show wpAny _ _ (field (.ref it) 1 >>= _) _ _ s
 refine wpAny_bind (wpAny_field ho hd (x:= .int i 0) rfl ?_)
 show wpAny _ _ (seqItems? (.ref l) >>= _) _ _ s
 refine wpAny_bind (wpAny_seqItems hol hdl ?_)
 simp only [Int.toNat_natCast,hx]
 refine wpAny_bind (wpAny_setField ho hd (by simp) (wpAny_pure ⟨x,rfl,hQ _ ?_ (Heap.SameBut.update ..)⟩))
 exact ⟨_,Heap.get?_update_self _ ho (Obj.isFreed_of_fields (Obj.data_mapFields hd _)),(Obj.cls_mapFields ..).trans hc,by
  rw [Obj.data_mapFields hd];simp [rawInt]⟩
def bE (it:Addr) (h:Heap) (e:Addr) (h':Heap):Prop:=∃ h1,Heap.SameBut it h h1/\(∃ o vs,h1.get? it=some o/\o.data = .fields vs)/\Heap.NewExc h1 h' e "StopIteration"
theorem xT {Q:Option Value->Shared->Prop} (hh:A.handled=none) (hit:s.heap.IsListIter it l i) (hl:s.heap.IsList l items) (hx:items[i]? = none)
  (hE:∀ h' e,bE it s.heap e h'->E (.ref e) {s with heap:=h'}):wpAny (model prog w) A (callSpecial? (.ref it) (Str.ofString "__next__")) Q E s:=by
 obtain ⟨o,ho,hc,hd⟩:=id hit
 obtain ⟨ol,hol,Zz,nl,hdl⟩:=hl
 refine wpAny_callSpecial?_slot (name:=Str.ofString "__next__") hit.typeIs slot_listiter_next (wpAny_call_entry slot_listiter_next hit.typeIs entry_listiter_next ?_ (args_listiter_next _))
 show wpAny _ _ (field (.ref it) 0 >>= _) _ _ s
 refine wpAny_bind (wpAny_field ho hd (x:= .ref l) rfl ?_)
 show wpAny _ _ (if (Value.ref l==Value.none)=true then _ else _) _ _ s
 rw [if_neg (show ¬ ((Value.ref l==Value.none)=true) from Bool.false_ne_true)]
 show wpAny _ _ (field (.ref it) 1 >>= _) _ _ s
 refine wpAny_bind (wpAny_field ho hd (x:= .int i 0) rfl ?_)
 show wpAny _ _ (seqItems? (.ref l) >>= _) _ _ s
 refine wpAny_bind (wpAny_seqItems hol hdl ?_)
 simp only [Int.toNat_natCast,hx]
 refine wpAny_bind (wpAny_rule (wpAny_bind (wpAny_setField ho hd (by simp) ?_)))
 show wpAny _ _ (newExc (.type "StopIteration") [] >>= _) _ _ _
 refine wpAny_bind ?_
 simp only [newExc,newTuple]
 refine wpAny_bind (wpAny_newObj_type ?_ (by size_fits))
 refine wpAny_bind (m:=firstArgMember _ _) (wpAny_of_eq (a:=Value.none) (by first |rfl |(simp only [firstArgMember];rfl)) ?_)
 refine wpAny_newObj_type ?_ (by size_fits)
 simp only [raiseNew]
 refine wpAny_bind (wpAny_handled ?_)
 rw [show A.in1.handled=none from hh]
 refine wpAny_bind (wpAny_pure (wpAny_throw ?_))
 have hf:=Obj.data_mapFields hd (·.setIfInBounds 0 Value.none)
 refine hE _ _ ⟨_,Heap.SameBut.update ..,⟨_,_,Heap.get?_update_self _ ho (Obj.isFreed_of_fields hf),hf⟩,⟨λb o e=>Heap.get?_push_of_some _ (Heap.get?_push_of_some _ e),?_,?_⟩⟩
 ·exact jd (by simp [Heap.size_push])
 ·exact ⟨_,_,Heap.get?_push_size _ rfl,rfl,rfl⟩
theorem rP {x:Value} {Q:Value->Shared->Prop} (hit:s.heap.IsListIter it l i) (hl:s.heap.IsList l items) (hx:items[i]? = some x)
  (hQ:∀ h',h'.IsListIter it l (i+1)->Heap.SameBut it s.heap h'->Q x {s with heap:=h'}):wpAny (model prog w) A (call (.builtin "next") [.ref it]) Q E s:=by
 refine PySem.Calls.call_function_entry (by decide +kernel) (by decide +kernel) lM (oy _) ?_
 unfold Builtin.«next»
 refine wpAny_bind (m:=someArgs "next" 1 2 _) (wpAny_of_eq (a:=[Value.ref it]) (by first |rfl |kernel_rfl!) ?_)
 dsimp only
 refine wpAny_bind (wpAny_specialOf (name:=Str.ofString "__next__") hit.typeIs slot_listiter_next.lookup ?_)
 refine wpAny_ite_split (λhab=>absurd hab (by decide)) (λZz=> ?_)
 exact wpAny_bind (xS hit hl hx λh' h1 h2=>wpAny_pure ⟨_,rfl,hQ h' h1 h2⟩)
theorem rQ {Q:Value->Shared->Prop} (hh:A.handled=none) (hit:s.heap.IsListIter it l i) (hl:s.heap.IsList l items) (hx:items[i]? = none)
  (hE:∀ h' e,bE it s.heap e h'->E (.ref e) {s with heap:=h'}):wpAny (model prog w) A (call (.builtin "next") [.ref it]) Q E s:=by
 refine PySem.Calls.call_function_entry (by decide +kernel) (by decide +kernel) lM (oy _) ?_
 unfold Builtin.«next»
 refine wpAny_bind (m:=someArgs "next" 1 2 _) (wpAny_of_eq (a:=[Value.ref it]) (by first |rfl |kernel_rfl!) ?_)
 dsimp only
 refine wpAny_bind (wpAny_specialOf (name:=Str.ofString "__next__") hit.typeIs slot_listiter_next.lookup ?_)
 refine wpAny_ite_split (λhab=>absurd hab (by decide)) (λZz=> ?_)
 exact wpAny_bind (xT hh hit hl hx hE)
theorem ro {Q:Value->Shared->Prop} (hl:s.heap.IsList l items)
  (hQ:Q (.ref s.heap.objs.size) {s with heap:=s.heap.push {cls:= .type "list_iterator",data:= .fields #[.ref l,.int 0 0]}}):wpAny (model prog w) A (call (.builtin "iter") [.ref l]) Q E s:=by
 refine PySem.Calls.call_function_entry (by decide +kernel) (by decide +kernel) uj (xz _) ?_
 unfold Builtin.«iter»
 refine wpAny_bind (m:=someArgs "iter" 1 2 _) (wpAny_of_eq (a:=[Value.ref l]) (by first |rfl |kernel_rfl!) ?_)
 show wpAny _ _ (pyIter (.ref l) >>= _) _ _ _
 exact wpAny_bind (wpAny_pyIter_list hl (wpAny_pure ⟨_,rfl,hQ⟩))
end
structure E0 (env:Env) (sc:Scope):Prop where
 ok:j8 env
 sc:env.scope=sc
 cel:env.cells=[]
 frm:env.frame=some env.locals
section
variable {prog:Program} {w:World} {A:Around} {E:Value->Shared->Prop} {s:Shared} {env:Env} {sc:Scope} {m:Str->Option Value} {x:Str} {v:Value} {p:Pos}
theorem E0.kind (e:E0 env sc) {k:NameKind} (h:sc.names.lookup x=some k):env.kindOf x=some k:=by unfold Env.kindOf;rw [e.sc];exact h
theorem ef (e:E0 env sc) (n:s.heap.Ns env.locals m) (hx:sc.names.lookup x=some .local) (hm:m x=some v) (hd:(x==("__debug__":Str))=false) {Q:Value->Shared->Prop} (hQ:Q v s):wpAny (model prog w) A (eval (.Name x p) env) Q E s :=
 wpAny_Name (wpAny_loadName_local e.ok.kind (e.kind hx) n hm hQ) hd
abbrev SetL [Jt:Tabs] (env:Env) (m:Str->Option Value) (x:Str) (v:Value) (h h':Heap):Prop:=Heap.SameBut env.locals h h'/\Cd h h'/\h'.Ns env.locals (λz=>if z=x then some v else m z)
variable [Jt:Tabs] [Jf:Frk]
theorem ew (e:E0 env sc) (n:s.heap.Ns env.locals m) (hx:sc.names.lookup x=some .local) {Q:Unit->Shared->Prop} (hQ:∀ h' tk,SetL env m x v s.heap h'->Q () {s with heap:=h',toks:=tk}):wpAny (model prog w) A (storeName env x v) Q E s :=
 wpAny_storeName_local (e.kind hx) n (λh' hn' sb=>hQ h' _ ⟨sb,Cd.sb (λb o n e=>sb.extBut b o n e) (Ns.nofields n) λZz=>Ns.dt hn',hn'⟩) (by rw [e.ok.kind];rfl)
variable {c:Cx} {hB:Heap} {G:ag} {mg mb:Str->Option Value}
theorem zI (B:Base prog w c G hB mg mb) (e:E0 env sc) (kp:KB hB s.heap) {Q:Value->Shared->Prop} (hg:sc.names.lookup x=some .globalImplicit) (hn:x∈bnames) (hv:bootBuiltins x=some v) (hd:(x==("__debug__":Str))=false) (h:Q v s):wpAny (model prog w) A (eval (.Name x p) env) Q E s :=
 PySem.Calls.Name_function_global e.ok.kind (e.kind hg) (PySem.Calls.loadGlobal_builtin (by rw [e.ok.glob];exact kp.ns B.ns) (B.blt x hn).1 (by rw [e.ok.blt];exact kp.ns B.bn) ((B.blt x hn).2.trans hv) h) hd
end
def Ups (l:List Env) (h:Heap):Prop:=∀ e∈l,e.scope.kind ≠ .module/\∃ L,e.frame=some L/\Dt h L
noncomputable def frs (l:List Env):List Addr:=l.filterMap (·.frame)
theorem Ups.cd {l:List Env} {h h':Heap} (u:Ups l h) (k:∀ b,Dt h b->Dt h' b):Ups l h':=λe he=>let ⟨h1,L,h2,h3⟩:=u e he;⟨h1,L,h2,k L h3⟩
theorem Ups.mem {l:List Env} {h:Heap} (u:Ups l h) {b:Addr} (hb:b∈frs l):Dt h b:=by
 obtain ⟨e,he,hf⟩:=List.mem_filterMap.mp hb
 obtain ⟨Zz,L,h2,h3⟩:=u e he
 exact sm (h2.symm.trans hf)▸h3
theorem fB:∀ {l:List Env} {h base:Heap},Ups l h->(∀ b∈frs l,base.get? b=none)->h.FunFrames base l
 | [],_,_,_,_=>trivial
 |e :: l,h,base,u,hb=>by
  obtain ⟨h1,L,h2,o,es,n,h3,h4⟩:=u e List.mem_cons_self
  have hm:frs (e :: l)=L :: frs l:=by unfold frs;rw [List.filterMap_cons,h2]
  refine ⟨h1,⟨L,o,h2,hb L (by rw [hm];exact List.mem_cons_self),h3,λvs q=>nomatch h4.symm.trans q⟩,fB (λe' he'=>u e' (List.mem_cons_of_mem _ he')) λb hb'=>hb b (by rw [hm];exact List.mem_cons_of_mem _ hb')⟩
structure Flown (it:Addr) (outer:List Env) (e:Addr) (h h':Heap):Prop where
 fl:∃ base a0,Heap.FlyingW base outer e (.type "StopIteration") a0 h'/\∀ b o,b≠it->b∉frs outer->h.get? b=some o->base.get? b=some o
 up:∀ b o,b∈frs outer->h.get? b=some o->∃ sl,h'.get? b=some {o with slots:=sl}
theorem Flown.kept {it e:Addr} {outer:List Env} {h h':Heap} (F:Flown it outer e h h') {b:Addr} {o:Obj} (hb:b≠it) (e1:h.get? b=some o):(b∉frs outer/\h'.get? b=some o)\/(b∈frs outer/\∃ sl,h'.get? b=some {o with slots:=sl}):=by
 by_cases hm:b∈frs outer
 ·exact .inr ⟨hm,F.up b o hm e1⟩
 ·obtain ⟨base,a0,fly,hk⟩:=F.fl
  exact .inl ⟨hm,fly.1 b o (hk b o hb hm e1)⟩
section
variable {M:Model} {A:Around} {E:Value->Shared->Prop} {s:Shared} {env:Env} {outer:List Env} {it e:Addr} {h:Heap} {Q:Unit->Shared->Prop}
theorem pO (hfr:A.frames=some (env :: outer)) {L:Addr} (hf:env.frame=some L) (u:Ups (env :: outer) h) (hit:¬ Dt h it) (st:bE it h e s.heap)
  (hQ:∀ h',Flown it outer e (TI.gone h [L]) h'->Q () {s with heap:=h'}):wpAny M A (leaving env (.ref e)) Q E s:=by
 obtain ⟨h1,sb,⟨oi,vi,hi1,hi2⟩,nx⟩:=st
 have hm:frs (env :: outer)=L :: frs outer:=by unfold frs;rw [List.filterMap_cons,hf]
 have old:∀ b o,b≠it->h.get? b=some o->h1.get? b=some o:=λb o n e=>sb.extBut b o n e
 have dt1:∀ b,Dt h b->Dt h1 b:=λb d=>d.kq λo e=>old b o (λq=>hit (q▸d)) e
 have u1:Ups (env :: outer) h1:=u.cd dt1
 have u2:Ups (env :: outer) s.heap:=u1.cd λb d=>d.kq λo e=>nx.keeps b o e
 have ff:s.heap.FunFrames (TI.gone h1 (frs (env :: outer))) (env :: outer):=fB u2 λb hb=>TI.gone_none hb
 have kb:(TI.gone h1 (frs (env :: outer))).StaysIn s.heap:=λb o e=>nx.keeps b o (TI.gone_some e).2
 have hen:(TI.gone h1 (frs (env :: outer))).get? e=none:=TI.none_of (λb o e=>(TI.gone_some e).2) nx.new
 obtain ⟨ob,t,he,hc,hd⟩:=nx.there
 refine wpAny_leaving_firstW hfr ff hf he kb hen hd rfl rfl λh' hL=> ?_
 obtain ⟨k1,⟨Zz,Zz,k2⟩,k3,k4⟩:=hL
 rw [hc] at k3
 refine hQ h' ⟨⟨_,_,⟨k1,hen,k2,k3⟩,λb o hb hn e=> ?_⟩,λb o hb e=> ?_⟩
 ·obtain ⟨n1,e1⟩:=TI.gone_some e
  rw [TI.gone_get (by rw [hm];intro q;rcases List.mem_cons.mp q with q |q;exact n1 (by rw [q];exact List.mem_cons_self);exact hn q)]
  exact old b o hb e1
 ·obtain ⟨n1,e1⟩:=TI.gone_some e
  have hbf:b∈frs (env :: outer):=by rw [hm];exact List.mem_cons_of_mem _ hb
  obtain ⟨o',es,n,g1,g2⟩:=u.mem hbf
  obtain rfl:=sm (e1.symm.trans g1)
  exact k4 b o (nx.keeps b o (old b o (λq=>hit (q▸u.mem hbf)) e1)) λvs q=>nomatch g2.symm.trans q
theorem rD (hfr:A.frames=some (env :: outer)) {L:Addr} (hf:env.frame=some L) (F:Flown it (env :: outer) e h s.heap) (hdt:∀ b∈frs (env :: outer),Dt h b)
  (hQ:∀ h',(∃ base a0,Heap.FlyingW base (env :: outer) e (.type "StopIteration") a0 h')->Flown it (env :: outer) e h h'->Q () {s with heap:=h'}):wpAny M A (noteFrame (.ref e) env) (λZz s₂=>wpAny M A (setFlight (.ref e) none) Q E s₂) E s:=by
 obtain ⟨⟨base,a0,fly,hk⟩,up⟩:=F
 refine wpAny_looks_onW hfr hf fly λh1 held k1=> ?_
 refine wpAny_landsW (s:={s with heap:=h1}) held λh2 fly2 k2=> ?_
 refine hQ h2 ⟨base,a0,fly2⟩ ⟨⟨base,a0,fly2,hk⟩,λb o hb e=> ?_⟩
 obtain ⟨o',es,n,g1,g2⟩:=hdt b hb
 obtain rfl:=sm (e.symm.trans g1)
 obtain ⟨sl,e1⟩:=up b o hb e
 obtain ⟨sl1,e2⟩:=k1 b _ e1 λvs q=>nomatch (g2.symm.trans (show o.data=_ from q))
 obtain ⟨sl2,e3⟩:=k2 b _ e2 λvs q=>nomatch (g2.symm.trans (show o.data=_ from q))
 exact ⟨sl2,e3⟩
theorem mP (F:Flown it outer e h s.heap) (hdt:∀ b∈frs outer,Dt h b)
  (hQ:∀ h',Flown it outer e h h'->Q () {s with heap:=h'}):wpAny M A (setFlight (.ref e) none) Q E s:=by
 obtain ⟨⟨base,a0,fly,hk⟩,up⟩:=F
 obtain ⟨f1,f2,f3,f4⟩:=fly
 refine wpAny_setFlight_noneW f1 f3 f4 λh' k1 k2 k3 k4=>hQ h' ⟨⟨base,a0,⟨k1,f2,k2,k3⟩,hk⟩,λb o hb e=> ?_⟩
 obtain ⟨o',es,n,g1,g2⟩:=hdt b hb
 obtain rfl:=sm (e.symm.trans g1)
 obtain ⟨sl,e1⟩:=up b o hb e
 exact ⟨sl,k4 b _ e1 λvs q=>nomatch (g2.symm.trans (show o.data=_ from q))⟩
end
end Mine
namespace Mine
noncomputable def tbP:List Str:=["b","val"]
noncomputable def nmP:List (Str×NameKind):=[("iterator",.local),("b",.local),("val",.local),("next",.globalImplicit)]
noncomputable def bS:Str:="b"
noncomputable def valS':Str:="val"
noncomputable def itS:Str:="iterator"
noncomputable def nextS:Str:="next"
theorem qx:bootBuiltins nextS=some (.builtin "next"):=by decide +kernel
theorem qv:bootBuiltins ("iter":Str)=some (.builtin "iter"):=by decide +kernel
theorem qy:bootBuiltins ("StopIteration":Str)=some (.type "StopIteration"):=by decide +kernel
noncomputable def winfo:Stmt->Expr×List Stmt
 | .While t b _ _=>(t,b)
 |_=>(default,[])
noncomputable def nextE (e:Expr):Expr:= .Call (.Name nextS (kid 0 e).pos) [.Name itS (kid 1 e).pos] [] e.pos
noncomputable def setB (st:Stmt):Stmt:= .Assign [.Name bS (skid 1 st).pos] (nextE (skid 0 st)) st.pos
noncomputable def vP:T:= .bin .BitAnd (.var 0) (.cst (.int 63))
noncomputable def tP:T:= .bin .BitAnd (.var 0) (.cst (.int 64))
noncomputable def bodyP (c:Cx) (sc:Scope) (l:List Stmt):Bool×List Stmt :=
 let s0:=hs l;let s2:=hs l.tail.tail;let a:=unT c sc (.cst (.int 6)) (skid 0 s0);let o:=unT c sc vP (skid 0 s2)
 (a.1&&o.1,[.AugAssign (.Name valS' (skid 1 s0).pos) .LShift a.2 s0.pos,setB (hs l.tail),.AugAssign (.Name valS' (skid 1 s2).pos) .BitOr o.2 s2.pos])
noncomputable def pvS (c:Cx) (sc:Scope) (body:List Stmt):Bool×List Stmt :=
 let s1:=hs body.tail;let s2:=hs body.tail.tail;let s3:=hs body.tail.tail.tail
 let v:=unT c sc vP (skid 0 s1);let t:=unT c sc tP (winfo s2).1;let b:=bodyP c sc (winfo s2).2
 (v.1&&t.1&&b.1 && !isBadC v.2,[setB (hs body),.Assign [.Name valS' (skid 1 s1).pos] v.2 s1.pos,.While t.2 b.2 [] s2.pos,.Return (some (.Name valS' (skid 0 s3).pos)) s3.pos])
variable [Jt:Tabs] [Jf:Frk]
theorem uZ {e:Expr} {x:Str} {p:Pos} {line:Nat} {env:Env} (h:isBadC e=false) (h2:(e.ctorIdx==8)=false):swapsWith e (some (.Name x p)) line env=pure false:=by
 rcases gu h with e1 |⟨_,elt,gens,sc',pos,e1⟩
 ·exact e1
 ·rw [e1] at h2;exact nomatch h2
theorem KD.sb {D L:Addr} {a b c:Heap} (x:KD D a b) (hn:a.get? L=none) (sb:∀ i o,i≠L->b.get? i=some o->c.get? i=some o) (hd:∀ o,b.get? L=some o->∀ vs,o.data ≠ .fields vs):KD D a c :=
 ⟨λi o n e=>(x.kp i o n e).thenC (λo' e'=> .inl (sb i o' (λq=>ai (hn.symm.trans (q▸e))) e')) (Cc.sb sb hd),x.cd.sbn hn sb hd⟩
theorem KD.gone {D L:Addr} {a b:Heap} (x:KD D a b) (hn:a.get? L=none) (hd:∀ o,b.get? L=some o->∀ vs,o.data ≠ .fields vs):KD D a (TI.gone b [L]) :=
 x.sb hn (λi o n e=>(TI.gone_get (λq=>n (List.mem_singleton.mp q))).trans e) hd
theorem IsLI.keep {h h':Heap} {it l:Addr} {i:Nat} (x:h.IsListIter it l i) (k:∀ o,isTab o=false->h.get? it=some o->h'.get? it=some o):h'.IsListIter it l i :=
 let ⟨o,e1,e2,e3⟩:=x;⟨o,k o (bh e2 e3) e1,e2,e3⟩
theorem IsLI.ne {h:Heap} {it l a:Addr} {i:Nat} (x:h.IsListIter it l i) {o:Obj} (ha:h.get? a=some o) (hd:∀ vs,o.data ≠ .fields vs):a≠it:=λq=>by
 obtain ⟨o',e1,e2,e3⟩:=x
 exact hd _ ((congrArg Obj.data (sm (ha.symm.trans (q▸e1)))).trans e3)
theorem IsLI.nodt {h:Heap} {it l:Addr} {i:Nat} (x:h.IsListIter it l i):¬ Dt h it:=λ⟨o,es,n,e1,e2⟩=>IsLI.ne x e1 (λvs q=>nomatch e2.symm.trans q) rfl
theorem IsLI.nsne {h:Heap} {it l a:Addr} {i:Nat} (x:h.IsListIter it l i) {m:Str->Option Value} (n:h.Ns a m):a≠it:=let ⟨o,es,ep,e1,e2,_⟩:=n;IsLI.ne x e1 λvs q=>nomatch e2.symm.trans q
theorem IsLI.plne {h:Heap} {it l a:Addr} {i:Nat} (x:h.IsListIter it l i) {items:Array Value} (n:h.PlainList a items):a≠it:=let ⟨o,e⟩:=n;IsLI.ne x e (by intro vs q;exact nomatch (q:Data.seq _ _=_))
theorem KD.it {h h':Heap} {it l:Addr} {i:Nat} (x:h.IsListIter it l i) (sb:Heap.SameBut it h h'):KD it h h':=by
 refine ⟨λb o n e=> .inl (sb.extBut b o n e),λb o vs h1 h2 e=>sb.extBut b o (λq=> ?_) e,λb d=>d.kq λo e=>sb.extBut b o (λq=>IsLI.nodt x (q▸d)) e⟩
 obtain ⟨o',g1,g2,Zz⟩:=x
 obtain rfl:=sm (g1.symm.trans (q▸e))
 rw [g2] at h1
 exact nomatch (Value.type.inj h1)
section
variable {prog:Program} {w:World} {c:Cx} {hB:Heap} {G:ag} {mg mb:Str->Option Value} {A:Around} {E:Value->Shared->Prop} {s:Shared} {env:Env} {sc:Scope} {m:Str->Option Value}
theorem qP (B:Base prog w c G hB mg mb) (e:E0 env sc) (hn:sc.names=nmP) (n:s.heap.Ns env.locals m) (kp:KB hB s.heap) {x:Expr} {it l:Addr} {i:Nat} {items:Array Value} {Q:Value->Shared->Prop} (hm:m itS=some (.ref it)) (hh:A.handled=none) (hit:s.heap.IsListIter it l i) (hL:s.heap.PlainList l items)
  (hq:∀ v h',items[i]? = some v->h'.IsListIter it l (i+1)->Heap.SameBut it s.heap h'->Q v {s with heap:=h'})
  (hE:items[i]? = none->∀ h' e,bE it s.heap e h'->E (.ref e) {s with heap:=h'}):wpAny (model prog w) A (eval (nextE x) env) Q E s:=by
 refine wpAny_Call_ofName (zI B e kp (by rw [hn];rfl) (by decide) qx (by decide) ?_)
 refine PySem.Calls.callWith_builtin rfl (PySem.Calls.evalArgs_plain (PySem.Calls.spliced_cons (ef e n (by rw [hn];rfl) hm (by decide) (PySem.Calls.spliced_nil ?_))))
 show wpAny _ _ (call (.builtin "next") [.ref it]) _ _ _
 cases hi:items[i]? with
 |none=>exact rQ hh hit (PL.isList hL) hi λh' e st=>hE hi h' e st
 |some v=>exact rP hit (PL.isList hL) hi λh' h1 h2=>hq v h' hi h1 h2
def MI (m:Str->Option Value) (x:Str) (o:Option Int):Prop:=∀ k,o=some k->∃ t,m x=some (.int k t)
structure PS (env:Env) (it l:Addr) (h0:Heap) (j:Nat) (b v:Option Int) (H:Heap):Prop where
 kd:KD it h0 H
 hit:H.IsListIter it l j
 fr:∃ m,H.Ns env.locals m/\m itS=some (.ref it)/\MI m bS b/\MI m valS' v
theorem PS.keep {it l:Addr} {h0 H H':Heap} {j:Nat} {b v:Option Int} (p:PS env it l h0 j b v H) (k:Kp H H'):PS env it l h0 j b v H' :=
 ⟨p.kd.trans (k.kd it),IsLI.keep p.hit (k.at it),let ⟨m,n,r⟩:=p.fr;⟨m,k.ns n,r⟩⟩
noncomputable def sP (b v:Option Int):MEnv:=[b.map λi=>(.int i,false),v.map λi=>(.int i,false)]
theorem PS.rr {it l:Addr} {h0 H:Heap} {j:Nat} {b v:Option Int} (p:PS env it l h0 j b v H) (e:E0 env sc) (hn:sc.names=nmP):RR env tbP (cg env) (λZz=>0) (sP b v) H:=by
 obtain ⟨m,n,Zz,h1,h2⟩:=p.fr
 have one:∀ {x:Str} {o:Option Int} {t:List Str} {O:MEnv},sc.names.lookup x=some .local->MI m x o->FV (valOf env m λZz=>none) H (cg env) t O->FV (valOf env m λZz=>none) H (cg env) (x :: t) (o.map (λi=>(D.int i,false)) :: O):=λ{x o t O} hk h V=>by
  cases o with
  |none=>exact .no V
  |some i =>
   obtain ⟨t,ht⟩:=h i rfl
   exact .has (by unfold valOf;rw [e.kind hk];exact ht) ⟨t,rfl⟩ V
 refine FV.rr e.ok ⟨n,λx c q=> ?_,λx c q=> ?_,λx y c q=> ?_,λx q=> ?_⟩ (bB rfl) (one (by rw [hn];rfl) h1 (one (by rw [hn];rfl) h2 .nil))
 ·rw [e.cel] at q;exact ai q
 ·rw [e.cel] at q;exact ai q
 ·rw [e.cel] at q;exact ai q
 ·have:nmP.all (λx=> !celK (some x.2))=true:=rfl
  have nk:∀ k,nmP.lookup x=some k->celK (some k)=false:=λk hk=>nt (List.all_eq_true.mp this _ (PySem.mem_of_lookup hk))
  have nk2:∀ k,env.kindOf x=some k->celK (some k)=false:=λk q=>nk k (by unfold Env.kindOf at q;rw [e.sc,hn] at q;exact q)
  exact q.elim (λq=>nomatch nk2 _ q) λq=>nomatch nk2 _ q
theorem PS.set {it l:Addr} {h0 H H':Heap} {j:Nat} {b v:Option Int} (p:PS env it l h0 j b v H) (hL:h0.get? env.locals=none) {m:Str->Option Value} (n:H.Ns env.locals m) (hm:m itS=some (.ref it)) {x:Str} {k:Value} (st:SetL env m x k H H') {b' v':Option Int} (hx:x≠itS)
  (hb:MI (λz=>if z=x then some k else m z) bS b') (hv:MI (λz=>if z=x then some k else m z) valS' v'):PS env it l h0 j b' v' H' :=
 ⟨p.kd.sb hL (λi o n e=>st.1.extBut i o n e) (Ns.nofields n),IsLI.keep p.hit λo t e=>st.1.extBut it o (Ne.symm (IsLI.nsne p.hit n)) e,_,st.2.2,(if_neg (Ne.symm hx)).trans hm,hb,hv⟩
theorem MI.here {m:Str->Option Value} {x:Str} {k:Int} {t:Tok}:MI (λz=>if z=x then some (.int k t) else m z) x (some k):=λk' e=>⟨t,(if_pos rfl).trans (sm e▸rfl)⟩
theorem MI.there {m:Str->Option Value} {x y:Str} {u:Value} {o:Option Int} (h:MI m x o) (n:x≠y):MI (λz=>if z=y then some u else m z) x o:=λk e=>let ⟨t,ht⟩:=h k e;⟨t,(if_neg n).trans ht⟩
theorem MI.no {m:Str->Option Value} {x:Str}:MI m x none:=λk e=>ai e
end
end Mine
namespace Mine
def IntsAt (items:Array Value) (is:List Int):Prop:=items.size=is.length/\∀ (j:Nat) (k:Int),is[j]? = some k->∃ t,items[j]? = some (Value.int k t)
theorem IntsAt.get {items:Array Value} {is:List Int} (x:IntsAt items is) {j:Nat} {v:Value} (h:items[j]? = some v):∃ k t,is[j]? = some k/\v = .int k t:=by
 have hj:j<is.length:=x.1▸(Array.getElem?_eq_some_iff.mp h).1
 obtain ⟨t,ht⟩:=x.2 j is[j] (List.getElem?_eq_getElem hj)
 exact ⟨_,t,List.getElem?_eq_getElem hj,sm (h.symm.trans ht)⟩
theorem IntsAt.none {items:Array Value} {is:List Int} (x:IntsAt items is) {j:Nat} (h:items[j]? = none):is.length<=j:=x.1▸Array.getElem?_eq_none_iff.mp h
theorem zX (j:Nat):(2:Int) ^ (6 * (j+1))=2 ^ (6 * j) * 64:=by rw [Nat.mul_succ,Int.pow_add];rfl
theorem vh {val b:Int} {j:Nat} (h:val<2 ^ (6 * j)):val * 64+b % 64<2 ^ (6 * (j+1)):=by
 rw [zX]
 have h2:=Int.emod_lt_of_pos b (show (0:Int)<64 by decide)
 have h3:=Int.mul_le_mul_of_nonneg_right (Int.add_one_le_of_lt h) (show (0:Int)<=64 by decide)
 rw [Int.add_mul] at h3
 exact Int.lt_of_lt_of_le (Int.add_lt_add_left h2 _) h3
theorem Au {val b:Int} (h:0<=val):0<=val * 64+b % 64:=Int.add_nonneg (Int.mul_nonneg h (by decide)) (Int.emod_nonneg _ (by decide))
theorem s8 {val:Int} {j:Nat} (h0:0<=val) (h:val<2 ^ (6 * j)) (hj:j<=600):small val=true:=by
 obtain ⟨a,rfl⟩:=Int.eq_ofNat_of_zero_le h0
 have h1:a<2 ^ (6 * j):=Int.ofNat_lt.mp (by rw [Int.natCast_pow];exact h)
 unfold small BIG
 exact decide_eq_true (Nat.lt_of_lt_of_le h1 (Nat.pow_le_pow_right (by decide) (Nat.le_trans (Nat.mul_le_mul_left 6 hj) (by decide))))
theorem qc {a:Int} (h:small a=true) [Jt:Tabs] [Jf:Frk]:(Builtin.Int.intBits a:Int)+6<=2 ^ 27:=Int.le_trans (Int.add_le_add_right (Int.ofNat_le.mpr (cQ h)) 6) (by decide)
variable [Jt:Tabs] [Jf:Frk]
section
variable {prog:Program} {w:World} {c:Cx} {hB:Heap} {G:ag} {mg mb:Str->Option Value} {A:Around} {E:Value->Shared->Prop} {s:Shared} {env:Env} {sc:Scope} {ps:List Str} {as:List Arg} {it l:Addr} {h0:Heap} {j:Nat} {b v:Option Int} {items:Array Value} {is:List Int} {n:Nat}
structure PX (prog:Program) (w:World) (c:Cx) (G:ag) (hB:Heap) (mg mb:Str->Option Value) (sc:Scope) (ps:List Str) (as:List Arg) (env:Env) (it l:Addr) (h0:Heap) (items:Array Value) (is:List Int) (A:Around):Prop where
 N:eX prog w c G hB mg mb sc ps as
 tb:c.tbl=tbP
 nm:sc.names=nmP
 e:E0 env sc
 kp:KB hB h0
 itB:hB.get? it=none
 hL:h0.get? env.locals=none
 pl:h0.PlainList l items
 ne:l≠it
 ia:IntsAt items is
 ar:Ar 0 A
theorem PX.list (X:PX prog w c G hB mg mb sc ps as env it l h0 items is A) {H:Heap} (p:PS env it l h0 j b v H):H.PlainList l items:=PL.at' X.pl λo t e=>(p.kd.kp l o X.ne e).ob (.inl t)
theorem PX.int (X:PX prog w c G hB mg mb sc ps as env it l h0 items is A) (p:PS env it l h0 j b v s.heap) {t:T} {ex:Expr} (ht:(unT c sc t ex).1=true) {k:Int} {Q:Value->Shared->Prop} (hev:ev G (λZz Zz=>none) (sP b v) true t=some (.int k)) (hQ:∀ h' tk tk',Kp s.heap h'->Q (.int k tk) {s with heap:=h',toks:=tk'}):wpAny (model prog w) A (eval (unT c sc t ex).2 env) Q E s:=by
 let q:At (wd0 prog w c G hB) sc (sP b v):=⟨A,s,env,cg env,λZz=>0,.self X.e.sc,X.tb▸p.rr X.e X.nm,KD.kpB X.kp X.itB p.kd,X.ar⟩
 refine (eM X.N ht).vs _ q E true (.int k) Q hev λv h' tk' k' d Zz=> ?_
 obtain ⟨tk,rfl⟩:=d.top
 exact hQ h' tk tk' k'
theorem PX.store (X:PX prog w c G hB mg mb sc ps as env it l h0 items is A) (p:PS env it l h0 j b v s.heap) {x:Str} {k:Int} {t:Tok} (hx:x=bS\/x=valS') {Q:Unit->Shared->Prop} (hQ:∀ h' tk,PS env it l h0 j (if x=bS then some k else b) (if x=valS' then some k else v) h'->Q () {s with heap:=h',toks:=tk}):wpAny (model prog w) A (storeName env x (.int k t)) Q E s:=by
 obtain ⟨m,n,hm,h1,h2⟩:=p.fr
 refine ew X.e n (by rw [X.nm];rcases hx with rfl |rfl<;>rfl) λh' tk st=>hQ h' tk ?_
 rcases hx with rfl |rfl
 ·exact p.set X.hL n hm st (by decide) .here (h2.there (by decide))
 ·exact p.set X.hL n hm st (by decide) (h1.there (by decide)) .here
theorem PX.next (X:PX prog w c G hB mg mb sc ps as env it l h0 items is A) (p:PS env it l h0 j b v s.heap) {st:Stmt} {Q:Flow->Shared->Prop} (hQ:∀ k h' tk,is[j]? = some k->PS env it l h0 (j+1) (some k) v h'->Q .next {s with heap:=h',toks:=tk})
  (hE:is.length<=j->∀ h' e,bE it s.heap e h'->E (.ref e) {s with heap:=h'}):wpAny (model prog w) A (exec (setB st) env) Q E s:=by
 obtain ⟨m,n,hm,h1,h2⟩:=p.fr
 refine wpAny_Assign_Name (qP X.N.B X.e X.nm n (KD.kpB X.kp X.itB p.kd) hm X.ar.hd p.hit (X.list p) (λu h' hu hit sb=> ?_) λhn=>hE (X.ia.none hn)) rfl
 obtain ⟨k,t,hk,rfl⟩:=X.ia.get hu
 have p':PS env it l h0 (j+1) b v h':=⟨p.kd.trans (KD.it p.hit sb),hit,m,n.sameBut sb (IsLI.nsne p.hit n),hm,h1,h2⟩
 exact X.store (s:={s with heap:=h'}) p' (.inl rfl) λh'' tk q=>hQ k h'' tk hk q
theorem PX.turn (X:PX prog w c G hB mg mb sc ps as env it l h0 items is A) {b0 val:Int} (p:PS env it l h0 j (some b0) (some val) s.heap) {body:List Stmt} (hb:(bodyP c sc body).1=true) (v0:0<=val) (vs:small val=true) {Q:Flow->Shared->Prop}
  (hQ:∀ k h' tk,is[j]? = some k->PS env it l h0 (j+1) (some k) (some (val * 64+k % 64)) h'->Q .next {s with heap:=h',toks:=tk})
  (hE:is.length<=j->∀ h h' e tk v',PS env it l h0 j (some b0) v' h->bE it h e h'->E (.ref e) {s with heap:=h',toks:=tk}):wpAny (model prog w) A (execs (bodyP c sc body).2 env) Q E s:=by
 refine aa (a:=(unT c sc (.cst (.int 6)) (skid 0 (hs body))).1) (b:=(unT c sc vP (skid 0 (hs body.tail.tail))).1) hb λq1 q2=> ?_
 obtain ⟨m,n,hm,h1,h2⟩:=p.fr
 obtain ⟨tv,hv⟩:=h2 val rfl
 have lv:env.kindOf valS'=some .local:=X.e.kind (by rw [X.nm];rfl)
 refine wpAny_execs_cons (wpAny_AugAssign_Name (wpAny_loadName_local X.e.ok.kind lv n hv (X.int (t:= .cst (.int 6)) (k:=6) p q1 rfl λh2 t2 tk2 k2=>ilshift_int (by decide) (qc vs) ?_)))
 refine X.store (s:={s with heap:=h2,toks:=tk2+1}) (p.keep k2) (k:=val * 2 ^ 6) (.inr rfl) λh3 tk3 p3=> ?_
 refine wpAny_execs_cons (X.next (s:={s with heap:=h3,toks:=tk3}) (b:=some b0) (v:=some (val * 2 ^ 6)) p3 (λk h4 tk4 hk p4=> ?_) λhn h4 e st=>hE hn h3 h4 e tk3 _ p3 st)
 obtain ⟨m,n,hm,h1,h2⟩:=p4.fr
 obtain ⟨tv,hv⟩:=h2 _ rfl
 refine wpAny_execs_cons (wpAny_AugAssign_Name (wpAny_loadName_local (s:={s with heap:=h4,toks:=tk4}) X.e.ok.kind lv n hv (X.int (s:={s with heap:=h4,toks:=tk4}) (t:=vP) p4 q2 (congrArg (some ∘ D.int) (bitAnd_m6 k)) λh5 t5 tk5 k5=>ior_int ?_)))
 rw [show Builtin.bitOr (val * 2 ^ 6) (k % 64)=val * 64+k % 64 from BR v0 (Int.emod_nonneg _ (by decide)) (Int.emod_lt_of_pos _ (by decide))]
 exact X.store (s:={s with heap:=h5,toks:=tk5+1}) (p4.keep k5) (.inr rfl) λh6 tk6 p6=>wpAny_execs_nil (hQ k h6 tk6 hk p6)
theorem PX.raise (X:PX prog w c G hB mg mb sc ps as env it l h0 items is (A.deeper env)) {outer:List Env} (hfr:A.frames=some outer) (u:Ups outer h0) {H:Heap} (p:PS env it l h0 j b v H) {h':Heap} {e:Addr} {tk:Nat} (st:bE it H e h')
  (hE:∀ e h' tk hr,KD it h0 hr->(∀ o,hr.get? it=some o->o.cls ≠ .type "code")->Flown it outer e hr h'->E (.ref e) {s with heap:=h',toks:=tk}):wpAny (model prog w) (A.deeper env) (leaving env (.ref e)) (λZz s''=>E (.ref e) s'') (λe' s''=>E e' s'') {s with heap:=h',toks:=tk}:=by
 obtain ⟨m,n,Zz⟩:=p.fr
 refine pO (outer:=outer) (Around.frames_deeper hfr) X.e.frm (h:=H) (λe' he'=> ?_) (IsLI.nodt p.hit) st λh2 F=> ?_
 ·rcases List.mem_cons.mp he' with q |q
  ·subst q;exact ⟨by rw [X.e.ok.kind];decide,_,X.e.frm,Ns.dt n⟩
  ·exact (u.cd p.kd.cd.2) e' q
 ·refine hE e h2 tk _ (p.kd.gone X.hL (Ns.nofields n)) (λo ho=> ?_) F
  obtain ⟨o',g1,g2,Zz⟩:=p.hit
  rw [<- sm (g1.symm.trans (TI.gone_some ho).2),g2]
  exact λq=>nomatch Value.type.inj q
structure PIn (env:Env) (it l:Addr) (h0:Heap) (is:List Int) (i j:Nat) (b val:Int) (H:Heap):Prop where
 lt:i<j
 le:j<=is.length
 v0:0<=val
 v1:val<2 ^ (6 * j)
 eq:pv (is.drop i)=pv1 b val (is.drop j)
 ps:PS env it l h0 j (some b) (some val) H
theorem PIn.next {i j:Nat} {b val k:Int} {H H':Heap} (p:PIn env it l h0 is i j b val H) (hb:(Builtin.bitAnd b 64==0)=false) (hk:is[j]? = some k) (q:PS env it l h0 (j+1) (some k) (some (val * 64+k % 64)) H'):PIn env it l h0 is i (j+1) k (val * 64+k % 64) H':=by
 obtain ⟨hj,e⟩:=List.getElem?_eq_some_iff.mp hk
 refine ⟨Nat.lt_succ_of_lt p.lt,hj,Au p.v0,vh p.v1,?_,q⟩
 rw [p.eq,List.drop_eq_getElem_cons hj,e,pv1_cons,hb];rfl
theorem PX.loop (X:PX prog w c G hB mg mb sc ps as env it l h0 items is (A.deeper env)) {i j:Nat} {b val:Int} {st:Stmt} {rest:List Stmt} {pos:Pos} (ht:(unT c sc tP (winfo st).1).1=true) (hb:(bodyP c sc (winfo st).2).1=true) (h600:is.length<=600) (p:PIn env it l h0 is i j b val s.heap)
  {Q:Flow->Shared->Prop} {E1:Value->Shared->Prop} (pass:PassesOwn (model prog w) (A.deeper env) env E1)
  (hQ:∀ j b val h' tk,PIn env it l h0 is i j b val h'->(Builtin.bitAnd b 64==0)=true->wpAny (model prog w) (A.deeper env) (execs rest env) Q E1 {s with heap:=h',toks:=tk})
  (hE:pv (is.drop i)=none->∀ h h' e tk b v j,PS env it l h0 j b v h->bE it h e h'->E1 (.ref e) {s with heap:=h',toks:=tk}) :
  wpAny (model prog w) (A.deeper env) (execs (.While (unT c sc tP (winfo st).1).2 (bodyP c sc (winfo st).2).2 [] pos :: rest) env) Q E1 s:=by
 refine wpAny_execs_cons (wpAny_While (codeAny_whileLoop (λnn s'=>∃ H tk j b val,s' = {s with heap:=H,toks:=tk}/\nn=is.length - j/\PIn env it l h0 is i j b val H) ?_ (is.length - j) ⟨s.heap,s.toks,j,b,val,rfl,rfl,p⟩))
 rintro nn s' ⟨H,tk,j,b,val,rfl,rfl,q⟩
 refine wpAny_passesOwn pass ?_
 let a:At (wd0 prog w c G hB) sc (sP (some b) (some val)):=⟨A.deeper env,{s with heap:=H,toks:=tk},env,cg env,λZz=>0,.self X.e.sc,X.tb▸q.ps.rr X.e X.nm,KD.kpB X.kp X.itB q.ps.kd,X.ar⟩
 refine (eM X.N ht).is _ a _ (.int (Builtin.bitAnd b 64)) _ _ rfl rfl λh5 tk5 k5=> ?_
 have q5:PIn env it l h0 is i j b val h5:={q with ps:=q.ps.keep k5}
 cases hb0:(Builtin.bitAnd b 64==0) with
 |true =>
  rw [if_neg (show ¬ ((!true)=true) by decide)]
  exact wpAny_execs_nil (hQ j b val h5 tk5 q5 hb0)
 |false =>
  rw [if_pos (show (!false)=true by decide)]
  refine X.turn (s:={s with heap:=h5,toks:=tk5}) q5.ps hb q.v0 (s8 q.v0 q.v1 (Nat.le_trans q.le h600)) (λk h6 tk6 hk p6=> ?_) λhn h h' e tk6 v' p6 stp=>pass _ _ (hE ?_ h h' e tk6 _ _ _ p6 stp)
  ·have:=q5.next hb0 hk p6
   exact ⟨is.length - (j+1),Nat.sub_succ_lt_self _ _ this.le,h6,tk6,j+1,k,_,rfl,rfl,this⟩
  ·rw [q.eq,List.drop_eq_nil_of_le hn,pv1_nil,hb0];rfl
noncomputable def pmP:List Str:=["iterator"]
theorem uO {is:List Int} {i:Nat} {k:Int} (h:is[i]? = some k):pv (is.drop i)=pv1 k (k % 64) (is.drop (i+1)):=by
 obtain ⟨hi,e⟩:=List.getElem?_eq_some_iff.mp h
 rw [List.drop_eq_getElem_cons hi,e];rfl
theorem t7 (k:Int) (j:Nat):k % 64<2 ^ (6 * (j+1)):=by
 rw [zX]
 have h1:(1:Int)<=2 ^ (6 * j):=Int.pow_pos (by decide)
 exact Int.lt_of_lt_of_le (Int.emod_lt_of_pos k (show (0:Int)<64 by decide)) (Int.mul_le_mul_of_nonneg_right h1 (show (0:Int)<=64 by decide))
theorem Bm (off:Frk.fs=none) (N:eX prog w c G hB mg mb sc pmP as) (htb:c.tbl=tbP) (hnm:sc.names=nmP) {body:List Stmt} (hok:(pvS c sc body).1=true) (hu:(pvS c sc body).2=body) {f:Addr} {name:Str} (da:DefAt hB f name ⟨[],as,none,[],[],none,[]⟩ body sc)
  {Q:Value->Shared->Prop} {outer:List Env} {i:Nat} (ar:Ar 1 A) (hfr:A.frames=some outer) (u:Ups outer s.heap) (kp:KB hB s.heap) (hitB:hB.get? it=none) (hit:s.heap.IsListIter it l i) (hL:s.heap.PlainList l items) (hia:IntsAt items is) (h600:is.length<=600)
  (hQ:∀ v j h' tk t,i<j->j<=is.length->pv (is.drop i)=some (v,is.drop j)->h'.IsListIter it l j->KD it s.heap h'->Q (.int v t) {s with heap:=h',toks:=tk})
  (hE:pv (is.drop i)=none->∀ e h' tk hr,KD it s.heap hr->(∀ o,hr.get? it=some o->o.cls ≠ .type "code")->Flown it outer e hr h'->E (.ref e) {s with heap:=h',toks:=tk}) :
  wpAny (model prog w) A (call (.ref f) [.ref it]) Q E s:=by
 obtain ⟨o,pm,cd,doc,tb,oc,vc,tc,h1,h2,h3,h4,h5,h6,h7,h8⟩:=da.at'
 have nofree:∀ x,sc.names.lookup x=some .free->False:=λx q=>by
  rw [hnm] at q
  exact nomatch nt (List.all_eq_true.mp (show nmP.all (λx=> !(x.2 == .free))=true from rfl) _ (PySem.mem_of_lookup q))
 refine mK (fd:=Calls.docDef name ⟨[],as,none,[],[],none,[]⟩ body sc pm (.ref cd) doc) (cm:=λZz=>none) (O:=[none,none]) off N.lim N.I N.has (kp.ob h1 (.inl (bi h2))) h2 rfl rfl rfl rfl rfl rfl ⟨cd,oc,vc,tc,rfl,kp.ob h3 (.inl (bh h4 h5)),h5,h6⟩ (λx c q=>ai q) (λx y c q=>ai q) (λx q=>(nofree x q).elim) (λx c q=>ai q) kp ar rfl (λh Ex Zz Zz=>htb ▸ .no (.no .nil)) λenv h₀ tk he S n k0 hn ar1=> ?_
 have X:PX prog w c G hB mg mb sc pmP as env it l s.heap items is (A.deeper env):=⟨N,htb,hnm,⟨S.rr.ok,he▸rfl,he▸rfl,he▸rfl⟩,kp,hitB,hn,hL,IsLI.plne hit hL,hia,ar1⟩
 have p0:PS env it l s.heap i none none h₀:=⟨k0.kd it,IsLI.keep hit (k0.at it),_,n,rfl,.no,.no⟩
 refine aa hok λhok q4=>aa hok λhok q3=>aa hok λq1 q2=> ?_
 rw [<- hu]
 have raise:=λ{j b v} (hpv:pv (is.drop i)=none) (h h' e tk) (p:PS env it l s.heap j b v h) (st:bE it h e h')=>X.raise (s:=s) (tk:=tk) (E:=E) hfr u p st (hE hpv)
 refine wpAny_execs_cons (X.next (s:={s with heap:=h₀,toks:=tk}) p0 (λk h1 tk1 hk p1=> ?_) λhn h' e st=>raise (by rw [List.drop_eq_nil_of_le hn];rfl) h₀ h' e tk p0 st)
 refine wpAny_execs_cons (wpAny_Assign_Name (X.int (s:={s with heap:=h1,toks:=tk1}) (t:=vP) p1 q1 (congrArg (some ∘ D.int) (bitAnd_m6 k)) λh2 t2 tk2 k2=>X.store (s:={s with heap:=h2,toks:=tk2}) (p1.keep k2) (.inr rfl) λh3 tk3 p3=> ?_) (uZ (nt q4) rfl))
 refine X.loop (s:={s with heap:=h3,toks:=tk3}) q2 q3 h600 ⟨Nat.lt_succ_self _,(List.getElem?_eq_some_iff.mp hk).1,Int.emod_nonneg _ (by decide),t7 k i,uO hk,p3⟩ PassesOwn.leaving (λj b val h4 tk4 p4 hb=> ?_) λhpv h h' e tk b v j p st=>raise hpv h h' e tk p st
 obtain ⟨m,n,hm,h1,h2⟩:=p4.ps.fr
 obtain ⟨tv,hv⟩:=h2 val rfl
 refine wpAny_execs_cons (wpAny_Return_some (ef (s:={s with heap:=h4,toks:=tk4}) X.e n (by rw [hnm];rfl) hv (by decide) ?_))
 exact hQ val j h4 tk4 tv p4.lt p4.le (p4.eq.trans (lV hb _)) p4.ps.hit p4.ps.kd
end
end Mine
namespace Mine
theorem IntsAt.push {items:Array Value} {is:List Int} (x:IntsAt items is) (k:Int) (t:Tok):IntsAt (items.push (.int k t)) (is++[k]):=by
 obtain ⟨h1,h2⟩:=x
 refine ⟨by rw [Array.size_push,h1,List.length_append];rfl,λj k' hj=> ?_⟩
 rw [Array.getElem?_push]
 by_cases q:j=items.size
 ·rw [if_pos q]
  rw [q,h1,List.getElem?_append_right (Nat.le_refl _),Nat.sub_self] at hj
  exact ⟨t,congrArg (λi=>some (Value.int i t)) (sm hj)⟩
 ·rw [if_neg q]
  rcases Nat.lt_or_ge j is.length with hl |hl
  ·rw [List.getElem?_append_left hl] at hj
   exact h2 j k' hj
  ·have:1<=j - is.length:=Nat.sub_pos_of_lt (Nat.lt_of_le_of_ne hl λe=>q (e.symm.trans h1.symm))
   rw [List.getElem?_append_right hl,List.getElem?_eq_none this] at hj
   exact ai hj
theorem zT {env:Env} {line:Nat} {x y:Str} {px py:Pos} {names:List Str} (h:names=[Expr.Name x px,Expr.Name y py].filterMap (nameAt env line)) (hl:names.length=2):names=[x,y]:=by
 subst h
 rw [List.filterMap_cons,List.filterMap_cons,List.filterMap_nil] at hl ⊢
 cases hx:nameAt env line (.Name x px) with
 |none =>
  rw [hx] at hl
  cases hy:nameAt env line (.Name y py)<;>rw [hy] at hl<;>exact nomatch hl
 |some u =>
  rw [hx] at hl
  cases hy:nameAt env line (.Name y py) with
  |none=>rw [hy] at hl;exact nomatch hl
  |some v =>
   obtain rfl:x=u:=gd hx λZz q=>sm q
   obtain rfl:y=v:=gd hy λZz q=>sm q
   rfl
theorem lg {env:Env} {outer:List Env} {L:Addr} (hf:env.frame=some L):frs (env :: outer)=L :: frs outer:=by
 unfold frs;rw [List.filterMap_cons,hf]
variable [Jt:Tabs] [Jf:Frk]
theorem IntsAt.den {items:Array Value} {is:List Int} (x:IntsAt items is) (h:Heap) (X:Addr->Prop):DenL h X (is.map .int) items.toList:=by
 refine DenL.of_get (by rw [Array.length_toList,x.1,List.length_map]) λi d hi=> ?_
 rw [List.getElem?_map] at hi
 cases e:is[i]? with
 |none=>rw [e] at hi;exact ai hi
 |some k =>
  rw [e] at hi
  obtain ⟨t,ht⟩:=x.2 i k e
  refine ⟨.int k t,by rw [Array.getElem?_toList];exact ht,?_⟩
  rw [<- sm hi];exact ⟨t,rfl⟩
theorem IntsAt.of_den {items:Array Value} {is:List Int} {h:Heap} {X:Addr->Prop} (x:DenL h X (is.map .int) items.toList):IntsAt items is:=by
 refine ⟨by have:=x.length;rw [Array.length_toList,List.length_map] at this;exact this,λj k hj=> ?_⟩
 obtain ⟨v,h1,t,rfl⟩:=x.get (i:=j) (d:= .int k) (by rw [List.getElem?_map,hj];rfl)
 exact ⟨t,by rw [Array.getElem?_toList] at h1;exact h1⟩
section
variable {prog:Program} {w:World} {A:Around} {E:Value->Shared->Prop} {s:Shared} {env:Env} {sc:Scope} {m:Str->Option Value}
abbrev yQ (env:Env) (m:Str->Option Value) (x y:Str) (v u:Value) (h h':Heap):Prop:=(∀ b o,b≠env.locals->h.get? b=some o->h'.get? b=some o)/\Cd h h'/\∃ m',h'.Ns env.locals m'/\m' x=some v/\m' y=some u/\∀ z,z≠x->z≠y->m' z=m z
theorem SetL.two {x y:Str} {v u:Value} {h h1 h2:Heap} (hxy:x≠y) (a:SetL env m x v h h1) (b:SetL env (λz=>if z=x then some v else m z) y u h1 h2):yQ env m x y v u h h2 :=
 ⟨λi o n e=>b.1.extBut i o n (a.1.extBut i o n e),a.2.1.trans b.2.1,_,b.2.2,(if_neg hxy).trans (if_pos rfl),if_pos rfl,λz h1 h2=>(if_neg h2).trans (if_neg h1)⟩
theorem SetL.owt {x y:Str} {v u:Value} {h h1 h2:Heap} (hxy:x≠y) (a:SetL env m y u h h1) (b:SetL env (λz=>if z=y then some u else m z) x v h1 h2):yQ env m x y v u h h2 :=
 ⟨λi o n e=>b.1.extBut i o n (a.1.extBut i o n e),a.2.1.trans b.2.1,_,b.2.2,if_pos rfl,(if_neg (Ne.symm hxy)).trans (if_pos rfl),λz h1 h2=>(if_neg h1).trans (if_neg h2)⟩
theorem pi {x y:Str} {px py q q' pos:Pos} {k k':Nat} {vs:List Expr} {Q:Flow->Shared->Prop} (e:E0 env sc) (hc:vs.all (constantsAlone 8)=false) (hx:sc.names.lookup x=some .local) (hy:sc.names.lookup y=some .local) (hxy:x≠y) (hh:A.handled=none)
  (h:wpAny (model prog w) A (eval (.Tuple vs k' q') env) (λv s₁=>∃ a v1 v2 m,v = .ref a/\TupAt s₁.heap a #[v1,v2]/\s₁.heap.Ns env.locals m /\
   ∀ h2,Kq s₁.heap h2->∀ h' tk,yQ env m x y v1 v2 h2 h'->Q .next {s₁ with heap:=h',toks:=tk}) E s) :
  wpAny (model prog w) A (exec (.Assign [.Tuple [.Name x px,.Name y py] k q] (.Tuple vs k' q') pos) env) Q E s:=by
 have ex:∀ {h h':Heap},Heap.ExtBut h.objs.size h h'->Kq h h':=λk b o e=>k b o (Nat.ne_of_lt (Heap.lt_size e)) e
 rcases eZ (p:=k) (q:=q) (p':=k') (q':=q') (env:=env) (ts:=[.Name x px,.Name y py]) hc with hw |⟨names,line,hw,h23,hn1,hn2,hn3⟩
 ·refine wpAny_Assign_stores (wpAny_mono h (λv s₁ hv=> ?_) λZz Zz e=>e) aY hw
  obtain ⟨a,v1,v2,m,rfl,tup,n,P⟩:=hv
  show wpAny _ A (assign (.Tuple [.Name x px,.Name y py] k q) env (.ref a)) _ E _
  refine wpAny_assign_Tuple hh (TupAt.isTup tup) rfl rfl λh2 k2=> ?_
  have kq:=ex k2
  show wpAny _ A (do holding [v2] (do standAt px;bindName env x v1);do holding [] (do standAt py;bindName env y v2);pure ()) _ E _
  refine wpAny_bind (wpAny_holding (wpAny_bind (wpAny_standAt (wpAny_bindName (ew (s:={s₁ with heap:=h2}) e (n.keeps kq) hx λh3 tk3 s3=> ?_)))))
  exact wpAny_bind (wpAny_holding (wpAny_bind (wpAny_standAt (wpAny_bindName (ew (s:={s₁ with heap:=h3,toks:=tk3}) e s3.2.2 hy λh4 tk4 s4=>wpAny_pure (P h2 kq h4 tk4 (s3.two hxy s4)))))))
 ·rw [arm_exec_Assign]
  refine wpAny_bind (wpAny_standAt (wpAny_bind (wpAny_of_eq aY ?_)))
  rw [if_neg (by decide)]
  refine wpAny_bind (wpAny_mono h (λv s₁ hv=> ?_) λZz Zz e=>e)
  obtain ⟨a,v1,v2,m,rfl,tup,n,P⟩:=hv
  refine wpAny_bind (wpAny_of_eq hw ?_)
  obtain rfl:=zT hn1 hn2
  unfold assignStores
  dsimp only
  refine wpAny_bind (wpAny_rule (wpAny_bind ?_))
  show wpAny _ A (unpackItems (.ref a) (#[v1,v2]:Array Value).size none) _ E _
  refine wpAny_unpackItems_tuple hh (TupAt.isTup tup) λh2 k2=> ?_
  have kq:=ex k2
  refine wpAny_bind ?_
  show wpAny _ A (do holding [v1] (bindName env y v2);do holding [] (bindName env x v1);pure ()) _ E _
  refine wpAny_bind (wpAny_holding (wpAny_bindName (ew (s:={s₁ with heap:=h2}) e (n.keeps kq) hy λh3 tk3 s3=> ?_)))
  exact wpAny_bind (wpAny_holding (wpAny_bindName (ew (s:={s₁ with heap:=h3,toks:=tk3}) e s3.2.2 hx λh4 tk4 s4=>wpAny_pure (wpAny_pure (P h2 kq h4 tk4 (s3.owt hxy s4))))))
end
end Mine
namespace Mine
noncomputable def tbR:List Str:=["octets"]
noncomputable def nmR:List (Str×NameKind):=[("octets",.local),("tape",.local),("numbers",.local),("turn",.local),("iter",.globalImplicit),("range",.globalImplicit),("len",.globalImplicit),("_parse_varint",.globalImplicit),("StopIteration",.globalImplicit)]
noncomputable def octS:Str:="octets"
noncomputable def tapeS:Str:="tape"
noncomputable def numS:Str:="numbers"
noncomputable def turnS:Str:="turn"
noncomputable def iterS:Str:="iter"
noncomputable def pvarS:Str:="_parse_varint"
noncomputable def stopS:Str:="StopIteration"
noncomputable def tinfo:Stmt->List Stmt×List ExceptHandler
 | .Try b h _ _ _=>(b,h)
 |_=>([],[])
noncomputable def hinfo:ExceptHandler->Expr×List Stmt×Pos
 | .ExceptHandler t _ b p=>(t.getD default,b,p)
noncomputable def rR:T:= .bin .Add (.blt .len (.cons (.var 0) .nil)) (.cst (.int 1))
noncomputable def tryR (st:Stmt):Stmt :=
 let s0:=hs (tinfo st).1;let c:=skid 0 s0;let g:=kid 1 c;let h:=hinfo ((tinfo st).2.headD default);let r:=hs h.2.1
 .Try [.Expr (.Call (.Attribute (.Name numS (kid 0 (kid 0 c)).pos) appendS (kid 0 c).pos) [.Call (.Name pvarS (kid 0 g).pos) [.Name tapeS (kid 1 g).pos] [] g.pos] [] c.pos) s0.pos]
  [.ExceptHandler (some (.Name stopS h.1.pos)) none [.Return (some (.Name numS (skid 0 r).pos)) r.pos] h.2.2] [] [] st.pos
noncomputable def rdS (c:Cx) (sc:Scope) (body:List Stmt):Bool×List Stmt :=
 let s0:=hs body;let t:=skid 1 s0;let v:=skid 0 s0;let g:=kid 0 v;let s1:=hs body.tail;let i:=skid 0 s1;let st:=hs (sbod s1);let m:=kid 0 (skid 0 (hs (tinfo st).1))
 let r:=unT c sc rR (kid 1 i)
 (r.1&&m.pos.endLine==(skid 0 (hs (tinfo st).1)).pos.line,
  [.Assign [.Tuple [.Name tapeS (kid 0 t).pos,.Name numS (kid 1 t).pos] (numE t) t.pos] (.Tuple [.Call (.Name iterS (kid 0 g).pos) [.Name octS (kid 1 g).pos] [] g.pos,.List [] (kid 1 v).pos] (numE v) v.pos) s0.pos,
  .For (.Name turnS (skid 1 s1).pos) (.Call (.Name rangeS (kid 0 i).pos) [r.2] [] i.pos) [tryR st] [] s1.pos])
theorem oM {n:Nat} {xs r:List Int} {v:Int} (h:pv xs=some (v,r)):rd (n+1) xs=v :: rd n r:=by rw [rd,h]
theorem oL {n:Nat} {xs:List Int} (h:pv xs=none):rd (n+1) xs=[]:=by rw [rd,h]
theorem fG {N k:Nat} (h:k<N):N - k=(N - (k+1))+1:=(Nat.sub_add_cancel (n:=N - k) (m:=1) (Nat.sub_pos_of_lt h)).symm
theorem uu {N k:Nat} (h:k<N):((N - k:Nat):Int) - 1=((N - (k+1):Nat):Int):=(congrArg (λn:Nat=>(n:Int) - 1) (fG h)).trans (Int.add_sub_cancel ((N - (k+1):Nat):Int) 1)
theorem uv {N k:Nat} (h:k<N):(0:Int)<((N - k:Nat):Int):=Int.ofNat_lt.mpr (Nat.sub_pos_of_lt h)
variable [Jt:Tabs] [Jf:Frk]
theorem Kp.new {s0 H H':Heap} {a:Addr} (k:Kp s0 H) (hn:s0.get? a=Option.none) (sb:∀ b o,b≠a->H.get? b=some o->H'.get? b=some o) (nc:∀ o vs,H.get? a=some o->o.cls = .type "code"->o.data ≠ .fields vs):Kp s0 H' :=
 λb o e=>(k b o e).thenC (λo' e'=> .inl (sb b o' (λq=>ai (hn.symm.trans (q▸e))) e')) λb o vs h1 h2 e'=>sb b o (λq=>nc o vs (q▸e') h1 h2) e'
section
variable {prog:Program} {w:World} {c:Cx} {hB:Heap} {G:ag} {mg mb:Str->Option Value} {A:Around} {E:Value->Shared->Prop} {s:Shared} {env:Env} {sc:Scope} {ps:List Str} {as:List Arg} {it l nl I:Addr} {s0:Heap} {items:Array Value} {is:List Int}
structure RS (env:Env) (it l nl I:Addr) (N:Nat) (s0:Heap) (k j:Nat) (outs:List Int) (H:Heap):Prop where
 kp:Kp s0 H
 hit:H.IsListIter it l j
 li:∃ ots,H.PlainList nl ots/\IntsAt ots outs
 ri:IsRangeIter H I (k:Int) ((N - k:Nat):Int) 1
 fr:∃ m,H.Ns env.locals m/\m tapeS=some (.ref it)/\m numS=some (.ref nl)
structure RN (env:Env) (it nl I:Addr) (s0:Heap):Prop where
 L:s0.get? env.locals=none
 it:s0.get? it=none
 nl:s0.get? nl=none
 I:s0.get? I=none
theorem vZ {H:Heap} {a:Addr} {x y z:Int} (r:IsRangeIter H I x y z) {o:Obj} (h:H.get? a=some o) (hc:o.cls ≠ .type "range_iterator"):a≠I:=λq=>hc (by rw [sm (h.symm.trans (q▸r))])
theorem wa {H:Heap} {x y z:Int} (r:IsRangeIter H I x y z) (p:H.PlainList nl items):nl≠I:=let ⟨n,e⟩:=p;vZ r e λq=>nomatch Value.type.inj q
theorem vY {H:Heap} {x y z:Int} {j:Nat} (r:IsRangeIter H I x y z) (p:H.IsListIter it l j):it≠I:=let ⟨o,e,h,_⟩:=p;vZ r e λq=>nomatch Value.type.inj (h.symm.trans q)
theorem v8 {H:Heap} {x y z:Int} {m:Str->Option Value} {a:Addr} (r:IsRangeIter H I x y z) (p:H.Ns a m):a≠I:=λq=>by
 obtain ⟨o,es,ep,e1,e2,Zz⟩:=p
 have e:Data.dict es ep=Data.fields _:=e2.symm.trans (congrArg Obj.data (sm (e1.symm.trans (q▸r))))
 exact nomatch e
theorem kg {H:Heap} {m:Str->Option Value} {a:Addr} (r:H.PlainList nl items) (p:H.Ns a m):a≠nl:=λq=>PL.nodt r (q▸Ns.dt p)
theorem RS.range {N k j:Nat} {outs:List Int} {H H':Heap} (r:RS env it l nl I N s0 k j outs H) (n:RN env it nl I s0) (hk:k<N) (ri:IsRangeIter H' I ((k:Int)+1) (((N - k:Nat):Int) - 1) 1) (sb:Heap.SameBut I H H'):RS env it l nl I N s0 (k+1) j outs H':=by
 obtain ⟨kp,hit,⟨ots,pl,ia⟩,ri0,m,ns,h1,h2⟩:=r
 refine ⟨kp.new n.I (λb o q e=>sb.extBut b o q e) (λo vs e h=> ?_),IsLI.keep hit λo t e=>sb.extBut it o (vY ri0 hit) e,⟨ots,PL.at' pl λo t e=>sb.extBut nl o (wa ri0 pl) e,ia⟩,uu hk▸ri,m,ns.sameBut sb (v8 ri0 ns),h1,h2⟩
 rw [<- sm (ri0.symm.trans e)] at h
 exact nomatch Value.type.inj h
theorem RS.turn {N k j:Nat} {outs:List Int} {H H':Heap} (r:RS env it l nl I N s0 k j outs H) (n:RN env it nl I s0) {m:Str->Option Value} (ns:H.Ns env.locals m) (h1:m tapeS=some (.ref it)) (h2:m numS=some (.ref nl)) {v:Value} (st:SetL env m turnS v H H'):RS env it l nl I N s0 k j outs H':=by
 obtain ⟨kp,hit,⟨ots,pl,ia⟩,ri0,Zz⟩:=r
 exact ⟨kp.new n.L (λb o q e=>st.1.extBut b o q e) (λo vs e Zz=>Ns.nofields ns o e vs),IsLI.keep hit λo t e=>st.1.extBut it o (Ne.symm (IsLI.nsne hit ns)) e,⟨ots,PL.at' pl λo t e=>st.1.extBut nl o (Ne.symm (kg pl ns)) e,ia⟩,st.1.extBut I _ (Ne.symm (v8 ri0 ns)) ri0,_,st.2.2,(if_neg (by decide)).trans h1,(if_neg (by decide)).trans h2⟩
theorem RS.read {N k j j':Nat} {outs:List Int} {H H':Heap} (r:RS env it l nl I N s0 k j outs H) (n:RN env it nl I s0) (hit':H'.IsListIter it l j') (kd:KD it H H'):RS env it l nl I N s0 k j' outs H':=by
 obtain ⟨kp,hit,⟨ots,pl,ia⟩,ri0,m,ns,h1,h2⟩:=r
 exact ⟨λb o e=>(kp b o e).then (λo' e'=>kd.kp b o' (λq=>ai (n.it.symm.trans (q▸e))) e') kd.cd,hit',⟨ots,PL.at' pl λo t e=>(kd.kp nl o (IsLI.plne hit pl) e).ob (.inl t),ia⟩,(kd.kp I _ (Ne.symm (vY ri0 hit)) ri0).ob (.inl rfl),m,kd.ns ns (IsLI.nsne hit ns),h1,h2⟩
theorem RS.add {N k j:Nat} {outs:List Int} {v:Int} {t:Tok} {H H':Heap} (r:RS env it l nl I N s0 k j outs H) (n:RN env it nl I s0) {ots:Array Value} (pl:H.PlainList nl ots) (ia:IntsAt ots outs) (pl':H'.PlainList nl (ots.push (.int v t))) (sb:Heap.SameBut nl H H'):RS env it l nl I N s0 k j (outs++[v]) H':=by
 obtain ⟨kp,hit,Zz,ri0,m,ns,h1,h2⟩:=r
 exact ⟨kp.new n.nl (λb o q e=>sb.extBut b o q e) (λo vs e Zz=>PL.nofields pl o e vs),IsLI.keep hit λo t e=>sb.extBut it o (Ne.symm (IsLI.plne hit pl)) e,⟨_,pl',ia.push v t⟩,sb.extBut I _ (Ne.symm (wa ri0 pl)) ri0,m,ns.sameBut sb (kg pl ns),h1,h2⟩
structure RI (env:Env) (it l nl I:Addr) (is:List Int) (s0:Heap) (k j:Nat) (outs:List Int) (H:Heap):Prop where
 kj:k<=j
 jl:j<=is.length
 len:outs.length=k
 eq:rd (is.length+1) is=outs++rd (is.length+1 - k) (is.drop j)
 rs:RS env it l nl I (is.length+1) s0 k j outs H
theorem RI.lt {k j:Nat} {outs:List Int} {H:Heap} (r:RI env it l nl I is s0 k j outs H):k<is.length+1:=Nat.lt_succ_of_le (Nat.le_trans r.kj r.jl)
end
theorem Flown.gw {it e:Addr} {outer:List Env} {h h':Heap} (F:Flown it outer e h h') (hdt:∀ b∈frs outer,Dt h b) {b:Addr} {o:Obj} (hb:b≠it) (hf:b∈frs outer->Tabs.fa b) (e1:h.get? b=some o):Gw h' b o:=by
 rcases F.kept hb e1 with ⟨_,q⟩ |⟨hm,sl,q⟩
 ·exact .inl q
 ·obtain ⟨o',es,n,g1,g2⟩:=hdt b hm
  obtain rfl:=sm (e1.symm.trans g1)
  exact .inr (.inr ⟨hf hm,es,n,sl,g2,q⟩)
theorem Flown.cc {it e:Addr} {outer:List Env} {h h':Heap} (F:Flown it outer e h h') (hdt:∀ b∈frs outer,Dt h b) (hit:∀ o,h.get? it=some o->o.cls ≠ .type "code"):Cc h h':=λb o vs h1 h2 e1=>by
 rcases F.kept (λq=>hit o (q▸e1) h1) e1 with ⟨_,q⟩ |⟨hm,sl,q⟩
 ·exact q
 ·obtain ⟨o',es,n,g1,g2⟩:=hdt b hm
  obtain rfl:=sm (e1.symm.trans g1)
  exact nomatch h2.symm.trans g2
section
variable {prog:Program} {w:World} {c cv:Cx} {hB:Heap} {G:ag} {mg mb:Str->Option Value} {A:Around} {E:Value->Shared->Prop} {s:Shared} {env:Env} {sc scv:Scope} {as asv:List Arg} {it l nl I fv:Addr} {s0:Heap} {items:Array Value} {is:List Int} {outer:List Env} {bodyv:List Stmt} {namev:Str} {k j:Nat} {outs:List Int}
structure VX (prog:Program) (w:World) (cv:Cx) (G:ag) (hB:Heap) (mg mb:Str->Option Value) (fv:Addr) (scv:Scope) (asv:List Arg) (bodyv:List Stmt) (namev:Str):Prop where
 N:eX prog w cv G hB mg mb scv pmP asv
 tb:cv.tbl=tbP
 nm:scv.names=nmP
 ok:(pvS cv scv bodyv).1=true
 hu:(pvS cv scv bodyv).2=bodyv
 da:DefAt hB fv namev ⟨[],asv,none,[],[],none,[]⟩ bodyv scv
 mg:mg pvarS=some (.ref fv)
structure RX (prog:Program) (w:World) (c:Cx) (G:ag) (hB:Heap) (mg mb:Str->Option Value) (A:Around) (env:Env) (sc:Scope) (as:List Arg) (it l nl I:Addr) (s0:Heap) (items:Array Value) (is:List Int) (outer:List Env):Prop where
 off:Frk.fs=none
 N:eX prog w c G hB mg mb sc tbR as
 nm:sc.names=nmR
 e:E0 env sc
 n:RN env it nl I s0
 kp:KB hB s0
 pl:s0.PlainList l items
 ia:IntsAt items is
 le:is.length<=600
 ar:Ar 1 (A.deeper env)
 fr:A.frames=some outer
 u:Ups outer s0
 fa:∀ b∈frs outer,Tabs.fa b
theorem RX.ups (X:RX prog w c G hB mg mb A env sc as it l nl I s0 items is outer) {H:Heap} (r:RS env it l nl I (is.length+1) s0 k j outs H):Ups (env :: outer) H:=λe' he'=>by
 obtain ⟨m,ns,Zz⟩:=r.fr
 rcases List.mem_cons.mp he' with q |q
 ·subst q;exact ⟨by rw [X.e.ok.kind];decide,_,X.e.frm,Ns.dt ns⟩
 ·exact (X.u.cd r.kp.cd.2) e' q
theorem RX.flown (X:RX prog w c G hB mg mb A env sc as it l nl I s0 items is outer) {H hr h:Heap} {e:Addr} (r:RS env it l nl I (is.length+1) s0 k j outs H) (kd:KD it H hr) (hitC:∀ o,hr.get? it=some o->o.cls ≠ .type "code") (F:Flown it (env :: outer) e hr h) :
  Kp s0 h/\(∃ ots,h.PlainList nl ots/\IntsAt ots outs)/\∃ m,h.Ns env.locals m/\m numS=some (.ref nl):=by
 have hdt:∀ b∈frs (env :: outer),Dt hr b:=λb hb=>((X.ups r).cd kd.cd.2).mem hb
 obtain ⟨kp,hit,⟨ots,pl,ia⟩,Zz,m,ns,Zz,h2⟩:=r
 have kcr:=F.cc hdt hitC
 have plr:hr.PlainList nl ots:=PL.at' pl λo t e1=>(kd.kp nl o (IsLI.plne hit pl) e1).ob (.inl t)
 refine ⟨λb o e1=>((kp b o e1).then (λo' e'=>kd.kp b o' (λq=>ai (X.n.it.symm.trans (q▸e1))) e') kd.cd).thenC (λo' e'=>F.gw hdt (λq=>ai (X.n.it.symm.trans (q▸e1))) (λhm=> ?_) e') kcr,⟨ots,?_,ia⟩,m,?_,h2⟩
 ·rw [lg X.e.frm] at hm
  rcases List.mem_cons.mp hm with q |q
  ·exact ai (X.n.L.symm.trans (q▸e1))
  ·exact X.fa b q
 ·obtain ⟨n1,l1⟩:=id plr
  rcases F.kept (IsLI.plne hit pl) l1 with ⟨_,q⟩ |⟨hm,_⟩
  ·exact ⟨n1,q⟩
  ·exact absurd (hdt nl hm) (PL.nodt plr)
 ·obtain ⟨o1,es,ep,g1,g2,g3⟩:=kd.ns ns (IsLI.nsne hit ns)
  rcases F.kept (IsLI.nsne hit ns) g1 with ⟨_,q⟩ |⟨hm,sl,q⟩
  ·exact ⟨o1,es,ep,q,g2,g3⟩
  ·exact ⟨_,es,ep,q,g2,g3⟩
theorem RX.caught (X:RX prog w c G hB mg mb A env sc as it l nl I s0 items is outer) {H hr:Heap} {e:Addr} {h0:Expr×List Stmt×Pos} {np rp pos:Pos} (r:RS env it l nl I (is.length+1) s0 k j outs H) (kd:KD it H hr) (hitC:∀ o,hr.get? it=some o->o.cls ≠ .type "code") (F:Flown it (env :: outer) e hr s.heap) {Q:Flow->Shared->Prop}
  (hQ:∀ h' tk ots,Kp s0 h'->h'.PlainList nl ots->IntsAt ots outs->Q (.ret (.ref nl)) {s with heap:=h',toks:=tk}) :
  wpAny (model prog w) (A.deeper env) (noteFrame (.ref e) env) (λZz s₂=>wpAny (model prog w) (A.deeper env) (setFlight (.ref e) none) (λZz s₃=>wpAny (model prog w) (A.deeper env) (handleBy (.ref e) env [.ExceptHandler (some (.Name stopS h0.1.pos)) none [.Return (some (.Name numS np)) rp] pos]) Q E s₃) E s₂) E s:=by
 have hdt:∀ b∈frs (env :: outer),Dt hr b:=λb hb=>((X.ups r).cd kd.cd.2).mem hb
 refine rD (outer:=outer) (Around.frames_deeper X.fr) X.e.frm F hdt λh9 hfl F9=> ?_
 obtain ⟨base9,a9,fly9⟩:=hfl
 refine wpAny_handleBy_builtin (s:={s with heap:=h9}) (X:="StopIteration") (T:="StopIteration") (b:=true) (by rw [isSubtype_type];kernel_rfl) (by kernel_rfl) (by rw [isSubtype_type];kernel_rfl) (zI (s:={s with heap:=h9}) X.N.B X.e (X.kp.trans (X.flown r kd hitC F9).1) (by rw [X.nm];rfl) (by decide) qy (by decide) ⟨rfl,fly9.there,?_⟩)
 rw [if_pos rfl]
 refine mP (s:={s with heap:=h9}) F9 hdt λhA FA=> ?_
 obtain ⟨kpA,⟨ots,plA,ia⟩,m,nsA,hm⟩:=X.flown r kd hitC FA
 exact wpAny_execs_cons (wpAny_Return_some (ef (s:={s with heap:=hA}) X.e nsA (by rw [X.nm];rfl) hm (by decide) (hQ hA _ ots kpA plA ia)))
theorem RX.tried (X:RX prog w c G hB mg mb A env sc as it l nl I s0 items is outer) (V:VX prog w cv G hB mg mb fv scv asv bodyv namev) (r:RS env it l nl I (is.length+1) s0 k j outs s.heap) (ho:outs.length<=700) {st:Stmt} (hl:((kid 0 (skid 0 (hs (tinfo st).1))).pos.endLine==(skid 0 (hs (tinfo st).1)).pos.line)=true) {Q:Flow->Shared->Prop}
  (hQ:∀ v j' h' tk,j<j'->j'<=is.length->pv (is.drop j)=some (v,is.drop j')->RS env it l nl I (is.length+1) s0 k j' (outs++[v]) h'->Q .next {s with heap:=h',toks:=tk})
  (hE:∀ h' tk ots,pv (is.drop j)=none->Kp s0 h'->h'.PlainList nl ots->IntsAt ots outs->Q (.ret (.ref nl)) {s with heap:=h',toks:=tk}):wpAny (model prog w) (A.deeper env) (exec (tryR st) env) Q E s:=by
 obtain ⟨m,ns,ht,hn⟩:=r.fr
 obtain ⟨ots,pl,ia⟩:=r.li
 have ld:∀ {x k},nmR.lookup x=some k->sc.names.lookup x=some k:=λh=>by rw [X.nm];exact h
 refine wpAny_Try_except (wpAny_execs_cons (wpAny_Expr (wpAny_mono (Q:=λv s'=>v = .none/\_) (wpAny_Call_method_lateS rfl rfl hl (ef X.e ns (ld rfl) hn (by decide) ?_)) (λv s' hv=>hv.1▸hv.2) λZz Zz e=>e) (by unfold interactive;rw [X.e.ok.kind];rfl) rfl))
 obtain ⟨n0,l0⟩:=id pl
 refine ⟨"list","list.append",PySem.F.plainAttrs_list,PySem.F.slot_list_append,PySem.F.type_list_append,⟨_,l0,rfl⟩,λa e=>by rw [<- Value.ref.inj e];exact ⟨_,l0,rfl⟩,?_⟩
 refine PySem.Calls.callWith_builtin rfl (PySem.Calls.evalArgs_plain (PySem.Calls.spliced_cons ?_))
 obtain ⟨ov,pmv,cdv,docv,Zz,Zz,Zz,Zz,hov1,hov2,Zz⟩:=V.da.at'
 have kB7:=X.kp.trans r.kp
 refine wpAny_Call_ofName (PySem.Calls.Name_function_global X.e.ok.kind (X.e.kind (ld rfl)) (PySem.Calls.loadGlobal_global (by rw [X.e.ok.glob];exact kB7.ns X.N.B.ns) V.mg ?_) (by decide))
 refine PySem.Calls.callWith_function (o:=ov) (fd:=Calls.docDef namev ⟨[],asv,none,[],[],none,[]⟩ bodyv scv pmv (.ref cdv) docv) (PySem.Calls.evalArgs_plain (PySem.Calls.spliced_cons (ef X.e ns (ld rfl) ht (by decide) (PySem.Calls.spliced_nil ⟨⟨kB7.ob hov1 (.inl (bi hov2)),hov2⟩,?_⟩))))
 refine Bm X.off V.N V.tb V.nm V.ok V.hu V.da X.ar (Around.frames_deeper X.fr) (X.ups r) kB7 (X.kp.none X.n.it) r.hit (PL.at' X.pl (r.kp.at l)) X.ia X.le (λv j' h8 tk8 t8 hj hj' hpv hit8 kd8=> ?_) λhpv e h8 tk8 hr kdr hitC fly=> ?_
 ·have r8:=r.read X.n hit8 kd8
  have pl8:h8.PlainList nl ots:=PL.at' pl λo t e=>(kd8.kp nl o (IsLI.plne r.hit pl) e).ob (.inl t)
  refine PySem.Calls.spliced_nil (wpAny_list_append_plain (s:={s with heap:=h8,toks:=tk8}) (hsz:=by rw [sizeLine_eq,ia.1];exact Nat.le_trans ho (by decide)) pl8 λh9 pl9 sb9=>⟨rfl,?_⟩)
  exact wpAny_execs_nil (wpAny_execs_nil (hQ v j' h9 tk8 hj hj' hpv (r8.add X.n pl8 ia pl9 sb9)))
 ·exact X.caught (s:={s with heap:=h8,toks:=tk8}) (h0:=hinfo ((tinfo st).2.headD default)) r kdr hitC fly λh' tk ots kp pl ia=>hE h' tk ots hpv kp pl ia
end
section
variable {prog:Program} {w:World} {c cv:Cx} {hB:Heap} {G:ag} {mg mb:Str->Option Value} {A:Around} {E:Value->Shared->Prop} {s:Shared} {env:Env} {sc scv:Scope} {as asv:List Arg} {it l nl I fv:Addr} {s0:Heap} {items:Array Value} {is:List Int} {outer:List Env} {bodyv:List Stmt} {namev:Str} {k j:Nat} {outs:List Int}
theorem RI.next {v:Int} {j':Nat} {H H':Heap} (r:RI env it l nl I is s0 k j outs H) (hj:j<j') (hj':j'<=is.length) (hpv:pv (is.drop j)=some (v,is.drop j')) (q:RS env it l nl I (is.length+1) s0 (k+1) j' (outs++[v]) H'):RI env it l nl I is s0 (k+1) j' (outs++[v]) H':=by
 refine ⟨Nat.lt_of_le_of_lt r.kj hj,hj',by rw [List.length_append,r.len];rfl,?_,q⟩
 rw [r.eq,fG r.lt,oM hpv,List.append_assoc];rfl
theorem RI.done {H:Heap} (r:RI env it l nl I is s0 k j outs H) (hpv:pv (is.drop j)=none):rd (is.length+1) is=outs:=by
 rw [r.eq,fG r.lt,oL hpv,List.append_nil]
theorem RX.loop (X:RX prog w c G hB mg mb A env sc as it l nl I s0 items is outer) (V:VX prog w cv G hB mg mb fv scv asv bodyv namev) {st:Stmt} (hl:((kid 0 (skid 0 (hs (tinfo st).1))).pos.endLine==(skid 0 (hs (tinfo st).1)).pos.line)=true) {tp:Pos} (r:RS env it l nl I (is.length+1) s0 0 0 [] s.heap)
  {Q:Flow->Shared->Prop} (hQ:∀ h' tk ots,Kp s0 h'->h'.PlainList nl ots->IntsAt ots (rd (is.length+1) is)->Q (.ret (.ref nl)) {s with heap:=h',toks:=tk}) :
  codeAny (model prog w) (A.deeper env) (.forLoop (.Name turnS tp) (.ref I) [tryR st] [] env) (λr s'=>match r with | .ok f=>Q f s' | .error e=>cameBackBy (model prog w) (A.deeper env) env E e s') s:=by
 refine codeAny_forLoop (R:=λr s'=>match r with | .ok f=>Q f s' | .error e=>cameBackBy (model prog w) (A.deeper env) env E e s') (λnn s'=>∃ H tk k j outs,s' = {s with heap:=H,toks:=tk}/\nn=is.length+1 - k/\RI env it l nl I is s0 k j outs H) ?_ (is.length+1) ⟨s.heap,s.toks,0,0,[],rfl,rfl,Nat.le_refl _,Nat.zero_le _,rfl,rfl,r⟩
 rintro nn s' ⟨H,tk,k,j,outs,rfl,rfl,r⟩
 refine wpAny_pyNext_range_item (s:={s with heap:=H,toks:=tk}) r.rs.ri (uv r.lt) λh6 ri6 sb6=> ?_
 have r6:=r.rs.range X.n r.lt ri6 sb6
 obtain ⟨m,ns,h1,h2⟩:=r6.fr
 refine wpAny_assign_Name (ew (s:={s with heap:=h6,toks:=tk+1}) X.e ns (by rw [X.nm];rfl) λh7 tk7 st7=> ?_)
 have r7:=r6.turn X.n ns h1 h2 st7
 refine wpAny_execs_cons (X.tried (s:={s with heap:=h7,toks:=tk7}) V r7 (by rw [r.len];exact Nat.le_trans (Nat.le_of_lt r.lt) (Nat.le_trans (Nat.succ_le_succ X.le) (by decide))) hl (λv j' h8 tk8 hj hj' hpv r8=> ?_) λh8 tk8 ots hpv kp pl ia=>hQ h8 tk8 ots kp pl ?_)
 ·exact wpAny_execs_nil ⟨is.length+1 - (k+1),Nat.sub_succ_lt_self _ _ r.lt,h8,tk8,k+1,j',_,rfl,rfl,r.next hj hj' hpv r8⟩
 ·rw [r.done hpv];exact ia
theorem B0 {h:Heap} {m:Str->Option Value} (e:E0 env sc) (hnm:sc.names=nmR) (ho:m octS=some (.ref l)) (pl:h.PlainList l items) (ia:IntsAt items is) (hx:¬ cg env l):FV (valOf env m λZz=>none) h (cg env) tbR [some (.list (is.map .int),false)] :=
 .has (by unfold valOf;rw [e.kind (k:= .local) (by rw [hnm];rfl)];exact ho) ⟨l,items,rfl,hx,pl,ia.den _ _⟩ .nil
theorem BM {h:Heap} {m:Str->Option Value} (e:E0 env sc) (hk:∀ x,celK (sc.names.lookup x)=false) (n:h.Ns env.locals m):FrM env h m λZz=>none:=by
 refine ⟨n,λx c q=> ?_,λx c q=> ?_,λx y c q=> ?_,λx q=> ?_⟩
 ·rw [e.cel] at q;exact ai q
 ·rw [e.cel] at q;exact ai q
 ·rw [e.cel] at q;exact ai q
 ·have:=hk x
  unfold Env.kindOf at q
  rw [e.sc] at q
  exact q.elim (λq=>by rw [q] at this;exact nomatch this) λq=>by rw [q] at this;exact nomatch this
theorem xR {nm:List (Str×NameKind)} (h:nm.all (λx=> !celK (some x.2))=true) (x:Str):celK (nm.lookup x)=false:=by
 cases e:nm.lookup x with
 |none=>rfl
 |some k=>exact nt (List.all_eq_true.mp h _ (PySem.mem_of_lookup e))
theorem zM {G:ag} {F:FEnv} {is:List Int} (h:is.length<=600):ev G F [some (.list (is.map .int),false)] true rR=some (.int ((is.length:Int)+1)) :=
 af (x:= .int (is.length:Int)) (ad (aW rfl rfl) (aq (by rw [List.length_map];exact gY (Nat.le_trans h (by decide))) (by rw [List.length_map]))) rfl rfl
theorem uP (N:eX prog w c G hB mg mb sc tbR as) (hnm:sc.names=nmR) (e:E0 env sc) (hh:A.handled=none) {m:Str->Option Value} (n:s.heap.Ns env.locals m) (ho:m octS=some (.ref l)) (kp:KB hB s.heap) (pl:s.heap.PlainList l items) {st:Stmt} {t v g e2:Expr} {Q:Flow->Shared->Prop}
  (hQ:∀ it nl h' tk m',s.heap.get? it=none->s.heap.get? nl=none->(∀ b o,b≠env.locals->s.heap.get? b=some o->h'.get? b=some o)->h'.IsListIter it l 0->h'.PlainList nl #[]->h'.Ns env.locals m'->m' tapeS=some (.ref it)->m' numS=some (.ref nl)->m' octS=some (.ref l)->Q .next {s with heap:=h',toks:=tk}) :
  wpAny (model prog w) A (exec (.Assign [.Tuple [.Name tapeS (kid 0 t).pos,.Name numS (kid 1 t).pos] (numE t) t.pos] (.Tuple [.Call (.Name iterS (kid 0 g).pos) [.Name octS (kid 1 g).pos] [] g.pos,.List [] e2.pos] (numE v) v.pos) st.pos) env) Q E s:=by
 have ld:∀ {x k},nmR.lookup x=some k->sc.names.lookup x=some k:=λh=>by rw [hnm];exact h
 refine pi e rfl (ld rfl) (ld rfl) (by decide) hh (wpAny_Tuple (PySem.Calls.spliced_cons (wpAny_Call_ofName (zI N.B e kp (ld rfl) (by decide) qv (by decide) ?_))))
 refine PySem.Calls.callWith_builtin rfl (PySem.Calls.evalArgs_plain (PySem.Calls.spliced_cons (ef e n (ld rfl) ho (by decide) (PySem.Calls.spliced_nil ?_))))
 show wpAny _ _ (call (.builtin "iter") [.ref l]) _ _ _
 refine ro (PL.isList pl) ?_
 have hitI:(s.heap.push {cls:= .type "list_iterator",data:= .fields #[.ref l,.int 0 0]}).IsListIter s.heap.objs.size l 0:=⟨_,Heap.get?_push_size _ rfl,rfl,rfl⟩
 have kq1:Kq s.heap (s.heap.push {cls:= .type "list_iterator",data:= .fields #[.ref l,.int 0 0]}):=Kq.push _ _
 have hitN:s.heap.get? s.heap.objs.size=none:=aI _
 revert hitN
 generalize s.heap.objs.size=it at hitI
 generalize (s.heap.push {cls:= .type "list_iterator",data:= .fields #[.ref l,.int 0 0]})=hb at hitI kq1
 intro hitN
 refine PySem.Calls.spliced_cons (wpAny_List (PySem.Calls.spliced_nil ⟨by show (0:Nat)<=sizeLine;exact Nat.zero_le _,?_⟩))
 refine PySem.Calls.spliced_nil ⟨by show (2:Nat)<=sizeLine;decide,?_⟩
 have plN:(hb.push {cls:= .type "list",data:= .seq ([]:List Value).toArray}).PlainList hb.objs.size #[]:=⟨0,Heap.get?_push_size _ rfl⟩
 have kq2:Kq hb (hb.push {cls:= .type "list",data:= .seq ([]:List Value).toArray}):=Kq.push _ _
 have nlN:hb.get? hb.objs.size=none:=aI _
 revert nlN
 generalize hb.objs.size=nl at plN
 generalize (hb.push {cls:= .type "list",data:= .seq ([]:List Value).toArray})=hc at plN kq2
 intro nlN
 have kq3:Kq hc (hc.push {cls:= .type "tuple",data:= .seq [Value.ref it,.ref nl].toArray}):=Kq.push _ _
 have tup:TupAt (hc.push {cls:= .type "tuple",data:= .seq [Value.ref it,.ref nl].toArray}) hc.objs.size #[.ref it,.ref nl]:=⟨0,Heap.get?_push_size _ rfl⟩
 have n3:=n.keeps (Kq.trans kq1 (Kq.trans kq2 kq3))
 refine ⟨hc.objs.size,.ref it,.ref nl,m,rfl,tup,n3,λh2 kq4 h' tk two=> ?_⟩
 obtain ⟨k,cd,m',ns',g1,g2,g3⟩:=two
 have k24:=Kq.trans kq2 (Kq.trans kq3 kq4)
 have n4:=n3.keeps kq4
 exact hQ it nl h' tk m' hitN ((Kp.of kq1).none nlN) (λb o hb q=>k b o hb (Kq.trans kq1 k24 b o q)) (IsLI.keep hitI λo t q=>k it o (Ne.symm (IsLI.nsne hitI (n.keeps kq1))) (k24 _ _ q)) (PL.at' plN λo t q=>k nl o (Ne.symm (kg plN (n.keeps (Kq.trans kq1 kq2)))) (kq4 _ _ (kq3 _ _ q))) ns' g1 g2 ((g3 _ (by decide) (by decide)).trans ho)
theorem uo (off:Frk.fs=none) (N:eX prog w c G hB mg mb sc tbR as) (htb:c.tbl=tbR) (hnm:sc.names=nmR) {body:List Stmt} (hok:(rdS c sc body).1=true) (hu:(rdS c sc body).2=body) {f:Addr} {name:Str} (da:DefAt hB f name ⟨[],as,none,[],[],none,[]⟩ body sc) (V:VX prog w cv G hB mg mb fv scv asv bodyv namev)
  {Q:Value->Shared->Prop} (ar:Ar 2 A) (hfr:A.frames=some outer) (u:Ups outer s.heap) (hfa:∀ b∈frs outer,Tabs.fa b) (kp:KB hB s.heap) (hL:s.heap.PlainList l items) (hia:IntsAt items is) (h600:is.length<=600)
  (hQ:∀ a its h' tk,Kp s.heap h'->s.heap.get? a=none->h'.PlainList a its->IntsAt its (rd (is.length+1) is)->Q (.ref a) {s with heap:=h',toks:=tk}) :
  wpAny (model prog w) A (call (.ref f) [.ref l]) Q E s:=by
 obtain ⟨o,pm,cd,doc,tb,oc,vc,tc,h1,h2,h3,h4,h5,h6,h7,h8⟩:=da.at'
 have nocell:∀ x,celK (sc.names.lookup x)=false:=λx=>by rw [hnm];exact xR rfl x
 refine mK (fd:=Calls.docDef name ⟨[],as,none,[],[],none,[]⟩ body sc pm (.ref cd) doc) (cm:=λZz=>none) (O:=[none]) off N.lim N.I N.has (kp.ob h1 (.inl (bi h2))) h2 rfl rfl rfl rfl rfl rfl ⟨cd,oc,vc,tc,rfl,kp.ob h3 (.inl (bh h4 h5)),h5,h6⟩ (λx c q=>ai q) (λx y c q=>ai q) (λx q=>by have:=nocell x;rw [q] at this;exact nomatch this) (λx c q=>ai q) kp ar rfl (λh Ex Zz Zz=>by rw [htb];exact .no .nil) λenv h₀ tk he S n k0 hn ar1=> ?_
 have e:E0 env sc:=⟨S.rr.ok,he▸rfl,he▸rfl,he▸rfl⟩
 refine aa hok λq1 q2=> ?_
 rw [<- hu]
 refine wpAny_execs_cons (uP (s:={s with heap:=h₀,toks:=tk}) N hnm e ar1.hd n rfl (kp.trans k0) (PL.at' hL (k0.at l)) λit nl h3 tk3 m3 it0 nl0 keep hit pl ns mt mn mo=> ?_)
 have kp3:Kp s.heap h3:=k0.new hn keep λo vs q Zz=>Ns.nofields n o q vs
 have plL:h3.PlainList l items:=PL.at' hL (kp3.at l)
 have hx:¬ cg env l:=λq=>q.elim (λq=>kg plL ns q.symm) λ⟨x,q⟩=>by rw [e.cel] at q;exact ai q
 let p:At (wd0 prog w c G hB) sc _:=⟨A.deeper env,{s with heap:=h3,toks:=tk3},env,cg env,λZz=>0,.self e.sc,(B0 e hnm mo plL hia hx).rr e.ok (BM e nocell ns) (bB rfl) |> λR=>htb▸R,kp.trans kp3,ar1.mono (Nat.zero_le _)⟩
 have rg:=iH (np:=(kid 0 (skid 0 (hs body.tail))).pos) (pos:=(skid 0 (hs body.tail)).pos) N.B (EL.one (eM N q1)).as (by unfold isGlob;rw [hnm];rfl)
 refine wpAny_execs_cons (wpAny_For (rg _ p _ 0 ((is.length:Int)+1) _ rfl (zM h600) λr h4 tk4 t4 u4 v4 kp4 hr hrN=> ?_) λx=>rfl)
 have hidx:idxOk ((is.length:Int)+1)=true:=i8 (n:=is.length+1) (Nat.le_trans (Nat.succ_le_succ h600) (by decide))
 obtain ⟨b1,b2,b3,hsz⟩:=fL (m:=0) rfl hidx
 refine wpAny_pyIter_range (s:={s with heap:=h4,toks:=tk4}) hr (small_one b1.1 b1.2 b2.1 b2.2) ?_
 rw [hsz]
 have hI:(h4.push {cls:= .type "range_iterator",data:= .fields #[rawInt 0,rawInt ((((is.length:Int)+1 - 0).toNat:Nat):Int),rawInt 1]}).get? h4.objs.size=some {cls:= .type "range_iterator",data:= .fields #[rawInt 0,rawInt ((((is.length:Int)+1 - 0).toNat:Nat):Int),rawInt 1]}:=Heap.get?_push_size _ rfl
 have kp5:Kp h4 (h4.push {cls:= .type "range_iterator",data:= .fields #[rawInt 0,rawInt ((((is.length:Int)+1 - 0).toNat:Nat):Int),rawInt 1]}):=Kp.push _ _
 have kp35:=kp4.trans kp5
 have hIN:h4.get? h4.objs.size=none:=aI _
 have kp6:=kp3.trans kp35
 refine RX.loop (s:={s with heap:=h4.push {cls:= .type "range_iterator",data:= .fields #[rawInt 0,rawInt ((((is.length:Int)+1 - 0).toNat:Nat):Int),rawInt 1]},toks:=tk4}) ⟨off,N,hnm,e,⟨hn,k0.none it0,k0.none nl0,(kp3.trans kp4).none hIN⟩,kp,hL,hia,h600,ar1,hfr,u,hfa⟩ V (st:=hs (sbod (hs body.tail))) q2 ⟨kp6,IsLI.keep hit (kp35.at it),⟨#[],PL.at' pl (kp35.at nl),rfl,λj k h=>ai h⟩,hI,m3,kp35.ns ns,mt,mn⟩ λh' tk ots kpF plF iaF=> ?_
 exact hQ nl ots h' tk kpF (k0.none nl0) plF iaF
end
end Mine
namespace Mine
noncomputable abbrev F0:Frk:=⟨none⟩
noncomputable abbrev F1 (env:Env):Frk:=⟨some [env]⟩
noncomputable def readSpec (ds:List D):Option D:=(one? ds).bind λd=>d.list?.bind λds=>(ints? ds).bind λis=>if decide (is.length<=600)=true then some (.list ((rd (is.length+1) is).map .int)) else none
variable [Jt:Tabs]
theorem Ctr.lift {T1:Frk} {prog:Program} {w:World} {hB:Heap} {n:Nat} {F:FEnv} {f:Str} {a:Addr} (h : @Ctr _ F0 prog w hB n F f a) : @Ctr _ T1 prog w hB n F f a :=
 λA E s X ds vs r Q ar kp hX hd hr P=>h A E s X ds vs r Q (@Ar.mk F0 _ _ ar.hd ar.depth ar.units (λl hl=>nomatch hl)) (@KB.mk _ F0 _ _ kp.kp (λl hl=>nomatch hl)) hX hd hr P
section
variable {prog:Program} {w:World} {c cv:Cx} {hB:Heap} {G:ag} {mg mb:Str->Option Value} {sc scv:Scope} {body bodyv:List Stmt} {as asv:List Arg} {f fv:Addr} {name namev:Str}
theorem tQ (N : @eX _ F0 prog w c G hB mg mb sc tbR as) (htb:c.tbl=tbR) (hnm:sc.names=nmR) (hok:(rdS c sc body).1=true) (hu:(rdS c sc body).2=body) (da:DefAt hB f name ⟨[],as,none,[],[],none,[]⟩ body sc) (V : @VX _ F0 prog w cv G hB mg mb fv scv asv bodyv namev)
  {env:Env} {F:FEnv} {n:Nat} (hn:2<=n) (hF:∀ ds r,F name ds=some r->readSpec ds=some r) : @Ctr _ (F1 env) prog w hB n F name f:=by
 intro A E s X ds vs r Q ar kp hX hden hr P
 have hr:=hF _ _ hr
 revert hden
 refine ae hr λd h1 hr=>lP (P:=λds=>DenL s.heap X ds vs->_) h1 ?_
 refine ae hr λds h2 hr=>bH (P:=λd=>DenL s.heap X [d] vs->_) h2 ?_
 refine ae hr λis h3 hr=>gd hr λh600 hr2 hden=> ?_
 obtain rfl:=nV h3
 obtain rfl:=sm hr2
 obtain ⟨v,r1,rfl,⟨l,items,rfl,hx,hL,dl⟩,e⟩:=hden
 obtain rfl:r1=[]:=e
 obtain ⟨a1,a2,a3,a4⟩:=ar
 obtain ⟨k1,k2⟩:=kp
 obtain ⟨g1,L,g2,g3,g4⟩:=k2 [env] rfl env List.mem_cons_self
 letI:Frk:=F0
 refine @uo _ F0 _ _ _ _ _ _ _ _ _ E _ _ _ _ _ _ _ _ _ [env] _ _ rfl N htb hnm _ hok hu _ _ da V Q (@Ar.mk F0 _ _ a1 (Nat.le_trans (Nat.add_le_add_left hn _) a2) (Nat.le_trans (Nat.add_le_add_left (Nat.mul_le_mul_left 4 hn) _) a3) (λl hl=>nomatch hl)) (a4 [env] rfl) ?_ ?_ (@KB.mk _ F0 _ _ k1 (λl hl=>nomatch hl)) hL (IntsAt.of_den dl) (of_decide_eq_true h600) λa its h' tk kp' ha pl hi=>P _ h' tk kp' ⟨a,its,rfl,λq=>(hX a q).ne ha rfl,pl,hi.den _ _⟩
 ·intro e he
  rw [List.mem_singleton.mp he]
  exact ⟨g1,L,g2,g4⟩
 ·intro b hb
  rw [lg g2] at hb
  rw [List.mem_singleton.mp hb];exact g3
theorem rv {F:FEnv} {n:Nat} (hfa:Tabs.fa hB.objs.size) (B:∀ T:Frk,@Base _ T prog w c G hB mg mb) (lim:hB.NoLimit) {ps:List Str} {params:Arguments} {code:S}
  (CT:∀ (env:Env) f a,f∈c.fns->mg f=some (.ref a)-> @Ctr _ (F1 env) prog w hB n F f a) (ok:eB c ps name params body sc) (hc:codeB c sc code body=true) (hu:(unS c sc code body).2=body)
  {a:Addr} (da:DefAt hB a name params body sc) {A:Around} {s:Shared} {ds:List D} {vs:List Value} {r:D} {Q:Value->Shared->Prop} {E:Value->Shared->Prop} (hsB:s.heap=hB) (hfr:A.frames=some []) (ar : @Ar F0 (n+1) A)
  (hden:DenL s.heap (λZz=>False) ds vs) (hlen:ds.length=ps.length) (hr:run G F c.tbl.length code ds=some r)
  (P:∀ v h' tk,Kp s.heap h'->Den h' (λZz=>False) r v->Q v {s with heap:=h',toks:=tk}):wpAny (model prog w) A (call (.ref a) vs) Q E s:=by
 letI:Frk:=F0
 refine @dz _ F0 rfl ⟨prog,w,c,G,F,hB,n⟩ lim ps name params body sc ok a da A E s (λZz=>False) ds vs r Q ar (@KB.mk _ F0 _ _ (hsB▸Kp.refl _) (λl hl=>nomatch hl)) (λZz h=>h.elim) hden hlen P λp cd tb he hA Zz Zz hnew k0 fin=> ?_
 have hL:p.env.locals=hB.objs.size:=by rw [he,<- hsB];rfl
 have k1 : @KB _ (F1 p.env) hB p.s.heap:=by
  refine @KB.mk _ (F1 p.env) _ _ p.k.kp (λl hl e he'=> ?_)
  rw [<- sm (a:=[p.env]) hl] at he'
  rw [List.mem_singleton.mp he']
  obtain ⟨m,cm,Fm,Zz⟩:=p.S.rr.fr
  exact ⟨by rw [p.S.rr.ok.kind];decide,p.env.locals,by rw [he];rfl,by rw [hL];exact hfa,Ns.dt Fm.ns⟩
 have a1 : @Ar (F1 p.env) n p.A:= @Ar.mk (F1 p.env) _ _ p.ar.hd p.ar.depth p.ar.units λl hl=>by rw [hA,<- sm (a:=[p.env]) hl];exact Around.frames_deeper hfr
 have ss:= @nq _ (F1 p.env) ⟨prog,w,c,G,F,hB,n⟩ sc mg mb (B _) (CT p.env) ok.names code body hc hu
 refine ae hr λq hex hr=> ?_
 obtain ⟨O',o'⟩:=q
 let p1 : @Ast _ (F1 p.env) ⟨prog,w,c,G,F,hB,n⟩ sc _:= @Ast.mk _ (F1 p.env) _ _ _ p.A p.s p.env p.Mu p.Ex p.ow p.hsc p.S k1 p.hm a1
 cases o' with
 |next =>
  obtain rfl:=sm hr
  exact ss _ p1 _ O' .next _ hex λh' tk' Mu' Ex' ow' S' g=>fin h' tk' .none Mu' Ex' g rfl
 |brk=>exact ai hr
 |ret d =>
  obtain rfl:=sm hr
  exact ss _ p1 _ O' (.ret d) _ hex λh' tk' v Mu' Ex' g dv=>fin h' tk' v Mu' Ex' g dv
end
end Mine
namespace Mine
noncomputable def nI:Str:="_int2digits"
noncomputable def nD:Str:="_digits2int"
noncomputable def nP:Str:="_parse_varint"
noncomputable def nR:Str:="_law_read"
noncomputable def QI:Str:=nI++(".<locals>.":Str)++inS
noncomputable def QD:Str:=nD++(".<locals>.":Str)++inS
noncomputable def qOf (line:Nat) (l c:Int):Str:=cond (l==(line:Int)) QI QD
structure HI (t:TS) (c:Cx) (line:Nat) (d:DefItem):Prop where
 find:findD t nI=some d
 ok:i2dB c d=true
 hu1:(i2dU c d).1=d.body
 hu2:(i2dU c d).2=(itemOf (hs d.body.tail)).body
 hq:qOf line (itemOf (hs d.body.tail)).pos.line (itemOf (hs d.body.tail)).pos.col=QI
structure HD (t:TS) (c:Cx) (line:Nat) (d:DefItem):Prop where
 find:findD t nD=some d
 ok:d2iOk c d=true
 hu1:(d2iU c d).1=d.body
 hu2:(d2iU c d).2=(itemOf (hs d.body)).body
 hq:qOf line (itemOf (hs d.body)).pos.line (itemOf (hs d.body)).pos.col=QD
structure HP (t:TS) (c:Cx) (d:DefItem):Prop where
 find:findD t nP=some d
 ok:(innB d.scope tbP pmP&&d.scope.names==nmP&&(pvS (atT c tbP) d.scope d.body).1&&tbP.all (λx=>dbg x&&dcl x)&&parsOf d.params==pmP)=true
 hu:(pvS (atT c tbP) d.scope d.body).2=d.body
structure HR (t:TS) (c:Cx) (d:DefItem):Prop where
 find:findD t nR=some d
 ok:(innB d.scope tbR tbR&&d.scope.names==nmR&&(rdS (atT c tbR) d.scope d.body).1&&tbR.all (λx=>dbg x&&dcl x)&&parsOf d.params==tbR)=true
 hu:(rdS (atT c tbR) d.scope d.body).2=d.body
noncomputable def spn2:List Str:=[nI,nD]
noncomputable def sp2 (f:Str) (ds:List D):Option D:=cond (f==nI) (i2dSpec ds) (d2iSpec ds)
noncomputable def FL (G:ag) (fns:List Fn) (k:Nat):FEnv:=λf ds=>cond (f==nR) (readSpec ds) (FF G fns spn2 sp2 k f ds)
theorem zU [Jt:Tabs] {h h':Heap} (k:Kp h h') (hf:∀ b,Al h b->¬ Tabs.fa b) (ht:∀ b,Tabs.tb b->isCodeTable h b):OldK h h':=by
 refine ⟨λb o e=> ?_,λb o e=>(k b o e).al⟩
 rcases k b o e with g |⟨t,vs,more,e1,e2,e3,_⟩ |⟨f,_⟩
 ·exact .inl g
 ·exact .inr (.inl ⟨ht b t,e1,vs,more,e2,e3⟩)
 ·exact absurd f (hf b ⟨o,e⟩)
theorem iF {d:DefItem} (hp:d.params=plainPar d.params):∃ as,d.params=⟨[],as,none,[],[],none,[]⟩/\parsOf d.params=as.map (·.arg):=⟨d.params.args,hp,rfl⟩
section
variable {p:Program} {w:World} {t:TS} {mg mb:Str->Option Value} {h:Heap} {c:Cx} {line:Nat} {sigs:List fc}
structure Top (p:Program) (w:World) (t:TS) (mg mb:Str->Option Value) (h:Heap) (c:Cx):Prop where
 T:TopAt t.defs t.consts (t.os p w) t.names mg mb h
 plain:∀ d∈t.defs,d.params=plainPar d.params
 bnm:bnames.all (λx=> !t.names.contains x)=true
 fn:c.fns.all (λx=>(findD t x).isSome)=true
 nd:(c.sets++c.dicts).all (λx=> !(x==("__debug__":Str)))=true
noncomputable def tabsOf (p:Program) (w:World) (h:Heap) (line:Nat):Tabs:={tb:=λP=>∃ cd,h.TableAt cd P #[],q:=qOf line,fa:=λb=>b=h.objs.size}
theorem oX (b:Addr) (x:Al h b):¬ (tabsOf p w h line).fa b:=λq=>let ⟨o,e⟩:=x;Nat.ne_of_lt (Heap.lt_size e) q
theorem Top.base (X:Top p w t mg mb h c) (T1:Frk) (tb:List Str) : @Base (tabsOf p w h line) T1 p w (atT c tb) (gOf t) h mg mb :=
 @wq (tabsOf p w h line) T1 p w t mg mb h oX X.T (atT c tb) X.bnm X.fn X.nd
theorem Top.par (X:Top p w t mg mb h c) {x:Str} {d:DefItem} (hd:findD t x=some d):d.params=plainPar d.params:=X.plain d (List.mem_of_find?_eq_some hd)
theorem Top.at (X:Top p w t mg mb h c) {x:Str} {d:DefItem} (hd:findD t x=some d):∃ a,mg x=some (.ref a):=by
 obtain ⟨a,h1,h2⟩:=X.T.made d (List.mem_of_find?_eq_some hd)
 have hn:=List.find?_some hd
 obtain rfl:d.name=x:=beq_iff_eq.mp hn
 exact ⟨a,h1⟩
theorem Top.spec (X:Top p w t mg mb h c) {dI dD:DefItem} (hI:HI t c line dI) (hD:HD t c line dD) (f:Str) (a:Addr) (k:Nat) (hf:f∈spn2) (ha:mg f=some (.ref a)) (hk:SPL<=k) : @Ctr (tabsOf p w h line) F0 p w h k (λf ds=>sp2 f ds) f a:=by
 letI:Tabs:=tabsOf p w h line
 letI:Frk:=F0
 rcases List.mem_cons.mp hf with rfl |hf
 ·exact wO rfl (X.base F0 c.tbl) X.T.bm X.T.lim hI.ok hI.hu1 hI.hu2 (X.par hI.find) (bI X.T hI.find ha) (λcd P q=>⟨cd,q⟩) hI.hq (λds r q=>q) hk
 ·obtain rfl:=List.mem_singleton.mp hf
  exact wM rfl (X.base F0 c.tbl) X.T.bm X.T.lim hD.ok hD.hu1 hD.hu2 (X.par hD.find) (bI X.T hD.find ha) (λcd P q=>⟨cd,q⟩) hD.hq (λds r q=>q) hk
theorem Top.read (X:Top p w t mg mb h c) {dP dR:DefItem} (hP:HP t c dP) (hR:HR t c dR) {env:Env} {a:Addr} (ha:mg nR=some (.ref a)) {F:FEnv} (hF:∀ ds r,F nR ds=some r->readSpec ds=some r) : @Ctr (tabsOf p w h line) (F1 env) p w h 300 F nR a:=by
 letI:Tabs:=tabsOf p w h line
 letI:Frk:=F0
 obtain ⟨av,hav⟩:=X.at hP.find
 obtain ⟨ap,e1,e2⟩:=iF (X.par hP.find)
 obtain ⟨ar,e3,e4⟩:=iF (X.par hR.find)
 have da:=bI X.T hR.find ha
 have dav:=bI X.T hP.find hav
 rw [e3] at da
 rw [e1] at dav
 refine aa hP.ok λq q5=>aa q λq q4=>aa q λq q3=>aa q λq1 q2=>aa hR.ok λr r5=>aa r λr r4=>aa r λr r3=>aa r λr1 r2=> ?_
 exact tQ (c:=atT c tbR) (cv:=atT c tbP) ⟨X.base F0 tbR,X.T.lim,r4,r1,e4.symm.trans (eq_of_beq r5)⟩ rfl (eq_of_beq r2) r3 hR.hu da ⟨⟨X.base F0 tbP,X.T.lim,q4,q1,e2.symm.trans (eq_of_beq q5)⟩,rfl,eq_of_beq q2,q3,hP.hu,dav,hav⟩ (by decide) hF
end
theorem Top.ctr {p:Program} {w:World} {t:TS} {mg mb:Str->Option Value} {s:Shared} {c:Cx} {line:Nat} {sigs:List fc} {dI dD dP dR:DefItem} (X:Top p w t mg mb s.heap c) (hsig:sigs.all (sigOk c t)=true) (hu:sigs.map (bodyU c t)=sigs.map (bodyOf t))
  (hI:HI t c line dI) (hD:HD t c line dD) (hP:HP t c dP) (hR:HR t c dR) (env:Env) (f:Str) (a:Addr) (hf:f∈c.fns) (ha:mg f=some (.ref a)) : @Ctr (tabsOf p w s.heap line) (F1 env) p w s.heap 300 (FL (gOf t) (sigs.map (mkFn t)) 300) f a:=by
 letI:Tabs:=tabsOf p w s.heap line
 have okF:∀ f∈sigs.map (mkFn t),tw c s.heap mg f:=λf hf=>by
  obtain ⟨sg,h1,rfl⟩:=List.mem_map.mp hf
  letI:Frk:=F0
  exact Bc X.T c (List.all_eq_true.mp hsig sg h1) (List.map_inj_left.mp hu sg h1) X.plain
 cases hr:f==nR with
 |true =>
  obtain rfl:=beq_iff_eq.mp hr
  exact X.read hP hR ha λds r h=>h
 |false =>
  have h1:=Ctr.lift (T1:=F1 env) (@zo _ F0 rfl _ _ _ _ _ _ _ (X.base F0 c.tbl) X.T.lim _ _ _ okF (X.spec hI hD) 300 f a ha)
  exact λA E s' Y ds vs r Q ar kp hY hd h P=>h1 A E s' Y ds vs r Q ar kp hY hd (by rw [<- h];unfold FL;rw [hr];rfl) P
theorem ru {l:OpenLaw} {t:TS} {c:Cx} {line:Nat} {ls:fc} {dL:DefItem} (hrun:runT l.prog.main.scope ⟨[],[],[],[],0⟩ l.prog.main.body=some t) (hreb:l.prog.main.body.map rebS=l.prog.main.body) (hmod:l.prog.main.scope.kind = .module)
  (said:l.row.wellSaid=true) (wit:l.row.toRowW.promised) (hop:opening l.prog=plainProg l.prog.main.scope.names) (hfence:∀ s,fenceModules? l.prog s=some s)
  (himp:importedModules l.prog.main.body=[]) (hann:hasAnns l.prog.main.body=false) (hdoc:docOf l.prog.main.body=none) (hbeh:behindTheImports l.prog=l.prog.main.body)
  (how:opensWell l.prog=true) (hb:l.prog.bare) (hwr:l.writes=false) (hmost:l.most=some 63) (hbound:l.bound=none)
  (hn:t.names.all (λx=>l.prog.boundNames.contains x)=true) (hl:laidNames.all (λx=> !t.names.contains x)=true) (plain:∀ d∈t.defs,d.params=plainPar d.params)
  (hfind:findD t l.name=some dL) (hthe:l.prog.theDef l.name=some (dL.params,dL.body,dL.scope))
  (bnm:bnames.all (λx=> !t.names.contains x)=true) (hfn:c.fns.all (λx=>(findD t x).isSome)=true) (hnd:(c.sets++c.dicts).all (λx=> !(x==("__debug__":Str)))=true)
  (hls:sigOk c t ls=true) (hlu:bodyU c t ls=bodyOf t ls) (hln:ls.name=l.name) (hlp:(parsOf dL.params).length=1)
  (FX:FEnv) (CTX:∀ (w:World) (s:Shared) (mg mb:Str->Option Value),Top l.prog w t mg mb s.heap c->∀ (env:Env) f a,f∈c.fns->mg f=some (.ref a)-> @Ctr (tabsOf l.prog w s.heap line) (F1 env) l.prog w s.heap 300 FX f a)
  (eval:∀ ns:List Int,ns.length<=63->run (gOf t) FX ls.tbl.length ls.code [.list (ns.map .int)]=some (.bool true)):l.row.Holds:=by
 have hw:∀ w,fe l.prog w t.defs t.consts (t.os l.prog w) t.names:=λw=> @tj (tabsOf l.prog w {} 0) F0 _ _ hmod t hreb hrun
 refine rx (objs:=λw=>t.os l.prog w) said wit hop hfence himp hann hdoc hbeh how hb hwr hmost hbound (λx hx=>List.contains_iff_mem.mp (List.all_eq_true.mp hn x hx)) (λx hx=>oq (List.all_eq_true.mp hl x hx)) (λd hd=>by rw [plain d hd];rfl) ⟨dL,List.mem_of_find?_eq_some hfind,beq_iff_eq.mp (List.find?_some hfind :),hthe,by rw [plain dL (List.mem_of_find?_eq_some hfind)];rfl,by rw [plain dL (List.mem_of_find?_eq_some hfind)];rfl⟩ hw λw s mg mb a ns vs T ha hlen hden hg=> ?_
 have X:Top l.prog w t mg mb s.heap c:=⟨T,plain,bnm,hfn,hnd⟩
 letI:Tabs:=tabsOf l.prog w s.heap line
 have CT:=CTX w s mg mb X
 have hs2:=hls
 unfold sigOk at hs2
 unfold bodyU bodyOf at hlu
 rw [hln,hfind] at hs2 hlu
 refine aa hs2 λq1 q2=> ?_
 letI:Frk:=F0
 refine rv (c:=atT c ls.tbl) (n:=300) (show (tabsOf l.prog w s.heap line).fa s.heap.objs.size from rfl) (λT1=>X.base T1 ls.tbl) T.lim CT (fV q1 (X.par hfind)) q2 hlu (bI T hfind ha) (s:=s) rfl rfl ⟨rfl,by show 1+claimMargin+301<=900;decide,by show 4+4 * 301<=9000;decide,λl hl=>nomatch hl⟩ (hden (tabsOf l.prog w s.heap line)) (by rw [hlp];rfl) (eval ns hlen) λv h' tk kp hv=> ?_
 exact ⟨h',tk,zU kp oX λb ⟨cd,x⟩=>x.isCodeTable,hv,rfl⟩
noncomputable def flagN:List (Int×Str):=[((1:Int),("OPTIMIZED":Str)),(2,"NEWLOCALS"),(4,"VARARGS"),(8,"VARKEYWORDS"),(16,"NESTED"),(32,"GENERATOR"),(64,"NOFREE"),(128,"COROUTINE"),(256,"ITERABLE_COROUTINE"),(512,"ASYNC_GENERATOR")]
structure vy (G:ag) (fns:List Fn) (b1L:List Int) (b3L:List (Int×Str)):Prop where
 lim:G.const "_DIV_LIMIT"=some (.int 4000)
 mark:G.const "ELLIPSIS_MARKER"=some (.str "...")
 b1:G.iset "b1_set"=some b1L
 b3:G.idict "b3_exceptions"=some b3L
 nm:G.idict "COMPILER_FLAG_NAMES"=some flagN
 f1:∃ x,fns.find? (λx=>x.name==("pretty_flags":Str))=some x/\x.ps.length=1/\x.tbl.length=4/\x.code=s_pretty_flags
 f2:∃ x,fns.find? (λx=>x.name==("_div2n1n":Str))=some x/\x.ps.length=3/\x.tbl.length=11/\x.code=s_div2n1n
 f3:∃ x,fns.find? (λx=>x.name==("_divmod_pos":Str))=some x/\x.ps.length=2/\x.tbl.length=9/\x.code=s_divmod_pos
 f4:∃ x,fns.find? (λx=>x.name==("int_divmod":Str))=some x/\x.ps.length=2/\x.tbl.length=4/\x.code=s_int_divmod
 f5:∃ x,fns.find? (λx=>x.name==("_ellipsis_match":Str))=some x/\x.ps.length=2/\x.tbl.length=6/\x.code=s_ellipsis_match
 f6:∃ x,fns.find? (λx=>x.name==("in_table_b1":Str))=some x/\x.ps.length=1/\x.tbl.length=1/\x.code=s_in_table_b1
 f7:∃ x,fns.find? (λx=>x.name==("map_table_b3":Str))=some x/\x.ps.length=1/\x.tbl.length=2/\x.code=s_map_table_b3
 f8:∃ x,fns.find? (λx=>x.name==("_law_unseen":Str))=some x/\x.ps.length=0/\x.tbl.length=0/\x.code=s_law_unseen
theorem be {G:ag} {fns:List Fn} {k n m:Nat} {f:Str} {ds:List D} {cd:S} (h1:spn2.contains f=false) (h2:∃ x,fns.find? (λx=>x.name==f)=some x/\x.ps.length=m/\x.tbl.length=n/\x.code=cd) (hl:ds.length=m) {r:Option D} (h:run G (FF G fns spn2 sp2 k) n cd ds=r) :
  FF G fns spn2 sp2 (k+1) f ds=r:=by
 obtain ⟨x,e1,e2,rfl,rfl⟩:=h2
 rw [FF_s,h1]
 exact ad e1 (aq (hl.trans e2.symm) h)
theorem ku {G:ag} {fns:List Fn} {k:Nat} {ds:List D} (hk:SPL<=k):FF G fns spn2 sp2 (k+1) "_int2digits" ds=i2dSpec ds:=(FF_s.trans (congrArg (λx=>cond x _ _) (show spn2.contains ("_int2digits":Str)=true from rfl))).trans (aq hk rfl)
theorem ql {G:ag} {fns:List Fn} {k:Nat} {ds:List D} (hk:SPL<=k):FF G fns spn2 sp2 (k+1) "_digits2int" ds=d2iSpec ds:=(FF_s.trans (congrArg (λx=>cond x _ _) (show spn2.contains ("_digits2int":Str)=true from rfl))).trans (aq hk rfl)
theorem gx (x:Int):Builtin.bitNot x = -x - 1:=by unfold Builtin.bitNot;omega
theorem wB {a:Int} (h:¬ 0<=a):0 <= -a - 1/\(-a - 1).natAbs<=a.natAbs:=by
 cases a with
 |ofNat n=>exact absurd (Int.natCast_nonneg n) h
 |negSucc n=>exact (show - (Int.negSucc n) - 1=(n:Int) from Int.add_sub_cancel (n:Int) 1)▸⟨Int.natCast_nonneg n,Nat.le_succ n⟩
theorem wC {a b q r:Int} (h:r+b * q = -a - 1):b * (-q - 1)+(b+(-r - 1))=a:=by
 have e : -(r+b * q)=a+1:=by rw [h,Int.neg_sub,Int.sub_neg,Int.add_comm]
 rw [Int.mul_sub,Int.mul_neg,Int.mul_one,Int.sub_eq_add_neg,Int.add_assoc,Int.neg_add_cancel_left,<- Int.add_sub_assoc,<- Int.neg_add,Int.add_comm (b * q),e,Int.add_sub_cancel]
theorem y0 {b r:Int} (h:0<=r/\r<b):0<=b+(-r - 1)/\b+(-r - 1)<b:=by
 have e:b+(-r - 1)=b - (r+1):=by rw [Int.sub_eq_add_neg (b:=r+1),Int.neg_add];rfl
 rw [e]
 exact ⟨Int.sub_nonneg_of_le h.2,Int.sub_lt_self _ (Int.lt_add_one_of_le h.1)⟩
theorem qI {a b:Int} (hb:0<b):a.fdiv b=Builtin.bitNot ((Builtin.bitNot a).fdiv b)/\a.fmod b=b+Builtin.bitNot ((Builtin.bitNot a).fmod b):=by
 rw [gx,gx,gx,Int.fdiv_eq_ediv_of_nonneg a (Int.le_of_lt hb),Int.fmod_eq_emod_of_nonneg a (Int.le_of_lt hb)]
 have h1:=Int.fmod_add_mul_fdiv (-a - 1) b
 have h2:=y0 (d8 hb (-a - 1))
 exact (Int.ediv_emod_unique hb).mpr ⟨(Int.add_comm _ _).trans (wC h1),h2.1,h2.2⟩
section
variable {G:ag} {fns:List Fn} {b1L:List Int} {b3L:List (Int×Str)} (C:vy G fns b1L b3L)
include C
theorem wi {k:Nat} {a b n:Int} (hb:small b=true) (hb0:b≠0) (hbits:((Builtin.Int.intBits a:Nat):Int) - n<=4000):FF G fns spn2 sp2 (k+1) "_div2n1n" [.int a,.int b,.int n]=some (.tup [.int (a.fdiv b),.int (a.fmod b)]) :=
 be rfl C.f2 rfl (mW C.lim hb hb0 hbits)
theorem yL {k:Nat} (hk:SPL<=k) {a b:Int} (ha:0<=a) (has:small a=true) (hb:0<b) (hbs:small b=true):FF G fns spn2 sp2 (k+2) "_divmod_pos" [.int a,.int b]=some (.tup [.int (a.fdiv b),.int (a.fmod b)]) :=
 be rfl C.f3 rfl (jh (λds=>ku hk) (λds=>ql hk) (λa b n h1 h2 h3=>wi C h1 h2 h3) ha has hb hbs)
theorem qJ {k:Nat} (hk:SPL<=k) {a b:Int} (ha:0<=a) (has:small a=true) (hb:0<b) (hbs:small b=true):FF G fns spn2 sp2 (k+3) "int_divmod" [.int a,.int b]=some (.tup [.int (a.fdiv b),.int (a.fmod b)]) :=
 be rfl C.f4 rfl (aH [iv a,iv b,none,none] rfl (az (a6 (aj rfl rfl (congrArg some (beq_eq_false_iff_ne.mpr (Int.ne_of_gt hb)))) rfl
  (az (a6 (aj (x:= .int b) (y:= .int 0) rfl rfl (congrArg some (decide_eq_false (Int.not_lt.mpr (Int.le_of_lt hb))))) rfl
  (az (a6 (aj (x:= .int a) (y:= .int 0) rfl rfl (congrArg some (decide_eq_false (Int.not_lt.mpr ha)))) rfl (aN (au (aC rfl rfl) (yL C hk ha has hb hbs))))))))))
theorem qH {k:Nat} (hk:SPL<=k) {a b:Int} (has:small a=true) (hb:0<b) (hbs:small b=true):FF G fns spn2 sp2 (k+4) "int_divmod" [.int a,.int b]=some (.tup [.int (a.fdiv b),.int (a.fmod b)]):=by
 by_cases ha:0<=a
 ·exact qJ C (Nat.le_succ_of_le hk) ha has hb hbs
 ·obtain ⟨n0,n1⟩:=wB ha
  have hs:small (Builtin.bitNot a)=true:=by
   rw [gx];exact decide_eq_true (Nat.lt_of_le_of_lt n1 (de has))
  rw [(qI hb).1,(qI hb).2]
  exact be rfl C.f4 rfl (aH [iv a,iv b,none,none] rfl (az (a6 (aj rfl rfl (congrArg some (beq_eq_false_iff_ne.mpr (Int.ne_of_gt hb)))) rfl
   (az (a6 (aj (x:= .int b) (y:= .int 0) rfl rfl (congrArg some (decide_eq_false (Int.not_lt.mpr (Int.le_of_lt hb))))) rfl
   (az (aJ (aj (x:= .int a) (y:= .int 0) rfl rfl (congrArg some (decide_eq_true (Int.not_le.mp ha)))) rfl (iO (au (aC rfl rfl) (qJ C hk (by rw [gx];exact n0) hs hb hbs)) (aN (a8 (aC rfl rfl)))))))))))
theorem ze {k:Nat} (hk:70<=k) {a b:Int} (has:small a=true) (hb:b≠0) (hbs:small b=true):FF G fns spn2 sp2 k "int_divmod" [.int a,.int b]=some (.tup [.int (a.fdiv b),.int (a.fmod b)]):=by
 obtain ⟨k,rfl⟩:∃ k',k=k'+5:=⟨k - 5,(Nat.sub_add_cancel (Nat.le_trans (by decide) hk)).symm⟩
 have hk:SPL<=k:=Nat.le_of_add_le_add_right (b:=5) (Nat.le_trans (by decide) hk)
 by_cases hp:0<b
 ·exact qH C (Nat.le_succ_of_le hk) has hp hbs
 ·have hb0:b<0:=Int.lt_iff_le_and_ne.mpr ⟨Int.not_lt.mp hp,hb⟩
  have s1:small (-a)=true:=by unfold small at has ⊢;rw [Int.natAbs_neg];exact has
  have s2:small (-b)=true:=by unfold small at hbs ⊢;rw [Int.natAbs_neg];exact hbs
  have key:a.fdiv b=(-a).fdiv (-b)/\a.fmod b = -((-a).fmod (-b)):=by
   rw [Int.neg_fdiv_neg,Int.neg_fmod_neg,Int.neg_neg]
   exact ⟨rfl,rfl⟩
  rw [key.1,key.2]
  exact be rfl C.f4 rfl (aH [iv a,iv b,none,none] rfl (az (a6 (aj rfl rfl (congrArg some (beq_eq_false_iff_ne.mpr hb))) rfl
   (az (aJ (aj (x:= .int b) (y:= .int 0) rfl rfl (congrArg some (decide_eq_true hb0))) rfl
   (iO (au (aC rfl rfl) (qH C hk s1 (Int.neg_pos_of_neg hb0) s2)) (aN (a8 (aC rfl rfl)))))))))
theorem AL {k:Nat} {p:Nat}:FF G fns spn2 sp2 (k+1) "in_table_b1" [.str ⟨#[p]⟩]=some (.bool (b1L.contains (p:Int))) :=
 be rfl C.f6 rfl (aH [some (.str ⟨#[p]⟩,false)] rfl (aN (yz (i:=(p:Int)) rfl C.b1)))
noncomputable def b3v (b3L:List (Int×Str)) (p:Nat):Str:=(b3L.lookup (p:Int)).elim (Txt.lower ⟨#[p]⟩) id
theorem yX {F:FEnv} {p:Nat}:∀ {o:Option Str},b3L.lookup (p:Int)=o->run G F 2 s_map_table_b3 [.str ⟨#[p]⟩]=some (.str (o.elim (Txt.lower ⟨#[p]⟩) id))
 |none,h=>aH [some (.str ⟨#[p]⟩,false),none] rfl (aE (d:= .none) ((mE (x:= .none) (i:=(p:Int)) rfl rfl C.b3 rfl).trans (by rw [h];rfl)) (bU (x:= .bool false) rfl rfl (bu (aN rfl))))
 |some v,h=>aH [some (.str ⟨#[p]⟩,false),none] rfl (aE (d:= .str v) ((mE (x:= .none) (i:=(p:Int)) rfl rfl C.b3 rfl).trans (by rw [h];rfl)) (az (aJ (x:= .bool true) rfl rfl (az (aQ (a:=(.str v,false)) rfl rfl)))))
theorem AM {k:Nat} {p:Nat}:FF G fns spn2 sp2 (k+1) "map_table_b3" [.str ⟨#[p]⟩]=some (.str (b3v b3L p)):=be rfl C.f7 rfl (yX C rfl)
noncomputable def unseen:List Int:=[173,847,6150,6155,6156,6157,8203,8204,8205,8288,65279,65024,65025,65026,65027,65028,65029,65030,65031,65032,65033,65034,65035,65036,65037,65038,65039]
theorem jt {k:Nat}:FF G fns spn2 sp2 (k+1) "_law_unseen" []=some (.list (unseen.map .int)):=be rfl C.f8 rfl rfl
end
noncomputable def pfName (i:Nat):Str:=(flagN.lookup ((2:Int) ^ i)).elim (hexS ((2:Int) ^ i)) id
noncomputable def pfl:Nat->Nat->Nat->List Str×Int×Bool
 |0,i,h=>([],(2:Int) ^ i * (h:Int),false)
 |n+1,i,h=>if h % 2=1 then (if h / 2=0 then ([pfName i],0,true) else (pfName i :: (pfl n (i+1) (h / 2)).1,(pfl n (i+1) (h / 2)).2)) else pfl n (i+1) (h / 2)
noncomputable def pf (h:Nat):List Str:=(pfl 32 0 h).1++cond (pfl 32 0 h).2.2 [] [hexS (pfl 32 0 h).2.1]
theorem oG (i k:Nat):(2:Int) ^ i * (k:Int)=((2 ^ i * k:Nat):Int):=by push_cast;rfl
theorem hV (a c:Nat):Builtin.bitAnd (a:Int) (c:Int)=((a &&& c:Nat):Int):=by
 unfold Builtin.bitAnd
 rw [decide_eq_true (Int.natCast_nonneg _),decide_eq_true (Int.natCast_nonneg _)];rfl
theorem iR (i h:Nat):Builtin.bitAnd ((2:Int) ^ i * (h:Int)) ((2:Int) ^ i)=(2:Int) ^ i * ((h % 2:Nat):Int):=by
 rw [oG,oG,show ((2:Int) ^ i)=((2 ^ i:Nat):Int) from (Int.natCast_pow 2 i).symm,hV]
 congr 1
 have h1:2 ^ i * h=h <<< i:=by rw [Nat.shiftLeft_eq,Nat.mul_comm]
 have h2:2 ^ i=1 <<< i:=by rw [Nat.shiftLeft_eq,Nat.one_mul]
 have h3:2 ^ i * (h % 2)=(h % 2) <<< i:=by rw [Nat.shiftLeft_eq,Nat.mul_comm]
 rw [h1,h3,h2,<- Nat.shiftLeft_and_distrib,Nat.and_one_is_mod]
theorem ud {h:Nat} (ho:h % 2=1):(h:Int)=2 * ((h / 2:Nat):Int)+1:=congrArg Int.ofNat ((Nat.div_add_mod h 2).symm.trans (congrArg (2 * (h / 2) + ·) ho))
theorem q9 {h:Nat} (ho:¬ h % 2=1):h % 2=0/\(2:Int) * ((h / 2:Nat):Int)=(h:Int) :=
 have e:=(Nat.mod_two_eq_zero_or_one h).resolve_right ho
 ⟨e,congrArg Int.ofNat ((congrArg (2 * (h / 2) + ·) e).symm.trans (Nat.div_add_mod h 2))⟩
theorem AJ (p a:Int):p * (2 * a+1)+p - 2 * p=p * 2 * a:=by
 rw [Int.mul_add,Int.mul_one,<- Int.mul_assoc,Int.add_assoc,<- Int.two_mul,Int.add_sub_cancel]
theorem yJ (i h:Nat) (ho:h % 2=1):Builtin.bitXor ((2:Int) ^ i * (h:Int)) ((2:Int) ^ i)=(2:Int) ^ (i+1) * ((h / 2:Nat):Int):=by
 rw [bitXor_and,iR,ho,Int.pow_succ,ud ho,show ((1:Nat):Int)=1 from rfl,Int.mul_one]
 exact AJ _ _
noncomputable def pfBody:S:=(.seq (.asg 3 false (.bin .LShift (.cst (.int 1)) (.var 2))) (.seq (.ifs (.bin .BitAnd (.var 0) (.var 3)) (.seq (.app 1 (.dget "COMPILER_FLAG_NAMES" (.var 3) (.blt .hex (.cons (.var 3) .nil)))) (.seq (.aug 0 .BitXor (.var 3)) (.seq (.ifs (.un .Not (.var 0)) (.seq .brk .skip) .skip) .skip))) .skip) .skip))
theorem sd {i:Nat} (h:i<=31):((2:Int) ^ i).natAbs<18446744073709551616:=by
 rw [Int.natAbs_pow]
 exact Nat.lt_of_le_of_lt (Nat.pow_le_pow_right (by decide) h) (by decide)
theorem tS (o:Option Str) (x:Str):o.elim (D.str x) .str = .str (o.elim x id):=by
 cases o with
 |none=>rfl
 |some _=>rfl
section
variable {G:ag} {F:FEnv} {X:Int} {i:Nat} {ns:List D} {x2 x3:Option (D×Bool)}
theorem rX (hi:i<=31) {O:MEnv} {b:Bool} (h:ev G F O true (.var 2)=some (.int (i:Int))):ev G F O b (.bin .LShift (.cst (.int 1)) (.var 2))=some (.int ((2:Int) ^ i)):=by
 have:=pk (a:=1) (n:=i) (g0 (by decide)) (Nat.le_trans hi (by decide))
 rw [Int.one_mul] at this
 exact af rfl h this
theorem Bj (hi:i<=31) (h:Builtin.bitAnd X ((2:Int) ^ i)=0):bodyT G F [2] true pfBody [iv X,some (.list ns,true),x2,x3] (.int (i:Int))=some ([iv X,some (.list ns,true),iv i,iv ((2:Int) ^ i)],.next) :=
 ad (a:=[iv X,some (.list ns,true),iv i,x3]) rfl (aE (rX hi rfl) (bU (x:= .int 0) (af (x:= .int X) (y:= .int ((2:Int) ^ i)) rfl rfl (congrArg (some ∘ D.int) h)) rfl (bu rfl)))
theorem zW (hG:G.idict "COMPILER_FLAG_NAMES"=some flagN) (hi:i<=31) (hn:ns.length<=31) {Z Y:Int} (h:Builtin.bitAnd X ((2:Int) ^ i)=Z) (hz:(Z==0)=false) (hx:Builtin.bitXor X ((2:Int) ^ i)=Y) {o:Out}
  (k:ex G F [iv Y,some (.list (ns++[.str (pfName i)]),true),iv i,iv ((2:Int) ^ i)] (.seq (.ifs (.un .Not (.var 0)) (.seq .brk .skip) .skip) .skip)=some ([iv Y,some (.list (ns++[.str (pfName i)]),true),iv i,iv ((2:Int) ^ i)],o)) :
  bodyT G F [2] true pfBody [iv X,some (.list ns,true),x2,x3] (.int (i:Int))=some ([iv Y,some (.list (ns++[.str (pfName i)]),true),iv i,iv ((2:Int) ^ i)],o):=by
 have e:ev G F [iv X,some (.list ns,true),iv i,iv ((2:Int) ^ i)] false (.dget "COMPILER_FLAG_NAMES" (.var 3) (.blt .hex (.cons (.var 3) .nil)))=some (.str (pfName i)) :=
  (mE (x:= .str (hexS ((2:Int) ^ i))) (i:=(2:Int) ^ i) rfl (aG (aB rfl) (vE (sd hi))) hG rfl).trans (congrArg some (tS _ _))
 refine ad (a:=[iv X,some (.list ns,true),iv i,x3]) rfl (aE (rX hi rfl) (ad (a:=([iv Y,some (.list (ns++[.str (pfName i)]),true),iv i,iv ((2:Int) ^ i)],o)) ?_ ?_))
 ·refine aJ (x:= .int Z) (af (x:= .int X) (y:= .int ((2:Int) ^ i)) rfl rfl (congrArg (some ∘ D.int) h)) (by show some (!(Z==0))=_;rw [hz];rfl) ?_
  exact gk rfl (ah (Nat.le_trans hn (by decide))) e (an (kV (m:=X) rfl rfl rfl (congrArg (some ∘ D.int) hx)) k)
 ·cases o with
  |next=>rfl
  |_=>rfl
end
theorem xZ {G:ag} {F:FEnv} {Y:Int} {x1 x2 x3:Option (D×Bool)} {o:Out} (h:cond (Y==0) .brk .next=o):ex G F [iv Y,x1,x2,x3] (.seq (.ifs (.un .Not (.var 0)) (.seq .brk .skip) .skip) .skip)=some ([iv Y,x1,x2,x3],o):=by
 subst h
 cases e:Y==0 with
 |true=>exact xa (aJ (x:= .bool true) (mF (x:= .int Y) rfl (aQ rfl (by rw [e];rfl))) rfl rfl)
 |false=>exact an (a6 (x:= .bool false) (mF (x:= .int Y) rfl (aQ rfl (by rw [e];rfl))) rfl rfl) rfl
theorem zv {h i:Nat}:((2:Int) ^ (i+1) * ((h / 2:Nat):Int)==0)=decide (h / 2=0):=by
 by_cases q:h / 2=0
 ·rw [decide_eq_true q,q,show ((0:Nat):Int)=0 from rfl,Int.mul_zero];rfl
 ·rw [decide_eq_false q,beq_eq_false_iff_ne]
  exact Int.ne_of_gt (Int.mul_pos (ba _) (Int.natCast_pos.mpr (Nat.pos_of_ne_zero q)))
theorem jb {G:ag} {F:FEnv} (hG:G.idict "COMPILER_FLAG_NAMES"=some flagN):∀ (n i h:Nat) (ns:List Str) (x2 x3:Option (D×Bool)),i+n<=32->ns.length<=i ->
  ∃ x2' x3',loopL (bodyT G F [2] true pfBody) [iv ((2:Int) ^ i * (h:Int)),some (.list (ns.map .str),true),x2,x3] (rangeD (i:Int) n) =
   some ([iv (pfl n i h).2.1,some (.list ((ns++(pfl n i h).1).map .str),true),x2',x3'],cond (pfl n i h).2.2 .brk .next)
 |0,i,h,ns,x2,x3,hi,hn=>⟨x2,x3,by rw [show (pfl 0 i h).1=[] from rfl,List.append_nil];rfl⟩
 |n+1,i,h,ns,x2,x3,hi,hn=>by
  have hi1:i+1+n<=32:=Nat.le_trans (Nat.le_of_eq (Nat.succ_add_eq_add_succ i n)) hi
  have hi31:i<=31:=Nat.le_of_succ_le_succ (Nat.le_trans (Nat.le_add_right _ _) hi1)
  have hn1:(ns++[pfName i]).length<=i+1:=by rw [List.length_append];exact Nat.succ_le_succ hn
  show ∃ x2' x3',loopL _ _ (D.int (i:Int) :: rangeD ((i+1:Nat):Int) n)=_
  by_cases ho:h % 2=1
  ·have hz:((2:Int) ^ i * ((h % 2:Nat):Int)==0)=false:=by rw [ho];exact beq_eq_false_iff_ne.mpr (Int.ne_of_gt (Int.mul_pos (ba i) (by decide)))
   have ht:=λ{o:Out} (k:cond (decide (h / 2=0)) .brk .next=o)=>zW (F:=F) (x2:=x2) (x3:=x3) (ns:=ns.map .str) hG hi31 (by rw [List.length_map];exact Nat.le_trans hn hi31) (iR i h) hz (yJ i h ho) (xZ ((congrArg (λc=>cond c Out.brk Out.next) zv).trans k))
   rw [show ns.map D.str++[.str (pfName i)]=(ns++[pfName i]).map .str by rw [List.map_append];rfl] at ht
   by_cases hz:h / 2=0
   ·refine ⟨iv i,iv ((2:Int) ^ i),(rE (ht (by rw [decide_eq_true hz];rfl))).trans ?_⟩
    rw [pfl,if_pos ho,if_pos hz,hz,show ((0:Nat):Int)=0 from rfl,Int.mul_zero];rfl
   ·obtain ⟨y2,y3,ih⟩:=jb hG n (i+1) (h / 2) (ns++[pfName i]) (iv i) (iv ((2:Int) ^ i)) hi1 hn1
    refine ⟨y2,y3,aw (ht (by rw [decide_eq_false hz];rfl)) (ih.trans ?_)⟩
    rw [pfl,if_pos ho,if_neg hz,List.append_assoc];rfl
  ·obtain ⟨h0,h2⟩:=q9 ho
   have hh:(2:Int) ^ (i+1) * ((h / 2:Nat):Int)=(2:Int) ^ i * (h:Int):=by rw [Int.pow_succ,Int.mul_assoc,h2]
   obtain ⟨y2,y3,ih⟩:=jb hG n (i+1) (h / 2) ns (iv i) (iv ((2:Int) ^ i)) hi1 (Nat.le_succ_of_le hn)
   rw [hh] at ih
   refine ⟨y2,y3,aw (Bj hi31 (by rw [iR,h0];exact Int.mul_zero _)) (ih.trans ?_)⟩
   rw [pfl,if_neg ho]
theorem oE:∀ (n i h:Nat),(pfl n i h).1.length<=n
 |0,i,h=>Nat.le_refl 0
 |n+1,i,h=>by
  have:=oE n (i+1) (h / 2)
  rw [pfl]
  by_cases h1:h % 2=1
  ·rw [if_pos h1]
   by_cases h2:h / 2=0
   ·rw [if_pos h2];exact Nat.succ_le_succ (Nat.zero_le n)
   ·rw [if_neg h2];exact Nat.succ_le_succ this
  ·rw [if_neg h1];exact Nat.le_succ_of_le this
theorem Ab {G:ag} {F:FEnv} (hG:G.idict "COMPILER_FLAG_NAMES"=some flagN) {h:Nat} (hrem:(pfl 32 0 h).2.1.natAbs<18446744073709551616) (hsz:sizeOk (2 * (pf h).length+((pf h).map (·.length)).sum)=true) :
  run G F 4 s_pretty_flags [.int (h:Int)]=some (.str (Txt.join ", " (pf h))):=by
 obtain ⟨x2,x3,hl⟩:=jb (F:=F) hG 32 0 h [] none none (by decide) (by decide)
 rw [show (2:Int) ^ 0 * (h:Int)=(h:Int) from Int.one_mul _,List.nil_append] at hl
 have hlen:=oE 32 0 h
 have hfin:∀ fl,ex G F [iv fl,some (.list ((pf h).map .str),true),x2,x3] (.seq (.ret (.meth .join (.cst (.str ", ")) (.cons (.var 1) .nil))) .skip)=some ([iv fl,some (.list ((pf h).map .str),true),x2,x3],.ret (.str (Txt.join ", " (pf h)))):=λfl =>
  aN (bd (x:= .str ", ") (ds:=[.list ((pf h).map .str)]) rfl rfl (iy hsz))
 have hI:evI G F [iv h,some (.list [],true),none,none] false .range1 (.cst (.int 32)) .nil=some (rangeD 0 32):=rfl
 unfold pf at hfin ⊢
 generalize pfl 32 0 h=P at *
 obtain ⟨ns,fl,bk⟩:=P
 cases bk with
 |true =>
  rw [show ns++cond true [] [hexS fl]=ns from List.append_nil _] at hfin ⊢
  exact aH [iv h,none,none,none] rfl (cH (d:= .list []) rfl rfl (AE rfl hI hl (hfin fl)))
 |false =>
  have he:ex G F [iv fl,some (.list (ns.map .str),true),x2,x3] (.seq (.app 1 (.blt .hex (.cons (.var 0) .nil))) .skip)=some ([iv fl,some (.list ((ns++cond false [] [hexS fl]).map .str),true),x2,x3],.next) :=
   gk (xs:=ns.map D.str) rfl (ah (by rw [List.length_map];exact Nat.le_trans hlen (by decide))) (aG (aB rfl) (vE hrem)) (by rw [List.map_append];rfl)
  exact aH [iv h,none,none,none] rfl (cH (d:= .list []) rfl rfl (AF rfl hI hl he (hfin fl)))
end Mine
namespace Mine
open PySem.StrLaws PySem.Builtin PySem.Builtin.Str
noncomputable def mk (l:List Nat):PySem.Str:=⟨l.toArray⟩
theorem ax (l:List Nat):(mk l).length=l.length:=List.size_toArray
theorem ca (l:List Nat):(mk l).cps.toList=l:=rfl
theorem zR (x:PySem.Str):mk x.cps.toList=x:=congrArg PySem.Str.mk (Array.toArray_toList)
theorem ux (x:PySem.Str):x.cps.toList.length=x.length:=Array.length_toList
theorem rK {a b:List Nat} (h:mk a=mk b):a=b:=congrArg (λx:PySem.Str=>x.cps.toList) h
theorem lH (a b:List Nat):(mk a==mk b)=(a==b):=by
 by_cases h:a=b
 ·rw [h,beq_self_eq_true,beq_self_eq_true]
 ·rw [beq_eq_false_iff_ne.mpr h,beq_eq_false_iff_ne.mpr λq=>h (rK q)]
noncomputable def dots:List Nat:=[46,46,46]
theorem eH:("...":PySem.Str)=mk dots:=by decide
noncomputable def joinL:List (List Nat)->List Nat
 | []=>[]
 | [p]=>p
 |p :: q :: r=>p++dots++joinL (q :: r)
theorem fb (x:PySem.Str) (l:List Nat) (hi i:Nat):StrLaws.At x (mk l) hi i↔i+l.length<=hi/\(x.cps.toList.drop i).take l.length=l:=by
 unfold StrLaws.At
 rw [ax,subAt_eq,ax,ca,beq_iff_eq]
theorem qp {x:PySem.Str} {i:Nat} (h:StrLaws.At x (mk dots) x.length i):x.cps.toList[i]? = some 46:=by
 have h2:=((fb x dots x.length i).mp h).2
 have h3:((x.cps.toList.drop i).take 3)[0]? = some 46:=congrArg (λl:List Nat=>l[0]?) h2
 rw [List.getElem?_take,if_pos (by decide),List.getElem?_drop] at h3
 exact h3
theorem rS {x:PySem.Str} {a k:Nat} {p r:List Nat} (hd:46∉p) (hx:x.cps.toList.drop a=p++r) (h1:a<=k) (h2:k<a+p.length):¬ StrLaws.At x (mk dots) x.length k:=λhk=>by
 have h3:=qp hk
 have e:(x.cps.toList.drop a)[k - a]? = some 46:=by rw [List.getElem?_drop,Nat.add_sub_cancel' h1];exact h3
 rw [hx,List.getElem?_append_left (Nat.sub_lt_left_of_lt_add h1 h2)] at e
 exact hd (List.mem_of_getElem? e)
theorem mm {x:PySem.Str} {a:Nat} {p r:List Nat} (hx:x.cps.toList.drop a=p++r):strSub x a (a+p.length)=mk p:=by
 rw [<- zR (strSub x a (a+p.length)),strSub_toList,hx,Nat.add_sub_cancel_left,List.take_left]
theorem kP {x:PySem.Str} {a:Nat} {p:List Nat} (hx:x.cps.toList.drop a=p) (ha:a<=x.length):x.length=a+p.length:=by
 rw [<- hx,List.length_drop,ux,Nat.add_sub_cancel' ha]
theorem iD (x:PySem.Str):∀ (ps:List (List Nat)) (a:Nat) (cuts:List Nat) (f:Nat),ps≠[]->(∀ p∈ps,46∉p)->x.cps.toList.drop a=joinL ps->a<=x.length->ChainG x (mk dots) x.length a cuts f->(∀ k,f<=k->¬ StrLaws.At x (mk dots) x.length k)->partsFrom x 3 a cuts=ps.map mk
 | [],_,_,_,h,_,_,_,_,_=>absurd rfl h
 | [p],a,cuts,f,_,hd,hx,ha,hc,hn=>by
  have hx':x.cps.toList.drop a=p++[]:=hx.trans (List.append_nil p).symm
  have hl:=kP (p:=p) hx ha
  cases cuts with
  |nil=>exact congrArg (· :: []) ((congrArg (strSub x a) hl).trans (mm hx'))
  |cons c r =>
   have lt:c<a+p.length:=Nat.lt_of_lt_of_le (Nat.lt_add_of_pos_right (by decide)) (hl▸((fb x dots x.length c).mp hc.2.1).1)
   exact absurd hc.2.1 (rS (hd p List.mem_cons_self) hx' hc.1 lt)
 |p :: q :: r,a,cuts,f,_,hd,hx,ha,hc,hn=>by
  have hx':x.cps.toList.drop a=p++(dots++joinL (q :: r)):=hx.trans (List.append_assoc p dots _)
  have hlen:x.length=a+p.length+(3+(joinL (q :: r)).length):=by
   rw [kP hx' ha,List.length_append,List.length_append,Nat.add_assoc];rfl
  have hdrop:x.cps.toList.drop (a+p.length)=dots++joinL (q :: r):=by rw [<- List.drop_drop,hx',List.drop_left]
  have hA:StrLaws.At x (mk dots) x.length (a+p.length):=by
   rw [fb,hdrop,hlen]
   exact ⟨Nat.add_le_add_left (Nat.le_add_right 3 _) _,List.take_left⟩
  have hno:=λk h1 h2=>rS (k:=k) (hd p List.mem_cons_self) hx' h1 h2
  cases cuts with
  |nil =>
   obtain rfl:f=a:=hc
   exact absurd hA (hn _ (Nat.le_add_right _ _))
  |cons c rest =>
   obtain ⟨c1,c2,c3,c4⟩:=hc
   obtain rfl:c=a+p.length:=Nat.le_antisymm (Nat.not_lt.mp λh=>c3 _ (Nat.le_add_right _ _) h hA) (Nat.not_lt.mp λh=>hno c c1 h c2)
   have hnext:x.cps.toList.drop (a+p.length+3)=joinL (q :: r):=by
    rw [<- List.drop_drop,hdrop];exact List.drop_left (l₁:=dots)
   have ih:=iD x (q :: r) (a+p.length+3) rest f (List.cons_ne_nil _ _) (λp' hp'=>hd p' (List.mem_cons_of_mem _ hp')) hnext (by rw [hlen];exact Nat.add_le_add_left (Nat.le_add_right 3 _) _) (by rw [ax] at c4;exact c4) hn
   show strSub x a (a+p.length) :: partsFrom x 3 (a+p.length+3) rest=_
   rw [ih,mm hx'];rfl
theorem ul (x:PySem.Str):1<=PySem.Builtin.Str.strKind x:=by
 unfold PySem.Builtin.Str.strKind
 split
 ·exact Nat.le_refl 1
 ·split
  ·decide
  ·decide
theorem Be (x:PySem.Str):decide (PySem.Builtin.Str.strKind x<PySem.Builtin.Str.strKind (mk dots))=false:=by
 rw [show PySem.Builtin.Str.strKind (mk dots)=1 from by decide +kernel]
 exact decide_eq_false (Nat.not_lt.mpr (ul x))
theorem jK (p q:List Nat) (r:List (List Nat)):3+p.length<=(joinL (p :: q :: r)).length:=by
 show _<=(p++dots++joinL (q :: r)).length
 rw [List.length_append,List.length_append,Nat.add_comm 3]
 exact Nat.le_add_right _ _
theorem qf {ps:List (List Nat)} (h:ps≠[]) (hd:∀ p∈ps,46∉p):Txt.split (mk (joinL ps)) (mk dots)=ps.map mk:=by
 obtain ⟨f,hc,hn⟩:=occ_tight (mk (joinL ps)) (mk dots) (by rw [ax];decide)
 have hp:=iD (mk (joinL ps)) ps 0 _ f h hd rfl (Nat.zero_le _) hc hn
 unfold Txt.split
 rw [Be,Bool.or_false,partsBetween_eq,ax dots,show dots.length=3 from rfl]
 by_cases hs:decide ((mk (joinL ps)).length<3)=true
 ·rw [if_pos hs]
  have hs:=of_decide_eq_true hs
  cases ps with
  |nil=>exact absurd rfl h
  |cons p r =>
   cases r with
   |nil=>rfl
   |cons q r=>exact absurd (Nat.le_trans (Nat.le_add_right _ _) (jK p q r)) (Nat.not_le.mpr (ax _▸hs))
 ·rw [if_neg hs]
  by_cases he:(occurrences (mk (joinL ps)) (mk dots) 0 (mk (joinL ps)).length ((mk (joinL ps)).length+1)).isEmpty=true
  ·rw [if_pos he]
   rw [List.isEmpty_iff.mp he] at hp
   rw [<- hp]
   exact congrArg (· :: []) (mm (x:=mk (joinL ps)) (a:=0) (p:=joinL ps) (r:=[]) (List.append_nil _).symm |>.symm.trans (by rw [Nat.zero_add,ax]))
  ·rw [if_neg he];exact hp
theorem xu {ps:List (List Nat)} (h:ps≠[]) (hd:∀ p∈ps,46∉p):strIn (mk dots) (mk (joinL ps))=decide (2<=ps.length):=by
 unfold strIn
 rcases occ_head (mk (joinL ps)) (mk dots) 1 (Nat.le_refl _) with ⟨h0,hn⟩ |⟨i,r,h0,ha,_⟩
 ·rw [h0]
  cases ps with
  |nil=>exact absurd rfl h
  |cons p r =>
   cases r with
   |nil=>rfl
   |cons q r =>
    refine absurd ?_ (hn p.length)
    rw [fb,ax]
    refine ⟨by rw [Nat.add_comm];exact jK p q r,?_⟩
    show ((p++dots++joinL (q :: r)).drop p.length).take 3=dots
    rw [List.append_assoc,List.drop_left];exact List.take_left (l₁:=dots)
 ·rw [h0]
  cases ps with
  |nil=>exact absurd rfl h
  |cons p q =>
   cases q with
   |nil=>exact absurd (List.mem_of_getElem? (qp ha)) (hd p List.mem_cons_self)
   |cons q r=>exact (decide_eq_true (Nat.le_add_left 2 _)).symm
noncomputable def isAt (t w:List Nat) (i:Nat):Bool:=decide (i+w.length<=t.length)&&(t.drop i).take w.length==w
theorem sO (t w:List Nat):Txt.startswith (mk t) (mk w)=isAt t w 0:=by
 unfold Txt.startswith isAt
 rw [subAt_eq,ax,ax,ca,ca]
theorem wZ (t w:List Nat):Txt.endswith (mk t) (mk w)=(decide (w.length<=t.length)&&isAt t w (t.length - w.length)):=by
 unfold Txt.endswith isAt
 rw [subAt_eq,ax,ax,ca,ca,Nat.zero_add]
 by_cases h:w.length<=t.length
 ·rw [decide_eq_true h,Nat.sub_add_cancel h,decide_eq_true (Nat.le_refl _)];rfl
 ·rw [decide_eq_false h];rfl
noncomputable def fitP (t w:List Nat) (hi i:Nat):Bool:=decide (i+w.length<=hi)&&((t.drop i).take w.length==w)
noncomputable def findL (t w:List Nat) (lo hi:Nat):Option Nat:=(List.range' lo (hi+1 - lo)).find? (fitP t w hi)
theorem kY (t w:List Nat) (hi i:Nat):StrLaws.At (mk t) (mk w) hi i↔fitP t w hi i=true:=by
 unfold fitP
 rw [fb,ca,Bool.and_eq_true,decide_eq_true_eq,beq_iff_eq]
noncomputable def fndI (o:Option Nat):Int:=match o with |some i=>(i:Int) |none=> -1
theorem tA {arr:Array Nat} {a:Nat} (h:arr[0]? = some a):∃ r,arr.toList=a :: r:=by
 rw [<- Array.getElem?_toList] at h
 cases e:arr.toList with
 |nil=>rw [e] at h;exact nomatch h
 |cons b r=>rw [e] at h;exact ⟨r,by rw [sm h]⟩
theorem xf (t w:List Nat) (lo hi:Nat) (h:hi<=t.length) (hs:hi<4611686018427387904) (hl:lo<4611686018427387904):findIn (mk t) (mk w) (lo:Int) (hi:Int)=some (fndI (findL t w lo hi)):=by
 refine aq (c:=(idxOk (lo:Int)&&idxOk (hi:Int)&&decide (0<=(lo:Int))&&decide (0<=(hi:Int)))=true) ?_ (congrArg some ?_)
 ·rw [show idxOk (lo:Int)=true from decide_eq_true hl,show idxOk (hi:Int)=true from decide_eq_true hs,decide_eq_true (Int.natCast_nonneg lo),decide_eq_true (Int.natCast_nonneg hi)];rfl
 rw [ax,Int.toNat_natCast,Int.toNat_natCast,Nat.min_eq_left h,occ_eq]
 rcases occ_first (mk t) (mk w) hi 1 (Nat.le_refl _) (List.range' lo (hi+1 - lo)) lo (λi hi=>(List.mem_range'_1.mp hi).1) with ⟨h0,hn⟩ |⟨pre,a,post,e,h0,ha,hn⟩
 ·rw [h0,show findL t w lo hi=none from List.find?_eq_none.mpr λi hi' hq=>hn i hi' ((kY t w hi i).mpr hq)];rfl
 ·have:findL t w lo hi=some a:=by
   unfold findL
   rw [e,List.find?_append,List.find?_eq_none.mpr λi hi' hq=>hn i hi' ((kY t w hi i).mpr hq),List.find?_cons,(kY t w hi a).mp ha];rfl
  obtain ⟨r,er⟩:=tA h0
  rw [this,er];rfl
noncomputable def midL (t:List Nat):List (List Nat)->Nat->Nat->Bool
 | [],_,_=>true
 |w :: ws,lo,hi=>match findL t w lo hi with
  |some i=>midL t ws (i+w.length) hi
  |none=>false
noncomputable def tailL (t:List Nat) (ws:List (List Nat)) (lo:Nat):Bool :=
 if (ws.getLastD []).isEmpty then (if t.length<lo then false else midL t ws lo t.length)
 else if decide ((ws.getLastD []).length<=t.length)&&isAt t (ws.getLastD []) (t.length - (ws.getLastD []).length) then
  (if t.length - (ws.getLastD []).length<lo then false else midL t ws.dropLast lo (t.length - (ws.getLastD []).length))
 else false
noncomputable def emL:List (List Nat)->List Nat->Bool
 | [],_=>false
 | [w],t=>w==t
 |p :: q :: r,t=>if p.isEmpty then tailL t (p :: q :: r) 0 else if isAt t p 0 then tailL t (q :: r) p.length else false
end Mine
namespace Mine
noncomputable def emBody:S:=(.seq (.asg 3 false (.meth .find3 (.var 1) (.cons (.var 5) (.cons (.var 3) (.cons (.var 4) .nil))))) <|
  (.seq (.ifs (.cmp .Lt (.var 3) (.cst (.int 0))) (.seq (.ret (.cst (.bool false))) <|
   .skip) .skip) <|
  (.seq (.aug 3 .Add (.blt .len (.cons (.var 5) .nil))) <|
  .skip)))
noncomputable def emTail:S:=(.seq (.fors [5] true .plain (.var 2) .nil emBody .skip)<|(.seq (.ret (.cst (.bool true))) <| .skip))
noncomputable def emMid:S:=(.seq (.asg 5 false (.idx (.var 2) (.un .USub (.cst (.int 1))))) <|
 (.seq (.ifs (.var 5) (.seq (.ifs (.meth .endswith (.var 1) (.cons (.var 5) .nil)) (.seq (.aug 4 .Sub (.blt .len (.cons (.var 5) .nil))) <|
   (.seq (.del 2 (.un .USub (.cst (.int 1)))) <|
   .skip)) (.seq (.ret (.cst (.bool false))) <|
   .skip)) <|
  .skip) .skip) <|
 (.seq (.ifs (.cmp .Gt (.var 3) (.var 4)) (.seq (.ret (.cst (.bool false))) <|
  .skip) .skip)<|emTail)))
noncomputable abbrev sv (x:Str):Option (D×Bool):=some (.str x,false)
noncomputable def wsD (ws:List (List Nat)):List D:=ws.map λw=> .str (mk w)
theorem cn {w:List Nat} (h:w.length<=1000):sizeOk (mk w).length=true:=by
 rw [ax];exact ah (Nat.le_trans h (by decide))
theorem gj {ws:List (List Nat)} (h:ws.length<=100):sizeOk (wsD ws).length=true:=ah (by unfold wsD;rw [List.length_map];exact Nat.le_trans h (by decide))
section
variable {G:ag} {F:FEnv} {x0 x2 x5:Option (D×Bool)} {t:List Nat}
noncomputable def fndZ (o:Option Nat):Int:=o.elim (-1) λi=>(i:Int)
theorem zp {t w:List Nat} {lo hi:Nat} (h:hi<=t.length) (ht:t.length<=1000) (hl:lo<=1000000):methD .find3 (.str (mk t)) [.str (mk w),.int (lo:Int),.int (hi:Int)]=some (.int (fndZ (findL t w lo hi))):=by
 show (findIn (mk t) (mk w) (lo:Int) (hi:Int)).map D.int=_
 rw [xf t w lo hi h (Nat.lt_of_le_of_lt (Nat.le_trans h ht) (by decide)) (Nat.lt_of_le_of_lt hl (by decide))]
 cases findL t w lo hi with
 |none=>rfl
 |some _=>rfl
theorem A9 {T W:Str} {lo hi:Int} (hf:methD .find3 (.str T) [.str W,.int lo,.int hi]=some (.int (-1))) :
  bodyT G F [5] true emBody [x0,sv T,x2,iv lo,iv hi,x5] (.str W)=some ([x0,sv T,x2,iv (-1),iv hi,sv W],.ret (.bool false)) :=
 ad (a:=[x0,sv T,x2,iv lo,iv hi,sv W]) rfl (aE (bd (ab rfl) (fP rfl rfl rfl) hf) (az (aJ (x:= .bool true) rfl rfl (aN rfl))))
theorem zh {T W:Str} {lo hi:Int} {i n:Nat} (hf:methD .find3 (.str T) [.str W,.int lo,.int hi]=some (.int (i:Int))) (hs:sizeOk W.length=true) (hn:W.length=n) :
  bodyT G F [5] true emBody [x0,sv T,x2,iv lo,iv hi,x5] (.str W)=some ([x0,sv T,x2,iv ((i+n:Nat):Int),iv hi,sv W],.next):=by
 subst hn
 exact ad (a:=[x0,sv T,x2,iv lo,iv hi,sv W]) rfl (aE (bd (ab rfl) (fP rfl rfl rfl) hf) (bU (x:= .bool false) (aj (x:= .int (i:Int)) (y:= .int 0) rfl rfl (congrArg some (decide_eq_false (Int.not_lt.mpr (Int.natCast_nonneg i))))) rfl (bu
  (an (kV (m:=(i:Int)) (n:=(W.length:Int)) rfl (aG (aB rfl) (aq hs rfl)) rfl rfl) rfl))))
theorem xe {w:List Nat} {lo hi i:Nat} (h:findL t w lo hi=some i):i+w.length<=hi:=aa (List.find?_some h :) λh1 Zz=>de h1
theorem nF:∀ (ws:List (List Nat)) (lo hi:Nat) (x5:Option (D×Bool)),(∀ w∈ws,w.length<=1000)->hi<=t.length->t.length<=1000->lo<=1000 ->
  ∃ y3 y5,loopL (bodyT G F [5] true emBody) [x0,sv (mk t),x2,iv lo,iv hi,x5] (wsD ws)=some ([x0,sv (mk t),x2,y3,iv hi,y5],cond (midL t ws lo hi) .next (.ret (.bool false)))
 | [],lo,hi,x5,_,_,_,_=>⟨_,_,rfl⟩
 |w :: ws,lo,hi,x5,hw,hh,ht,hl=>by
  have hf:=zp (w:=w) hh ht (Nat.le_trans hl (by decide))
  cases hc:findL t w lo hi with
  |none =>
   rw [hc] at hf
   refine ⟨iv (-1),sv (mk w),(rF (A9 hf)).trans ?_⟩
   rw [midL,hc];rfl
  |some i =>
   rw [hc] at hf
   obtain ⟨y3,y5,ih⟩:=nF ws (i+w.length) hi (sv (mk w)) (λw' h'=>hw w' (List.mem_cons_of_mem _ h')) hh ht (Nat.le_trans (xe hc) (Nat.le_trans hh ht))
   refine ⟨y3,y5,aw (zh hf (cn (hw w List.mem_cons_self)) (ax w)) (ih.trans ?_)⟩
   rw [midL,hc]
theorem wY {ws:List (List Nat)} {lo hi:Nat} {b2:Bool} (hw:∀ w∈ws,w.length<=1000) (hn:ws.length<=100) (hh:hi<=t.length) (ht:t.length<=1000) (hl:lo<=1000) :
  ∃ O,ex G F [x0,sv (mk t),some (.list (wsD ws),b2),iv lo,iv hi,x5] emTail=some (O,.ret (.bool (midL t ws lo hi))):=by
 obtain ⟨y3,y5,h⟩:=nF (G:=G) (F:=F) (x0:=x0) (x2:=some (.list (wsD ws),false)) ws lo hi x5 hw hh ht hl
 have hi':evI G F (freeze [x0,sv (mk t),some (.list (wsD ws),b2),iv lo,iv hi,x5] (.var 2)) false .plain (.var 2) .nil=some (wsD ws):=c9 (ab rfl) (aq (gj hn) rfl)
 cases hm:midL t ws lo hi with
 |true =>
  rw [hm] at h
  exact ⟨_,cB rfl hi' h (aN rfl)⟩
 |false =>
  rw [hm] at h
  exact ⟨_,AG rfl hi' h⟩
theorem q7 {ws:List (List Nat)} (h:ws≠[]):idxL (wsD ws) (-1)=some (.str (mk (ws.getLastD []))):=by
 obtain ⟨h1,h2⟩:=jc (List.length_pos_iff.mpr h)
 have hl:(wsD ws).length=ws.length:=List.length_map _
 refine aq (show idxOk (-1)=true from rfl) ((if_neg (by decide)).trans ?_)
 rw [hl,if_pos h1,h2]
 unfold wsD
 rw [List.getElem?_map,<- List.getLast?_eq_getElem?,List.getLast?_eq_some_getLast h,List.getLastD_eq_getLast?,List.getLast?_eq_some_getLast h]
 rfl
theorem yI (ws:List (List Nat)):(wsD ws).eraseIdx ((wsD ws).length - 1)=wsD ws.dropLast:=by
 rw [List.eraseIdx_eq_take_drop_succ,List.drop_eq_nil_of_le (Nat.sub_le_iff_le_add.mp (Nat.le_refl _)),List.append_nil,<- List.dropLast_eq_take]
 exact List.map_dropLast.symm
theorem vK {ws:List (List Nat)} {lo hi:Nat} {b2:Bool} (hw:∀ w∈ws,w.length<=1000) (hn:ws.length<=100) (hh:hi<=t.length) (ht:t.length<=1000) (hl:lo<=1000) :
  ∃ O,ex G F [x0,sv (mk t),some (.list (wsD ws),b2),iv lo,iv hi,x5] (.seq (.ifs (.cmp .Gt (.var 3) (.var 4)) (.seq (.ret (.cst (.bool false))) .skip) .skip) emTail)=some (O,.ret (.bool (if hi<lo then false else midL t ws lo hi))):=by
 by_cases h:hi<lo
 ·rw [if_pos h]
  exact ⟨_,az (aJ (aj (x:= .int (lo:Int)) (y:= .int (hi:Int)) rfl rfl (congrArg some (decide_eq_true (Int.ofNat_lt.mpr h)))) rfl (aN rfl))⟩
 ·rw [if_neg h]
  obtain ⟨O,e⟩:=wY (G:=G) (F:=F) (x0:=x0) (x5:=x5) (b2:=b2) hw hn hh ht hl
  exact ⟨O,bU (aj (x:= .int (lo:Int)) (y:= .int (hi:Int)) rfl rfl (congrArg some (decide_eq_false λq=>h (Int.ofNat_lt.mp q)))) rfl (bu e)⟩
theorem eP {w:List Nat} (h:w.length<=1000):truthy (.str (mk w))=some (!w.isEmpty):=aq (cn h) (by
 rw [ax]
 cases w with
 |nil=>rfl
 |cons _ _=>rfl)
theorem sR {t w:Nat} (h:w<=t):(t:Int) - (w:Int)=((t - w:Nat):Int):=(Int.ofNat_sub h).symm
theorem qL {ws:List (List Nat)} {lo:Nat} (hne:ws≠[]) (hw:∀ w∈ws,w.length<=1000) (hn:ws.length<=100) (ht:t.length<=1000) (hl:lo<=1000) :
  ∃ O,ex G F [x0,sv (mk t),some (.list (wsD ws),true),iv lo,iv t.length,x5] emMid=some (O,.ret (.bool (tailL t ws lo))):=by
 have hlast:=q7 hne
 have hm:ws.getLastD []∈ws:=by rw [List.getLastD_eq_getLast?,List.getLast?_eq_some_getLast hne];exact List.getLast_mem hne
 have hwl:=hw _ hm
 unfold tailL
 generalize ws.getLastD []=w at *
 have hidx:ev G F [x0,sv (mk t),some (.list (wsD ws),true),iv lo,iv t.length,x5] false (.idx (.var 2) (.un .USub (.cst (.int 1))))=some (.str (mk w)):=aD (x:= .list (wsD ws)) (y:= .int (-1)) rfl rfl hlast
 cases hz:w.isEmpty with
 |true =>
  rw [if_pos rfl]
  obtain ⟨O,e⟩:=vK (G:=G) (F:=F) (x0:=x0) (x5:=sv (mk w)) (b2:=true) hw hn (Nat.le_refl _) ht hl
  exact ⟨O,aE hidx (bU (ab rfl) ((eP hwl).trans (by rw [hz];rfl)) (bu e))⟩
 |false =>
  rw [if_neg (by decide)]
  have htr:truthy (.str (mk w))=some true:=(eP hwl).trans (by rw [hz];rfl)
  have hends:=wZ t w
  have hend:ev G F [x0,sv (mk t),some (.list (wsD ws),true),iv lo,iv t.length,sv (mk w)] true (.meth .endswith (.var 1) (.cons (.var 5) .nil))=some (.bool (decide (w.length<=t.length)&&isAt t w (t.length - w.length))):=bd (ab rfl) (aB (ab rfl)) (congrArg (some ∘ D.bool) hends)
  cases he:(decide (w.length<=t.length)&&isAt t w (t.length - w.length)) with
  |false =>
   rw [he] at hend
   rw [if_neg (by decide)]
   exact ⟨_,aE hidx (az (aJ (ab rfl) htr (az (a6 hend rfl (aN rfl)))))⟩
  |true =>
   rw [he] at hend
   rw [if_pos rfl]
   have hle:w.length<=t.length:=aa he λh Zz=>de h
   obtain ⟨O,e⟩:=vK (G:=G) (F:=F) (x0:=x0) (x5:=sv (mk w)) (b2:=true) (hi:=t.length - w.length) (λw' h'=>hw w' ((List.dropLast_sublist ws).mem h')) (Nat.le_trans (by rw [List.length_dropLast];exact Nat.sub_le _ _) hn) (Nat.sub_le _ _) ht hl
   refine ⟨O,aE hidx (an (aJ (ab rfl) htr (an (aJ hend rfl (an (kV (m:=(t.length:Int)) (n:=(w.length:Int)) rfl (aG (aB (ab rfl)) (aq (cn hwl) (by rw [ax]))) rfl (congrArg (some ∘ D.int) (sR hle))) (an ?_ rfl))) rfl)) e)⟩
   refine ad (en rfl (gj hn)) (ad (a:= .int (-1)) rfl (ad (a:= -1) rfl ((if_neg (show ¬ (decide (0<=(-1:Int))&&decide ((-1:Int)<(wsD ws).length))=true from Bool.false_ne_true)).trans (aq (c:=(decide ((-1:Int) = -1)&&decide (0<(wsD ws).length))=true) ?_ (by rw [yI];rfl)))))
   rw [show (wsD ws).length=ws.length from List.length_map _,decide_eq_true (List.length_pos_iff.mpr hne)];rfl
end
section
variable {G:ag} {F:FEnv}
theorem rh {ps:List (List Nat)} (h:ps≠[]) (hd:∀ p∈ps,46∉p):strIn ("...":Str) (mk (joinL ps))=decide (2<=ps.length):=by
 rw [eH];exact xu h hd
theorem lx:∀ (ps:List (List Nat)),(∀ p∈ps,p.length<=1000)->(joinL ps).length<=ps.length * 1003
 | [],_=>Nat.le_refl 0
 | [p],h=>show p.length<=1 * 1003 from Nat.le_trans (h p List.mem_cons_self) (by decide)
 |p :: q :: r,h=>by
  have h1:=h p List.mem_cons_self
  have h2:=lx (q :: r) λx hx=>h x (List.mem_cons_of_mem _ hx)
  show (p++dots++joinL (q :: r)).length<=_
  rw [List.length_append,List.length_append,List.length_cons,Nat.succ_mul,Nat.add_comm]
  exact Nat.add_le_add h2 (Nat.add_le_add_right h1 3)
theorem yf {ps:List (List Nat)} (hw:∀ p∈ps,p.length<=1000) (hn:ps.length<=100):(joinL ps).length<=1048576:=Nat.le_trans (lx ps hw) (Nat.le_trans (Nat.mul_le_mul_right 1003 hn) (by decide))
theorem og {x y:Str} (hs:sizeOk x.length=true) (hy:0<y.length):methD .split (.str x) [.str y]=some (.list ((Txt.split x y).map .str)):=if_pos (by rw [hs,decide_eq_true hy];rfl)
theorem AD {G:ag} {F:FEnv} {O:MEnv} {e:T} {d:D} {rest:S} {r:Option (MEnv×Out)} (h:ev G F O true e=some d) (ht:truthy d=some true) (k:ex G F O rest=r):ex G F O (.seq (.asrt e) rest)=r:=an (ad h (ad ht rfl)) k
theorem zg (hG:G.const "ELLIPSIS_MARKER"=some (.str "...")) {w t:List Nat} (h:strIn ("...":Str) (mk w)=false):run G F 6 s_ellipsis_match [.str (mk w),.str (mk t)]=some (.bool (w==t)) :=
 aH [sv (mk w),sv (mk t),none,none,none,none] rfl (az (aJ (x:= .bool true) (aj (x:= .str "...") (y:= .str (mk w)) hG rfl (congrArg (λb=>some (!b)) h)) rfl
  (aN (aj (x:= .str (mk w)) (y:= .str (mk t)) rfl rfl (congrArg some (lH w t))))))
theorem tT {W:Str} {p q:List Nat} {r:List (List Nat)} {t:List Nat} (hw:∀ p'∈p :: q :: r,p'.length<=1000) (hn:(p :: q :: r).length<=100) (ht:t.length<=1000) :
  ∃ O,ex G F [sv W,sv (mk t),some (.list (wsD (p :: q :: r)),true),iv ((0:Nat):Int),iv t.length,sv (mk p)] (.seq (.ifs (.var 5) (.seq (.ifs (.meth .startswith (.var 1) (.cons (.var 5) .nil)) (.seq (.asg 3 false (.blt .len (.cons (.var 5) .nil))) (.seq (.del 2 (.cst (.int 0))) .skip)) (.seq (.ret (.cst (.bool false))) .skip)) .skip) .skip) emMid) =
   some (O,.ret (.bool (emL (p :: q :: r) t))):=by
 have hp:=hw p List.mem_cons_self
 cases hz:p.isEmpty with
 |true =>
  obtain ⟨O,h⟩:=qL (G:=G) (F:=F) (x0:=sv W) (x5:=sv (mk p)) (t:=t) (ws:=p :: q :: r) (lo:=0) (List.cons_ne_nil _ _) hw hn ht (by decide)
  refine ⟨O,bU (ab rfl) ((eP hp).trans (by rw [hz];rfl)) (bu (h.trans ?_))⟩
  rw [emL,hz,if_pos rfl]
 |false =>
  have htr:truthy (.str (mk p))=some true:=(eP hp).trans (by rw [hz];rfl)
  have hs:ev G F [sv W,sv (mk t),some (.list (wsD (p :: q :: r)),true),iv ((0:Nat):Int),iv t.length,sv (mk p)] true (.meth .startswith (.var 1) (.cons (.var 5) .nil))=some (.bool (isAt t p 0)):=bd (ab rfl) (aB (ab rfl)) (congrArg (some ∘ D.bool) (sO t p))
  rw [emL,hz,if_neg (by decide)]
  cases e:isAt t p 0 with
  |false =>
   rw [e] at hs
   rw [if_neg (by decide)]
   exact ⟨_,az (aJ (ab rfl) htr (az (a6 hs rfl (aN rfl))))⟩
  |true =>
   rw [e] at hs
   rw [if_pos rfl]
   obtain ⟨O,h⟩:=qL (G:=G) (F:=F) (x0:=sv W) (x5:=sv (mk p)) (t:=t) (ws:=q :: r) (lo:=p.length) (List.cons_ne_nil _ _) (λw h=>hw w (List.mem_cons_of_mem _ h)) (Nat.le_of_succ_le hn) ht hp
   refine ⟨O,an (aJ (ab rfl) htr (an (aJ hs rfl (aE (aG (aB (ab rfl)) (aq (cn hp) (by rw [ax]))) (an ?_ rfl))) rfl)) h⟩
   exact ad (en rfl (gj hn)) (ad (a:= .int 0) rfl (ad (a:=0) rfl (aq (c:=(decide ((0:Int)<=0)&&decide ((0:Int)<((wsD (p :: q :: r)).length:Nat)))=true) (decide_eq_true (Int.natCast_pos.mpr (Nat.zero_lt_succ _))) rfl)))
theorem Aa (hG:G.const "ELLIPSIS_MARKER"=some (.str "...")) {ps:List (List Nat)} {t:List Nat} (hne:ps≠[]) (hd:∀ p∈ps,46∉p) (hw:∀ p∈ps,p.length<=1000) (hn:ps.length<=100) (ht:t.length<=1000) :
  run G F 6 s_ellipsis_match [.str (mk (joinL ps)),.str (mk t)]=some (.bool (emL ps t)):=by
 have hin:=rh hne hd
 cases ps with
 |nil=>exact absurd rfl hne
 |cons p ps =>
 cases ps with
 |nil=>exact zg hG hin
 |cons q r =>
  have hsp:Txt.split (mk (joinL (p :: q :: r))) ("...":Str)=(p :: q :: r).map mk:=by rw [eH];exact qf (List.cons_ne_nil _ _) hd
  have e0:sizeOk (mk (joinL (p :: q :: r))).length=true:=by rw [ax];exact ah (yf hw hn)
  rw [decide_eq_true (show 2<=(p :: q :: r).length from Nat.succ_le_succ (Nat.succ_le_succ (Nat.zero_le _)))] at hin
  generalize mk (joinL (p :: q :: r))=W at *
  obtain ⟨O,h⟩:=tT (G:=G) (F:=F) (W:=W) hw hn ht
  have hl:((p :: q :: r).map mk).map D.str=wsD (p :: q :: r):=List.map_map
  have h2:(2:Int)<=((wsD (p :: q :: r)).length:Nat):=Int.ofNat_le.mpr (Nat.succ_le_succ (Nat.succ_le_succ (Nat.zero_le _)))
  have hs:ev G F [sv W,sv (mk t),none,none,none,none] false (.meth .split (.var 0) (.cons (.glob "ELLIPSIS_MARKER") .nil))=some (.list (wsD (p :: q :: r))):=bd (aX rfl) (aB hG) ((og e0 (by decide)).trans (by rw [hsp,hl]))
  have hlen:bltD .len [.list (wsD (p :: q :: r))]=some (.int ((wsD (p :: q :: r)).length:Nat)):=aq (gj hn) rfl
  have hlt:bltD .len [.str (mk t)]=some (.int (t.length:Int)):=aq (cn ht) (by rw [ax])
  have hge:cmpD .GtE (.int ((wsD (p :: q :: r)).length:Nat)) (.int 2)=some true:=congrArg some (decide_eq_true h2)
  have k3:ex G F [sv W,sv (mk t),some (.list (wsD (p :: q :: r)),true),iv ((0:Nat):Int),iv t.length,none] (.seq (.asg 5 false (.idx (.var 2) (.cst (.int 0)))) (.seq (.ifs (.var 5) (.seq (.ifs (.meth .startswith (.var 1) (.cons (.var 5) .nil)) (.seq (.asg 3 false (.blt .len (.cons (.var 5) .nil))) (.seq (.del 2 (.cst (.int 0))) .skip)) (.seq (.ret (.cst (.bool false))) .skip)) .skip) .skip) emMid))=some (O,.ret (.bool (emL (p :: q :: r) t))) :=
   aE (d:= .str (mk p)) (aD (x:= .list (wsD (p :: q :: r))) (y:= .int 0) rfl rfl rfl) h
  exact aH [sv W,sv (mk t),none,none,none,none] rfl (O':=O) (bU (x:= .bool false) (aj (x:= .str "...") (y:= .str W) hG rfl (congrArg (λb=>some (!b)) hin)) rfl (bu (cH (d:= .list (wsD (p :: q :: r))) hs rfl
   (AD (aj (aG (aB (aX rfl)) hlen) rfl hge) rfl
   (mL (x:= .int ((0:Nat):Int)) (y:= .int (t.length:Int)) (aC rfl (aG (aB (ab rfl)) hlt)) rfl k3)))))
end
section
variable {G:ag} {fns:List Fn} {b1L:List Int} {b3L:List (Int×Str)} (C:vy G fns b1L b3L)
include C
theorem vz {k:Nat} {ps:List (List Nat)} {t:List Nat} (hne:ps≠[]) (hd:∀ p∈ps,46∉p) (hw:∀ p∈ps,p.length<=1000) (hn:ps.length<=100) (ht:t.length<=1000) :
  FF G fns spn2 sp2 (k+1) "_ellipsis_match" [.str (mk (joinL ps)),.str (mk t)]=some (.bool (emL ps t)):=be rfl C.f5 rfl (Aa C.mark hne hd hw hn ht)
end
noncomputable def s1B1:S:=(.seq (.ext 8 (.ite (.cmp .Eq (.sli (.var 5) (.cst .none) (.blt .len (.cons (.var 9) .nil)) (.cst .none)) (.var 9)) (.list (.cons (.tup (.cons (.blt .len (.cons (.var 9) .nil)) (.cons (.var 10) .nil))) .nil)) (.list .nil))) <|
    .skip)
noncomputable def s1B2:S:=(.seq (.ifs (.cmp .NotEq (.var 5) (.cst (.str ""))) (.seq (.ext 4 (.ite (.cmp .Eq (.var 6) (.bin .Mod (.var 2) (.cst (.int 5)))) (.list (.cons (.idx (.call "_law_unseen" .nil) (.bin .Mod (.bin .FloorDiv (.var 2) (.cst (.int 5))) (.cst (.int 27)))) .nil)) (.list .nil))) <|
   (.seq (.asg 7 false (.blt .ord (.cons (.idx (.var 5) (.cst (.int 0))) .nil))) <|
   (.seq (.asg 8 true (.list (.cons (.tup (.cons (.cst (.int 1)) (.cons (.var 7) .nil))) (.cons (.tup (.cons (.cst (.int 1)) (.cons (.bin .Sub (.var 7) (.cst (.int 32))) .nil))) (.cons (.tup (.cons (.cst (.int 1)) (.cons (.bin .Sub (.bin .Add (.idx (.var 3) (.bin .Mod (.bin .Add (.var 2) (.var 6)) (.cst (.int 10)))) (.var 7)) (.cst (.int 97))) .nil))) .nil))))) <|
   (.seq (.fors [9,10] false .plain (.tup (.cons (.tup (.cons (.cst (.str "ff")) (.cons (.cst (.int 64256)) .nil))) (.cons (.tup (.cons (.cst (.str "fi")) (.cons (.cst (.int 64257)) .nil))) (.cons (.tup (.cons (.cst (.str "fl")) (.cons (.cst (.int 64258)) .nil))) (.cons (.tup (.cons (.cst (.str "ffi")) (.cons (.cst (.int 64259)) .nil))) (.cons (.tup (.cons (.cst (.str "ffl")) (.cons (.cst (.int 64260)) .nil))) .nil)))))) .nil s1B1 .skip) <|
   (.seq (.unp [11,10] (.idx (.var 8) (.bin .Mod (.var 1) (.blt .len (.cons (.var 8) .nil))))) <|
   (.seq (.multi [(4,true),(5,false),(1,false)] (.cons (.bin .Add (.var 4) (.list (.cons (.var 10) .nil))) (.cons (.sli (.var 5) (.var 11) (.cst .none) (.cst .none)) (.cons (.bin .FloorDiv (.var 1) (.blt .len (.cons (.var 8) .nil))) .nil)))) <|
   .skip)))))) .skip) <|
  .skip)
noncomputable def s1_law_spelled:S :=
 (.seq (.asg 3 false (.tup (.cons (.cst (.int 119808)) (.cons (.cst (.int 119860)) (.cons (.cst (.int 119912)) (.cons (.cst (.int 120016)) (.cons (.cst (.int 120172)) (.cons (.cst (.int 120224)) (.cons (.cst (.int 120276)) (.cons (.cst (.int 120328)) (.cons (.cst (.int 120380)) (.cons (.cst (.int 120432)) .nil)))))))))))) <|
 (.seq (.multi [(4,true),(5,false)] (.cons (.list .nil) (.cons (.var 0) .nil))) <|
 (.seq (.fors [6] true .range1 (.blt .len (.cons (.var 0) .nil)) .nil s1B2 .skip) <|
 (.seq (.retv 4) <|
 .skip))))
noncomputable def s1B3:S:=(.seq (.app 1 (.bin .Add (.bin .Add (.idx (.var 3) (.var 4)) (.ite (.cmp .Lt (.bin .Add (.var 4) (.cst (.int 1))) (.blt .len (.cons (.var 3) .nil))) (.cst (.int 64)) (.cst (.int 0)))) (.bin .Mult (.cst (.int 128)) (.bin .Mod (.blt .len (.cons (.var 1) .nil)) (.cst (.int 2)))))) <|
   .skip)
noncomputable def s1B4:S:=(.seq (.asg 3 false (.sli (.call "_int2digits" (.cons (.var 2) (.cons (.cst (.int 6)) .nil))) (.cst .none) (.cst .none) (.un .USub (.cst (.int 1))))) <|
  (.seq (.fors [4] true .range1 (.blt .len (.cons (.var 3) .nil)) .nil s1B3 .skip) <|
  .skip))
noncomputable def s1_law_octets:S :=
 (.seq (.asg 1 true (.list .nil)) <|
 (.seq (.fors [2] true .plain (.var 0) .nil s1B4 .skip) <|
 (.seq (.retv 1) <|
 .skip)))
noncomputable def s1C5:T:=(.comp (.call "in_table_b1" (.cons (.blt .chr (.cons (.var 2) .nil)) .nil)) [2] true .plain (.var 0) .nil (.cst (.bool true)) [2])
noncomputable def s1C6:T:=(.comp (.ite (.cmp .Is (.var 3) (.cst (.bool true))) (.cst (.int 1)) (.ite (.cmp .Is (.var 3) (.cst (.bool false))) (.cst (.int 0)) (.cst (.int 2)))) [3] true .plain (.var 1) .nil (.cst (.bool true)) [3])
noncomputable def s1C7:T:=(.comp (.meth .count (.call "_law_unseen" .nil) (.cons (.var 2) .nil)) [2] true .plain (.var 0) .nil (.cst (.bool true)) [2])
noncomputable def s1C8:T:=(.comp (.call "map_table_b3" (.cons (.blt .chr (.cons (.var 2) .nil)) .nil)) [2] true .plain (.var 0) .nil (.cmp .NotIn (.var 2) (.call "_law_unseen" .nil)) [2])
noncomputable def s1_law_meant:S :=
 (.seq (.asg 1 false s1C5) <|
 (.seq (.ifs (.cmp .NotEq s1C6 s1C7) (.seq (.ret (.cst .none)) <|
  .skip) .skip) <|
 (.seq (.ret (.meth .join (.cst (.str "")) (.cons s1C8 .nil))) <|
 .skip)))
noncomputable def s1C9:T:=(.comp (.bin .Add (.blt .len (.cons (.var 0) .nil)) (.var 6)) [6] true .range1 (.blt .len (.cons (.var 1) .nil)) .nil (.cst (.bool true)) [6])
noncomputable def s1C10:T:=(.comp (.bin .Sub (.bin .Sub (.blt .len (.cons (.var 0) .nil)) (.cst (.int 1))) (.var 4)) [4] true .range1 (.blt .len (.cons (.var 0) .nil)) .nil (.cst (.bool true)) [4])
noncomputable def s1B11:S:=(.seq (.asg 8 false (.tup (.cons (.tup (.cons (.var 5) (.cons (.var 7) .nil))) (.cons (.tup (.cons (.bin .Add (.var 5) (.cst (.str "..."))) (.cons (.sli (.var 1) (.var 6) (.cst .none) (.cst .none)) .nil))) (.cons (.tup (.cons (.bin .Add (.cst (.str "...")) (.var 5)) (.cons (.sli (.var 1) (.cst .none) (.bin .Add (.var 6) (.cst (.int 1))) (.cst .none)) .nil))) (.cons (.tup (.cons (.bin .Add (.bin .Add (.bin .Add (.bin .Add (.cst (.str "...")) (.bin .Mult (.var 5) (.cst (.int 2)))) (.cst (.str "..."))) (.bin .Mult (.var 5) (.cst (.int 2)))) (.cst (.str "..."))) (.cons (.bin .Add (.bin .Mult (.var 5) (.cst (.int 3))) (.var 7)) .nil))) .nil)))))) <|
   (.seq (.unp [9,10] (.idx (.var 8) (.bin .Mod (.bin .Add (.var 4) (.var 6)) (.cst (.int 4))))) <|
   (.seq (.ifs (.bop .Or (.cmp .Is (.call "_ellipsis_match" (.cons (.var 9) (.cons (.var 10) .nil))) (.cst (.bool true))) (.cmp .Gt (.idx (.var 2) (.var 4)) (.idx (.var 3) (.var 6)))) (.seq (.set2 2 (.var 4) 3 (.var 6) (.cons (.idx (.var 3) (.var 6)) (.cons (.idx (.var 2) (.var 4)) .nil))) <|
    .skip) .skip) <|
   .skip)))
noncomputable def s1B12:S:=(.seq (.fors [6,7] false .enum (.var 1) .nil s1B11 .skip) <|
  .skip)
noncomputable def s1_law_come:S :=
 (.seq (.multi [(2,true),(3,true)] (.cons s1C10 (.cons s1C9 .nil))) <|
 (.seq (.fors [4,5] false .enum (.var 0) .nil s1B12 .skip) <|
 (.seq (.ret (.bin .Add (.var 3) (.sli (.var 2) (.cst .none) (.cst .none) (.un .USub (.cst (.int 1)))))) <|
 .skip)))
noncomputable def s1C13:T:=(.comp (.bin .Add (.var 1) (.var 6)) [6] true .plain (.var 0) .nil (.cmp .Lt (.bin .Add (.var 1) (.var 6)) (.cst (.int 32))) [6])
noncomputable def s1C14:T:=(.comp (.ite (.cmp .Lt (.var 7) (.cst (.int 10))) (.idx (.meth .split (.var 2) (.cons (.cst (.str " ")) .nil)) (.var 7)) (.bin .Add (.bin .Add (.cst (.str "0x")) (.idx (.cst (.str "1248")) (.bin .Mod (.var 7) (.cst (.int 4))))) (.bin .Mult (.cst (.str "0")) (.bin .FloorDiv (.var 7) (.cst (.int 4)))))) [7] true .plain (.var 3) .nil (.cst (.bool true)) [7])
noncomputable def s1C15:T:=(.comp (.bin .Pow (.cst (.int 2)) (.bin .Sub (.bin .Add (.var 1) (.var 6)) (.cst (.int 32)))) [6] true .plain (.var 0) .nil (.cmp .GtE (.bin .Add (.var 1) (.var 6)) (.cst (.int 32))) [6])
noncomputable def s1_law_words:S :=
 (.seq (.asg 2 false (.cst (.str "OPTIMIZED NEWLOCALS VARARGS VARKEYWORDS NESTED GENERATOR NOFREE COROUTINE ITERABLE_COROUTINE ASYNC_GENERATOR"))) <|
 (.seq (.asg 3 false s1C13) <|
 (.seq (.asg 4 true s1C14) <|
 (.seq (.asg 5 false (.blt .sum (.cons s1C15 .nil))) <|
 (.seq (.ifs (.bop .Or (.var 5) (.cmp .Eq (.var 4) (.list .nil))) (.seq (.app 4 (.bin .Add (.bin .Add (.cst (.str "0x")) (.idx (.cst (.str "0123456789abcdef")) (.var 5))) (.ite (.var 5) (.cst (.str "00000000")) (.cst (.str ""))))) <|
  .skip) .skip) <|
 (.seq (.ret (.meth .join (.cst (.str ", ")) (.cons (.var 4) .nil))) <|
 .skip))))))
noncomputable def s1C16:T:=(.comp (.bin .Pow (.cst (.int 2)) (.var 40)) [40] true .range1 (.var 6) .nil (.cmp .Eq (.idx (.var 4) (.var 40)) (.var 35)) [40])
noncomputable def s1B17:S:=(.seq (.asg 36 false (.blt .sum (.cons s1C16 .nil))) <|
   (.seq (.asg 37 false (.call "int_divmod" (.cons (.bin .Add (.var 34) (.bin .BitAnd (.var 34) (.var 36))) (.cons (.bin .Pow (.cst (.int 2)) (.var 6)) .nil)))) <|
   (.seq (.multi [(33,false),(34,false)] (.cons (.bin .Add (.var 33) (.idx (.var 37) (.cst (.int 0)))) (.cons (.bin .BitOr (.idx (.var 37) (.cst (.int 1))) (.bin .BitAnd (.var 34) (.un .Invert (.var 36)))) .nil))) <|
   .skip)))
noncomputable def s1C18:T:=(.comp (.var 40) [40] true .range1 (.var 6) .nil (.cmp .GtE (.idx (.var 13) (.var 40)) (.var 24)) [40])
noncomputable def s1B19:S:=(.seq (.multi [(25,false),(33,false)] (.cons (.blt .max2 (.cons (.bin .Sub (.var 24) (.var 5)) (.cons (.cst (.int 0)) .nil))) (.cons (.cst (.int 0)) .nil))) <|
  (.seq (.asg 34 false (.bin .Sub (.bin .Pow (.cst (.int 2)) (.var 6)) (.bin .Pow (.cst (.int 2)) (.var 25)))) <|
  (.seq (.fors [35] true .plain (.sli (.var 3) (.blt .max2 (.cons (.bin .Sub (.var 5) (.var 24)) (.cons (.cst (.int 0)) .nil))) (.cst .none) (.cst .none)) .nil s1B17 .skip) <|
  (.seq (.asg 38 false s1C18) <|
  (.seq (.ifs (.bop .Or (.cmp .NotEq (.var 33) (.bin .Sub (.bin .Sub (.var 6) (.var 25)) (.blt .len (.cons (.var 38) .nil)))) (.cmp .NotEq (.call "pretty_flags" (.cons (.bin .LShift (.var 34) (.var 7)) .nil)) (.call "_law_words" (.cons (.var 38) (.cons (.var 7) .nil))))) (.seq (.ret (.cst (.bool false))) <|
   .skip) .skip) <|
  .skip)))))
noncomputable def s1C20:T:=(.comp (.idx (.var 27) (.var 40)) [40] true .range1 (.blt .len (.cons (.var 27) .nil)) .nil (.bin .BitAnd (.bin .RShift (.var 30) (.var 40)) (.cst (.int 1))) [40])
noncomputable def s1J:T:=(.meth .join (.cst (.str "...")) (.cons (.bin .Add (.bin .Add (.list (.cons (.sli (.var 4) (.cst .none) (.var 25) (.cst .none)) .nil)) (.var 31)) (.list (.cons (.sli (.var 4) (.var 26) (.cst .none) (.cst .none)) .nil))) .nil))
noncomputable def s1D2:S:=(.ifs (.cmp .Is (.var 32) (.cst (.bool true))) (.seq (.app 29 (.blt .len (.cons (.var 31) .nil))) .skip) (.seq (.ifs (.cmp .IsNot (.var 32) (.cst (.bool false))) (.seq (.ret (.cst (.bool false))) .skip) .skip) .skip))
noncomputable def s1D1:S:=(.ifs (.cmp .In (.blt .len (.cons (.var 31) .nil)) (.tup (.cons (.var 28) (.cons (.bin .Add (.var 28) (.cst (.int 1))) .nil)))) (.seq (.asg 32 false (.call "_ellipsis_match" (.cons s1J (.cons (.var 4) .nil)))) (.seq s1D2 .skip)) .skip)
noncomputable def s1B21:S:= .seq (.asg 31 false s1C20) (.seq s1D1 .skip)
noncomputable def s1B22:S:=(.seq (.multi [(25,false),(26,false)] (.cons (.blt .max2 (.cons (.bin .Sub (.var 24) (.var 5)) (.cons (.cst (.int 0)) .nil))) (.cons (.blt .min2 (.cons (.var 14) (.cons (.var 6) .nil))) .nil))) <|
  (.seq (.asg 27 false (.sli (.var 3) (.blt .max2 (.cons (.bin .Sub (.var 5) (.var 24)) (.cons (.cst (.int 0)) .nil))) (.bin .Sub (.var 5) (.blt .max2 (.cons (.bin .Sub (.var 14) (.var 6)) (.cons (.cst (.int 0)) .nil)))) (.cst .none))) <|
  (.seq (.asg 28 false (.ite (.cmp .LtE (.var 25) (.var 26)) (.bin .Sub (.bin .Sub (.var 26) (.var 25)) (.idx (.bin .Add (.var 23) (.bin .Mult (.list (.cons (.cst (.int 0)) .nil)) (.bin .Add (.var 5) (.var 6)))) (.bin .Sub (.var 24) (.cst (.int 1))))) (.un .USub (.cst (.int 1))))) <|
  (.seq (.asg 29 true (.list (.cons (.un .USub (.cst (.int 1))) .nil))) <|
  (.seq (.fors [30] true .range1 (.bin .Pow (.cst (.int 2)) (.blt .len (.cons (.var 27) .nil))) .nil s1B21 .skip) <|
  (.seq (.ifs (.cmp .NotEq (.blt .max1 (.cons (.var 29) .nil)) (.var 28)) (.seq (.ret (.cst (.bool false))) <|
   .skip) .skip) <|
  .skip))))))
noncomputable def s1C23:T:=(.comp (.var 41) [41] true .plain (.var 18) .nil (.var 41) [41])
noncomputable def s1C24:T:=(.comp (.meth .count (.var 17) (.cons (.var 42) .nil)) [42] true .range1 (.bin .Add (.var 5) (.var 6)) .nil (.cst (.bool true)) [42])
noncomputable def s1C25:T:=(.comp (.var 42) [42] true .plain (.var 17) .nil (.cmp .Gt (.var 42) (.var 40)) [42])
noncomputable def s1C26:T:=(.comp (.blt .len (.cons s1C25 .nil)) [40] true .range1 (.bin .Add (.var 5) (.var 6)) .nil (.cst (.bool true)) [40])
noncomputable def s1C27:T:=(.comp (.idx (.cst (.str "fil")) (.bin .Mod (.bin .FloorDiv (.idx (.var 2) (.cst (.int 1))) (.bin .Pow (.cst (.int 3)) (.var 40))) (.cst (.int 3)))) [40] true .range1 (.bin .Add (.cst (.int 4)) (.bin .Mod (.bin .FloorDiv (.idx (.var 2) (.cst (.int 1))) (.cst (.int 243))) (.cst (.int 2)))) .nil (.cst (.bool true)) [40])
noncomputable def s1C28:T:=(.comp (.idx (.cst (.str "fil")) (.bin .Mod (.bin .FloorDiv (.idx (.var 2) (.cst (.int 0))) (.bin .Pow (.cst (.int 3)) (.var 40))) (.cst (.int 3)))) [40] true .range1 (.bin .Add (.cst (.int 2)) (.bin .Mod (.bin .FloorDiv (.idx (.var 2) (.cst (.int 0))) (.cst (.int 27))) (.cst (.int 2)))) .nil (.cst (.bool true)) [40])
noncomputable def s1C29:T:=(.comp (.bin .Add (.var 41) (.blt .sum (.cons (.sli (.var 1) (.var 40) (.cst .none) (.cst (.int 6))) .nil))) [40,41] false .enum (.tup (.cons (.cst (.int 42)) (.cons (.cst (.int 55)) (.cons (.cst (.int 95)) (.cons (.cst (.int 421)) (.cons (.cst (.int 40)) (.cons (.cst (.int 163)) .nil))))))) .nil (.cst (.bool true)) [40,41])
noncomputable def s1C30:T:=(.comp (.bin .Mod (.var 39) (.bin .Pow (.cst (.int 10)) (.cst (.int 9)))) [39] true .plain (.sli (.var 0) (.cst .none) (.cst (.int 60)) (.cst .none)) .nil (.cst (.bool true)) [39])
noncomputable def s1t22:S:= .seq (.ret (.cst (.bool true))) .skip
noncomputable def s1t21:S:= .seq (.fors [24] true .plain (.tup (.cons (.var 5) (.cons (.bin .Mod (.bin .FloorDiv (.idx (.var 2) (.cst (.int 5))) (.cst (.int 8))) (.bin .Add (.bin .Add (.var 5) (.var 6)) (.cst (.int 1)))) .nil))) .nil s1B19 .skip) s1t22
noncomputable def s1t20:S:= .seq (.fors [24] true .range2 (.blt .max2 (.cons (.cst (.int 1)) (.cons (.bin .Sub (.var 14) (.var 6)) .nil))) (.bin .Add (.bin .Add (.var 5) (.var 6)) (.cst (.int 1))) s1B22 .skip) s1t21
noncomputable def s1t19:S:= .seq (.ifs (.cmp .NotEq (.var 23) s1C23) (.seq (.ret (.cst (.bool false))) <|
  .skip) .skip) s1t20
noncomputable def s1t18:S:= .seq (.asg 23 false (.call "_int2digits" (.cons (.ite (.cmp .Eq (.var 15) (.var 16)) (.idx (.var 22) (.cst (.int 0))) (.un .Invert (.idx (.var 22) (.cst (.int 0))))) (.cons (.var 8) .nil)))) s1t19
noncomputable def s1t17:S:= .seq (.ifs (.bop .Or (.cmp .NotEq (.var 22) (.ite (.cmp .Eq (.var 15) (.var 16)) (.tup (.cons (.var 19) (.cons (.bin .Mult (.var 16) (.var 14)) .nil))) (.tup (.cons (.un .Invert (.var 19)) (.cons (.bin .Mult (.var 16) (.bin .Sub (.var 21) (.var 14))) .nil))))) (.cmp .NotEq (.call "int_divmod" (.cons (.bin .Mult (.var 15) (.bin .Sub (.var 20) (.var 14))) (.cons (.bin .Mult (.var 16) (.var 21)) .nil))) (.tup (.cons (.bin .Mult (.bin .Mult (.var 15) (.var 16)) (.var 19)) (.cons (.cst (.int 0)) .nil))))) (.seq (.ret (.cst (.bool false))) <|
  .skip) .skip) s1t18
noncomputable def s1t16:S:= .seq (.asg 22 false (.call "int_divmod" (.cons (.bin .Mult (.var 15) (.var 20)) (.cons (.bin .Mult (.var 16) (.var 21)) .nil)))) s1t17
noncomputable def s1t15:S:= .seq (.multi [(19,false),(20,false),(21,false)] (.cons (.call "_digits2int" (.cons (.var 18) (.cons (.var 8) .nil))) (.cons (.call "_digits2int" (.cons s1C24 (.cons (.var 8) .nil))) (.cons (.bin .Sub (.bin .Pow (.cst (.int 2)) (.var 8)) (.cst (.int 1))) .nil)))) s1t16
noncomputable def s1t14:S:= .seq (.asg 18 false s1C26) s1t15
noncomputable def s1t13:S:= .seq (.asg 17 false (.sli (.var 13) (.cst .none) (.var 14) (.cst .none))) s1t14
noncomputable def s1t12:S:= .seq (.multi [(14,false),(15,false),(16,false)] (.cons (.bin .Add (.cst (.int 1)) (.bin .Mod (.idx (.var 2) (.cst (.int 5))) (.bin .Add (.var 5) (.var 6)))) (.cons (.bin .Sub (.cst (.int 1)) (.bin .Mult (.cst (.int 2)) (.bin .Mod (.bin .FloorDiv (.idx (.var 2) (.cst (.int 5))) (.cst (.int 72))) (.cst (.int 2))))) (.cons (.bin .Sub (.cst (.int 1)) (.bin .Mult (.cst (.int 2)) (.bin .Mod (.bin .FloorDiv (.idx (.var 2) (.cst (.int 5))) (.cst (.int 144))) (.cst (.int 2))))) .nil)))) s1t13
noncomputable def s1t11:S:= .seq (.asg 13 false (.call "_law_come" (.cons (.var 3) (.cons (.var 4) .nil)))) s1t12
noncomputable def s1t10:S:= .seq (.ifs (.cmp .NotEq (.list (.cons (.call "_law_meant" (.cons (.sli (.var 12) (.cst (.int 1)) (.bin .Add (.cst (.int 1)) (.idx (.var 12) (.cst (.int 0)))) (.cst .none)) .nil)) (.cons (.call "_law_meant" (.cons (.sli (.var 12) (.bin .Add (.cst (.int 1)) (.idx (.var 12) (.cst (.int 0)))) (.cst .none) (.cst .none)) .nil)) .nil))) (.list (.cons (.var 3) (.cons (.var 4) .nil)))) (.seq (.ret (.cst (.bool false))) <|
  .skip) .skip) s1t11
noncomputable def s1t9:S:= .seq (.ifs (.bop .Or (.cmp .NotEq (.var 12) (.var 10)) (.cmp .NotEq (.call "_law_read" (.cons (.sli (.var 11) (.cst .none) (.un .USub (.cst (.int 1))) (.cst .none)) .nil)) (.sli (.var 10) (.cst .none) (.un .USub (.cst (.int 1))) (.cst .none)))) (.seq (.ret (.cst (.bool false))) <|
  .skip) .skip) s1t10
noncomputable def s1t8:S:= .seq (.asg 12 false (.call "_law_read" (.cons (.var 11) .nil))) s1t9
noncomputable def s1t7:S:= .seq (.asg 11 false (.call "_law_octets" (.cons (.var 10) .nil))) s1t8
noncomputable def s1t6:S:= .seq (.asg 10 false (.bin .Add (.bin .Add (.list (.cons (.blt .len (.cons (.var 9) .nil)) .nil)) (.var 9)) (.call "_law_spelled" (.cons (.var 4) (.cons (.bin .FloorDiv (.idx (.var 2) (.cst (.int 2))) (.cst (.int 7))) (.cons (.bin .FloorDiv (.idx (.var 2) (.cst (.int 3))) (.cst (.int 7))) .nil)))))) s1t7
noncomputable def s1t5:S:= .seq (.asg 9 false (.call "_law_spelled" (.cons (.var 3) (.cons (.idx (.var 2) (.cst (.int 2))) (.cons (.idx (.var 2) (.cst (.int 3))) .nil))))) s1t6
noncomputable def s1t4:S:= .seq (.multi [(5,false),(6,false),(7,false),(8,false)] (.cons (.blt .len (.cons (.var 3) .nil)) (.cons (.blt .len (.cons (.var 4) .nil)) (.cons (.bin .Mod (.idx (.var 2) (.cst (.int 4))) (.cst (.int 32))) (.cons (.bin .Add (.cst (.int 4)) (.bin .Mod (.bin .FloorDiv (.idx (.var 2) (.cst (.int 4))) (.cst (.int 32))) (.cst (.int 60)))) .nil))))) s1t5
noncomputable def s1t3:S:= .seq (.asg 4 false (.meth .join (.cst (.str "")) (.cons s1C27 .nil))) s1t4
noncomputable def s1t2:S:= .seq (.asg 3 false (.meth .join (.cst (.str "")) (.cons s1C28 .nil))) s1t3
noncomputable def s1t1:S:= .seq (.asg 2 false s1C29) s1t2
noncomputable def s1t0:S:= .seq (.asg 1 false s1C30) s1t1
structure yN (G:ag) (fns:List Fn) (b1L:List Int) (b3L:List (Int×Str)):Prop where
 com:vy G fns b1L b3L
 spelled:∃ x,fns.find? (λx=>x.name==("_law_spelled":Str))=some x/\x.ps.length=3/\x.tbl.length=12/\x.code=s1_law_spelled
 octets:∃ x,fns.find? (λx=>x.name==("_law_octets":Str))=some x/\x.ps.length=1/\x.tbl.length=5/\x.code=s1_law_octets
 meant:∃ x,fns.find? (λx=>x.name==("_law_meant":Str))=some x/\x.ps.length=1/\x.tbl.length=4/\x.code=s1_law_meant
 come:∃ x,fns.find? (λx=>x.name==("_law_come":Str))=some x/\x.ps.length=2/\x.tbl.length=11/\x.code=s1_law_come
 words:∃ x,fns.find? (λx=>x.name==("_law_words":Str))=some x/\x.ps.length=2/\x.tbl.length=8/\x.code=s1_law_words
noncomputable abbrev p1:Program:=PySem.Challenge.pw_ta0109_01
noncomputable abbrev l1:OpenLaw:=PySem.Challenge.rw_ta0109_01
noncomputable def R1:Option TS:=runT p1.main.scope ⟨[],[],[],[],0⟩ p1.main.body
theorem m8:R1.isSome=true:=by decide +kernel
noncomputable def T1:TS:=R1.get m8
theorem AO:runT p1.main.scope ⟨[],[],[],[],0⟩ p1.main.body=some T1:=(Option.some_get m8).symm
theorem tz:T1.names.all (λx=>p1.boundNames.contains x)=true:=by decide +kernel
theorem wj:laidNames.all (λx=> !T1.names.contains x)=true:=by decide +kernel
noncomputable def sigs1:List fc:=[
 ⟨"pretty_flags",["flags","names","i","flag"],s_pretty_flags⟩,
 ⟨"_div2n1n",["a","b","n","pad","half_n","mask","b1","b2","q1","r","q2"],s_div2n1n⟩,
 ⟨"_divmod_pos",["a","b","n","a_digits","r","q_digits","a_digit","q_digit","q"],s_divmod_pos⟩,
 ⟨"int_divmod",["a","b","q","r"],s_int_divmod⟩,
 ⟨"_ellipsis_match",["want","got","ws","startpos","endpos","w"],s_ellipsis_match⟩,
 ⟨"in_table_b1",["code"],s_in_table_b1⟩,
 ⟨"map_table_b3",["code","r"],s_map_table_b3⟩,
 ⟨"_law_unseen",[],s_law_unseen⟩,
 ⟨"_law_spelled",["letters","pick","noise","great","points","rest","turn","own","ways","joined","point","size"],s1_law_spelled⟩,
 ⟨"_law_octets",["numbers","octets","number","figures","place"],s1_law_octets⟩,
 ⟨"_law_meant",["points","told","point","x"],s1_law_meant⟩,
 ⟨"_law_come",["first","second","side","top","i","letter","j","other","forms","want","got"],s1_law_come⟩,
 ⟨"_law_words",["places","base","names","flags","words","above","place","k"],s1_law_words⟩]
noncomputable def lsig1:fc:=⟨"law",(["script","numbers","draws","first","second","m","n","base","width","signs","written","octets","told","come","end","one"]:List Str)++(["two","early","gone","whole","total","less","parted","figures","start","low","high","part","most","taken","choice","letters"]:List Str)++(["answer","more","still","letter","alike","carry","places","x","k","c","s"]:List Str),s1t0⟩
noncomputable def fnames1:List Str:=["_ellipsis_match","_div2n1n","_div3n2n","_int2digits","_digits2int","_divmod_pos","int_divmod","pretty_flags","in_table_b1","map_table_b3","_law_unseen","_law_spelled","_law_octets","_law_read","_law_meant","_law_come","_law_words"]
noncomputable def c1:Cx:={tbl:=[],fns:=fnames1,consts:=["ELLIPSIS_MARKER","_DIV_LIMIT"],sets:=["b1_set"],dicts:=["b3_exceptions","COMPILER_FLAG_NAMES"]}
noncomputable def dI1:DefItem:=itemOf (p1.main.body.getD 7 default)
noncomputable def dD1:DefItem:=itemOf (p1.main.body.getD 8 default)
noncomputable def dP1:DefItem:=itemOf (p1.main.body.getD 14 default)
noncomputable def dR1:DefItem:=itemOf (p1.main.body.getD 24 default)
noncomputable def dL1:DefItem:=itemOf (p1.main.body.getD 28 default)
theorem zH:l1.row.toRowW.promised:=⟨[.list [.int 3]],by decide +kernel,by decide +kernel⟩
theorem rt:T1.defs.map (λd=>d.params)=T1.defs.map (λd=>plainPar d.params):=by kernel_rfl
theorem um:∀ d∈T1.defs,d.params=plainPar d.params:=λd hd=>List.map_inj_left.mp rt d hd
theorem yP:sigs1.all (λs=>sigOk c1 T1 s)=true:=by decide +kernel
theorem BI:sigs1.map (bodyU c1 T1)=sigs1.map (bodyOf T1):=by kernel_rfl
theorem wl:sigOk c1 T1 lsig1=true:=by decide +kernel
theorem AU:bodyU c1 T1 lsig1=bodyOf T1 lsig1:=by kernel_rfl
theorem AQ:HI T1 c1 62 dI1:=⟨by kernel_rfl,by decide +kernel,by kernel_rfl,by kernel_rfl,by decide +kernel⟩
theorem AP:HD T1 c1 62 dD1:=⟨by kernel_rfl,by decide +kernel,by kernel_rfl,by kernel_rfl,by decide +kernel⟩
theorem AR:HP T1 c1 dP1:=⟨by kernel_rfl,by decide +kernel,by kernel_rfl⟩
theorem AT:HR T1 c1 dR1:=⟨by kernel_rfl,by decide +kernel,by kernel_rfl⟩
theorem pb (said:l1.row.wellSaid=true) (eval:∀ ns:List Int,ns.length<=63->run (gOf T1) (FL (gOf T1) (sigs1.map (mkFn T1)) 300) lsig1.tbl.length lsig1.code [.list (ns.map .int)]=some (.bool true)):l1.row.Holds :=
 ru (c:=c1) (line:=62) (dL:=dL1) AO (by kernel_rfl) rfl said zH rfl (λs=>rfl) (by decide +kernel) (by decide +kernel) (by decide +kernel) rfl (by decide +kernel) ⟨rfl,rfl,rfl,rfl,rfl,by decide +kernel⟩ rfl rfl rfl tz wj um
  (by kernel_rfl) (by kernel_rfl) (by decide +kernel) (by decide +kernel) (by decide +kernel) wl AU rfl (by decide +kernel) (FL (gOf T1) (sigs1.map (mkFn T1)) 300) (λw s mg mb X env f a hf ha=>X.ctr yP BI AQ AP AR AT env f a hf ha) eval
noncomputable def oct (f:Int) (c:Bool) (p:Int):Int:=f+cond c 64 0+128 * p
noncomputable def octB (f:Int) (c:Bool) (p:Int):Bool:=oct f c p % 64==f&&((Builtin.bitAnd (oct f c p) 64==0) == !c)&&decide (0<=oct f c p)&&decide (oct f c p<256)
theorem xU:(List.range 64).all (λf=>octB (f:Int) true 0&&octB (f:Int) true 1&&octB (f:Int) false 0&&octB (f:Int) false 1)=true:=by decide +kernel
theorem rT {f p:Int} {c:Bool} (h0:0<=f) (h1:f<64) (hp:p=0\/p=1):oct f c p % 64=f/\(Builtin.bitAnd (oct f c p) 64==0) = !c/\0<=oct f c p/\oct f c p<256:=by
 obtain ⟨n,rfl⟩:=Int.eq_ofNat_of_zero_le h0
 refine aa (List.all_eq_true.mp xU n (List.mem_range.mpr (Int.ofNat_lt.mp h1))) λa a4=>aa a λa a3=>aa a λa1 a2=> ?_
 have h:octB (n:Int) c p=true:=by
  rcases hp with rfl |rfl
  ·cases c with
   |true=>exact a1
   |false=>exact a3
  ·cases c with
   |true=>exact a2
   |false=>exact a4
 exact aa h λb b4=>aa b λb b3=>aa b λb1 b2=>⟨beq_iff_eq.mp b1,beq_iff_eq.mp b2,de b3,de b4⟩
def AK (a v:Int):List Int->Prop
 | []=>False
 |o :: r=>(∀ t,pv1 o (a * 64+o % 64) (r++t)=some (v,t))/\(r=[]\/pv1 o (a * 64+o % 64) r.dropLast=none)
def Blk (l:List Int) (a v:Int):Prop:=AK a v l
theorem Blk.last {o a:Int} (h:(Builtin.bitAnd o 64==0)=true):Blk [o] a (a * 64+o % 64):=⟨λt=>lV h t,.inl rfl⟩
theorem Blk.more {o a v:Int} {r:List Int} (h:(Builtin.bitAnd o 64==0)=false) (b:Blk r (a * 64+o % 64) v):Blk (o :: r) a v:=by
 have hn:¬ (Builtin.bitAnd o 64==0)=true:=by rw [h];decide
 cases r with
 |nil=>exact b.elim
 |cons x r =>
  refine ⟨λt=>pv1_cons.trans ((if_neg hn).trans (b.1 t)),.inr ?_⟩
  rcases b.2 with rfl |e
  ·exact pv1_nil.trans (if_neg hn)
  ·cases r with
   |nil=>exact pv1_nil.trans (if_neg hn)
   |cons y r=>exact pv1_cons.trans ((if_neg hn).trans e)
theorem Blk.pv {l t:List Int} {v:Int} (b:Blk l 0 v):Mine.pv (l++t)=some (v,t):=by
 cases l with
 |nil=>exact b.elim
 |cons o r =>
  have h:=b.1 t
  rw [Int.zero_mul,Int.zero_add] at h
  exact h
theorem Blk.pv_cut {l:List Int} {v:Int} (b:Blk l 0 v):Mine.pv l.dropLast=none:=by
 cases l with
 |nil=>exact b.elim
 |cons o r =>
  cases r with
  |nil=>rfl
  |cons x r =>
   rcases b.2 with h |h
   ·nomatch h
   ·rw [Int.zero_mul,Int.zero_add] at h;exact h
theorem Blk.pos {l:List Int} {a v:Int} (b:Blk l a v):1<=l.length:=by
 cases l with
 |nil=>exact b.elim
 |cons o r=>exact Nat.le_add_left 1 _
structure Tape (t vs:List Int):Prop where
 len:vs.length<=t.length
 all:∀ n u,Mine.rd (vs.length+n) (t++u)=vs++Mine.rd n u
 cut:∀ n,Mine.rd (vs.length+n) t.dropLast=vs.dropLast
theorem sw (n:Nat):rd n []=[]:=by
 cases n with
 |zero=>rfl
 |succ n=>rfl
theorem Tape.nil:Tape [] []:=⟨Nat.le_refl _,λn u=>by rw [List.length_nil,Nat.zero_add];rfl,λn=>sw _⟩
theorem yd {n:Nat} {xs:List Int} (h:pv xs=none):rd n xs=[]:=by
 cases n with
 |zero=>rfl
 |succ n=>exact oL h
theorem Tape.snoc {t vs b:List Int} {v:Int} (h:Tape t vs) (bk:Blk b 0 v):Tape (t++b) (vs++[v]):=by
 have hl:(vs++[v]).length=vs.length+1:=List.length_append
 refine ⟨?_,λn u=> ?_,λn=> ?_⟩
 ·rw [hl,List.length_append];exact Nat.add_le_add h.len bk.pos
 ·rw [hl,List.append_assoc,Nat.add_assoc,Nat.add_comm 1 n,h.all,oM bk.pv,List.append_assoc];rfl
 ·have hb:b≠[]:=List.length_pos_iff.mp bk.pos
  rw [hl,List.dropLast_append_of_ne_nil hb,Nat.add_assoc,h.all,yd bk.pv_cut,List.append_nil,List.dropLast_concat]
theorem Tape.rd {t vs:List Int} (h:Tape t vs) {n:Nat} (hn:vs.length<=n):Mine.rd n t=vs:=by
 have:=h.all (n - vs.length) []
 rw [Nat.add_sub_cancel' hn,List.append_nil,sw,List.append_nil] at this
 exact this
theorem Tape.rd_cut {t vs:List Int} (h:Tape t vs) {n:Nat} (hn:vs.length<=n):Mine.rd n t.dropLast=vs.dropLast:=by
 have:=h.cut (n - vs.length)
 rw [Nat.add_sub_cancel' hn] at this
 exact this
noncomputable def octN (v:Int) (L:Nat) (par:Nat->Int) (k:Nat):Int:=oct (v / 64 ^ (L - k) % 64) (decide (k<L)) (par k)
theorem qR (x:Int):0<=x % 64/\x % 64<64:=⟨Int.emod_nonneg x (by decide),Int.emod_lt_of_pos x (by decide)⟩
theorem qS (x:Int):x / 64 * 64+x % 64=x:=Int.ediv_mul_add_emod x 64
theorem gF (v:Int) (m:Nat):v / 64 ^ (m+1)=v / 64 ^ m / 64:=by rw [Int.ediv_ediv_of_nonneg (Int.le_of_lt (Int.pow_pos (by decide))),<- Int.pow_succ]
theorem qt {v:Int} {par:Nat->Int} (hp:∀ k,par k=0\/par k=1):∀ (m k L:Nat) (a:Int),k+m=L->a=v / 64 ^ (m+1)->Blk ((List.range' k (m+1)).map (octN v L par)) a v
 |0,k,_,a,rfl,ha=>by
  obtain ⟨f1,f2⟩:=qR v
  obtain ⟨h1,h2,Zz⟩:=rT (c:=false) f1 f2 (hp k)
  have b:=Blk.last (a:=a) h2
  rw [h1,ha,gF,show v / 64 ^ 0=v from Int.ediv_one v,qS] at b
  rw [ha,gF,show v / 64 ^ 0=v from Int.ediv_one v]
  show Blk [oct (v / 64 ^ (k - k) % 64) (decide (k<k)) (par k)] _ v
  rw [Nat.sub_self,decide_eq_false (Nat.lt_irrefl k),show v / 64 ^ 0=v from Int.ediv_one v]
  exact b
 |m+1,k,_,a,rfl,ha=>by
  obtain ⟨f1,f2⟩:=qR (v / 64 ^ (m+1))
  obtain ⟨h1,h2,Zz⟩:=rT (c:=true) f1 f2 (hp k)
  have b:=qt hp m (k+1) (k+(m+1)) (a * 64+oct (v / 64 ^ (m+1) % 64) true (par k) % 64) (Nat.succ_add_eq_add_succ k m) (by rw [h1,ha,gF v (m+1),qS])
  have e:octN v (k+(m+1)) par k=oct (v / 64 ^ (m+1) % 64) true (par k):=by
   unfold octN
   rw [Nat.add_sub_cancel_left,decide_eq_true (Nat.lt_add_of_pos_right (Nat.succ_pos m))]
  rw [List.range'_succ,List.map_cons,e]
  exact Blk.more h2 b
theorem cz {α:Type} (xs:List α) (lo hi:Option Int):pickL xs lo hi none=(xs.drop (lo.elim 0 (clipAt xs.length))).take (hi.elim xs.length (clipAt xs.length) - lo.elim 0 (clipAt xs.length)):=by
 unfold pickL
 rw [sliceBounds_plain]
 show (sliceRange _ _ 1).filterMap _=_
 rw [sliceRange_one]
 exact (congrArg (λf=>List.filterMap f _) (funext λi=>List.getElem?_toArray.symm)).trans (pick_run xs.toArray _ _)
theorem kJ (a b:Nat):min (a:Int) (b:Int)=((min a b:Nat):Int):=by
 rcases Nat.le_total a b with h |h
 ·rw [Nat.min_eq_left h,Int.min_eq_left (Int.ofNat_le.mpr h)]
 ·rw [Nat.min_eq_right h,Int.min_eq_right (Int.ofNat_le.mpr h)]
theorem fU (n i:Nat):clipAt n (i:Int)=min i n:=by
 unfold clipAt
 rw [if_neg (Int.not_lt.mpr (Int.natCast_nonneg i)),kJ,Int.max_eq_right (Int.natCast_nonneg _)];rfl
theorem uG (m:Nat) : -1+((m+1:Nat):Int)=m:=by rw [Int.natCast_succ,Int.add_comm,Int.add_assoc];exact Int.add_zero _
theorem wJ (n:Nat):clipAt n (-1)=n - 1:=by
 cases n with
 |zero=>rfl
 |succ m =>
  show (max 0 (min (-1+((m+1:Nat):Int)) ((m+1:Nat):Int))).toNat=m
  rw [uG,kJ,Nat.min_eq_left (Nat.le_succ m),Int.max_eq_right (Int.natCast_nonneg _)];rfl
theorem jR {α:Type} (xs:List α) (b:Nat):pickL xs none (some (b:Int)) none=xs.take b:=by
 rw [cz]
 show (xs.drop 0).take (clipAt xs.length (b:Int) - 0)=_
 rw [List.drop_zero,Nat.sub_zero,fU]
 exact List.take_eq_take_iff.mpr (by rw [Nat.min_assoc,Nat.min_self])
theorem lT {α:Type} (xs:List α) {k n:Nat} (h:k<=xs.length):pickL xs (some (k:Int)) (some ((k+n:Nat):Int)) none=(xs.drop k).take n:=by
 rw [cz]
 show (xs.drop (clipAt xs.length (k:Int))).take (clipAt xs.length ((k+n:Nat):Int) - clipAt xs.length (k:Int))=_
 rw [fU,fU,Nat.min_eq_left h]
 exact List.take_eq_take_iff.mpr (by rw [List.length_drop,<- Nat.sub_min_sub_right,Nat.add_sub_cancel_left,Nat.min_assoc,Nat.min_self])
theorem jQ {α:Type} (xs:List α) (a:Nat):pickL xs (some (a:Int)) none none=xs.drop a:=by
 rw [cz]
 show (xs.drop (clipAt xs.length (a:Int))).take (xs.length - clipAt xs.length (a:Int))=_
 rw [fU]
 by_cases h:a<=xs.length
 ·rw [Nat.min_eq_left h];exact List.take_of_length_le (Nat.le_of_eq List.length_drop)
 ·have h:=Nat.le_of_lt (Nat.lt_of_not_le h)
  rw [Nat.min_eq_right h,List.drop_length,List.drop_eq_nil_of_le h,List.take_nil]
theorem r9 {α:Type} (xs:List α):pickL xs none (some (-1)) none=xs.dropLast:=by
 rw [cz]
 show (xs.drop 0).take (clipAt xs.length (-1) - 0)=_
 rw [wJ,List.dropLast_eq_take];rfl
theorem bj {n:Nat} (h:n<=1048576):part? (.int (n:Int))=some (some (n:Int)):=aq (cE h) rfl
section
variable {l u st:D} {l' u' st':Option Int} (h1:part? l=some l') (h2:part? u=some u') (h3:part? st=some st') (h0:¬ (st'==some 0)=true)
include h1 h2 h3 h0
theorem eV {xs ys:List D} (hs:xs.length<=1048576) (h:pickL xs l' u' st'=ys):sliD (.list xs) l u st=some (.list ys):=ad h1 (ad h2 (ad h3 ((if_neg h0).trans (aq (ah hs) (by rw [h])))))
theorem qe {t ys:List Nat} (hs:t.length<=1000) (h:pickL t l' u' st'=ys):sliD (.str (mk t)) l u st=some (.str (mk ys)):=ad h1 (ad h2 (ad h3 ((if_neg h0).trans (aq (cn hs) (by rw [ca,h];rfl)))))
end
theorem md {xs:List D} (h:xs.length<=1048576):sliD (.list xs) .none (.int (-1)) .none=some (.list xs.dropLast):=eV (l':=none) (u':=some (-1)) (st':=none) rfl rfl rfl Bool.false_ne_true h (r9 _)
theorem uU {xs:List D} {k:Nat} (h:xs.length<=1048576) (hk:k<=1048576):sliD (.list xs) (.int (k:Int)) .none .none=some (.list (xs.drop k)):=eV (u':=none) (st':=none) (bj hk) rfl rfl Bool.false_ne_true h (jQ _ _)
theorem jV {xs:List D} {n:Nat} (h:xs.length<=1048576) (hn:n<=1048576):sliD (.list xs) .none (.int (n:Int)) .none=some (.list (xs.take n)):=eV (l':=none) (st':=none) rfl (bj hn) rfl Bool.false_ne_true h (jR _ _)
theorem gZ {t:List Nat} {n:Nat} (ht:t.length<=1000) (hn:n<=1048576):sliD (.str (mk t)) .none (.int (n:Int)) .none=some (.str (mk (t.take n))):=qe (l':=none) (st':=none) rfl (bj hn) rfl Bool.false_ne_true ht (jR _ _)
theorem yh {t:List Nat} {k n:Nat} (ht:t.length<=1000) (hk:k<=t.length) (hn:n<=1000):sliD (.str (mk t)) (.int (k:Int)) (.int ((k+n:Nat):Int)) .none=some (.str (mk ((t.drop k).take n))) :=
 qe (st':=none) (bj (Nat.le_trans hk (Nat.le_trans ht (by decide)))) (bj (Nat.le_trans (Nat.add_le_add (Nat.le_trans hk ht) hn) (by decide))) rfl Bool.false_ne_true ht (lT _ hk)
theorem xI {α:Type} {f:α->D} {l:List α} {k:Nat} (z:α) (h:k<l.length):(l.map f)[k]? = some (f (l.getD k z)):=by
 rw [List.getElem?_map,List.getD_eq_getElem?_getD,List.getElem?_eq_getElem h];rfl
theorem pJ {α:Type} {f:α->D} {l:List α} {k:Nat} (z:α) (h:k<l.length) (hl:l.length<=1048576):idxL (l.map f) (k:Int)=some (f (l.getD k z)):=db (xI z h) (by rw [List.length_map];exact hl)
noncomputable def dn (l:List Nat):D:= .list (l.map λ(n:Nat)=>D.int (n:Int))
noncomputable def o (d:D):Option (D×Bool):=some (d,false)
theorem ug {l:List Nat} {k:Nat} (h:k<l.length) (hl:l.length<=1048576):idxD (dn l) (.int (k:Int))=some (.int ((l.getD k 0:Nat):Int)):=pJ (f:=λn:Nat=>D.int (n:Int)) 0 h hl
theorem fj {xs ys:List Nat} (h1:xs.length<=1048576) (h2:ys.length<=1048576):binD .Add (dn xs) (dn ys)=some (dn (xs++ys)) :=
 (qq (by rw [List.length_map];exact h1) (by rw [List.length_map];exact h2)).trans (congrArg (some ∘ D.list) List.map_append.symm)
theorem BA (m n:Nat):((m:Int)).fmod (n:Int)=((m % n:Nat):Int):=by
 rw [Int.fmod_eq_emod_of_nonneg _ (Int.natCast_nonneg _)];rfl
theorem Bz (m n:Nat):((m:Int)).fdiv (n:Int)=((m / n:Nat):Int):=by
 rw [Int.fdiv_eq_ediv_of_nonneg _ (Int.natCast_nonneg _)];rfl
theorem BX (m k:Nat):((m:Int)).fdiv (2 ^ k)=((m / 2 ^ k:Nat):Int):=by
 rw [show (2:Int) ^ k=((2 ^ k:Nat):Int) from (Int.natCast_pow 2 k).symm,Bz]
theorem pt (a b:Nat):cmpD .Eq (.int (a:Int)) (.int (b:Int))=some (decide (a=b)):=by
 refine congrArg some ?_
 by_cases h:a=b
 ·rw [decide_eq_true h];exact beq_iff_eq.mpr (congrArg Int.ofNat h)
 ·rw [decide_eq_false h];exact beq_eq_false_iff_ne.mpr λe=>h (Int.ofNat.inj e)
theorem A3 (a b:Nat):cmpD .Lt (.int (a:Int)) (.int (b:Int))=some (decide (a<b)):=congrArg some (decide_eq_decide.mpr Int.ofNat_lt)
theorem vG (a b:Nat):cmpD .GtE (.int (a:Int)) (.int (b:Int))=some (decide (b<=a)):=congrArg some (decide_eq_decide.mpr Int.ofNat_le)
theorem zi (a b:List Nat):eqD (.str (mk a)) (.str (mk b))=some (a==b):=congrArg some (lH a b)
section
variable {G:ag} {F:FEnv} {O:MEnv} {b:Bool} {a c:T} {m n k:Nat}
theorem bR (n:Nat) (h:ev G F O true a=some (.int (m:Int))) (hn:n≠0):ev G F O b (.bin .Mod a (.cst (.int (n:Int))))=some (.int ((m % n:Nat):Int)) :=
 af h ak ((pj λe=>hn (Int.ofNat.inj e)).trans (congrArg (some ∘ D.int) (BA m n)))
theorem mH (h:ev G F O true a=some (.int (m:Int))) (h2:ev G F O true c=some (.int (n:Int))) (hn:n≠0) (hs:n<=1000000):ev G F O b (.bin .FloorDiv a c)=some (.int ((m / n:Nat):Int)) :=
 af h h2 ((AW (λe=>hn (Int.ofNat.inj e)) (aV hs)).trans (congrArg (some ∘ D.int) (Bz m n)))
theorem cR (n:Nat) (h:ev G F O true a=some (.int (m:Int))) (hn:n≠0) (hs:n<=1000000):ev G F O b (.bin .FloorDiv a (.cst (.int (n:Int))))=some (.int ((m / n:Nat):Int)):=mH h ak hn hs
theorem aM (h:ev G F O true a=some (.int (m:Int))) (h2:ev G F O true c=some (.int (n:Int))):ev G F O b (.bin .Add a c)=some (.int ((m+n:Nat):Int)):=af h h2 rfl
theorem wg (h:ev G F O true a=some (.int (m:Int))) (h2:ev G F O true c=some (.int (n:Int))) (hm:m<=1000000) (hn:n<=1000000):ev G F O b (.bin .Mult a c)=some (.int ((m * n:Nat):Int)):=af h h2 (cM (aV hm) (aV hn))
theorem BJ (m:Nat):Builtin.bitAnd (m:Int) 1=((m % 2:Nat):Int):=(hV m 1).trans (congrArg _ (Nat.and_one_is_mod m))
theorem Bu (h:ev G F O true a=some (.int (m:Int))) (h2:ev G F O true c=some (.int (k:Int))):ev G F O b (.bin .BitAnd (.bin .RShift a c) (.cst (.int 1)))=some (.int ((m / 2 ^ k % 2:Nat):Int)) :=
 af (af h h2 ((AZ (Int.natCast_nonneg _)).trans (congrArg (some ∘ D.int) (BX m k)))) ak (congrArg (some ∘ D.int) (BJ _))
theorem qh {m:Nat}:truthy (.int ((m % 2:Nat):Int))=some (decide (m % 2=1)):=by
 rcases Nat.mod_two_eq_zero_or_one m with h |h<;>rw [h]<;>rfl
end
theorem getD_mem {f:List Nat} {k:Nat} (h:k<f.length):f.getD k 0∈f:=by
 rw [List.getD_eq_getElem?_getD,List.getElem?_eq_getElem h]
 exact List.getElem_mem h
section
variable {α:Type} {f:α->D}
noncomputable def lst {α:Type} (f:α->D) (l:List α):D:= .list (l.map f)
theorem n9 {xs ys:List α} (h1:xs.length<=1048576) (h2:ys.length<=1048576):binD .Add (lst f xs) (lst f ys)=some (lst f (xs++ys)) :=
 (qq (by rw [List.length_map];exact h1) (by rw [List.length_map];exact h2)).trans (congrArg (some ∘ D.list) List.map_append.symm)
end
theorem fJ:1<=1048576:=by decide
noncomputable def greatN:List Nat:=[119808,119860,119912,120016,120172,120224,120276,120328,120380,120432]
noncomputable def uN:List Nat:=[173,847,6150,6155,6156,6157,8203,8204,8205,8288,65279,65024,65025,65026,65027,65028,65029,65030,65031,65032,65033,65034,65035,65036,65037,65038,65039]
noncomputable def ptN (f c:Nat):Nat:=cond (decide (f=0)) c (cond (decide (f=1)) (c - 32) (greatN.getD (f - 2) 0+c - 97))
noncomputable def dI (n:Nat):D:= .int (n:Int)
section
variable {G:ag} {F:FEnv} {O:MEnv} {b:Bool} {a c e t u:T} {d:D}
theorem cG {α:Type} (f:α->D) {r:Bool} {x y:α} (h:ev G F O true c=some d) (ht:truthy d=some r) (h1:r=true->ev G F O b t=some (f x)) (h2:r=false->ev G F O b u=some (f y)):ev G F O b (.ite c t u)=some (f (cond r x y)):=ki h ht (λq=>(h1 q).trans (by rw [q];rfl)) λq=>(h2 q).trans (by rw [q];rfl)
theorem bT {m n:Nat} (h:ev G F O true a=some (.int (m:Int))) (h2:ev G F O true c=some (.int (n:Int))) (hn:n<=m):ev G F O b (.bin .Sub a c)=some (.int ((m - n:Nat):Int)):=af h h2 (congrArg (some ∘ D.int) (sR hn))
theorem BT {m n:Nat} (h:ev G F O true a=some (.int (m:Int))) (h2:ev G F O true c=some (.int (n:Int))):ev G F O b (.cmp .Eq a c)=some (.bool (decide (m=n))):=aj h h2 (pt m n)
theorem dU {cs:List Nat} {k c:Nat} (h:cs[k]? = some c) (hl:cs.length<=1000):idxD (.str (mk cs)) (.int (k:Int))=some (.str ⟨#[c]⟩):=by
 show idxL ((mk cs).cps.toList.map λc=>D.str ⟨#[c]⟩) _=_
 rw [ca]
 exact db (by rw [List.getElem?_map,h];rfl) (by rw [List.length_map];exact Nat.le_trans hl (by decide))
end
theorem vX (j:Nat):(2:Int) ^ (6 * j)=64 ^ j:=by rw [Int.pow_mul];rfl
noncomputable def lastN (v:Int):Nat:=(Builtin.Int.intBits v - 1) / 6
theorem xB {v:Int} (h:0<=v):v<64 ^ (lastN v+1):=by
 rw [<- vX,<- bX v h]
 exact Nat.le_of_pred_lt (Nat.lt_mul_div_succ _ (by decide))
theorem nY {v:Int} {M:Nat} (h:0<=v) (hM:v<64 ^ (M+1)):lastN v<=M:=by
 rw [<- vX,<- bX v h] at hM
 exact Nat.le_of_lt_succ (Nat.div_lt_of_lt_mul (Nat.lt_of_le_of_lt (Nat.sub_le_sub_right hM 1) (Nat.sub_one_lt (Nat.succ_ne_zero _))))
noncomputable def parN (n k:Nat):Int:=((n+k) % 2:Nat)
noncomputable def blkN (v:Int) (n:Nat):List Int:=(List.range (lastN v+1)).map (octN v (lastN v) (parN n))
theorem xX (n k:Nat):parN n k=0\/parN n k=1:=(Nat.mod_two_eq_zero_or_one (n+k)).imp (congrArg Int.ofNat) (congrArg Int.ofNat)
theorem wA {v:Int} (h:0<=v) (n:Nat):Blk (blkN v n) 0 v:=by
 unfold blkN
 rw [List.range_eq_range']
 exact qt (xX n) (lastN v) 0 (lastN v) 0 (Nat.zero_add _) (Int.ediv_eq_zero_of_lt h (xB h)).symm
theorem kE {v:Int} {M:Nat} (h:0<=v) (hM:v<64 ^ (M+1)) (n:Nat):(blkN v n).length<=M+1:=by
 unfold blkN
 rw [List.length_map,List.length_range]
 exact Nat.succ_le_succ (nY h hM)
noncomputable def tapeN:List Int->List Int->List Int
 |os,[]=>os
 |os,v :: vs=>tapeN (os++blkN v os.length) vs
theorem mw:∀ (vs os ws:List Int),Tape os ws->(∀ v∈vs,0<=v)->Tape (tapeN os vs) (ws++vs)
 | [],os,ws,h,_=>by rw [List.append_nil];exact h
 |v :: vs,os,ws,h,h0=>by
  have:=mw vs (os++blkN v os.length) (ws++[v]) (h.snoc (wA (h0 v List.mem_cons_self) _)) λx hx=>h0 x (List.mem_cons_of_mem _ hx)
  rw [List.append_assoc] at this
  exact this
theorem j3 {n m B k L:Nat} (h:n+B * (L+1)<=m) (hk:k<=B):n+k+B * L<=m:=by
 rw [Nat.mul_succ,Nat.add_comm (B * L),<- Nat.add_assoc] at h
 exact Nat.le_trans (Nat.add_le_add_right (Nat.add_le_add_left hk n) _) h
theorem j2 {M m:Nat}:∀ (vs os:List Int),(∀ v∈vs,0<=v/\v<64 ^ (M+1))->os.length+(M+1) * vs.length<=m->(tapeN os vs).length<=m
 | [],os,_,hl=>hl
 |v :: vs,os,h,hl=>j2 vs (os++blkN v os.length) (λx hx=>h x (List.mem_cons_of_mem _ hx)) (by
  rw [List.length_append]
  exact j3 hl (kE (h v List.mem_cons_self).1 (h v List.mem_cons_self).2 _))
noncomputable abbrev dZ (l:List Int):D:=lst D.int l
theorem lA {os:List Int} (ho:os.length<=100000):bltD .len [dZ os]=some (dI os.length):=(fT (by rw [List.length_map];exact Nat.le_trans ho (by decide))).trans (by rw [List.length_map];rfl)
section
variable {G:ag} {F:FEnv}
theorem vm {O:MEnv} {b:Bool} {a c:T} {m n:Nat} (h:ev G F O true a=some (.int (m:Int))) (h2:ev G F O true c=some (.int (n:Int))):ev G F O b (.cmp .Lt a c)=some (.bool (decide (m<n))):=aj h h2 (A3 m n)
theorem bD {O:MEnv} {b:Bool} {a:T} {w:List Nat} (h:ev G F O true a=some (.str (mk w))) (hw:w.length<=1000):ev G F O b (.blt .len (.cons a .nil))=some (dI w.length) :=
 aG (aB h) ((yZ (by rw [ax];exact Nat.le_trans hw (by decide))).trans (by rw [ax];rfl))
end
theorem lr:∀ (xs:List Nat),ints? (xs.map dI)=some (xs.map λn:Nat=>(n:Int))
 | []=>rfl
 |x :: xs=>ad (a:=(x:Int)) rfl (aQ (lr xs) rfl)
theorem rH (d:Nat):∀ xs:List Nat,memD (dI d) (xs.map dI)=some (xs.contains d)
 | []=>rfl
 |x :: xs=>ad (pt x d) (aQ (rH d xs) (congrArg (· || xs.contains d) (decide_eq_decide.mpr eq_comm)))
theorem vF (a b:List Nat):cmpD .Eq (.str (mk a)) (.str (mk b))=some (a==b):=zi a b
noncomputable def iN (l:List Nat):List Int:=l.map λ(n:Nat)=>(n:Int)
theorem fY (l:List Nat):dn l=dZ (iN l):=congrArg D.list List.map_map.symm
structure BW (b1L:List Int) (b3L:List (Int×Str)) (f c:Nat):Prop where
 b1:b1L.contains ((ptN f c:Nat):Int)=false
 b3:b3v b3L (ptN f c)=⟨#[c]⟩
 u:uN.contains (ptN f c)=false
 pos:0<ptN f c
 lt:ptN f c<131072
structure ky (b1L:List Int) (b3L:List (Int×Str)):Prop where
 u:uN.all (λu=>b1L.contains (u:Int)&&decide (u<131072))=true
 l:((List.range 12).all λf=>(List.range 26).all λc=> !b1L.contains ((ptN f (97+c):Nat):Int)&&(b3v b3L (ptN f (97+c))==⟨#[97+c]⟩) && !uN.contains (ptN f (97+c))&&decide (0<ptN f (97+c))&&decide (ptN f (97+c)<131072))=true
def isLt (c:Nat):Prop:=∃ k,k<26/\c=97+k
theorem isLt.le {c:Nat} (h:isLt c):97<=c:=let ⟨k,_,e⟩:=h;e▸Nat.le_add_right 97 k
section
variable {b1L:List Int} {b3L:List (Int×Str)} (P:ky b1L b3L)
include P
theorem Bl {f c:Nat} (hf:f<12) (hc:isLt c):BW b1L b3L f c:=by
 obtain ⟨k,hk,rfl⟩:=hc
 exact aa (List.all_eq_true.mp (List.all_eq_true.mp P.l f (List.mem_range.mpr hf)) k (List.mem_range.mpr hk)) λh h5=>aa h λh h4=>aa h λh h3=>aa h λh1 h2=>⟨nt h1,eq_of_beq h2,nt h3,de h4,de h5⟩
end
noncomputable def wordsL:List Str:=["OPTIMIZED","NEWLOCALS","VARARGS","VARKEYWORDS","NESTED","GENERATOR","NOFREE","COROUTINE","ITERABLE_COROUTINE","ASYNC_GENERATOR"]
noncomputable def flagsS:Str:="OPTIMIZED NEWLOCALS VARARGS VARKEYWORDS NESTED GENERATOR NOFREE COROUTINE ITERABLE_COROUTINE ASYNC_GENERATOR"
theorem mO:Txt.split flagsS " "=wordsL:=by decide +kernel
noncomputable def digS (k:Nat):Str:=["1","2","4","8"].getD k ""
noncomputable def wordN (k:Nat):Str:=cond (decide (k<10)) (wordsL.getD k "") (("0x":Str)++digS (k % 4)++rep "0" (k / 4))
theorem wS:∀ {j:Nat},j<4->idxD (.str "1248") (dI j)=some (.str (digS j))
 |0,_=>rfl
 |1,_=>rfl
 |2,_=>rfl
 |3,_=>rfl
 |n+4,h=>absurd h (Nat.not_lt.mpr (Nat.le_add_left 4 n))
theorem ye:∀ n<8,(rep "0" n).length<=1048576:=by decide
theorem oH:∀ j<4,(("0x":Str)++digS j).length<=1048576/\(digS j).length<=1048576:=by decide
theorem xh:methD .split (.str flagsS) [.str " "]=some (.list (wordsL.map .str)):=(og (by decide +kernel) (by decide)).trans (by rw [mO])
theorem fh {x y:Str} (h1:x.length<=1048576) (h2:y.length<=1048576):binD .Add (.str x) (.str y)=some (.str (x++y)):=aq (c:=(sizeOk x.length&&sizeOk y.length)=true) (by rw [ah h1,ah h2];rfl) rfl
theorem AY {n:Nat} (h:n<8):binD .Mult (.str "0") (dI n)=some (.str (rep "0" n)):=by
 show (if (sizeOk (1 * n)&&idxOk (n:Int))=true then some (D.str (rep "0" n)) else none)=_
 rw [Nat.one_mul,ah (Nat.le_trans (Nat.le_of_lt h) (by decide)),cE (Nat.le_trans (Nat.le_of_lt h) (by decide))];rfl
theorem fH {i j:Nat} {d e:D} {l:List (Nat×D)} {P:Prop} (h:((i,d) :: l).lookup j=some e) (k1:j=i->d=e->P) (k2:i≠j->l.lookup j=some e->P):P:=by
 rw [List.lookup_cons] at h
 by_cases q:j=i
 ·rw [beq_iff_eq.mpr q] at h;exact k1 q (sm h)
 ·rw [beq_eq_false_iff_ne.mpr q] at h;exact k2 (Ne.symm q) h
theorem gV {α β:Type} (f:α->β) (xs:List α) (lo hi st:Option Int):pickL (xs.map f) lo hi st=(pickL xs lo hi st).map f:=by
 unfold pickL
 rw [List.length_map,List.map_filterMap]
 exact congrArg (List.filterMap · _) (funext λi=>List.getElem?_map)
theorem sU {B:Nat}:∀ {l:List Nat},(∀ x∈l,x<=B)->l.sum<=l.length * B
 | [],_=>Nat.zero_le _
 |x :: l,h=>by
  rw [List.sum_cons,List.length_cons,Nat.succ_mul,Nat.add_comm]
  exact Nat.add_le_add (sU λy hy=>h y (List.mem_cons_of_mem _ hy)) (h x List.mem_cons_self)
theorem oV:∀ l:List Nat,(l.map λn:Nat=>(n:Int)).sum=((l.sum:Nat):Int)
 | []=>rfl
 |x :: l=>by
  rw [List.map_cons,List.sum_cons,List.sum_cons,oV l];rfl
theorem qg {l:List Nat} (h:l.length<=1048576):bltD .sum [dn l]=some (dI l.sum):=by
 show (if sizeOk (l.map dI).length then (ints? (l.map dI)).map (λns=>D.int ns.sum) else none)=_
 exact aq (ah (by rw [List.length_map];exact h)) (aQ (lr l) (congrArg D.int (oV l)))
noncomputable def drawZ (ns:List Int):List Nat:=(ns.take 60).map λx=>(x.fmod 1000000000).toNat
theorem jD (ns:List Int):(drawZ ns).length<=60:=by unfold drawZ;rw [List.length_map,List.length_take];exact Nat.min_le_left _ _
theorem BQ (x:Int):x.fmod 1000000000=(((x.fmod 1000000000).toNat:Nat):Int)/\(x.fmod 1000000000).toNat<=1000000000:=by
 obtain ⟨h1,h2⟩:=d8 (b:=1000000000) (by decide) x
 exact ⟨(Int.toNat_of_nonneg h1).symm,Int.toNat_le.mpr (Int.le_of_lt h2)⟩
theorem fO {a:Int} {k:Nat} (h0:0<=a) (h:a<2 ^ k) (hk:k<=4000):small a=true:=by
 obtain ⟨n,rfl⟩:=Int.eq_ofNat_of_zero_le h0
 rw [show (2:Int) ^ k=((2 ^ k:Nat):Int) from (Int.natCast_pow 2 k).symm] at h
 unfold small BIG
 exact decide_eq_true (Nat.lt_of_lt_of_le (Int.ofNat_lt.mp h) (Nat.pow_le_pow_right (by decide) hk))
theorem ei {d:D} (h:eqD d d=some true):cmpD .NotEq d d=some false:=congrArg (Option.map (!·)) h
theorem rM (a:Int):cmpD .NotEq (.int a) (.int a)=some false:=ei (congrArg some (beq_self_eq_true _))
theorem xQ (l:List Int):cmpD .NotEq (dZ l) (dZ l)=some false:=ei ((tV l l).trans (congrArg some (beq_self_eq_true _)))
theorem zk (x:Str):eqD (.str x) (.str x)=some true:=congrArg some (beq_self_eq_true x)
theorem vR {m:Nat} {l:List Nat} (h:∀ x∈l,x<2 ^ m):∀ d∈iN l,0<=d/\d<2 ^ m:=λd hd=>by
 obtain ⟨x,hx,rfl⟩:=List.mem_map.mp hd
 rw [show (2:Int) ^ m=((2 ^ m:Nat):Int) from (Int.natCast_pow 2 m).symm]
 exact ⟨Int.natCast_nonneg x,Int.ofNat_lt.mpr (h x hx)⟩
theorem rb {l:List Nat}:(iN l).length=l.length:=List.length_map _
theorem wP {os:List Int} (h:os.length<=1048576):sliD (dZ os) .none (.int (-1)) .none=some (dZ os.dropLast):=(md (by rw [List.length_map];exact h)).trans (congrArg (some ∘ D.list) (List.map_dropLast).symm)
theorem oN {os:List Int} (h:os.length<=600):readSpec [dZ os]=some (dZ (rd (os.length+1) os)):=ad (a:=dZ os) rfl (ad (a:=os.map .int) rfl (ad (a:=os) eU (aq (decide_eq_true h) rfl)))
section
variable {G:ag} {F:FEnv} {O:MEnv}
noncomputable def iPair (p:Nat×Nat):D:= .tup [dI p.1,dI p.2]
theorem qN {α:Type} {b:Bool} {elt it it2:T} {k:IK} {i j:Nat} {l:List α} {f g:α->D} {y:α->D} (he:enumOk false k=true) (hf:feedD k (ev G F O true it) (ev G F O true it2)=some (l.map λa=> .tup [f a,g a])) (hi:i<O.length) (hj:j<O.length) (hij:i≠j)
  (hy:∀ a∈l,∀ O',getE O' i=o (f a)->getE O' j=o (g a)->(∀ m,m≠i->m≠j->getE O' m=getE O m)->ev G F O' false elt=some (y a)):ev G F O b (.comp elt [i,j] false k it it2 (.cst (.bool true)) [i,j])=some (.list (l.map y)) :=
 tX (τ:=λa=>setE (setE (clearE (clearE O [i]) [j]) i (f a) false) j (g a) false) he hf (λa Zz=>rfl) λa ha=>hy a ha _
  ((aR (Ne.symm hij)).trans (bc (by rw [bF,bF];exact hi))) (bc (by rw [setE_len,bF,bF];exact hj)) λm h1 h2=>(aR (Ne.symm h2)).trans ((aR (Ne.symm h1)).trans ((fC h2).trans (fC h1)))
end
theorem z0 {α:Type}:∀ {l:List α},l.length<=3->pickL l none none (some (-1))=l.reverse
 | [],_=>by kernel_rfl
 | [_],_=>by kernel_rfl
 | [_,_],_=>by kernel_rfl
 | [_,_,_],_=>by kernel_rfl
 |_ :: _ :: _ :: _ :: _,h=>absurd h (Nat.not_le.mpr (Nat.le_add_left 4 _))
theorem qT (v:Int) (k:Nat):v / 64 ^ (k+1)=v / 64 / 64 ^ k:=by
 rw [Int.ediv_ediv_of_nonneg (by decide),Int.pow_succ,Int.mul_comm]
theorem vf {x u:Int} (h:0<=x/\x<2 ^ 6):(x+2 ^ 6 * u) / 64=u:=by
 show (x+64 * u) / 64=u
 rw [Int.add_mul_ediv_left _ _ (by decide),Int.ediv_eq_zero_of_lt h.1 (show x<64 from h.2),Int.zero_add]
theorem qG:∀ {ds:List Int} {k:Nat} {d:Int},(∀ d∈ds,0<=d/\d<2 ^ 6)->ds[k]? = some d->d=und 6 ds / 64 ^ k % 64
 | [],_,_,_,e=>nomatch e
 |x :: r,0,d,h,e=>by
  obtain rfl:=sm e
  show x=(x+2 ^ 6 * und 6 r) / 64 ^ 0 % 64
  rw [show (64:Int) ^ 0=1 from rfl,Int.ediv_one]
  exact (mB 6 (h x List.mem_cons_self) _).symm
 |x :: r,k+1,d,h,e=>by
  have ih:=qG (k:=k) (λd hd=>h d (List.mem_cons_of_mem _ hd)) e
  show d=(x+2 ^ 6 * und 6 r) / 64 ^ (k+1) % 64
  rw [qT,vf (h x List.mem_cons_self)]
  exact ih
noncomputable def figs (v:Int):List Int:=(i2d v 6).reverse
noncomputable def figN (v:Int) (L k:Nat):Int:=v / 64 ^ (L - k) % 64
theorem xc {v:Int} (h0:0<v) (hs:small v=true):(figs v).length=lastN v+1/\∀ p,p<=lastN v->(figs v)[p]? = some (figN v (lastN v) p):=by
 obtain ⟨g1,g2,Zz,Zz⟩:=f9 (n:=6) (Int.le_of_lt h0) hs (by decide) (by decide)
 obtain ⟨l1,Zz,l2⟩:=pP (n:=6) hs (by decide) (by decide)
 have hz:v≠0:=Int.ne_of_gt h0
 have hb:1<=Builtin.Int.intBits v:=Nat.lt_of_not_le λq=>by
  have:=(bX v (Int.le_of_lt h0) 0).mp q
  rw [show (2:Int) ^ 0=1 from rfl] at this
  exact Int.not_lt.mpr h0 this
 have hl:(i2d v 6).length=lastN v+1:=by
  unfold i2d
  rw [if_neg hz,bZ _ _ _ _ (l2 hz) (dc l1)]
  show (Builtin.Int.intBits v+6 - 1) / 6=(Builtin.Int.intBits v - 1) / 6+1
  obtain ⟨b,e⟩:=Nat.exists_eq_add_of_le hb
  rw [e,Nat.add_comm 1 b]
  exact Nat.add_div_right b (by decide)
 refine ⟨(List.length_reverse).trans hl,λp hp=> ?_⟩
 have hp':p<(i2d v 6).length:=by rw [hl];exact Nat.lt_succ_of_le hp
 unfold figs
 rw [List.getElem?_reverse hp',hl,Nat.add_sub_cancel]
 have hk:lastN v - p<(i2d v 6).length:=by rw [hl];exact Nat.lt_succ_of_le (Nat.sub_le _ _)
 rw [List.getElem?_eq_getElem hk]
 have d:=qG g2 (List.getElem?_eq_getElem hk)
 rw [d,g1];rfl
section
variable {G:ag} {F:FEnv} {x0:Option (D×Bool)}
noncomputable def ocE (x0:Option (D×Bool)) (os:List Int) (x2 x3 x4:Option (D×Bool)):MEnv:=[x0,some (dZ os,true),x2,x3,x4]
theorem uH {v:Int} {n p:Nat} {os fs:List Int} {x2 x4:Option (D×Bool)} (hp:p<=lastN v) (hL:lastN v<=2) (fl:fs.length=lastN v+1) (fg:fs[p]? = some (figN v (lastN v) p)) (hl:os.length=n+p) (hz:os.length<=100000) :
  bodyT G F [4] true s1B3 (ocE x0 os x2 (o (dZ fs)) x4) (dI p)=some (ocE x0 (os++[octN v (lastN v) (parN n) p]) x2 (o (dZ fs)) (o (dI p)),.next):=by
 have fz:fs.length<=100000:=by rw [fl];exact Nat.le_trans (Nat.succ_le_succ hL) (by decide)
 have fg':(fs.map D.int)[p]? = some (.int (figN v (lastN v) p)):=by rw [List.getElem?_map,fg];rfl
 refine ad (a:=ocE x0 os x2 (o (dZ fs)) (o (dI p))) rfl (gk (xs:=os.map .int) rfl (ah (by rw [List.length_map];exact Nat.le_trans hz (by decide))) (d:= .int (octN v (lastN v) (parN n) p)) ?_ ?_)
 ·refine af (af (x:= .int (figN v (lastN v) p)) (aD (x:=dZ fs) (y:=dI p) rfl rfl (db fg' (by rw [List.length_map];exact Nat.le_trans fz (by decide)))) (cG D.int (x:=64) (y:=0) (vm (m:=p+1) (n:=lastN v+1) (aM (m:=p) (n:=1) rfl ak) (aG (aB rfl) ((lA fz).trans (by rw [fl];rfl)))) rfl (λZz=>rfl) λZz=>rfl) rfl)
   (wg (m:=128) ak (bR 2 (aG (aB (aX rfl)) (lA hz)) (by decide)) (by decide) (Nat.le_of_lt (Nat.lt_of_lt_of_le (Nat.mod_lt _ (by decide)) (by decide)))) ?_
  rw [hl]
  unfold octN oct
  rw [show decide (p+1<lastN v+1)=decide (p<lastN v) from decide_eq_decide.mpr Nat.add_lt_add_iff_right];rfl
 ·unfold ocE dZ lst
  rw [List.map_append];rfl
theorem lN {v:Int} {n:Nat} {fs:List Int} {x2:Option (D×Bool)} (hL:lastN v<=2) (fl:fs.length=lastN v+1) (fg:∀ p,p<=lastN v->fs[p]? = some (figN v (lastN v) p)):∀ (m p:Nat) (os:List Int) (x4:Option (D×Bool)),p+m=lastN v+1->os.length=n+p->os.length+m<=100000 ->
  ∃ y4,loopL (bodyT G F [4] true s1B3) (ocE x0 os x2 (o (dZ fs)) x4) ((List.range' p m).map dI)=some (ocE x0 (os++(List.range' p m).map (octN v (lastN v) (parN n))) x2 (o (dZ fs)) y4,.next)
 |0,p,os,x4,_,_,_=>⟨x4,by rw [List.range'_zero,List.map_nil,List.map_nil,List.append_nil];rfl⟩
 |m+1,p,os,x4,he,hl,hz =>
  let ⟨y4,ih⟩:=lN (n:=n) hL fl fg m (p+1) (os++[octN v (lastN v) (parN n) p]) (o (dI p)) (by rw [Nat.succ_add_eq_add_succ];exact he) (by rw [List.length_append,hl];rfl) (by rw [List.length_append,Nat.add_assoc];exact Nat.le_trans (Nat.le_of_eq (congrArg (os.length + ·) (Nat.add_comm 1 m))) hz)
  have hp:p<=lastN v:=Nat.succ.inj he▸Nat.le_add_right p m
  ⟨y4,aw (uH hp hL fl (fg p hp) hl (Nat.le_trans (Nat.le_add_right _ _) hz)) (ih.trans (by rw [List.append_assoc];rfl))⟩
variable (hI:∀ ds,F "_int2digits" ds=i2dSpec ds)
include hI
theorem uI {v:Int} {os:List Int} {x2 x3 x4:Option (D×Bool)} (h0:0<v) (h:v<64 ^ 3) (hz:os.length+3<=100000) :
  ∃ y4,bodyT G F [2] true s1B4 (ocE x0 os x2 x3 x4) (.int v)=some (ocE x0 (os++blkN v os.length) (o (.int v)) (o (dZ (figs v))) y4,.next):=by
 have hL:lastN v<=2:=nY (Int.le_of_lt h0) h
 have hs:small v=true:=fO (k:=18) (Int.le_of_lt h0) h (by decide)
 obtain ⟨fl,fg⟩:=xc h0 hs
 have f3:(i2d v 6).length<=3:=by rw [<- List.length_reverse];exact Nat.le_trans (Nat.le_of_eq fl) (Nat.succ_le_succ hL)
 obtain ⟨y4,e⟩:=lN (G:=G) (F:=F) (x0:=x0) (x2:=o (.int v)) (n:=os.length) hL fl fg (lastN v+1) 0 os x4 (Nat.zero_add _) rfl (Nat.le_trans (Nat.add_le_add_left (Nat.succ_le_succ hL) _) hz)
 rw [<- List.range_eq_range'] at e
 exact ⟨y4,ad (a:=ocE x0 os (o (.int v)) x3 x4) rfl (aE (d:=dZ (figs v)) (a7 (x:=dZ (i2d v 6)) (s':= .int (-1)) (au (aC (x:= .int v) (y:= .int ((6:Nat):Int)) rfl ak) ((hI _).trans (gK (Int.le_of_lt h0) hs (by decide) (by decide)))) ao ao rfl (eV (l':=none) (u':=none) (st':=some (-1)) rfl rfl rfl (by decide) (by rw [List.length_map];exact Nat.le_trans f3 (by decide)) ((gV _ _ _ _ _).trans (by rw [z0 f3];rfl))))
  (cB rfl (gD (b:=true) (n:=lastN v+1) (aG (aB rfl) ((lA (by rw [fl];exact Nat.le_trans (Nat.succ_le_succ hL) (by decide))).trans (by rw [fl];rfl))) (Nat.le_trans (Nat.succ_le_succ hL) (by decide))) e rfl))⟩
theorem lO:∀ (vs os:List Int) (x2 x3 x4:Option (D×Bool)),(∀ v∈vs,0<v/\v<64 ^ 3)->os.length+3 * vs.length<=100000 ->
  ∃ y2 y3 y4,loopL (bodyT G F [2] true s1B4) (ocE x0 os x2 x3 x4) (vs.map .int)=some (ocE x0 (tapeN os vs) y2 y3 y4,.next)
 | [],os,x2,x3,x4,_,_=>⟨x2,x3,x4,rfl⟩
 |v :: vs,os,x2,x3,x4,h,hz=>by
  obtain ⟨h0,h1⟩:=h v List.mem_cons_self
  have hb:=kE (M:=2) (Int.le_of_lt h0) h1 os.length
  obtain ⟨z4,e⟩:=uI (G:=G) (x0:=x0) hI (os:=os) (x2:=x2) (x3:=x3) (x4:=x4) h0 h1 (Nat.le_trans (Nat.add_le_add_left (Nat.le_mul_of_pos_right 3 (Nat.succ_pos _)) _) hz)
  obtain ⟨y2,y3,y4,ih⟩:=lO vs (os++blkN v os.length) (o (.int v)) (o (dZ (figs v))) z4 (λx hx=>h x (List.mem_cons_of_mem _ hx)) (by rw [List.length_append];exact j3 hz hb)
  exact ⟨y2,y3,y4,aw e ih⟩
theorem mX {vs:List Int} (h:∀ v∈vs,0<v/\v<64 ^ 3) (hl:3 * vs.length<=100000):run G F 5 s1_law_octets [dZ vs]=some (dZ (tapeN [] vs)):=by
 obtain ⟨y2,y3,y4,q⟩:=lO (G:=G) (x0:=o (dZ vs)) hI vs [] none none none h (by rw [List.length_nil,Nat.zero_add];exact hl)
 exact aH [o (dZ vs),none,none,none,none] rfl (cH (d:= .list []) rfl rfl (cB rfl (c9 rfl (cD (by rw [List.length_map];exact Nat.le_trans (Nat.le_mul_of_pos_left _ (by decide)) (Nat.le_trans hl (by decide))))) q rfl))
end
noncomputable def ligN:List (List Nat×Nat):=[([102,102],64256),([102,105],64257),([102,108],64258),([102,102,105],64259),([102,102,108],64260)]
noncomputable def ligF (rest:List Nat) (ls:List (List Nat×Nat)):List (Nat×Nat):=(ls.filter λp=>rest.take p.1.length==p.1).map λp=>(p.1.length,p.2)
noncomputable def wayN (rest:List Nat) (c g:Nat):List (Nat×Nat):=[(1,c),(1,c - 32),(1,g+c - 97)]++ligF rest ligN
noncomputable def grN (noise t:Nat):Nat:=greatN.getD ((noise+t) % 10) 0
noncomputable def extN (noise t:Nat):List Nat:=cond (decide (t=noise % 5)) [uN.getD (noise / 5 % 27) 0] []
noncomputable def stepN (noise pick t c:Nat) (rest:List Nat):Nat×Nat:=(wayN rest c (grN noise t)).getD (pick % (wayN rest c (grN noise t)).length) (0,0)
noncomputable def splN (noise:Nat):List Nat->List Nat->Nat->List Nat
 | [],_,_=>[]
 |_ :: ts,[],pick=>splN noise ts [] pick
 |t :: ts,c :: r,pick=>extN noise t++(stepN noise pick t c (c :: r)).2 :: splN noise ts ((c :: r).drop (stepN noise pick t c (c :: r)).1) (pick / (wayN (c :: r) c (grN noise t)).length)
noncomputable def ligD (p:List Nat×Nat):D:= .tup [.str (mk p.1),dI p.2]
theorem xF (rest:List Nat) (ls:List (List Nat×Nat)):(ligF rest ls).length<=ls.length:=by
 unfold ligF
 rw [List.length_map]
 exact List.length_filter_le _ _
theorem gg {b:Bool} {α:Type} {a:α}:(cond b [a] []).length<=1:=by
 cases b with
 |true=>exact Nat.le_refl 1
 |false=>exact Nat.zero_le 1
theorem f0 (noise t:Nat):(extN noise t).length<=1:=gg
theorem o7 (rest:List Nat) (c g:Nat):3<=(wayN rest c g).length/\(wayN rest c g).length<=8:=by
 unfold wayN
 rw [List.length_append]
 exact ⟨Nat.le_add_right 3 _,Nat.add_le_add_left (xF rest ligN) 3⟩
theorem iW (l:List Nat):scalL (dn l)=true:=List.all_eq_true.mpr λd hd=>by
 obtain ⟨n,Zz,rfl⟩:=List.mem_map.mp hd
 rfl
section
variable {G:ag} {F:FEnv} {O:MEnv}
theorem mJ {b:Bool} {a c:T} {m n:Nat} (h:ev G F O true a=some (.int (m:Int))) (h2:ev G F O true c=some (.int (n:Int))) (hn:n≠0):ev G F O b (.bin .Mod a c)=some (.int ((m % n:Nat):Int)) :=
 af h h2 ((pj λe=>hn (Int.ofNat.inj e)).trans (congrArg (some ∘ D.int) (BA m n)))
theorem dJ {t:List Nat} {k:Nat} (ht:t.length<=1000) (hk:k<=1048576):sliD (.str (mk t)) (dI k) .none .none=some (.str (mk (t.drop k))):=qe (u':=none) (st':=none) (bj hk) rfl rfl Bool.false_ne_true ht (jQ _ _)
theorem jr {is:List (Nat×Bool)} {t:T} {ds:List D} {O':MEnv} {rest:S} {r:Option (MEnv×Out)} (h:ev G F O false t=some (.tup ds)) (hf:freshAll is t ds=true) (k:setMulti O is ds=some O') (kk:ex G F O' rest=r):ex G F O (.seq (.multi is t) rest)=r:=an (eJ h hf k) kk
end
section
variable {G:ag} {F:FEnv} {x0:Option (D×Bool)} {noise:Nat}
noncomputable def spE (x0:Option (D×Bool)) (pick noise:Nat) (pts rest:List Nat) (x6 x7 x8 x9 x10 x11:Option (D×Bool)):MEnv:=[x0,o (dI pick),o (dI noise),o (.tup (greatN.map dI)),some (dn pts,true),o (.str (mk rest)),x6,x7,x8,x9,x10,x11]
theorem lC {pick:Nat} {pts rest:List Nat} {x6 x7 x11:Option (D×Bool)} (hr:rest.length<=1000):∀ (ls:List (List Nat×Nat)) (W:List (Nat×Nat)) (x9 x10:Option (D×Bool)),(∀ p∈ls,p.1.length<=3)->W.length+ls.length<=100 ->
  ∃ y9 y10,loopL (bodyT G F [9,10] false s1B1) (spE x0 pick noise pts rest x6 x7 (some (lst iPair W,true)) x9 x10 x11) (ls.map ligD)=some (spE x0 pick noise pts rest x6 x7 (some (lst iPair (W++ligF rest ls),true)) y9 y10 x11,.next)
 | [],W,x9,x10,_,_=>⟨x9,x10,by rw [show ligF rest []=[] from rfl,List.append_nil];rfl⟩
 |p :: ls,W,x9,x10,h3,hz=>by
  have hp:=h3 p List.mem_cons_self
  have hp1:p.1.length<=1000:=Nat.le_trans hp (by decide)
  rw [List.length_cons] at hz
  obtain ⟨y9,y10,ih⟩:=lC hr ls (W++cond (rest.take p.1.length==p.1) [(p.1.length,p.2)] []) (o (.str (mk p.1))) (o (dI p.2)) (λq hq=>h3 q (List.mem_cons_of_mem _ hq)) (by rw [List.length_append,Nat.add_assoc];exact Nat.le_trans (Nat.add_le_add_left (Nat.le_trans (Nat.add_le_add_right gg _) (Nat.le_of_eq (Nat.add_comm 1 _))) _) hz)
  refine ⟨y9,y10,aw (O':=spE x0 pick noise pts rest x6 x7 (some (lst iPair (W++cond (rest.take p.1.length==p.1) [(p.1.length,p.2)] []),true)) (o (.str (mk p.1))) (o (dI p.2)) x11) ?_ (ih.trans ?_)⟩
  ·refine ad (a:=spE x0 pick noise pts rest x6 x7 (some (lst iPair W,true)) (o (.str (mk p.1))) (o (dI p.2)) x11) rfl (wh (xs:=W.map iPair) (ys:=(cond (rest.take p.1.length==p.1) [(p.1.length,p.2)] []).map iPair) rfl (ah (by rw [List.length_map];exact Nat.le_trans (Nat.le_add_right _ _) (Nat.le_trans hz (by decide)))) ?_ (ah (by rw [List.length_map];exact Nat.le_trans gg (by decide))) ?_)
   ·exact cG (lst iPair) (aj (a7 (x:= .str (mk rest)) (u':=dI p.1.length) rfl ao (bD (w:=p.1) rfl hp1) ao (gZ hr (Nat.le_trans hp (by decide)))) rfl (vF _ _)) rfl (λZz=>bP (aB (a8 (aC (bD (w:=p.1) rfl hp1) rfl)))) λZz=>rfl
   ·unfold spE lst
    rw [List.map_append];rfl
  ·have e:ligF rest (p :: ls)=cond (rest.take p.1.length==p.1) [(p.1.length,p.2)] []++ligF rest ls:=by
    unfold ligF
    rw [List.filter_cons]
    cases rest.take p.1.length==p.1 with
    |true=>rfl
    |false=>rfl
   rw [e,List.append_assoc]
variable (hU:F "_law_unseen" []=some (.list (unseen.map .int)))
include hU
theorem yi {pick t c:Nat} {pts r:List Nat} {x6 x7 x8 x9 x10 x11:Option (D×Bool)} (hc:97<=c) (hr:(c :: r).length<=1000) (hz:pts.length<=1000):∃ y7 y8 y9 y10 y11,
  bodyT G F [6] true s1B2 (spE x0 pick noise pts (c :: r) x6 x7 x8 x9 x10 x11) (dI t)=some (spE x0 (pick / (wayN (c :: r) c (grN noise t)).length) noise (pts++extN noise t++[(stepN noise pick t c (c :: r)).2]) ((c :: r).drop (stepN noise pick t c (c :: r)).1) (o (dI t)) y7 y8 y9 y10 y11,.next):=by
 obtain ⟨w3,w8⟩:=o7 (c :: r) c (grN noise t)
 obtain ⟨y9,y10,el⟩:=lC (G:=G) (F:=F) (x0:=x0) (noise:=noise) (pick:=pick) (pts:=pts++extN noise t) (x6:=o (dI t)) (x7:=o (dI c)) (x11:=x11) hr ligN [(1,c),(1,c - 32),(1,grN noise t+c - 97)] x9 x10 (by decide) (show 3+5<=100 by decide)
 have hW:(wayN (c :: r) c (grN noise t)).length<=1048576:=Nat.le_trans w8 (by decide)
 have hk:pick % (wayN (c :: r) c (grN noise t)).length<(wayN (c :: r) c (grN noise t)).length:=Nat.mod_lt _ (Nat.lt_of_lt_of_le (by decide) w3)
 have hl:∀ {O:MEnv} {b:Bool},getE O 8=some (lst iPair (wayN (c :: r) c (grN noise t)),true)->ev G F O b (.blt .len (.cons (.var 8) .nil))=some (dI (wayN (c :: r) c (grN noise t)).length):=λh=>aG (aB (aX h)) ((fT (by rw [List.length_map];exact hW)).trans (by rw [List.length_map];rfl))
 have l1:=f0 noise t
 have hz2:(pts++extN noise t).length<=1048576:=by rw [List.length_append];exact Nat.le_trans (Nat.add_le_add hz l1) (by decide)
 generalize hq:stepN noise pick t c (c :: r)=q
 have hq1:q.1<=1048576:=by
  have hm:q∈wayN (c :: r) c (grN noise t):=by
   rw [<- hq];unfold stepN
   rw [List.getD_eq_getElem?_getD,List.getElem?_eq_getElem hk];exact List.getElem_mem hk
  rcases List.mem_append.mp hm with h |h
  ·have e1:q.1=1:=(List.mem_cons.mp h).elim (λe=>e▸rfl) λh=>(List.mem_cons.mp h).elim (λe=>e▸rfl) λh=>List.mem_singleton.mp h▸rfl
   rw [e1];decide
  ·obtain ⟨p,hp,rfl⟩:=List.mem_map.mp h
   exact Nat.le_trans ((by decide:∀ p∈ligN,p.1.length<=3) p (List.mem_filter.mp hp).1) (by decide)
 refine ⟨o (dI c),some (lst iPair (wayN (c :: r) c (grN noise t)),true),y9,o (dI q.2),o (dI q.1),?_⟩
 refine ad (a:=spE x0 pick noise pts (c :: r) (o (dI t)) x7 x8 x9 x10 x11) rfl (Bv (aj (x:= .str (mk (c :: r))) (y:= .str "") rfl rfl (congrArg (λb=>some (!b)) (show ((mk (c :: r))==("":Str))=false from beq_eq_false_iff_ne.mpr λe=>nomatch rK (b:=[]) e))) rfl ?_)
 refine an (O1:=spE x0 (pick / (wayN (c :: r) c (grN noise t)).length) noise (pts++extN noise t++[q.2]) ((c :: r).drop q.1) (o (dI t)) (o (dI c)) (some (lst iPair (wayN (c :: r) c (grN noise t)),true)) y9 (o (dI q.2)) (o (dI q.1))) ?_ rfl
 refine wh (xs:=pts.map dI) (ys:=(extN noise t).map dI) rfl (ah (by rw [List.length_map];exact Nat.le_trans hz (by decide))) (cG (lst dI) (BT (m:=t) (n:=noise % 5) rfl (bR 5 (m:=noise) rfl (by decide))) rfl (λZz=>bP (aB (aD (au qi hU) (bR 27 (cR 5 (m:=noise) rfl (by decide) (by decide)) (by decide)) (ug (l:=uN) (Nat.mod_lt _ (by decide)) (by decide))))) λZz=>rfl) (ah (by rw [List.length_map];exact Nat.le_trans l1 (by decide))) ?_
 rw [<- List.map_append]
 refine aE (d:=dI c) (aG (aB (aD (y:= .int ((0:Nat):Int)) rfl rfl (dU (k:=0) rfl hr))) rfl) (cH (d:=lst iPair [(1,c),(1,c - 32),(1,grN noise t+c - 97)]) (bP (fP (a8 (aC rfl rfl)) (a8 (aC rfl (bT (m:=c) (n:=32) rfl ak (Nat.le_trans (by decide) hc)))) (a8 (aC rfl (bT (n:=97) (aM (aD rfl (bR 10 (aM (m:=noise) (n:=t) rfl rfl) (by decide)) (pJ (f:=dI) 0 (Nat.mod_lt _ (by decide)) (by decide))) (n:=c) rfl) ak (Nat.le_trans hc (Nat.le_add_left _ _))))))) rfl
  (cB rfl (c9 (d:= .tup (ligN.map ligD)) (by kernel_rfl!) rfl) el (iO (x:=dI q.1) (y:=dI q.2) (aD (aX rfl) (mJ (m:=pick) rfl (hl rfl) (Nat.ne_of_gt (Nat.lt_of_lt_of_le (by decide) w3))) ((pJ (f:=iPair) (0,0) hk hW).trans (by rw [<- hq];rfl)))
   (jr (ds:=[dn (pts++extN noise t++[q.2]),.str (mk ((c :: r).drop q.1)),dI (pick / (wayN (c :: r) c (grN noise t)).length)]) (fP (af (aX rfl) (bP (aB rfl)) (fj (ys:=[q.2]) hz2 fJ)) (a7 (x:= .str (mk (c :: r))) (l':=dI q.1) rfl rfl ao ao (dJ hr hq1)) (mH (m:=pick) rfl (hl rfl) (Nat.ne_of_gt (Nat.lt_of_lt_of_le (by decide) w3)) (Nat.le_trans w8 (by decide))))
    (by show (true&&scalL (dn (pts++extN noise t++[q.2]))&&true)=true;rw [iW];rfl) rfl rfl))))
theorem jj:∀ (ts rest:List Nat) (pick:Nat) (pts:List Nat) (x6 x7 x8 x9 x10 x11:Option (D×Bool)),(∀ c∈rest,97<=c)->rest.length<=1000->pts.length+2 * ts.length<=1000 ->
  ∃ O',loopL (bodyT G F [6] true s1B2) (spE x0 pick noise pts rest x6 x7 x8 x9 x10 x11) (ts.map dI)=some (O',.next)/\getE O' 4=some (dn (pts++splN noise ts rest pick),true)
 | [],rest,pick,pts,x6,x7,x8,x9,x10,x11,_,_,_=>⟨_,rfl,by rw [show splN noise [] rest pick=[] from rfl,List.append_nil];rfl⟩
 |t :: ts,[],pick,pts,x6,x7,x8,x9,x10,x11,hc,hr,hz=>by
  obtain ⟨O',ih,e⟩:=jj ts [] pick pts (o (dI t)) x7 x8 x9 x10 x11 hc hr (Nat.le_trans (Nat.add_le_add_left (Nat.mul_le_mul_left 2 (Nat.le_succ _)) _) hz)
  exact ⟨O',aw (ad (a:=spE x0 pick noise pts [] (o (dI t)) x7 x8 x9 x10 x11) rfl (bU (aj (x:= .str (mk [])) (y:= .str "") rfl rfl rfl) rfl (bu rfl))) ih,e⟩
 |t :: ts,c :: r,pick,pts,x6,x7,x8,x9,x10,x11,hc,hr,hz=>by
  rw [List.length_cons,Nat.mul_succ,<- Nat.add_assoc] at hz
  have hz0:pts.length<=1000:=Nat.le_trans (Nat.le_trans (Nat.le_add_right _ _) (Nat.le_add_right _ _)) hz
  obtain ⟨y7,y8,y9,y10,y11,e⟩:=yi (G:=G) (x0:=x0) (noise:=noise) hU (pick:=pick) (t:=t) (x6:=x6) (x7:=x7) (x8:=x8) (x9:=x9) (x10:=x10) (x11:=x11) (hc c List.mem_cons_self) hr hz0
  have l1:=f0 noise t
  obtain ⟨O',ih,e2⟩:=jj ts ((c :: r).drop (stepN noise pick t c (c :: r)).1) (pick / (wayN (c :: r) c (grN noise t)).length) (pts++extN noise t++[(stepN noise pick t c (c :: r)).2]) (o (dI t)) y7 y8 y9 y10 y11 (λc h=>hc c (List.mem_of_mem_drop h)) (Nat.le_trans (by rw [List.length_drop];exact Nat.sub_le _ _) hr) (by
   rw [List.length_append,List.length_append,Nat.add_assoc,Nat.add_assoc]
   exact Nat.le_trans (Nat.add_le_add_left (Nat.le_trans (Nat.add_le_add_right (f0 noise t) _) (Nat.le_of_eq ((Nat.add_assoc 1 1 _).symm.trans (Nat.add_comm 2 _)))) _) (by rw [<- Nat.add_assoc];exact hz))
  refine ⟨O',aw e ih,e2.trans ?_⟩
  rw [List.append_assoc,List.append_assoc];rfl
theorem mY {ls:List Nat} {pick:Nat} (hc:∀ c∈ls,97<=c) (hl:ls.length<=400):run G F 12 s1_law_spelled [.str (mk ls),dI pick,dI noise]=some (dn (splN noise (List.range ls.length) ls pick)):=by
 have h1:ls.length<=1000:=Nat.le_trans hl (by decide)
 obtain ⟨O',h,e⟩:=jj (G:=G) (x0:=o (.str (mk ls))) (noise:=noise) hU (List.range ls.length) ls pick [] none none none none none none hc h1 (by rw [List.length_range,List.length_nil,Nat.zero_add];exact Nat.le_trans (Nat.mul_le_mul_left 2 hl) (by decide))
 exact aH [o (.str (mk ls)),o (dI pick),o (dI noise),none,none,none,none,none,none,none,none,none] rfl (aE (d:= .tup (greatN.map dI)) rfl (jr (ds:=[dn [],.str (mk ls)]) (aC rfl rfl) rfl rfl (cB rfl (gD (b:=true) (bD rfl h1) (Nat.le_trans h1 (by decide))) h (az (aQ e rfl)))))
end
theorem nQ (g:List Nat):∀ (ps:List (List Nat)) (a:List Nat),(ps.map mk).foldl (λacc p=>acc++(mk g).cps++p.cps) a.toArray=(a++ps.flatMap (g ++ ·)).toArray
 | [],a=>by rw [List.flatMap_nil,List.append_nil];rfl
 |p :: ps,a=>by
  rw [List.map_cons,List.foldl_cons,show a.toArray++(mk g).cps++(mk p).cps=(a++g++p).toArray by
   show a.toArray++g.toArray++p.toArray=_
   rw [List.append_toArray,List.append_toArray],nQ g ps,List.flatMap_cons,List.append_assoc,List.append_assoc,List.append_assoc]
theorem nX (g p:List Nat) (ps:List (List Nat)):Txt.join (mk g) ((p :: ps).map mk)=mk (p++ps.flatMap (g ++ ·)):=congrArg PySem.Str.mk (nQ g ps p)
theorem zG:∀ ps:List (List Nat),Txt.join ("":Str) (ps.map mk)=mk ps.flatten
 | []=>rfl
 |p :: ps=>(nX [] p ps).trans (congrArg (λl=>mk (p++l)) (List.flatMap_id (L:=ps)))
theorem iw (p:List Nat):∀ ps:List (List Nat),joinL (p :: ps)=p++ps.flatMap (dots ++ ·)
 | []=>(List.append_nil p).symm
 |q :: r=>by
  show p++dots++joinL (q :: r)=_
  rw [iw q r,List.flatMap_cons,List.append_assoc,List.append_assoc]
theorem rq (p:List Nat) (ps:List (List Nat)):Txt.join ("...":Str) ((p :: ps).map mk)=mk (joinL (p :: ps)):=by
 rw [eH,nX,iw]
theorem sV {B:Nat} {ps:List (List Nat)} (h:∀ p∈ps,p.length<=B):((ps.map mk).map (·.length)).sum<=ps.length * B:=by
 rw [List.map_map]
 exact Nat.le_trans (sU (B:=B) λx hx=>by
  obtain ⟨p,hp,rfl⟩:=List.mem_map.mp hx
  exact Nat.le_trans (Nat.le_of_eq (ax p)) (h p hp)) (by rw [List.length_map];exact Nat.le_refl _)
noncomputable abbrev sS (l:List Nat):D:= .str (mk l)
theorem oe {ps:List (List Nat)} (h:∀ p∈ps,p.length<=1000) (hn:ps.length<=1000):methD .join (.str "") [lst sS ps]=some (.str (mk ps.flatten)):=by
 rw [<- zG,show lst sS ps = .list ((ps.map mk).map .str) from congrArg D.list (List.map_map (f:=mk) (g:=D.str)).symm]
 refine iy (ah ?_)
 rw [show ("":Str).length=0 from rfl,Nat.zero_mul,Nat.zero_add]
 exact Nat.le_trans (sV h) (Nat.le_trans (Nat.mul_le_mul_right 1000 hn) (by decide))
theorem xH {p:List Nat} {ps:List (List Nat)} (h:∀ q∈p :: ps,q.length<=1000) (hn:(p :: ps).length<=1000):methD .join (.str "...") [lst sS (p :: ps)]=some (.str (mk (joinL (p :: ps)))):=by
 rw [<- rq,show lst sS (p :: ps) = .list (((p :: ps).map mk).map .str) from congrArg D.list (List.map_map (f:=mk) (g:=D.str)).symm]
 refine iy (ah ?_)
 rw [show ("...":Str).length=3 from rfl,List.length_map]
 exact Nat.le_trans (Nat.add_le_add (Nat.mul_le_mul_left 3 hn) (Nat.le_trans (sV h) (Nat.mul_le_mul_right 1000 hn))) (by decide)
structure na (b1L:List Int) (x:Nat):Prop where
 u:b1L.contains (x:Int)=uN.contains x
 pos:0<x
 lt:x<262144
structure pc (b1L:List Int) (b3L:List (Int×Str)):Prop where
 l:(ligN.all λp=> !b1L.contains (p.2:Int)&&(b3v b3L p.2==mk p.1) && !uN.contains p.2&&decide (0<p.2)&&decide (p.2<262144)&&decide (1<=p.1.length))=true
theorem Br:∀ u∈uN,0<u:=by decide
structure vB (b1L:List Int) (b3L:List (Int×Str)) (x:Nat) (g:List Nat):Prop where
 s:na b1L x
 n:uN.contains x=false
 b3:b3v b3L x=mk g
section
variable {b1L:List Int} {b3L:List (Int×Str)} (P:ky b1L b3L) (J:pc b1L b3L)
include P
theorem zZ {f c:Nat} (hf:f<12) (hc:isLt c):vB b1L b3L (ptN f c) [c] :=
 have q:=Bl P hf hc
 ⟨⟨q.b1.trans q.u.symm,q.pos,Nat.lt_trans q.lt (by decide)⟩,q.u,q.b3⟩
theorem nL {noise t:Nat}:∀ x∈extN noise t,na b1L x/\uN.contains x=true:=λx hx=>by
 unfold extN at hx
 revert hx
 cases decide (t=noise % 5) with
 |false=>exact λhx=>nomatch hx
 |true =>
  intro hx
  have hm:x∈uN:=List.mem_singleton.mp hx▸getD_mem (Nat.mod_lt _ (by decide))
  exact aa (List.all_eq_true.mp P.u x hm) λh1 h2=>⟨⟨h1.trans (List.contains_iff_mem.mpr hm).symm,Br x hm,Nat.lt_trans (de h2) (by decide)⟩,List.contains_iff_mem.mpr hm⟩
include J
theorem yH {c:Nat} {r:List Nat} {noise t:Nat} (hc:isLt c):∀ q∈wayN (c :: r) c (grN noise t),1<=q.1/\vB b1L b3L q.2 ((c :: r).take q.1):=λq hq=>by
 have h10:(noise+t) % 10<10:=Nat.mod_lt _ (by decide)
 have one:∀ {q:Nat×Nat} {f:Nat},f<12->q=(1,ptN f c)->1<=q.1/\vB b1L b3L q.2 ((c :: r).take q.1):=λhf e=>by
  rw [e];exact ⟨Nat.le_refl 1,zZ P hf hc⟩
 rcases List.mem_append.mp hq with h |h
 ·rcases List.mem_cons.mp h with h |h
  ·exact one (f:=0) (by decide) h
  rcases List.mem_cons.mp h with h |h
  ·exact one (f:=1) (by decide) h
  ·refine one (f:=(noise+t) % 10+2) (Nat.add_lt_add_right h10 2) ((List.mem_singleton.mp h).trans ?_)
   unfold ptN
   rw [decide_eq_false (Nat.succ_ne_zero _),decide_eq_false (show ¬ (noise+t) % 10+2=1 from λe=>Nat.succ_ne_zero _ (Nat.succ.inj e)),Nat.add_sub_cancel];rfl
 ·obtain ⟨p,hp,rfl⟩:=List.mem_map.mp h
  obtain ⟨h1,h2⟩:=List.mem_filter.mp hp
  exact aa (List.all_eq_true.mp J.l p h1) λh h8=>aa h λh h7=>aa h λh h6=>aa h λh h5=>aa h λh3 h4=>⟨de h8,⟨(nt h3).trans (nt h5).symm,de h6,de h7⟩,nt h5,by rw [eq_of_beq h2];exact eq_of_beq h4⟩
theorem uX {c:Nat} {r:List Nat} {noise t pick:Nat} (hc:isLt c):1<=(stepN noise pick t c (c :: r)).1/\vB b1L b3L (stepN noise pick t c (c :: r)).2 ((c :: r).take (stepN noise pick t c (c :: r)).1):=by
 have w3:=(o7 (c :: r) c (grN noise t)).1
 have hk:=Nat.mod_lt pick (Nat.lt_of_lt_of_le (by decide) w3)
 refine yH P J (noise:=noise) (t:=t) hc _ ?_
 unfold stepN
 rw [List.getD_eq_getElem?_getD,List.getElem?_eq_getElem hk]
 exact List.getElem_mem hk
theorem jm (noise:Nat):∀ (ts ls:List Nat) (pick:Nat),(∀ c∈ls,isLt c)->ls.length<=ts.length->(∀ x∈splN noise ts ls pick,na b1L x)/\∃ gs:List (List Nat),((splN noise ts ls pick).filter λx=> !uN.contains x).map (b3v b3L)=gs.map mk/\gs.flatten=ls/\(∀ g∈gs,g.length<=ls.length)/\gs.length<=ts.length
 | [],[],_,_,_=>⟨λx hx=>(nomatch hx),[],rfl,rfl,λg hg=>(nomatch hg),Nat.le_refl 0⟩
 | [],_ :: _,_,_,h=>nomatch h
 |t :: ts,[],pick,h1,h2 =>
  let ⟨i1,gs,i2,i3,i4,i5⟩:=jm noise ts [] pick h1 (Nat.zero_le _)
  ⟨i1,gs,i2,i3,i4,Nat.le_succ_of_le i5⟩
 |t :: ts,c :: r,pick,h1,h2=>by
  obtain ⟨s1,m⟩:=uX P J (r:=r) (noise:=noise) (t:=t) (pick:=pick) (h1 c List.mem_cons_self)
  have hl:((c :: r).drop (stepN noise pick t c (c :: r)).1).length<=ts.length:=by
   rw [List.length_drop]
   exact Nat.le_trans (Nat.sub_le_sub_left s1 _) (Nat.sub_le_of_le_add h2)
  obtain ⟨i1,gs,i2,i3,i4,i5⟩:=jm noise ts ((c :: r).drop (stepN noise pick t c (c :: r)).1) (pick / (wayN (c :: r) c (grN noise t)).length) (λc h=>h1 c (List.mem_of_mem_drop h)) hl
  refine ⟨λx hx=> ?_,(c :: r).take (stepN noise pick t c (c :: r)).1 :: gs,?_,?_,λg hg=> ?_,Nat.succ_le_succ i5⟩
  ·rcases List.mem_append.mp hx with h |h
   ·exact (nL P x h).1
   ·exact (List.mem_cons.mp h).elim (λe=>e▸m.s) (i1 x)
  ·show ((extN noise t++(stepN noise pick t c (c :: r)).2 :: splN noise ts _ _).filter _).map _=_
   rw [List.filter_append,List.filter_eq_nil_iff.mpr λx hx=>by rw [(nL P x hx).2];exact Bool.false_ne_true,List.nil_append,List.filter_cons_of_pos (by rw [m.n];rfl),List.map_cons,m.b3,i2];rfl
  ·rw [List.flatten_cons,i3,List.take_append_drop]
  ·rcases List.mem_cons.mp hg with rfl |hg
   ·rw [List.length_take];exact Nat.min_le_right _ _
   ·exact Nat.le_trans (i4 g hg) (by rw [List.length_drop];exact Nat.sub_le _ _)
end
theorem jk (noise:Nat):∀ (ts ls:List Nat) (pick:Nat),(splN noise ts ls pick).length<=2 * ts.length
 | [],_,_=>Nat.le_refl 0
 |_ :: ts,[],pick=>Nat.le_trans (jk noise ts [] pick) (Nat.mul_le_mul_left 2 (Nat.le_succ _))
 |t :: ts,c :: r,pick=>by
  have ih:=jk noise ts ((c :: r).drop (stepN noise pick t c (c :: r)).1) (pick / (wayN (c :: r) c (grN noise t)).length)
  have l1:=f0 noise t
  show (extN noise t++_ :: splN noise ts _ _).length<=_
  rw [List.length_append,List.length_cons,List.length_cons,Nat.mul_succ,Nat.add_comm]
  exact Nat.add_le_add (b:=2 * ts.length+1) (d:=1) (Nat.succ_le_succ ih) l1
theorem yj (noise:Nat) {t c:Nat} {ts r:List Nat} {pick:Nat}:1<=(splN noise (t :: ts) (c :: r) pick).length:=by
 show 1<=(extN noise t++_ :: splN noise ts _ _).length
 rw [List.length_append]
 exact Nat.le_trans (Nat.le_add_left 1 _) (Nat.le_add_left _ _)
theorem yx:∀ x:Nat,uN.count x=cond (uN.contains x) 1 0:=λx=>by
 cases h:uN.contains x with
 |true=>exact (by decide:∀ x∈uN,uN.count x=1) x (List.contains_iff_mem.mp h)
 |false=>exact List.count_eq_zero.mpr λq=>by rw [List.contains_iff_mem.mpr q] at h;exact nomatch h
theorem qz (d:Nat):∀ xs:List Nat,cntD (dI d) (xs.map dI)=some (xs.count d)
 | []=>rfl
 |x :: xs=>ad (pt x d) (aQ (qz d xs) (by
  rw [List.count_cons]
  by_cases h:x=d
  ·rw [decide_eq_true h,if_pos (beq_iff_eq.mpr h)];rfl
  ·rw [decide_eq_false h,if_neg (λq=>h (beq_iff_eq.mp q))];rfl))
theorem oa {xs:List Nat} {d:Nat} (h:xs.length<=1048576):methD .count (dn xs) [dI d]=some (dI (xs.count d)):=by
 show (if sizeOk (xs.map dI).length then (cntD (dI d) (xs.map dI)).map (λ(n:Nat)=>D.int (n:Int)) else none)=_
 exact aq (ah (by rw [List.length_map];exact h)) (aQ (qz d xs) rfl)
theorem iA (l:List Nat):cmpD .NotEq (dn l) (dn l)=some false:=by rw [fY];exact xQ _
theorem A4 {n:Nat} (h:n<=1114111):bltD .chr [dI n]=some (.str (mk [n])):=aq (c:=(decide (0<=(n:Int))&&decide ((n:Int).toNat<=1114111))=true) (by rw [decide_eq_true (Int.natCast_nonneg n),decide_eq_true (show (n:Int).toNat<=1114111 from h)];rfl) rfl
noncomputable abbrev chS (p:Nat):D:= .str ⟨#[p]⟩
section
variable {G:ag} {F:FEnv} {O:MEnv} {b:Bool}
theorem qM {p i:Nat} (h:p<262144) (h1:getE O i=o (dI p)):ev G F O b (.cons (.blt .chr (.cons (.var i) .nil)) .nil)=some (.tup [chS p]):=aB (aG (aB (ab h1)) (A4 (Nat.le_trans (Nat.le_of_lt h) (by decide))))
variable {b1L:List Int} {b3L:List (Int×Str)} (hB1:∀ p:Nat,F "in_table_b1" [chS p]=some (.bool (b1L.contains (p:Int)))) (hB3:∀ p:Nat,F "map_table_b3" [chS p]=some (.str (b3v b3L p)))
  (hU:F "_law_unseen" []=some (.list (unseen.map .int))) {pts:List Nat} (hs:∀ x∈pts,na b1L x) (hz:pts.length<=1000)
include hB1 hB3 hU hs hz
theorem sC {gs:List (List Nat)} {ls:List Nat} (hm:(pts.filter λx=> !uN.contains x).map (b3v b3L)=gs.map mk) (hf:gs.flatten=ls) (hg:∀ g∈gs,g.length<=1000) (hn:gs.length<=1000):run G F 4 s1_law_meant [dn pts]=some (.str (mk ls)):=by
 have hi:iterD (dn pts)=some (pts.map dI):=cD (by rw [List.length_map];exact Nat.le_trans hz (by decide))
 have e1:ev G F [o (dn pts),none,none,none] false s1C5=some (.list (pts.map λp=>D.bool (uN.contains p))) :=
  aU (l:=pts) (inj:=dI) rfl (bw rfl hi) (show 2<4 by decide) λp hp O' h1 Zz Zz=>(au (qM (hs p hp).lt h1) (hB1 p)).trans (by rw [(hs p hp).u])
 have e2:ev G F [o (dn pts),o (.list (pts.map λp=>D.bool (uN.contains p))),none,none] true s1C6=some (dn (pts.map λp=>cond (uN.contains p) 1 0)) :=
  (aU (l:=pts) (inj:=λp=>D.bool (uN.contains p)) (y:=λp=>dI (cond (uN.contains p) 1 0)) rfl (bw rfl (cD (by rw [List.length_map];exact Nat.le_trans hz (by decide)))) (show 3<4 by decide) λp hp O' h1 Zz Zz=>by
   revert h1
   cases uN.contains p with
   |true=>exact λh1=>ki (r:=true) (aj (ab h1) (eW rfl) rfl) rfl (λZz=>rfl) λq=>nomatch q
   |false=>exact λh1=>ki (r:=false) (aj (ab h1) (eW rfl) rfl) rfl (λq=>nomatch q) λZz=>ki (r:=true) (aj (ab h1) (eW rfl) rfl) rfl (λZz=>rfl) λq=>nomatch q).trans (congrArg (some ∘ D.list) (List.map_map (g:=dI) (f:=λp=>cond (uN.contains p) 1 0)).symm)
 have e3:∀ {x},ev G F [o (dn pts),x,none,none] true s1C7=some (dn (pts.map λp=>cond (uN.contains p) 1 0)):=λ{x} =>
  (aU (l:=pts) (inj:=dI) (y:=λp=>dI (cond (uN.contains p) 1 0)) rfl (bw rfl hi) (show 2<4 by decide) λp hp O' h1 Zz Zz=>(bd (x:=dn uN) (au qi hU) (aB (ab h1)) (oa (by decide))).trans (by rw [yx])).trans (congrArg (some ∘ D.list) (List.map_map (g:=dI) (f:=λp=>cond (uN.contains p) 1 0)).symm)
 have e4:∀ {x},ev G F [o (dn pts),x,none,none] true s1C8=some (lst sS gs):=λ{x}=>by
  have e:=congrArg (List.map D.str) hm
  rw [List.map_map,List.map_map] at e
  exact (bV (l:=pts) (inj:=dI) (c:=λp=> !uN.contains p) (y:=λp=> .str (b3v b3L p)) rfl (bw rfl hi) (show 2<4 by decide) λp hp O' h1 Zz Zz =>
   ⟨aj (op:= .NotIn) (y:=dn uN) (ab h1) (au qi hU) (congrArg (Option.map (!·)) (rH p uN)),λZz=>au (qM (hs p hp).lt h1) (hB3 p)⟩).trans (congrArg (some ∘ D.list) e)
 exact aH [o (dn pts),none,none,none] rfl (aE e1 (bU (aj e2 e3 (iA _)) rfl (bu (aN (bd bN (aB e4) ((oe hg hn).trans (by rw [hf])))))))
end
noncomputable def lcsR (a:Nat) (f:List Nat->Nat):List Nat->Nat
 | []=>0
 |b :: y=>cond (a==b) (f y+1) (max (f (b :: y)) (lcsR a f y))
noncomputable def lcs:List Nat->List Nat->Nat
 | []=>λZz=>0
 |a :: x=>lcsR a (lcs x)
theorem lcs_eq {a:Nat} {x y:List Nat}:lcs (a :: x) (a :: y)=lcs x y+1:=by
 show cond (a==a) _ _=_
 rw [beq_self_eq_true];rfl
theorem ix {a b:Nat} {x y:List Nat} (h:a≠b):lcs (a :: x) (b :: y)=max (lcs x (b :: y)) (lcs (a :: x) y):=by
 show cond (a==b) _ _=_
 rw [beq_eq_false_iff_ne.mpr h];rfl
theorem ur (x:List Nat):∀ {y l:List Nat},l.Sublist x->l.Sublist y->l.length<=lcs x y:=by
 induction x with
 |nil=>exact λh Zz=>Nat.le_of_eq (congrArg List.length (List.sublist_nil.mp h))
 |cons a x ihx =>
  intro y
  induction y with
  |nil=>exact λZz h=>Nat.le_of_eq (congrArg List.length (List.sublist_nil.mp h))
  |cons b y ihy =>
   intro l h1 h2
   by_cases e:a=b
   ·subst e
    rw [lcs_eq]
    cases l with
    |nil=>exact Nat.zero_le _
    |cons c l=>exact Nat.succ_le_succ (ihx h1.tail h2.tail)
   ·rw [ix e]
    cases h1 with
    |cons _ h1=>exact Nat.le_trans (ihx h1 h2) (Nat.le_max_left _ _)
    |cons_cons _ h1 =>
     cases h2 with
     |cons _ h2=>exact Nat.le_trans (ihy (.cons_cons _ h1) h2) (Nat.le_max_right _ _)
     |cons_cons _ h2=>exact absurd rfl e
theorem ut (x:List Nat):∀ y:List Nat,∃ l:List Nat,l.Sublist x/\l.Sublist y/\l.length=lcs x y:=by
 induction x with
 |nil=>exact λy=>⟨[],.slnil,List.nil_sublist _,rfl⟩
 |cons a x ihx =>
  intro y
  induction y with
  |nil=>exact ⟨[],List.nil_sublist _,.slnil,rfl⟩
  |cons b y ihy =>
   by_cases e:a=b
   ·subst e
    obtain ⟨l,h1,h2,h3⟩:=ihx y
    exact ⟨a :: l,.cons_cons _ h1,.cons_cons _ h2,by rw [lcs_eq,<- h3];rfl⟩
   ·rw [ix e]
    rcases Nat.le_total (lcs x (b :: y)) (lcs (a :: x) y) with q |q
    ·obtain ⟨l,h1,h2,h3⟩:=ihy
     exact ⟨l,h1,.cons _ h2,by rw [Nat.max_eq_right q];exact h3⟩
    ·obtain ⟨l,h1,h2,h3⟩:=ihx (b :: y)
     exact ⟨l,.cons _ h1,h2,by rw [Nat.max_eq_left q];exact h3⟩
noncomputable def rowS (a:Nat):Nat->List Nat->List Nat->List Nat×Nat
 |s,b :: ys,u :: us=>(cond (a==b || decide (u<s)) s u :: (rowS a (cond (a==b || decide (u<s)) u s) ys us).1,(rowS a (cond (a==b || decide (u<s)) u s) ys us).2)
 |s,_,_=>([],s)
noncomputable def rowB:Bool->List Bool->List Bool->List Bool×Bool
 |s,m :: ms,u :: us=>(cond m s (s || u) :: (rowB (cond m u (s&&u)) ms us).1,(rowB (cond m u (s&&u)) ms us).2)
 |s,_,_=>([],s)
noncomputable def thr (t x:Nat):Bool:=decide (t<=x)
noncomputable def alk (a:Nat) (ys:List Nat):List Bool:=ys.map (a == ·)
theorem u7 (t u s:Nat):thr t (cond (decide (u<s)) s u)=(thr t s || thr t u)/\thr t (cond (decide (u<s)) u s)=(thr t s&&thr t u):=by
 unfold thr
 by_cases h:u<s
 ·rw [decide_eq_true h]
  by_cases q:t<=u
  ·show decide (t<=s)=_/\decide (t<=u)=_
   rw [decide_eq_true q,decide_eq_true (Nat.le_trans q (Nat.le_of_lt h))];exact ⟨rfl,rfl⟩
  ·show decide (t<=s)=_/\decide (t<=u)=_
   rw [decide_eq_false q,Bool.or_false,Bool.and_false];exact ⟨rfl,rfl⟩
 ·rw [decide_eq_false h]
  show decide (t<=u)=_/\decide (t<=s)=_
  by_cases q:t<=s
  ·rw [decide_eq_true q,decide_eq_true (Nat.le_trans q (Nat.le_of_not_lt h))];exact ⟨rfl,rfl⟩
  ·rw [decide_eq_false q,Bool.false_or,Bool.false_and];exact ⟨rfl,rfl⟩
theorem oQ (t a:Nat):∀ (ys us:List Nat) (s:Nat),(rowS a s ys us).1.map (thr t)=(rowB (thr t s) (alk a ys) (us.map (thr t))).1/\thr t (rowS a s ys us).2=(rowB (thr t s) (alk a ys) (us.map (thr t))).2
 | [],us,s=>⟨rfl,rfl⟩
 |b :: ys,[],s=>⟨rfl,rfl⟩
 |b :: ys,u :: us,s=>by
  obtain ⟨h1,h2⟩:=u7 t u s
  obtain ⟨i1,i2⟩:=oQ t a ys us (cond (a==b || decide (u<s)) u s)
  have e1:thr t (cond (a==b || decide (u<s)) s u)=cond (a==b) (thr t s) (thr t s || thr t u):=by
   cases a==b with
   |true=>rfl
   |false=>exact h1
  have e2:thr t (cond (a==b || decide (u<s)) u s)=cond (a==b) (thr t u) (thr t s&&thr t u):=by
   cases a==b with
   |true=>rfl
   |false=>exact h2
  rw [e2] at i1 i2
  exact ⟨congr (congrArg List.cons e1) i1,i2⟩
noncomputable def comb (ys:List Nat):List (Nat×Nat)->List Nat×List Nat->List Nat×List Nat
 | [],st=>st
 |p :: r,st=>comb ys r ((rowS p.1 p.2 ys st.1).1,(rowS p.1 p.2 ys st.1).2 :: st.2)
noncomputable def combB (ys:List Nat):List (Nat×Bool)->List Bool×List Bool->List Bool×List Bool
 | [],st=>st
 |p :: r,st=>combB ys r ((rowB p.2 (alk p.1 ys) st.1).1,(rowB p.2 (alk p.1 ys) st.1).2 :: st.2)
theorem kK (t:Nat) (ys:List Nat):∀ (r:List (Nat×Nat)) (us acc:List Nat),(comb ys r (us,acc)).1.map (thr t)=(combB ys (r.map λp=>(p.1,thr t p.2)) (us.map (thr t),acc.map (thr t))).1/\(comb ys r (us,acc)).2.map (thr t)=(combB ys (r.map λp=>(p.1,thr t p.2)) (us.map (thr t),acc.map (thr t))).2
 | [],us,acc=>⟨rfl,rfl⟩
 |p :: r,us,acc=>by
  obtain ⟨h1,h2⟩:=oQ t p.1 ys us p.2
  have ih:=kK t ys r (rowS p.1 p.2 ys us).1 ((rowS p.1 p.2 ys us).2 :: acc)
  rw [List.map_cons,h1,h2] at ih
  exact ih
noncomputable def rowsN:List Nat->List (Nat×Nat)
 | []=>[]
 |a :: x=>(a,x.length) :: rowsN x
noncomputable def topsN (m n:Nat):List Nat:=(List.range n).map (m + ·)
noncomputable def combN (x y:List Nat):List Nat×List Nat:=comb y (rowsN x) (topsN x.length y.length,[])
noncomputable def comeN (x y:List Nat):List Nat:=(combN x y).1++(combN x y).2
theorem jg (a:Nat):∀ (ys us:List Nat) (s:Nat),us.length=ys.length->(rowS a s ys us).1.length=ys.length
 | [],_,_,_=>rfl
 |b :: ys,[],_,h=>nomatch h
 |b :: ys,u :: us,_,h=>congrArg (· + 1) (jg a ys us _ (Nat.succ.inj h))
theorem eF (ys:List Nat):∀ (r:List (Nat×Nat)) (us acc:List Nat),us.length=ys.length->(comb ys r (us,acc)).1.length=ys.length/\(comb ys r (us,acc)).2.length=r.length+acc.length
 | [],us,acc,h=>⟨h,(Nat.zero_add _).symm⟩
 |p :: r,us,acc,h=>by
  obtain ⟨h1,h2⟩:=eF ys r (rowS p.1 p.2 ys us).1 ((rowS p.1 p.2 ys us).2 :: acc) (jg _ _ _ _ h)
  exact ⟨h1,h2.trans (by rw [List.length_cons,List.length_cons,Nat.add_assoc,Nat.add_comm 1])⟩
theorem dG:∀ x:List Nat,(rowsN x).length=x.length
 | []=>rfl
 |_ :: x=>congrArg (· + 1) (dG x)
noncomputable def cT (l:List Bool):Nat:=(l.filter id).length
theorem iV (b:Bool) (l:List Bool):cT (b :: l)=cond b 1 0+cT l:=by
 cases b with
 |true=>exact Nat.add_comm _ 1
 |false=>exact (Nat.zero_add _).symm
def m7 (X:List Nat):List Nat->List Nat->List Bool->Prop
 |Y,b :: ys,u :: us=>lcs X (b :: Y)+cond u 1 0=lcs X Y+1/\m7 X (b :: Y) ys us
 |_,[],[]=>True
 |_,_,_=>False
theorem nG:∀ (ys Y:List Nat),m7 [] Y ys (List.replicate ys.length true)
 | [],_=>trivial
 |b :: ys,Y=>⟨rfl,nG ys (b :: Y)⟩
theorem iX {X:List Nat}:∀ {ys Y:List Nat} {us:List Bool} {j:Nat},m7 X Y ys us->j<=ys.length->cT (us.take j)+lcs X ((ys.take j).reverse++Y)=lcs X Y+j
 |_,Y,_,0,_,_=>by rw [List.take_zero,List.take_zero];exact Nat.zero_add _
 | [],_,_,j+1,_,h=>nomatch h
 |b :: ys,Y,[],j+1,h,_=>h.elim
 |b :: ys,Y,u :: us,j+1,h,hj=>by
  have ih:=iX h.2 (Nat.le_of_succ_le_succ hj)
  rw [List.take_succ_cons,List.take_succ_cons,iV,List.reverse_cons,List.append_assoc]
  show cond u 1 0+cT (us.take j)+lcs X ((ys.take j).reverse++(b :: Y))=_
  rw [Nat.add_assoc,ih,<- Nat.add_assoc,Nat.add_comm (cond u 1 0),h.1]
  exact (Nat.add_right_comm _ _ _)
theorem wF {L s M:Nat} {s' u:Bool} (hs:s=L+cond s' 1 0) (hM:M+cond u 1 0=L+1):(L+1+cond s' 1 0=s+1)/\(L+1=M+cond u 1 0):=⟨by rw [hs];exact Nat.add_right_comm _ _ _,hM.symm⟩
theorem wG {L S M:Nat} {s u:Bool} (hs:S=L+cond s 1 0) (hM:M+cond u 1 0=L+1):max M S+cond (s || u) 1 0=S+1/\max M S=M+cond (s&&u) 1 0:=by
 subst hs
 cases u with
 |true =>
  obtain rfl:M=L:=Nat.succ.inj hM
  cases s with
  |true=>exact ⟨congrArg (· + 1) (Nat.max_eq_right (Nat.le_succ M)),Nat.max_eq_right (Nat.le_succ M)⟩
  |false=>exact ⟨congrArg (· + 1) (Nat.max_self M),Nat.max_self M⟩
 |false =>
  obtain rfl:M=L+1:=hM
  cases s with
  |true=>exact ⟨congrArg (· + 1) (Nat.max_self _),Nat.max_self _⟩
  |false=>exact ⟨Nat.max_eq_left (Nat.le_succ L),Nat.max_eq_left (Nat.le_succ L)⟩
theorem jf {a:Nat} {X:List Nat}:∀ {ys Y:List Nat} {us:List Bool} {s:Bool},m7 X Y ys us->lcs (a :: X) Y=lcs X Y+cond s 1 0 ->
  m7 (a :: X) Y ys (rowB s (alk a ys) us).1/\lcs (a :: X) (ys.reverse++Y)=lcs X (ys.reverse++Y)+cond (rowB s (alk a ys) us).2 1 0
 | [],Y,[],s,_,hs=>⟨trivial,hs⟩
 | [],Y,_ :: _,s,h,_=>h.elim
 |_ :: _,Y,[],s,h,_=>h.elim
 |b :: ys,Y,u :: us,s,h,hs=>by
  rw [List.reverse_cons,List.append_assoc]
  by_cases e:a=b
  ·subst e
   have ea:alk a (a :: ys)=true :: alk a ys:=congrArg (· :: alk a ys) (beq_self_eq_true a)
   rw [ea]
   obtain ⟨c1,c2⟩:=wF hs h.1
   obtain ⟨i1,i2⟩:=jf (a:=a) (s:=u) h.2 (lcs_eq.trans c2)
   exact ⟨⟨by rw [lcs_eq];exact c1,i1⟩,i2⟩
  ·have ea:alk a (b :: ys)=false :: alk a ys:=congrArg (· :: alk a ys) (beq_eq_false_iff_ne.mpr e)
   rw [ea]
   obtain ⟨c1,c2⟩:=wG hs h.1
   obtain ⟨i1,i2⟩:=jf (a:=a) (s:=s&&u) h.2 ((ix e).trans c2)
   exact ⟨⟨by rw [ix e];exact c1,i1⟩,i2⟩
structure Inv (ys X:List Nat) (us acc:List Bool):Prop where
 enc:m7 X [] ys us
 out:∀ e,e<=X.length->cT (acc.take e)+lcs (X.drop e) ys.reverse=lcs X ys.reverse
theorem gb (X:List Nat):lcs X []=0:=by
 cases X with
 |nil=>rfl
 |cons _ _=>rfl
noncomputable def rowsF (d:List Nat):List (Nat×Bool):=d.map λa=>(a,false)
theorem nW {ys:List Nat}:∀ {d X:List Nat} {us acc:List Bool},Inv ys X us acc->Inv ys (d.reverse++X) (combB ys (rowsF d) (us,acc)).1 (combB ys (rowsF d) (us,acc)).2
 | [],_,_,_,h=>h
 |a :: d,X,us,acc,h=>by
  have r:=jf (a:=a) (s:=false) h.enc ((gb _).trans (gb X).symm)
  rw [List.append_nil] at r
  have n:Inv ys (a :: X) (rowB false (alk a ys) us).1 ((rowB false (alk a ys) us).2 :: acc):=⟨r.1,λe he=>by
   cases e with
   |zero=>exact Nat.zero_add _
   |succ e =>
    rw [List.take_succ_cons,iV,List.drop_succ_cons,r.2,Nat.add_assoc,h.out e (Nat.le_of_succ_le_succ he)]
    exact Nat.add_comm _ _⟩
  have ih:=nW (d:=d) n
  rw [List.reverse_cons,List.append_assoc]
  exact ih
noncomputable abbrev bfs0 (k:Nat):List Bool:=List.replicate k false
noncomputable abbrev bts (k:Nat):List Bool:=List.replicate k true
theorem ic (l r:List Bool):cT (l++r)=cT l+cT r:=by unfold cT;rw [List.filter_append,List.length_append]
theorem j9:∀ k,cT (bfs0 k)=0
 |0=>rfl
 |k+1=>j9 k
noncomputable def rowsT (t:Nat) (x:List Nat):List (Nat×Bool):=(rowsN x).map λp=>(p.1,thr t p.2)
theorem jT {t:Nat}:∀ {x:List Nat},x.length<=t->rowsT t x=rowsF x
 | [],_=>rfl
 |a :: x,h=>by
  show (a,decide (t<=x.length)) :: rowsT t x=(a,false) :: rowsF x
  rw [decide_eq_false (Nat.not_le.mpr h),jT (Nat.le_of_succ_le h)]
theorem lX:∀ ms:List Bool,rowB true ms (bts ms.length)=(bts ms.length,true)
 | []=>rfl
 |m :: ms=>by
  show (cond m true true :: (rowB (cond m true true) ms (bts ms.length)).1,(rowB (cond m true true) ms (bts ms.length)).2)=_
  rw [show cond m true true=true by cases m<;>rfl,lX ms];rfl
theorem sA {us:List Bool} {ms:List Bool}:∀ m1:List Bool,rowB false (m1++ms) (bfs0 m1.length++us)=(bfs0 m1.length++(rowB false ms us).1,(rowB false ms us).2)
 | []=>rfl
 |m :: m1=>by
  show (cond m false false :: (rowB (cond m false false) (m1++ms) (bfs0 m1.length++us)).1,(rowB (cond m false false) (m1++ms) (bfs0 m1.length++us)).2)=_
  rw [show cond m false false=false by cases m<;>rfl,sA m1];rfl
theorem ch (a:Nat) (ys:List Nat):(alk a ys).length=ys.length:=List.length_map _
theorem jU {ys:List Nat} {t:Nat}:∀ {x:List Nat} {us acc:List Bool},(t<x.length->us=bts ys.length)->∃ acc',combB ys (rowsT t x) (us,acc)=combB ys (rowsF (x.drop (x.length - t))) (us,acc')
 | [],us,acc,_=>⟨acc,by rw [List.drop_nil];rfl⟩
 |a :: x,us,acc,h=>by
  by_cases q:t<=x.length
  ·have hu:=h (Nat.lt_succ_of_le q)
   have r:=lX (alk a ys)
   rw [ch] at r
   obtain ⟨acc',ih⟩:=jU (t:=t) (x:=x) (us:=us) (acc:=true :: acc) λZz=>hu
   refine ⟨acc',?_⟩
   rw [List.length_cons,Nat.succ_sub q,List.drop_succ_cons,<- ih]
   show combB ys (rowsT t x) ((rowB (thr t x.length) (alk a ys) us).1,(rowB (thr t x.length) (alk a ys) us).2 :: acc)=_
   rw [show thr t x.length=true from decide_eq_true q,hu,r]
  ·have hx:(a :: x).length<=t:=Nat.lt_of_not_le q
   refine ⟨acc,?_⟩
   rw [Nat.sub_eq_zero_of_le hx,List.drop_zero,jT hx]
theorem n8 {y1 y2:List Nat}:∀ {d:List Nat} {us acc:List Bool},combB (y1++y2) (rowsF d) (bfs0 y1.length++us,acc)=(bfs0 y1.length++(combB y2 (rowsF d) (us,acc)).1,(combB y2 (rowsF d) (us,acc)).2)
 | [],us,acc=>rfl
 |a :: d,us,acc=>by
  have r:=sA (us:=us) (ms:=alk a y2) (alk a y1)
  rw [ch] at r
  show combB (y1++y2) (rowsF d) ((rowB false (alk a (y1++y2)) (bfs0 y1.length++us)).1,(rowB false (alk a (y1++y2)) (bfs0 y1.length++us)).2 :: acc)=_
  rw [show alk a (y1++y2)=alk a y1++alk a y2 from List.map_append,r]
  exact n8
theorem gW:∀ (ms us:List Bool) (s:Bool),us.length=ms.length->(rowB s ms us).1.length=ms.length
 | [],_,_,_=>rfl
 |m :: ms,[],_,h=>nomatch h
 |m :: ms,u :: us,_,h=>congrArg (· + 1) (gW ms us _ (Nat.succ.inj h))
theorem dy {ys:List Nat}:∀ {d:List Nat} {us acc:List Bool},us.length=ys.length->(combB ys (rowsF d) (us,acc)).1.length=ys.length/\(combB ys (rowsF d) (us,acc)).2.length=d.length+acc.length
 | [],us,acc,h=>⟨h,(Nat.zero_add _).symm⟩
 |a :: d,us,acc,h=>by
  obtain ⟨h1,h2⟩:=dy (d:=d) (us:=(rowB false (alk a ys) us).1) (acc:=(rowB false (alk a ys) us).2 :: acc) ((gW _ _ _ (h.trans (ch a ys).symm)).trans (ch a ys))
  exact ⟨h1,h2.trans (by rw [List.length_cons,List.length_cons,Nat.add_assoc,Nat.add_comm 1])⟩
theorem nh {α β:Type} {f:α->β} {b:β} {l:List α} (h:∀ a∈l,f a=b):l.map f=List.replicate l.length b :=
 (List.eq_replicate_of_mem λc hc=>let ⟨a,ha,e⟩:=List.mem_map.mp hc;e▸h a ha).trans (congrArg (List.replicate · b) (List.length_map f))
theorem u9 (t m n:Nat) (h:t - m<=n):(topsN m n).map (thr t)=bfs0 (t - m)++bts (n - (t - m)):=by
 unfold topsN
 rw [List.map_map,List.range_eq_range',<- Nat.add_sub_cancel' h,<- List.range'_append_1,List.map_append,Nat.zero_add,Nat.add_sub_cancel_left]
 refine congr (congrArg _ ((nh (b:=false) λi hi=> ?_).trans (congrArg (List.replicate · false) List.length_range'))) ((nh (b:=true) λi hi=> ?_).trans (congrArg (List.replicate · true) List.length_range'))
 ·exact decide_eq_false (Nat.not_le.mpr (Nat.add_lt_of_lt_sub' (Nat.lt_of_lt_of_le (List.mem_range'_1.mp hi).2 (Nat.le_of_eq (Nat.zero_add _)))))
 ·exact decide_eq_true (Nat.sub_le_iff_le_add'.mp (List.mem_range'_1.mp hi).1)
section
variable {x y:List Nat} {t:Nat} (ht:t<=x.length+y.length)
include ht
theorem lE:t - x.length<=y.length:=Nat.sub_le_of_le_add (Nat.le_trans ht (Nat.le_of_eq (Nat.add_comm _ _)))
theorem jB:∃ acc,((combN x y).1.map (thr t),(combN x y).2.map (thr t))=combB y (rowsF (x.drop (x.length - t))) (bfs0 (t - x.length)++bts (y.length - (t - x.length)),acc):=by
 obtain ⟨h1,h2⟩:=kK t y (rowsN x) (topsN x.length y.length) []
 rw [u9 t _ _ (lE ht)] at h1 h2
 obtain ⟨acc,h3⟩:=jU (ys:=y) (t:=t) (x:=x) (us:=bfs0 (t - x.length)++bts (y.length - (t - x.length))) (acc:=[]) λq=>by
  rw [Nat.sub_eq_zero_of_le (Nat.le_of_lt q)];rfl
 exact ⟨acc,(Prod.ext h1 h2).trans h3⟩
theorem l5 (acc:List Bool):combB y (rowsF (x.drop (x.length - t))) (bfs0 (t - x.length)++bts (y.length - (t - x.length)),acc)=(bfs0 (t - x.length)++(combB (y.drop (t - x.length)) (rowsF (x.drop (x.length - t))) (bts (y.length - (t - x.length)),acc)).1,(combB (y.drop (t - x.length)) (rowsF (x.drop (x.length - t))) (bts (y.length - (t - x.length)),acc)).2):=by
 have r:=n8 (y1:=y.take (t - x.length)) (y2:=y.drop (t - x.length)) (d:=x.drop (x.length - t)) (us:=bts (y.length - (t - x.length))) (acc:=acc)
 rw [List.take_append_drop,List.length_take,Nat.min_eq_left (lE ht)] at r
 exact r
omit ht in
theorem lu (acc:List Bool):Inv (y.drop (t - x.length)) (x.drop (x.length - t)).reverse (combB (y.drop (t - x.length)) (rowsF (x.drop (x.length - t))) (bts (y.length - (t - x.length)),acc)).1 (combB (y.drop (t - x.length)) (rowsF (x.drop (x.length - t))) (bts (y.length - (t - x.length)),acc)).2:=by
 have e:=nG (y.drop (t - x.length)) []
 rw [List.length_drop] at e
 have r:=nW (ys:=y.drop (t - x.length)) (d:=x.drop (x.length - t)) (X:=[]) (acc:=acc) ⟨e,λk hk=>by rw [Nat.le_zero.mp hk];exact Nat.zero_add _⟩
 rw [List.append_nil] at r
 exact r
omit ht in
theorem iK {j t m:Nat} (h1:j<=t) (h2:j<=m):j<=m - (m - t):=by
 rcases Nat.le_total t m with h |h
 ·rw [Nat.sub_sub_self h];exact h1
 ·rw [Nat.sub_eq_zero_of_le h];exact h2
theorem tJ {e:Nat} (he:e<=x.length+y.length) (h1:e - y.length<=t) (hl:t - x.length<=min e y.length) :
  (((comeN x y).take e).filter (thr t)).length+lcs ((x.drop (x.length - t)).take ((x.drop (x.length - t)).length - (e - y.length))).reverse ((y.drop (t - x.length)).take (min e y.length - (t - x.length))).reverse=min e y.length - (t - x.length):=by
 obtain ⟨acc,hs⟩:=jB ht
 rw [l5 ht] at hs
 have I:=lu (x:=x) (y:=y) (t:=t) acc
 obtain ⟨l1,Zz⟩:=dy (ys:=y.drop (t - x.length)) (d:=x.drop (x.length - t)) (us:=bts (y.length - (t - x.length))) (acc:=acc) (by rw [List.length_replicate,List.length_drop])
 generalize combB (y.drop (t - x.length)) (rowsF (x.drop (x.length - t))) (bts (y.length - (t - x.length)),acc)=R at *
 obtain ⟨us,ac⟩:=R
 obtain ⟨s1,s2⟩:=Prod.mk.inj hs
 have hc:(((comeN x y).take e).filter (thr t)).length=cT ((bfs0 (t - x.length)++us++ac).take e):=by
  refine Eq.trans ?_ (congrArg (λl=>cT (List.take e l)) (congr (congrArg HAppend.hAppend s1) s2))
  unfold comeN cT
  rw [<- List.map_append,<- List.map_take,List.filter_map,List.length_map];rfl
 rw [hc]
 have hz:(bfs0 (t - x.length)).length=t - x.length:=List.length_replicate
 have l2:(y.drop (t - x.length)).length=y.length - (t - x.length):=List.length_drop
 have enc:∀ {j:Nat},j<=(y.drop (t - x.length)).length->cT (us.take j)+lcs (x.drop (x.length - t)).reverse ((y.drop (t - x.length)).take j).reverse=j:=λhj=>by
  have c:=iX I.enc hj
  rw [List.append_nil,gb,Nat.zero_add] at c
  exact c
 rcases Nat.le_total e y.length with q |q
 ·rw [Nat.min_eq_left q] at hl ⊢
  have hj:e - (t - x.length)<=(y.drop (t - x.length)).length:=by rw [l2];exact Nat.sub_le_sub_right q _
  have ht:(bfs0 (t - x.length)++us++ac).take e=bfs0 (t - x.length)++us.take (e - (t - x.length)):=by
   have h:=List.take_length_add_append (l₁:=bfs0 (t - x.length)) (l₂:=us++ac) (e - (t - x.length))
   rw [hz,Nat.add_sub_cancel' hl,List.take_append_of_le_length (Nat.le_trans hj (Nat.le_of_eq l1.symm))] at h
   rw [List.append_assoc];exact h
  rw [ht,ic,j9,Nat.zero_add,Nat.sub_eq_zero_of_le q,Nat.sub_zero,List.take_length]
  exact enc hj
 ·rw [Nat.min_eq_right q] at hl ⊢
  have hn:(bfs0 (t - x.length)++us).length=y.length:=by rw [List.length_append,hz];exact (congrArg _ (l1.trans l2)).trans (Nat.add_sub_cancel' hl)
  have ht:(bfs0 (t - x.length)++us++ac).take e=bfs0 (t - x.length)++us++ac.take (e - y.length):=by
   have h:=List.take_length_add_append (l₁:=bfs0 (t - x.length)++us) (l₂:=ac) (e - y.length)
   rw [hn,Nat.add_sub_cancel' q] at h
   exact h
  have hk:=iK h1 (Nat.sub_le_of_le_add he)
  rw [<- List.length_drop] at hk
  have c:=enc (Nat.le_refl _)
  rw [List.take_length,List.take_of_length_le (Nat.le_of_eq l1),l2] at c
  have d:=I.out (e - y.length) (by rw [List.length_reverse];exact hk)
  rw [ht,ic,ic,j9,Nat.zero_add,<- l2,List.take_length,List.reverse_take,Nat.sub_sub_self hk,Nat.add_assoc,d,l2]
  exact c
end
noncomputable def ones (ls:List Nat):List (List Nat):=ls.map λc=>[c]
section
variable {t:List Nat} {hi:Nat}
theorem eK {lo:Nat} (h:lo<=hi):findL t [] lo hi=some lo:=by
 unfold findL
 rw [Nat.succ_sub h,List.range'_succ,List.find?_cons,show fitP t [] hi lo=true by unfold fitP;rw [decide_eq_true (show lo+([]:List Nat).length<=hi from h)];rfl]
theorem t6 {c b lo:Nat} {r:List Nat} (h:lo<hi) (hd:t.drop lo=b :: r):findL t [c] lo hi=cond (c==b) (some lo) (findL t [c] (lo+1) hi):=by
 unfold findL
 rw [Nat.succ_sub (Nat.le_of_lt h),List.range'_succ,List.find?_cons,show fitP t [c] hi lo=(c==b) by
  unfold fitP
  rw [decide_eq_true (show lo+[c].length<=hi from h),hd]
  show ([b]==[c])=_
  rw [show ([b]==[c])=(b==c) by show (b==c&&true)=_;exact Bool.and_true _,Bool.eq_iff_iff,beq_iff_eq,beq_iff_eq];exact eq_comm,show hi+1 - (lo+1)=hi - lo from Nat.add_sub_add_right _ _ _]
 cases c==b with
 |true=>rfl
 |false=>rfl
theorem tZ {c:Nat}:findL t [c] hi hi=none:=by
 unfold findL
 rw [Nat.succ_sub (Nat.le_refl _),Nat.sub_self,List.range'_succ,List.find?_cons,show fitP t [c] hi hi=false by unfold fitP;rw [decide_eq_false (show ¬ hi+[c].length<=hi from Nat.not_succ_le_self hi)];rfl]
 rfl
theorem uB {w:List Nat} {ws:List (List Nat)} {lo:Nat} (h:findL t w lo hi=none):midL t (w :: ws) lo hi=false:=by
 show (match findL t w lo hi with |some i=>midL t ws (i+w.length) hi |none=>false)=_
 rw [h]
theorem df {w:List Nat} {ws:List (List Nat)} {lo i:Nat} (h:findL t w lo hi=some i):midL t (w :: ws) lo hi=midL t ws (i+w.length) hi:=by
 show (match findL t w lo hi with |some i=>midL t ws (i+w.length) hi |none=>false)=_
 rw [h]
theorem zQ {w:List Nat} {ws:List (List Nat)} {lo lo':Nat} (h:findL t w lo hi=findL t w lo' hi):midL t (w :: ws) lo hi=midL t (w :: ws) lo' hi:=by
 show (match findL t w lo hi with |some i=>midL t ws (i+w.length) hi |none=>false)=_
 rw [h];rfl
theorem eO {e:List (List Nat)} (he:∀ lo,lo<=hi->midL t e lo hi=true) (ht:hi<=t.length):∀ (k lo:Nat) (ls:List Nat),lo+k=hi->midL t (ones ls++e) lo hi=ls.isSublist ((t.drop lo).take k)
 |k,lo,[],h=>(he lo (h▸Nat.le_add_right _ _)).trans (by cases (t.drop lo).take k<;>rfl)
 |0,lo,c :: ls,h=>(uB (by rw [<- h];exact tZ)).trans rfl
 |k+1,lo,c :: ls,h=>by
  have hlt:lo<hi:=h▸Nat.lt_add_of_pos_right (Nat.succ_pos k)
  have hd:=List.drop_eq_getElem_cons (Nat.lt_of_lt_of_le hlt ht)
  have f:=t6 (c:=c) hlt hd
  rw [hd,List.take_succ_cons]
  have h':lo+1+k=hi:=by rw [Nat.add_assoc,Nat.add_comm 1];exact h
  cases q:c==t[lo]'(Nat.lt_of_lt_of_le hlt ht) with
  |true =>
   rw [q] at f
   have ih:=eO he ht k (lo+1) ls h'
   refine (df f).trans (ih.trans ?_)
   show _=(if (c==t[lo]'(Nat.lt_of_lt_of_le hlt ht))=true then ls.isSublist _ else _)
   rw [if_pos q]
  |false =>
   rw [q] at f
   have ih:=eO he ht k (lo+1) (c :: ls) h'
   refine (zQ f).trans (ih.trans ?_)
   show _=(if (c==t[lo]'(Nat.lt_of_lt_of_le hlt ht))=true then ls.isSublist _ else _)
   rw [if_neg (by rw [q];exact Bool.false_ne_true)]
end
section
variable {t ls:List Nat} {high:Nat}
theorem j1 {pre:List (List Nat)} {lo:Nat} (hp:∀ (X:List (List Nat)) (hi:Nat),lo<=hi->midL t (pre++X) lo hi=midL t X lo hi) (hl:lo<=t.length) (hh:high<=t.length) :
  tailL t (pre++(ones ls++[t.drop high])) lo=(decide (lo<=high)&&ls.isSublist ((t.drop lo).take (high - lo))):=by
 have hlast:(pre++(ones ls++[t.drop high])).getLastD []=t.drop high:=by rw [<- List.append_assoc];exact List.getLastD_concat
 have hdrop:(pre++(ones ls++[t.drop high])).dropLast=pre++(ones ls++[]):=by rw [<- List.append_assoc,List.dropLast_concat,List.append_nil]
 unfold tailL
 rw [hlast,hdrop]
 by_cases hz:high=t.length
 ·subst hz
  rw [List.drop_length,if_pos (show ([]:List Nat).isEmpty=true from rfl),if_neg (Nat.not_lt.mpr hl),hp _ _ hl,decide_eq_true hl,Bool.true_and]
  exact eO (λlo' h=>(df (eK h)).trans rfl) (Nat.le_refl _) _ lo ls (Nat.add_sub_cancel' hl)
 ·have hlen:(t.drop high).length=t.length - high:=List.length_drop
  have hpos:0<t.length - high:=Nat.sub_pos_of_lt (Nat.lt_of_le_of_ne hh hz)
  have e0:(t.drop high).isEmpty=false:=by
   cases q:t.drop high with
   |nil=>rw [q] at hlen;rw [<- hlen] at hpos;exact nomatch hpos
   |cons _ _=>rfl
  have e1:t.length - (t.drop high).length=high:=by rw [hlen];exact Nat.sub_sub_self hh
  have e2:isAt t (t.drop high) high=true:=by
   unfold isAt
   rw [List.take_length,decide_eq_true (by rw [hlen,Nat.add_sub_cancel' hh];exact Nat.le_refl _),beq_self_eq_true];rfl
  rw [e0,e1,e2,decide_eq_true (by rw [hlen];exact Nat.sub_le _ _),if_neg Bool.false_ne_true,if_pos (show (true&&true)=true from rfl)]
  by_cases hlo:lo<=high
  ·rw [if_neg (Nat.not_lt.mpr hlo),hp _ _ hlo,decide_eq_true hlo,Bool.true_and]
   exact eO (λZz Zz=>rfl) hh _ lo ls (Nat.add_sub_cancel' hlo)
  ·rw [if_pos (Nat.lt_of_not_le hlo),decide_eq_false hlo];rfl
theorem wX {low:Nat} (hl:low<=t.length) (hh:high<=t.length):emL (t.take low :: (ones ls++[t.drop high])) t=(decide (low<=high)&&ls.isSublist ((t.drop low).take (high - low))):=by
 have e:∃ q r,ones ls++[t.drop high]=q :: r:=by
  cases ls with
  |nil=>exact ⟨_,_,rfl⟩
  |cons _ _=>exact ⟨_,_,rfl⟩
 obtain ⟨q,r,e⟩:=e
 have g:emL (t.take low :: (ones ls++[t.drop high])) t=if (t.take low).isEmpty then tailL t (t.take low :: (ones ls++[t.drop high])) 0 else if isAt t (t.take low) 0 then tailL t (ones ls++[t.drop high]) (t.take low).length else false:=by rw [e];rfl
 rw [g]
 by_cases h0:(t.take low).isEmpty=true
 ·rw [if_pos h0,List.isEmpty_iff.mp h0]
  have hz:low=0:=by
   have:=congrArg List.length (List.isEmpty_iff.mp h0)
   rw [List.length_take,Nat.min_eq_left hl] at this
   exact this
  subst hz
  exact j1 (pre:=[[]]) (λX hi h=>df (eK h)) hl hh
 ·rw [if_neg h0,if_pos (by
   unfold isAt
   rw [List.drop_zero,List.length_take,Nat.min_eq_left hl,Nat.zero_add,decide_eq_true hl,beq_self_eq_true];rfl),List.length_take,Nat.min_eq_left hl]
  exact j1 (pre:=[]) (λZz Zz Zz=>rfl) hl hh
end
noncomputable def pickB:List Nat->Nat->List Nat
 | [],_=>[]
 |a :: p,c=>cond (decide (c % 2=1)) [a] []++pickB p (c / 2)
theorem eQ:∀ (p:List Nat) (c:Nat),(pickB p c).Sublist p
 | [],_=> .slnil
 |a :: p,c=>by
  show (cond (decide (c % 2=1)) [a] []++pickB p (c / 2)).Sublist (a :: p)
  cases decide (c % 2=1) with
  |true=>exact .cons_cons a (eQ p _)
  |false=>exact .cons a (eQ p _)
theorem gU:∀ {p l:List Nat},l.Sublist p->∃ c,c<2 ^ p.length/\pickB p c=l
 | [],_,h=>⟨0,Nat.one_pos,(List.sublist_nil.mp h).symm⟩
 |a :: p,l,h=>by
  have hb:∀ {b c:Nat},b<2->c<2 ^ p.length->2 * c+b<2 ^ (a :: p).length:=λhb hc=>by
   rw [List.length_cons,Nat.pow_succ,Nat.mul_comm (2 ^ _)]
   exact Nat.lt_of_lt_of_le (Nat.add_lt_add_left hb _) (Nat.mul_le_mul_left 2 hc)
  cases h with
  |cons _ h =>
   obtain ⟨c,h1,h2⟩:=gU h
   refine ⟨2 * c+0,hb (by decide) h1,?_⟩
   show cond (decide (2 * c % 2=1)) [a] []++pickB p (2 * c / 2)=l
   rw [Nat.mul_mod_right,Nat.mul_div_cancel_left _ (by decide),h2];rfl
  |cons_cons _ h =>
   obtain ⟨c,h1,h2⟩:=gU h
   refine ⟨2 * c+1,hb (by decide) h1,?_⟩
   show cond (decide ((2 * c+1) % 2=1)) [a] []++pickB p ((2 * c+1) / 2)=_
   rw [Nat.mul_add_mod,Nat.mul_add_div (by decide),Nat.add_zero,h2];rfl
theorem jP:∀ (p:List Nat) (c:Nat),((List.range p.length).filter λk=>decide (c / 2 ^ k % 2=1)).map (p.getD · 0)=pickB p c
 | [],_=>rfl
 |a :: p,c=>by
  rw [List.length_cons,List.range_succ_eq_map,List.filter_cons]
  have e:(((List.range p.length).map Nat.succ).filter λk=>decide (c / 2 ^ k % 2=1)).map ((a :: p).getD · 0)=pickB p (c / 2):=by
   rw [List.filter_map,List.map_map,<- jP p (c / 2)]
   refine congrArg (List.map _) (congrArg (List.filter · _) (funext λk=> ?_))
   show decide (c / 2 ^ (k+1) % 2=1)=decide (c / 2 / 2 ^ k % 2=1)
   rw [Nat.pow_succ,Nat.mul_comm,Nat.div_div_eq_div_mul]
  rw [Nat.pow_zero,Nat.div_one]
  show List.map _ (if decide (c % 2=1)=true then _ else _)=cond (decide (c % 2=1)) [a] []++pickB p (c / 2)
  cases decide (c % 2=1) with
  |true=>exact congrArg (a :: ·) e
  |false=>exact e
noncomputable def most (P S:List Nat) (low high:Nat):Int:=cond (decide (low<=high)) (lcs P.reverse S.reverse:Nat) (-1)
noncomputable def hitB (P S:List Nat) (low high c:Nat):Bool:=(decide (((pickB P c).length:Int)=most P S low high) || decide (((pickB P c).length:Int)=most P S low high+1))&&(decide (low<=high)&&(pickB P c).isSublist S)
noncomputable def takes (P S:List Nat) (low high:Nat):List Int:=((List.range (2 ^ P.length)).filter (hitB P S low high)).map λc=>((pickB P c).length:Int)
theorem u5 {P S:List Nat} {low high:Nat}:∀ z∈takes P S low high,z=most P S low high:=λz hz=>by
 obtain ⟨c,hc,rfl⟩:=List.mem_map.mp hz
 refine aa (List.mem_filter.mp hc).2 λh1 h2=>aa h2 λh3 h4=> ?_
 have hs:=List.isSublist_iff_sublist.mp h4
 have hm:=ur _ (List.Sublist.reverse (eQ P c)) hs.reverse
 rw [List.length_reverse] at hm
 unfold most at h1 ⊢
 rw [h3] at h1 ⊢
 rcases Bool.or_eq_true_iff.mp h1 with q |q
 ·exact de q
 ·exact absurd (Int.ofNat.inj (de q)) (Nat.ne_of_lt (Nat.lt_succ_of_le hm))
theorem u6 {P S:List Nat} {low high:Nat} (h:low<=high):takes P S low high≠[]:=by
 obtain ⟨l,h1,h2,h3⟩:=ut P.reverse S.reverse
 obtain ⟨c,h4,h5⟩:=gU (p:=P) (l:=l.reverse) (by rw [<- List.reverse_reverse P];exact h1.reverse)
 have h6:(pickB P c).isSublist S=true:=List.isSublist_iff_sublist.mpr (by rw [h5,<- List.reverse_reverse S];exact h2.reverse)
 have h7:hitB P S low high c=true:=by
  unfold hitB most
  rw [h6,decide_eq_true h,h5,List.length_reverse,h3]
  show (decide (((lcs P.reverse S.reverse:Nat):Int)=((lcs P.reverse S.reverse:Nat):Int)) || _)&&true=true
  rw [decide_eq_true rfl];rfl
 exact List.ne_nil_of_mem (List.mem_map.mpr ⟨c,List.mem_filter.mpr ⟨List.mem_range.mpr h4,h7⟩,rfl⟩)
theorem lF {M:Int} (hM : -1<=M):∀ {l:List Int} {a:Int},(∀ z∈l,z=M)->(a=M\/a = -1/\l≠[])->l.foldl (λa b=>if b > a then b else a) a=M
 | [],a,_,h=>h.elim id λh=>absurd rfl h.2
 |z :: l,a,hz,h=>lF hM (l:=l) (a:=if z > a then z else a) (λz h=>hz z (List.mem_cons_of_mem _ h)) (.inl (by
  rw [hz z List.mem_cons_self]
  rcases h with h |h
  ·rw [h,if_neg (Int.lt_irrefl M)]
  ·by_cases q:M > a
   ·exact if_pos q
   ·rw [if_neg q,h.1]
    exact Int.le_antisymm hM (h.1▸Int.not_lt.mp q)))
theorem sY (P S:List Nat) (low high:Nat):(takes P S low high).foldl (λa b=>if b > a then b else a) (-1)=most P S low high:=by
 refine lF ?_ u5 ?_
 ·unfold most
  cases decide (low<=high) with
  |true=>exact Int.le_trans (by decide) (Int.natCast_nonneg _)
  |false=>exact Int.le_refl _
 ·by_cases h:low<=high
  ·exact .inr ⟨rfl,u6 h⟩
  ·unfold most
   rw [decide_eq_false h];exact .inl rfl
noncomputable def gN (E:List Nat) (k:Nat):Nat:=(E.filter (thr k)).length
noncomputable def goneN (E:List Nat) (N:Nat):List Nat:=(List.range N).map λk=>gN E (k+1)
noncomputable def cntsN (E:List Nat) (N:Nat):List Nat:=(List.range N).map λs=>E.count s
theorem iZ (k:Nat):∀ E:List Nat,gN E k=E.count k+gN E (k+1)
 | []=>rfl
 |a :: E=>by
  have ih:=iZ k E
  unfold gN at ih ⊢
  rw [List.filter_cons,List.filter_cons,List.count_cons]
  unfold thr at *
  rcases Nat.lt_trichotomy a k with h |h |h
  ·rw [if_neg (by rw [decide_eq_false (Nat.not_le.mpr h)];exact Bool.false_ne_true),if_neg (by rw [beq_eq_false_iff_ne.mpr (Nat.ne_of_lt h)];exact Bool.false_ne_true),if_neg (by rw [decide_eq_false (show ¬ k+1<=a from Nat.not_le.mpr (Nat.lt_succ_of_lt h))];exact Bool.false_ne_true)]
   exact ih
  ·subst h
   rw [if_pos (decide_eq_true (Nat.le_refl a)),if_pos (beq_self_eq_true a),if_neg (by rw [decide_eq_false (show ¬ a+1<=a from Nat.not_succ_le_self a)];exact Bool.false_ne_true),List.length_cons,ih]
   exact Nat.add_right_comm _ _ 1
  ·rw [if_pos (decide_eq_true (Nat.le_of_lt h)),if_neg (by rw [beq_eq_false_iff_ne.mpr (Nat.ne_of_gt h)];exact Bool.false_ne_true),if_pos (decide_eq_true (show k+1<=a from h)),List.length_cons,List.length_cons,ih];rfl
theorem xp (E:List Nat):gN E 0=E.length:=by
 unfold gN
 rw [show E.filter (thr 0)=E from List.filter_eq_self.mpr λa Zz=>decide_eq_true (Nat.zero_le a)]
theorem zt {E:List Nat} {N:Nat} (h:∀ a∈E,a<N):gN E N=0:=by
 unfold gN
 rw [List.filter_eq_nil_iff.mpr λa ha=>by rw [show thr N a=false from decide_eq_false (Nat.not_le.mpr (h a ha))];exact Bool.false_ne_true];rfl
theorem Bd (E:List Nat) (k:Nat):gN E k<=E.length:=List.length_filter_le _ _
theorem xo (E:List Nat) {k j:Nat} (h:k<=j):gN E j<=gN E k:=by
 induction h with
 |refl=>exact Nat.le_refl _
 |step _ ih=>exact Nat.le_trans (Nat.le_trans (Nat.le_add_left _ _) (Nat.le_of_eq (iZ _ E).symm)) ih
theorem o6 (w:Nat) (E:List Nat):∀ (n j:Nat),gN E (j+n)=0 ->
  und w (iN ((List.range' j n).map λs=>E.count s))=(gN E j:Nat)+(2 ^ w - 1) * und w (iN ((List.range' j n).map λk=>gN E (k+1)))
 |0,j,h=>by
  rw [show gN E j=0 from h]
  show (0:Int)=((0:Nat):Int)+(2 ^ w - 1) * 0
  rw [Int.mul_zero];rfl
 |n+1,j,h=>by
  have ih:=o6 w E n (j+1) (by rw [Nat.add_assoc,Nat.add_comm 1];exact h)
  rw [List.range'_succ]
  show (E.count j:Int)+2 ^ w * und w (iN ((List.range' (j+1) n).map λs=>E.count s))=(gN E j:Nat)+(2 ^ w - 1) * ((gN E (j+1):Nat)+2 ^ w * und w (iN ((List.range' (j+1) n).map λk=>gN E (k+1))))
  rw [ih,iZ j E,Int.natCast_add]
  generalize und w (iN ((List.range' (j+1) n).map λk=>gN E (k+1)))=U
  generalize (2:Int) ^ w=B
  generalize (gN E (j+1):Int)=g
  rw [Int.mul_add,Int.mul_add,Int.mul_left_comm B (B - 1) U,Int.sub_mul B 1 g,Int.one_mul,Int.add_assoc _ g,<- Int.add_assoc g,Int.add_comm g (B * g - g),Int.sub_add_cancel]
theorem vd {E:List Nat} {N:Nat} (w:Nat) (h:∀ a∈E,a<N):und w (iN (cntsN E N))=(E.length:Int)+(2 ^ w - 1) * und w (iN (goneN E N)):=by
 have t:=o6 w E N 0 (by rw [Nat.zero_add];exact zt h)
 rw [xp,<- List.range_eq_range'] at t
 exact t
theorem gS:∀ {l:List Nat},l.Pairwise (· ≥ ·)->∃ r,l=l.filter (· != 0)++List.replicate r 0
 | [],_=>⟨0,rfl⟩
 |0 :: l,h=>by
  have z:l=List.replicate l.length 0:=List.eq_replicate_iff.mpr ⟨rfl,λa ha=>Nat.le_zero.mp ((List.pairwise_cons.mp h).1 a ha)⟩
  refine ⟨l.length+1,?_⟩
  rw [List.filter_cons_of_neg (by decide),z,List.filter_eq_nil_iff.mpr λa ha=>by rw [(List.mem_replicate.mp ha).2];decide,List.length_replicate];rfl
 |(a+1) :: l,h=>by
  obtain ⟨r,e⟩:=gS (List.pairwise_cons.mp h).2
  refine ⟨r,?_⟩
  rw [List.filter_cons_of_pos (by rfl),List.cons_append,<- e]
theorem nT (E:List Nat) (N:Nat):(goneN E N).Pairwise (· ≥ ·):=by
 unfold goneN
 rw [List.pairwise_map]
 exact List.pairwise_lt_range.imp λh=>xo E (Nat.succ_le_succ (Nat.le_of_lt h))
theorem j4 (w:Nat):∀ r:Nat,und w (iN (List.replicate r 0))=0
 |0=>rfl
 |r+1=>by
  show (0:Int)+2 ^ w * und w (iN (List.replicate r 0))=0
  rw [j4 w r];rfl
theorem qU {l:List Nat} {w:Nat} (hp:l.Pairwise (· ≥ ·)) (hl:∀ a∈l,a<2 ^ w) (h1:1<=w) (h2:w<=4000) (hs:small (und w (iN l))=true):i2d (und w (iN l)) w=iN (l.filter (· != 0)):=by
 obtain ⟨r,e⟩:=gS hp
 have hu:und w (iN l)=und w (iN (l.filter (· != 0))):=by
  conv=>lhs;rw [e]
  unfold iN
  rw [List.map_append,cu]
  show und w (iN _)+_ * und w (iN _)=_
  rw [j4,Int.mul_zero,Int.add_zero];rfl
 rw [hu] at hs ⊢
 generalize hq:l.filter (· != 0)=q at *
 have hm:∀ a∈q,a≠0/\a<2 ^ w:=λa ha=>by
  rw [<- hq] at ha
  obtain ⟨g1,g2⟩:=List.mem_filter.mp ha
  exact ⟨bne_iff_ne.mp g2,hl a g1⟩
 rcases (show q=[]\/∃ L b,q=L++[b] from (List.eq_nil_or_concat q).imp id λ⟨L,b,e⟩=>⟨L,b,e.trans List.concat_eq_append⟩) with rfl |⟨q',z,rfl⟩
 ·rfl
 ·have hb:=vR (m:=w) λa ha=>(hm a ha).2
  have hz:=hm z (List.mem_append_right _ List.mem_cons_self)
  unfold iN at hb hs ⊢
  rw [List.map_append] at hb hs ⊢
  exact mR h1 h2 hb (λq=>hz.1 (Int.ofNat.inj q)) hs
theorem xb {l:List Nat} (hp:l.Pairwise (· ≥ ·)) {k N:Nat} (hk:k<l.length) (hN:l.length<=N):(l.filter (· != 0)++List.replicate N 0)[k]? = some (l.getD k 0):=by
 obtain ⟨r,e⟩:=gS hp
 have hg:l[k]? = some (l.getD k 0):=by rw [List.getD_eq_getElem?_getD,List.getElem?_eq_getElem hk];rfl
 rcases Nat.lt_or_ge k (l.filter (· != 0)).length with h |h
 ·rw [List.getElem?_append_left h,<- hg]
  conv=>rhs;rw [e]
  rw [List.getElem?_append_left h]
 ·rw [List.getElem?_append_right h,List.getElem?_replicate,if_pos (Nat.lt_of_le_of_lt (Nat.sub_le _ _) (Nat.lt_of_lt_of_le hk hN)),<- hg]
  have e2:l[k]? = _:=congrArg (·[k]?) e
  rw [List.getElem?_append_right h,List.getElem?_replicate] at e2
  rw [e2,if_pos]
  exact Nat.lt_of_not_le λq=>by rw [if_neg (Nat.not_lt.mpr q),hg] at e2;exact nomatch e2
theorem oP {a B:Nat}:∀ {ys us:List Nat} {s:Nat},s<B->(∀ u∈us,u<B)->(∀ u∈(rowS a s ys us).1,u<B)/\(rowS a s ys us).2<B
 | [],_,s,hs,_=>⟨λu hu=>(nomatch hu),hs⟩
 |_ :: _,[],s,hs,_=>⟨λu hu=>(nomatch hu),hs⟩
 |b :: ys,u :: us,s,hs,hu=>by
  have h0:=hu u List.mem_cons_self
  have c1:∀ c:Bool,cond c s u<B/\cond c u s<B:=λc=>by
   cases c with
   |true=>exact ⟨hs,h0⟩
   |false=>exact ⟨h0,hs⟩
  obtain ⟨i1,i2⟩:=oP (a:=a) (ys:=ys) (c1 (a==b || decide (u<s))).2 λv hv=>hu v (List.mem_cons_of_mem _ hv)
  refine ⟨λv hv=> ?_,i2⟩
  rcases List.mem_cons.mp hv with rfl |hv
  ·exact (c1 _).1
  ·exact i1 v hv
theorem nE {ys:List Nat} {B:Nat}:∀ {r:List (Nat×Nat)} {us acc:List Nat},(∀ p∈r,p.2<B)->(∀ u∈us,u<B)->(∀ u∈acc,u<B)->∀ u∈(comb ys r (us,acc)).1++(comb ys r (us,acc)).2,u<B
 | [],us,acc,_,h1,h2,u,hu=>(List.mem_append.mp hu).elim (h1 u) (h2 u)
 |p :: r,us,acc,h0,h1,h2,u,hu=>by
  obtain ⟨i1,i2⟩:=oP (a:=p.1) (ys:=ys) (h0 p List.mem_cons_self) h1
  exact nE (λq hq=>h0 q (List.mem_cons_of_mem _ hq)) i1 (λv hv=>(List.mem_cons.mp hv).elim (λe=>e▸i2) (h2 v)) u hu
theorem lY {B:Nat}:∀ {x:List Nat},x.length<=B->∀ p∈rowsN x,p.2<B
 |a :: x,h,p,hp=>(List.mem_cons.mp hp).elim (λe=>e▸h) λhp=>lY (Nat.le_of_succ_le h) p hp
theorem wL (x y:List Nat):∀ u∈comeN x y,u<x.length+y.length:=by
 refine nE (lY (Nat.le_add_right _ _)) (λu hu=> ?_) λu hu=>nomatch hu
 obtain ⟨j,hj,rfl⟩:=List.mem_map.mp hu
 exact Nat.add_lt_add_left (List.mem_range.mp hj) _
theorem gA (x y:List Nat):(comeN x y).length=x.length+y.length:=by
 obtain ⟨h1,h2⟩:=eF y (rowsN x) (topsN x.length y.length) [] (by unfold topsN;rw [List.length_map,List.length_range])
 unfold comeN combN
 rw [List.length_append,h1,h2,dG,List.length_nil,Nat.add_zero,Nat.add_comm]
noncomputable def numB:List Bool->Nat
 | []=>0
 |b :: l=>cond b 1 0+2 * numB l
noncomputable def bitsN:Nat->Nat->List Bool
 |0,_=>[]
 |n+1,k=>decide (k % 2=1) :: bitsN n (k / 2)
theorem cY:∀ l:List Bool,bitsN l.length (numB l)=l/\numB l<2 ^ l.length
 | []=>⟨rfl,Nat.one_pos⟩
 |b :: l=>by
  obtain ⟨h1,h2⟩:=cY l
  have e:(cond b 1 0+2 * numB l) % 2=cond b 1 0/\(cond b 1 0+2 * numB l) / 2=numB l:=by
   rw [Nat.add_mul_mod_self_left,Nat.add_mul_div_left _ _ (by decide)]
   cases b with
   |true=>exact ⟨rfl,Nat.zero_add _⟩
   |false=>exact ⟨rfl,Nat.zero_add _⟩
  refine ⟨?_,?_⟩
  ·show decide ((cond b 1 0+2 * numB l) % 2=1) :: bitsN l.length ((cond b 1 0+2 * numB l) / 2)=_
   rw [e.1,e.2,h1]
   cases b<;>rfl
  ·rw [List.length_cons,Nat.pow_succ]
   show cond b 1 0+2 * numB l<_
   have h:cond b 1 0<=1:=by cases b<;>decide
   rw [Nat.mul_comm (2 ^ _)]
   exact Nat.lt_of_lt_of_le (Nat.lt_of_le_of_lt (Nat.add_le_add_right h _) (show 1+2 * numB l<2 * (numB l+1) by rw [Nat.add_comm 1];exact Nat.lt_succ_self _)) (Nat.mul_le_mul_left 2 h2)
noncomputable def addB (n s a:Nat):Bool :=
 let r:=rowB false (bitsN n a) (bitsN n s)
 let v:=(s:Int)+Builtin.bitAnd s a
 v.fdiv (2 ^ n:Nat)==(cond r.2 1 0:Nat)&&(Builtin.bitOr (v.fmod (2 ^ n:Nat)) (Builtin.bitAnd s (Builtin.bitNot a))==(numB r.1:Int))&&decide (v.natAbs<64)
theorem wn:[4,5].all (λn=>(List.range (2 ^ n)).all λs=>(List.range (2 ^ n)).all λa=>addB n s a)=true:=by decide +kernel
noncomputable def FIL:List Nat:=[102,105,108]
theorem kX:∀ c∈FIL,isLt c:=λc h=>by
 have:∀ c∈FIL,97<=c/\c - 97<26/\c=97+(c - 97):=by decide
 exact ⟨c - 97,(this c h).2.1,(this c h).2.2⟩
theorem gf (a b:Nat):([a]==[b])=(a==b):=Bool.and_true _
theorem A6 {a b:Nat} {r:List Nat}:emL [[a],[]] (b :: r)=(a==b):=by
 show (if isAt (b :: r) [a] 0 then tailL (b :: r) [[]] 1 else false)=_
 have e:isAt (b :: r) [a] 0=(a==b):=by
  show (decide (0+[a].length<=(b :: r).length)&&([b]==[a]))=_
  rw [decide_eq_true (show 0+[a].length<=(b :: r).length from Nat.succ_le_succ (Nat.zero_le _)),Bool.true_and,gf]
  exact BEq.comm
 rw [e]
 cases a==b with
 |false=>rfl
 |true =>
  show (if (b :: r).length<1 then false else midL (b :: r) [[]] 1 (b :: r).length)=true
  rw [if_neg (show ¬ (b :: r).length<1 from Nat.not_lt.mpr (Nat.succ_le_succ (Nat.zero_le _)))]
  exact (df (eK (Nat.succ_le_succ (Nat.zero_le _)))).trans rfl
theorem A7 {a b:Nat} {r:List Nat}:emL [[],[a]] (r++[b])=(a==b):=by
 show (if (decide ([a].length<=(r++[b]).length)&&isAt (r++[b]) [a] ((r++[b]).length - 1))=true then (if (r++[b]).length - 1<0 then false else midL (r++[b]) [[]] 0 ((r++[b]).length - 1)) else false)=_
 have hl:(r++[b]).length=r.length+1:=List.length_append
 have e:(decide ([a].length<=(r++[b]).length)&&isAt (r++[b]) [a] ((r++[b]).length - 1))=(a==b):=by
  unfold isAt
  rw [hl,Nat.add_sub_cancel,List.drop_left,decide_eq_true (show [a].length<=r.length+1 from Nat.le_add_left 1 _),decide_eq_true (show r.length+[a].length<=r.length+1 from Nat.le_refl _),Bool.true_and,Bool.true_and]
  exact (gf b a).trans BEq.comm
 rw [e]
 cases a==b with
 |false=>rfl
 |true =>
  rw [if_pos rfl,if_neg (Nat.not_lt_zero _)]
  exact (df (eK (Nat.zero_le _))).trans rfl
theorem A8:∀ a∈FIL,∀ b∈FIL,emL [[],[a,a],[a,a],[]] [a,a,a,b]=(a==b):=by decide +kernel
theorem lI:∀ c∈FIL,(46:Nat)≠c:=by decide
theorem rL {a:Nat} (h:a∈FIL):46∉[a]:=λq=>lI a h (List.mem_singleton.mp q)
theorem BD {a:Nat} (h:a∈FIL):46∉[a,a]:=λq=>(List.mem_cons.mp q).elim (lI a h) (rL h)
theorem vV:46∉([]:List Nat):=λq=>nomatch q
theorem yV {P:List Nat->Prop} {a b c d:List Nat} (h1:P a) (h2:P b) (h3:P c) (h4:P d):∀ p∈[a,b,c,d],P p:=λp h=>(List.mem_cons.mp h).elim (λe=>e▸h1) λh=>(List.mem_cons.mp h).elim (λe=>e▸h2) λh=>(List.mem_cons.mp h).elim (λe=>e▸h3) λh=>List.mem_singleton.mp h▸h4
theorem ph {P:List Nat->Prop} {a b:List Nat} (h1:P a) (h2:P b):∀ p∈[a,b],P p:=λp h=>(List.mem_cons.mp h).elim (λe=>e▸h1) λh=>List.mem_singleton.mp h▸h2
theorem yU {P:List Nat->Prop} {a:List Nat} (h1:P a):∀ p∈[a],P p:=λp h=>List.mem_singleton.mp h▸h1
noncomputable def formD (a b j:Nat) (y:List Nat):List D:=[.tup [sS [a],sS [b]],.tup [sS [a,46,46,46],sS (y.drop j)],.tup [sS [46,46,46,a],sS (y.take (j+1))],.tup [sS [46,46,46,a,a,46,46,46,a,a,46,46,46],sS [a,a,a,b]]]
abbrev kt (F:FEnv):Prop:=∀ {ps:List (List Nat)} {t:List Nat},ps≠[]->(∀ p∈ps,46∉p)->(∀ p∈ps,p.length<=1000)->ps.length<=100->t.length<=1000->F "_ellipsis_match" [.str (mk (joinL ps)),.str (mk t)]=some (.bool (emL ps t))
theorem xj {F:FEnv} (hEm:kt F) {a b j:Nat} {y:List Nat} (ha:a∈FIL) (hb:b∈FIL) (hy:y.length<=1000) (hj:y[j]? = some b):∀ {k:Nat},k<4->∃ w g,idxD (.tup (formD a b j y)) (dI k)=some (.tup [w,g])/\F "_ellipsis_match" [w,g]=some (.bool (a==b))
 |0,_=>⟨_,_,rfl,(hEm (ps:=[[a]]) (t:=[b]) (List.cons_ne_nil _ _) (yU (rL ha)) (yU (P:=λp=>p.length<=1000) (show 1<=1000 by decide)) (show 1<=100 by decide) (show 1<=1000 by decide)).trans (congrArg (some ∘ D.bool) (gf a b))⟩
 |1,_=>by
  obtain ⟨r,e⟩:∃ r,y.drop j=b :: r:=by
   obtain ⟨h1,h2⟩:=List.getElem?_eq_some_iff.mp hj
   exact ⟨_,(List.drop_eq_getElem_cons h1).trans (by rw [h2])⟩
  refine ⟨_,_,rfl,(hEm (ps:=[[a],[]]) (t:=y.drop j) (List.cons_ne_nil _ _) (ph (rL ha) vV) (ph (P:=λp=>p.length<=1000) (show 1<=1000 by decide) (Nat.zero_le _)) (show 2<=100 by decide) (by rw [List.length_drop];exact Nat.le_trans (Nat.sub_le _ _) hy)).trans ?_⟩
  rw [e,A6]
 |2,_=>by
  obtain ⟨r,e⟩:∃ r,y.take (j+1)=r++[b]:=⟨_,List.take_add_one.trans (by rw [hj];rfl)⟩
  refine ⟨_,_,rfl,(hEm (ps:=[[],[a]]) (t:=y.take (j+1)) (List.cons_ne_nil _ _) (ph vV (rL ha)) (ph (P:=λp=>p.length<=1000) (Nat.zero_le _) (show 1<=1000 by decide)) (show 2<=100 by decide) (by rw [List.length_take];exact Nat.le_trans (Nat.min_le_right _ _) hy)).trans ?_⟩
  rw [e,A7]
 |3,_=>⟨_,_,rfl,(hEm (ps:=[[],[a,a],[a,a],[]]) (t:=[a,a,a,b]) (List.cons_ne_nil _ _) (yV vV (BD ha) (BD ha) vV) (yV (P:=λp=>p.length<=1000) (Nat.zero_le _) (show 2<=1000 by decide) (show 2<=1000 by decide) (Nat.zero_le _)) (show 4<=100 by decide) (show 4<=1000 by decide)).trans (congrArg (some ∘ D.bool) (A8 a ha b hb))⟩
 |n+4,h=>absurd h (Nat.not_lt.mpr (Nat.le_add_left 4 n))
theorem kB {α:Type} {x:α} {r:List α} (l:List α):(l++x :: r)[l.length]? = some x:=by rw [List.getElem?_append_right (Nat.le_refl _),Nat.sub_self];rfl
theorem ji {α:Type} {x y:α} {r:List α}:∀ l:List α,(l++x :: r).set l.length y=l++y :: r
 | []=>rfl
 |a :: l=>congrArg (a :: ·) (ji l)
theorem rJ (a b:List Nat):mk a++mk b=mk (a++b):=congrArg PySem.Str.mk (List.append_toArray a b)
theorem i9 {b:Bool}:cmpD .Is (.bool b) (.bool true)=some b:=by
 cases b with
 |true=>rfl
 |false=>rfl
section
variable {G:ag} {F:FEnv} {O:MEnv}
theorem eS {b:Bool} {e c:T} {x y:List Nat} (h:ev G F O true e=some (sS x)) (h2:ev G F O true c=some (sS y)) (hx:sizeOk x.length=true) (hy:sizeOk y.length=true):ev G F O b (.bin .Add e c)=some (sS (x++y)) :=
 af h h2 ((fh (by rw [ax];exact aF hx) (by rw [ax];exact aF hy)).trans (by rw [rJ]))
theorem fQ {b:Bool}:ev G F O b (.cst (.str "..."))=some (sS dots):=congrArg (some ∘ D.str) eH
theorem qb {b:Bool} {e:T} {a:Nat} {n:Nat} (h:ev G F O true e=some (sS [a])) (hn:n<=1000):ev G F O b (.bin .Mult e (.cst (.int (n:Int))))=some (sS (List.replicate n a)):=by
 refine af h ak ?_
 show (if (sizeOk ((mk [a]).length * (n:Int).toNat)&&idxOk (n:Int))=true then some (D.str (rep (mk [a]) (n:Int).toNat)) else none)=_
 rw [ax,Int.toNat_natCast,ah (show [a].length * n<=1048576 from Nat.le_trans (Nat.le_of_eq (Nat.one_mul n)) (Nat.le_trans hn (by decide))),cE (Nat.le_trans hn (by decide))]
 have r:∀ k,rep (mk [a]) k=mk (List.replicate k a):=λk=>by
  induction k with
  |zero=>rfl
  |succ k ih=>show mk [a]++rep (mk [a]) k=_;rw [ih,rJ];rfl
 exact congrArg (some ∘ D.str) (r n)
theorem oJ {i m u:Nat} {a:T} {L:List Nat} (h:getE O i=some (dn L,true)) (ha:ev G F O true a=some (dI m)) (hm:m<L.length) (hl:L.length<=1000):putI G F O i a (dI u)=some (setE O i (dn (L.set m u)) true) :=
 ad (en h (ah (by rw [List.length_map];exact Nat.le_trans hl (by decide)))) (ad ha (ad (a:=(m:Int)) rfl (aq (c:=(decide (0<=(m:Int))&&decide ((m:Int)<((L.map dI).length:Nat)))=true) (by rw [decide_eq_true (Int.natCast_nonneg m),List.length_map,decide_eq_true (Int.ofNat_lt.mpr hm)];rfl) (by
  unfold dn
  rw [List.map_set];rfl))))
theorem AI {i j:Nat} {a c es:T} {p q:D} {O1 O2:MEnv} {rest:S} {r:Option (MEnv×Out)} (h:ev G F O false es=some (.tup [p,q])) (h1:putI G F O i a p=some O1) (h2:putI G F O1 j c q=some O2) (k:ex G F O2 rest=r):ex G F O (.seq (.set2 i a j c es) rest)=r :=
 an (ad h (ad (a:=[p,q]) rfl (ad (a:=(p,q)) rfl (ad h1 (aQ h2 rfl))))) k
end
noncomputable def chD (l:List Nat):List D:=l.map λb=>sS [b]
theorem i7 {l:List Nat} (h:l.length<=1000):iterD (sS l)=some (chD l):=aq (cn h) rfl
theorem l9:∀ x:List Nat,(List.range x.length).map (λi=>x.length - 1 - i)=(rowsN x).map Prod.snd
 | []=>rfl
 |a :: x=>by
  rw [List.length_cons,List.range_succ_eq_map,List.map_cons,List.map_map,Nat.add_sub_cancel]
  show (x.length - 0) :: _=x.length :: (rowsN x).map Prod.snd
  rw [<- l9 x,Nat.sub_zero]
  refine congrArg (x.length :: ·) (List.map_congr_left λi Zz=> ?_)
  show x.length - (i+1)=x.length - 1 - i
  rw [Nat.sub_sub,Nat.add_comm]
theorem nM {G:ag} {F:FEnv} {O:MEnv} {e it2:T} {d:D} {xs:List D} (h:ev G F O false e=some d) (hi:iterD d=some xs):evI G F O false .enum e it2=some (enumD 0 xs):=ad h (aQ hi rfl)
section
variable {G:ag} {F:FEnv} {x y:List Nat}
noncomputable def cmE (x y L U:List Nat) (x4 x5 x6 x7 x8 x9 x10:Option (D×Bool)):MEnv:=[o (sS x),o (sS y),some (dn L,true),some (dn U,true),x4,x5,x6,x7,x8,x9,x10]
variable (hEm:kt F) (hy:y.length<=1000)
include hEm hy
theorem xv {a b s u:Nat} {outs rest pre us:List Nat} {x6 x7 x8 x9 x10:Option (D×Bool)} (ha:a∈FIL) (hb:b∈FIL) (hj:y[pre.length]? = some b) (hL:(outs++s :: rest).length<=1000) (hU:(pre++u :: us).length<=1000):∃ y8 y9 y10,
  bodyT G F [6,7] false s1B11 (cmE x y (outs++s :: rest) (pre++u :: us) (o (dI outs.length)) (o (sS [a])) x6 x7 x8 x9 x10) (.tup [dI pre.length,sS [b]])=some (cmE x y (outs++cond (a==b || decide (u<s)) u s :: rest) (pre++cond (a==b || decide (u<s)) s u :: us) (o (dI outs.length)) (o (sS [a])) (o (dI pre.length)) (o (sS [b])) y8 y9 y10,.next):=by
 obtain ⟨w,g,h1,h2⟩:=xj hEm ha hb hy hj (k:=(outs.length+pre.length) % 4) (Nat.mod_lt _ (by decide))
 have hlL:outs.length<(outs++s :: rest).length:=by rw [List.length_append];exact Nat.lt_add_of_pos_right (Nat.succ_pos _)
 have hlU:pre.length<(pre++u :: us).length:=by rw [List.length_append];exact Nat.lt_add_of_pos_right (Nat.succ_pos _)
 have hp:pre.length<=1000:=Nat.le_trans (Nat.le_of_lt hlU) hU
 have idx:∀ {l:List Nat} {k v:Nat},l[k]? = some v->l.length<=1000->idxD (dn l) (dI k)=some (dI v):=λh hl=>db (by rw [List.getElem?_map,h];rfl) (by rw [List.length_map];exact Nat.le_trans hl (by decide))
 have iL:=idx (kB (x:=s) (r:=rest) outs) hL
 have iU:=idx (kB (x:=u) (r:=us) pre) hU
 refine ⟨o (.tup (formD a b pre.length y)),o w,o g,?_⟩
 refine ad (a:=cmE x y (outs++s :: rest) (pre++u :: us) (o (dI outs.length)) (o (sS [a])) (o (dI pre.length)) (o (sS [b])) x8 x9 x10) rfl (aE (d:= .tup (formD a b pre.length y)) ?_ (iO (x:=w) (y:=g) (aD rfl (bR 4 (aM (m:=outs.length) (n:=pre.length) rfl rfl) (by decide)) h1) ?_))
 ·refine a8 (aW (a8 (aC rfl rfl)) (fP (a8 (aC (eS (x:=[a]) (y:=dots) rfl fQ rfl rfl) (a7 (x:=sS y) (l':=dI pre.length) rfl rfl ao ao (dJ hy (Nat.le_trans hp (by decide)))))) (a8 (aC (eS (x:=dots) (y:=[a]) fQ rfl rfl rfl) (a7 (x:=sS y) (u':=dI (pre.length+1)) rfl ao (aM (n:=1) rfl ak) ao (gZ hy (Nat.le_trans (Nat.succ_le_succ hp) (by decide))))))
   (a8 (aC (eS (x:=[46,46,46,a,a,46,46,46,a,a]) (y:=dots) (eS (x:=[46,46,46,a,a,46,46,46]) (y:=[a,a]) (eS (x:=[46,46,46,a,a]) (y:=dots) (eS (x:=dots) (y:=[a,a]) fQ (qb (n:=2) rfl (by decide)) rfl rfl) fQ rfl rfl) (qb (n:=2) rfl (by decide)) rfl rfl) fQ rfl rfl) (eS (x:=[a,a,a]) (y:=[b]) (qb (n:=3) rfl (by decide)) rfl rfl rfl))))) rfl
 ·refine an (O1:=cmE x y (outs++cond (a==b || decide (u<s)) u s :: rest) (pre++cond (a==b || decide (u<s)) s u :: us) (o (dI outs.length)) (o (sS [a])) (o (dI pre.length)) (o (sS [b])) (o (.tup (formD a b pre.length y))) (o w) (o g)) ?_ rfl
  have hc:ev G F (cmE x y (outs++s :: rest) (pre++u :: us) (o (dI outs.length)) (o (sS [a])) (o (dI pre.length)) (o (sS [b])) (o (.tup (formD a b pre.length y))) (o w) (o g)) true (.bop .Or (.cmp .Is (.call "_ellipsis_match" (.cons (.var 9) (.cons (.var 10) .nil))) (.cst (.bool true))) (.cmp .Gt (.idx (.var 2) (.var 4)) (.idx (.var 3) (.var 6))))=some (.bool (a==b || decide (u<s))) :=
   qj (aj (au (aC rfl rfl) h2) (eW rfl) i9) λZz=>aj (aD (aX rfl) rfl iL) (aD (aX rfl) rfl iU) (congrArg some (decide_eq_decide.mpr Int.ofNat_lt))
  cases q:a==b || decide (u<s) with
  |false =>
   rw [q] at hc
   exact a6 hc rfl rfl
  |true =>
   rw [q] at hc
   exact aJ hc rfl (AI (aC (aD (aX rfl) rfl iU) (aD (aX rfl) rfl iL)) ((oJ (L:=outs++s :: rest) (m:=outs.length) rfl rfl hlL hL).trans (by rw [ji])) ((oJ (L:=pre++u :: us) (m:=pre.length) rfl rfl hlU hU).trans (by rw [ji];rfl)) rfl)
theorem nU {a:Nat} {outs rest:List Nat} (ha:a∈FIL) (hf:∀ b∈y,b∈FIL) (hO:outs.length+rest.length<=900):∀ (ys us pY pre:List Nat) (s:Nat) (x6 x7 x8 x9 x10:Option (D×Bool)),y=pY++ys->us.length=ys.length->pre.length=pY.length ->
  ∃ y6 y7 y8 y9 y10,loopL (bodyT G F [6,7] false s1B11) (cmE x y (outs++s :: rest) (pre++us) (o (dI outs.length)) (o (sS [a])) x6 x7 x8 x9 x10) (enumD pre.length (ys.map λb=>sS [b]))=some (cmE x y (outs++(rowS a s ys us).2 :: rest) (pre++(rowS a s ys us).1) (o (dI outs.length)) (o (sS [a])) y6 y7 y8 y9 y10,.next)
 | [],[],pY,pre,s,x6,x7,x8,x9,x10,_,_,_=>⟨x6,x7,x8,x9,x10,rfl⟩
 | [],_ :: _,_,_,_,_,_,_,_,_,_,h,_=>nomatch h
 |_ :: _,[],_,_,_,_,_,_,_,_,_,h,_=>nomatch h
 |b :: ys,u :: us,pY,pre,s,x6,x7,x8,x9,x10,hy1,hl,hp=>by
  have hj:y[pre.length]? = some b:=by rw [hp,hy1];exact kB pY
  have hyl:y.length=pY.length+(ys.length+1):=by rw [hy1,List.length_append];rfl
  obtain ⟨y8,y9,y10,e⟩:=xv (G:=G) (x:=x) hEm hy (a:=a) (b:=b) (s:=s) (u:=u) (outs:=outs) (rest:=rest) (pre:=pre) (us:=us) (x6:=x6) (x7:=x7) (x8:=x8) (x9:=x9) (x10:=x10) ha (hf b (List.mem_of_getElem? hj)) hj (by rw [List.length_append,List.length_cons];exact Nat.le_trans (Nat.succ_le_succ hO) (by decide)) (by rw [List.length_append,List.length_cons,hp,Nat.succ.inj hl,<- hyl];exact hy)
  obtain ⟨z6,z7,z8,z9,z10,ih⟩:=nU ha hf hO ys us (pY++[b]) (pre++[cond (a==b || decide (u<s)) s u]) (cond (a==b || decide (u<s)) u s) (o (dI pre.length)) (o (sS [b])) y8 y9 y10 (by rw [hy1,List.append_assoc];rfl) (Nat.succ.inj hl) (by rw [List.length_append,List.length_append,hp];rfl)
  rw [List.length_append,List.append_assoc,List.append_assoc] at ih
  exact ⟨z6,z7,z8,z9,z10,aw e ih⟩
theorem lQ (hf:∀ b∈y,b∈FIL):∀ (xs outs U:List Nat) (x4 x5 x6 x7 x8 x9 x10:Option (D×Bool)),(∀ a∈xs,a∈FIL)->outs.length+xs.length<=900->U.length=y.length ->
  ∃ y4 y5 y6 y7 y8 y9 y10,loopL (bodyT G F [4,5] false s1B12) (cmE x y (outs++(rowsN xs).map Prod.snd) U x4 x5 x6 x7 x8 x9 x10) (enumD outs.length (chD xs))=some (cmE x y (comb y (rowsN xs) (U,outs.reverse)).2.reverse (comb y (rowsN xs) (U,outs.reverse)).1 y4 y5 y6 y7 y8 y9 y10,.next)
 | [],outs,U,x4,x5,x6,x7,x8,x9,x10,_,_,_=>⟨x4,x5,x6,x7,x8,x9,x10,by
  show some (cmE x y (outs++[]) U x4 x5 x6 x7 x8 x9 x10,Out.next)=some (cmE x y outs.reverse.reverse U x4 x5 x6 x7 x8 x9 x10,Out.next)
  rw [List.append_nil,List.reverse_reverse]⟩
 |a :: xs,outs,U,x4,x5,x6,x7,x8,x9,x10,hx,hO,hU=>by
  obtain ⟨y6,y7,y8,y9,y10,e⟩:=nU (G:=G) (x:=x) hEm hy (a:=a) (outs:=outs) (rest:=(rowsN xs).map Prod.snd) (hx a List.mem_cons_self) hf (by rw [List.length_map,dG];exact Nat.le_trans (Nat.add_le_add_left (Nat.le_succ _) _) hO) y U [] [] xs.length x6 x7 x8 x9 x10 rfl hU rfl
  obtain ⟨z4,z5,z6,z7,z8,z9,z10,ih⟩:=lQ hf xs (outs++[(rowS a xs.length y U).2]) (rowS a xs.length y U).1 (o (dI outs.length)) (o (sS [a])) y6 y7 y8 y9 y10 (λc h=>hx c (List.mem_cons_of_mem _ h)) (by rw [List.length_append,Nat.add_assoc,Nat.add_comm [_].length];exact hO) (jg _ _ _ _ hU)
  rw [List.length_append,List.append_assoc,List.reverse_append] at ih
  refine ⟨z4,z5,z6,z7,z8,z9,z10,aw (O':=cmE x y (outs++(rowS a xs.length y U).2 :: (rowsN xs).map Prod.snd) (rowS a xs.length y U).1 (o (dI outs.length)) (o (sS [a])) y6 y7 y8 y9 y10) ?_ ih⟩
  exact ad (a:=cmE x y (outs++xs.length :: (rowsN xs).map Prod.snd) U (o (dI outs.length)) (o (sS [a])) x6 x7 x8 x9 x10) rfl (cB rfl (nM (d:=sS y) rfl (i7 hy)) e rfl)
theorem uQ (hx:∀ a∈x,a∈FIL) (hf:∀ b∈y,b∈FIL) (h1:1<=x.length) (h3:x.length<=3):run G F 11 s1_law_come [sS x,sS y]=some (dn (comeN x y)):=by
 have hx3:x.length<=1000:=Nat.le_trans h3 (by decide)
 obtain ⟨y4,y5,y6,y7,y8,y9,y10,e⟩:=lQ (G:=G) (x:=x) hEm hy hf x [] (topsN x.length y.length) none none none none none none none hx (by rw [List.length_nil,Nat.zero_add];exact Nat.le_trans h3 (by decide)) (by unfold topsN;rw [List.length_map,List.length_range])
 have hl:=eF y (rowsN x) (topsN x.length y.length) [] (by unfold topsN;rw [List.length_map,List.length_range])
 rw [dG,List.length_nil,Nat.add_zero] at hl
 have e10:ev G F [o (sS x),o (sS y),none,none,none,none,none,none,none,none,none] false s1C10=some (dn ((rowsN x).map Prod.snd)):=by
  rw [<- l9]
  exact (aU (l:=List.range x.length) (inj:=dI) (y:=λi=>dI (x.length - 1 - i)) rfl (b9 (bD rfl hx3) (Nat.le_trans hx3 (by decide))) (show 4<11 by decide) λi hi O' g1 g2 Zz=>bT (bT (n:=1) (bD (ab (g2 0 (by decide))) hx3) ak h1) (ab g1) (Nat.le_sub_one_of_lt (List.mem_range.mp hi))).trans (congrArg (some ∘ D.list) (List.map_map (g:=dI) (f:=λi=>x.length - 1 - i)).symm)
 have e9:ev G F [o (sS x),o (sS y),none,none,none,none,none,none,none,none,none] false s1C9=some (dn (topsN x.length y.length)) :=
  (aU (l:=List.range y.length) (inj:=dI) (y:=λj=>dI (x.length+j)) rfl (b9 (bD rfl hy) (Nat.le_trans hy (by decide))) (show 6<11 by decide) λi hi O' g1 g2 Zz=>aM (bD (ab (g2 0 (by decide))) hx3) (ab g1)).trans (congrArg (some ∘ D.list) (List.map_map (g:=dI) (f:=λj=>x.length+j)).symm)
 refine aH [o (sS x),o (sS y),none,none,none,none,none,none,none,none,none] rfl (jr (ds:=[dn ((rowsN x).map Prod.snd),dn (topsN x.length y.length)]) (aC e10 e9) (by show (true&&scalL (dn ((rowsN x).map Prod.snd))&&(true&&scalL (dn (topsN x.length y.length))&&true))=true;rw [iW,iW];rfl) rfl (cB rfl (nM (d:=sS x) rfl (i7 hx3)) e (aN ?_)))
 have l3:(comb y (rowsN x) (topsN x.length y.length,[])).2.reverse.length<=3:=by rw [List.length_reverse,hl.2];exact h3
 exact af (aX rfl) (a7 (x:=dn (comb y (rowsN x) (topsN x.length y.length,[])).2.reverse) (s':= .int (-1)) (aX rfl) ao ao rfl (eV (l':=none) (u':=none) (st':=some (-1)) rfl rfl rfl (by decide) (by rw [List.length_map];exact Nat.le_trans l3 (by decide)) ((gV _ _ _ _ _).trans (by rw [z0 l3,List.reverse_reverse])))) (fj (xs:=(comb y (rowsN x) (topsN x.length y.length,[])).1) (ys:=(comb y (rowsN x) (topsN x.length y.length,[])).2) (by rw [hl.1];exact Nat.le_trans hy (by decide)) (by rw [hl.2];exact Nat.le_trans h3 (by decide)))
end
noncomputable def flN (ps:List Nat) (base:Nat):List Nat:=(ps.filter λk=>decide (base+k<32)).map (base + ·)
noncomputable def abN (ps:List Nat) (base:Nat):Nat:=((ps.filter λk=>decide (32<=base+k)).map λk=>2 ^ (base+k - 32)).sum
noncomputable def HX:List Nat:=[48,49,50,51,52,53,54,55,56,57,97,98,99,100,101,102]
noncomputable def hx1 (a:Nat):Str:=("0x":Str)++mk [HX.getD a 0]
noncomputable def hxS (a:Nat):Str:=hx1 a++cond (!decide (a=0)) ("00000000":Str) ""
noncomputable def wdsN (ps:List Nat) (base:Nat):List Str:=(flN ps base).map wordN++cond (!decide (abN ps base=0) || (flN ps base).isEmpty) [hxS (abN ps base)] []
theorem zz:("0123456789abcdef":Str)=mk HX:=by decide
theorem zy:∀ a<16,(hx1 a).length<=1048576:=by decide
section
variable {G:ag} {F:FEnv} {O:MEnv}
theorem dK {b:Bool} {a c:T} {m k:Nat} (h:ev G F O true a=some (dI m)) (h2:ev G F O true c=some (dI k)) (hm:m<=1000000) (hk:k<=1000):ev G F O b (.bin .Pow a c)=some (dI (m ^ k)) :=
 af h h2 ((AX (Int.natCast_nonneg k) (Nat.le_trans hk (by decide)) (Nat.lt_of_le_of_lt hm (by decide))).trans (congrArg (some ∘ D.int) (Int.natCast_pow m k).symm))
theorem w9 {k:Nat} (hk:k<32) (h2:getE O 2=o (.str flagsS)) (h7:getE O 7=o (dI k)) :
  ev G F O false (.ite (.cmp .Lt (.var 7) (.cst (.int 10))) (.idx (.meth .split (.var 2) (.cons (.cst (.str " ")) .nil)) (.var 7)) (.bin .Add (.bin .Add (.cst (.str "0x")) (.idx (.cst (.str "1248")) (.bin .Mod (.var 7) (.cst (.int 4))))) (.bin .Mult (.cst (.str "0")) (.bin .FloorDiv (.var 7) (.cst (.int 4))))))=some (.str (wordN k)) :=
 cG D.str (vm (n:=10) (ab h7) ak) rfl (λh=>aD (bd (ab h2) (aB bN) xh) (ab h7) (pJ (f:=D.str) "" (de h:k<wordsL.length) (by decide))) λZz =>
  have hm:=Nat.mod_lt k (show 0<4 by decide)
  have hd:k / 4<8:=Nat.div_lt_of_lt_mul hk
  af (af bN (aD bN (bR 4 (ab h7) (by decide)) (wS hm)) (fh (by decide) (oH _ hm).2)) (af bN (cR 4 (ab h7) (by decide) (by decide)) (AY hd)) (fh (oH _ hm).1 (ye _ hd))
theorem Bt {b r s:Bool} {a c:T} {x:D} (h:ev G F O b a=some x) (ht:truthy x=some r) (h2:r=false->ev G F O b c=some (.bool s)):∃ y,ev G F O b (.bop .Or a c)=some y/\truthy y=some (r || s):=by
 cases r with
 |true=>exact ⟨x,ad h (ad ht rfl),ht⟩
 |false=>exact ⟨.bool s,ad h (ad ht (h2 rfl)),rfl⟩
theorem mx (n:Nat):truthy (dI n)=some (!decide (n=0)):=by
 cases n with
 |zero=>rfl
 |succ n=>rfl
theorem zj (l:List Str):cmpD .Eq (lst D.str l) (.list [])=some l.isEmpty:=by
 cases l with
 |nil=>rfl
 |cons _ _=>rfl
noncomputable def wdE (ps:List Nat) (base:Nat) (x4 x5:Option (D×Bool)):MEnv:=[o (dn ps),o (dI base),o (.str flagsS),o (dn (flN ps base)),x4,x5,none,none]
theorem sD {ps:List Nat} {base:Nat} (h5:ps.length<=5) (hp:∀ k∈ps,k<5) (hb:base<32) (ha:abN ps base<16) (hz:sizeOk (2 * (wdsN ps base).length+((wdsN ps base).map (·.length)).sum)=true):run G F 8 s1_law_words [dn ps,dI base]=some (.str (Txt.join ", " (wdsN ps base))):=by
 have h5':ps.length<=1048576:=Nat.le_trans h5 (by decide)
 have hi:iterD (dn ps)=some (ps.map dI):=cD (by rw [List.length_map];exact h5')
 have hf:∀ {c:Nat->Bool},(ps.filter c).length<=5:=Nat.le_trans (List.length_filter_le _ _) h5
 have e3:ev G F [o (dn ps),o (dI base),o (.str flagsS),none,none,none,none,none] false s1C13=some (dn (flN ps base)) :=
  (bV (O:=[o (dn ps),o (dI base),o (.str flagsS),none,none,none,none,none]) (l:=ps) (inj:=dI) (c:=λk=>decide (base+k<32)) (y:=λk=>dI (base+k)) rfl (bw rfl hi) (show 6<8 by decide) λk hk O' g1 g2 Zz =>
   have s:∀ {b},ev G F O' b (.bin .Add (.var 1) (.var 6))=some (dI (base+k)):=aM (ab (g2 1 (by decide))) (ab g1)
   ⟨vm (n:=32) s ak,λZz=>s⟩).trans (congrArg (some ∘ D.list) (List.map_map (g:=dI) (f:=(base + ·))).symm)
 have e4:ev G F (wdE ps base none none) false s1C14=some (lst D.str ((flN ps base).map wordN)) :=
  (aU (l:=flN ps base) (inj:=dI) (y:=λk=> .str (wordN k)) rfl (bw rfl (cD (by unfold flN;rw [List.length_map,List.length_map];exact Nat.le_trans hf (by decide)))) (show 7<8 by decide) λk hk O' g1 g2 Zz=>by
   obtain ⟨j,hj,rfl⟩:=List.mem_map.mp hk
   exact w9 (de (List.mem_filter.mp hj).2) (g2 2 (by decide)) g1).trans (congrArg (some ∘ D.list) (List.map_map (g:=D.str) (f:=wordN)).symm)
 have e5:∀ {x4},ev G F (wdE ps base x4 none) true s1C15=some (dn ((ps.filter λk=>decide (32<=base+k)).map λk=>2 ^ (base+k - 32))):=λ{x4} =>
  (bV (O:=wdE ps base x4 none) (l:=ps) (inj:=dI) (c:=λk=>decide (32<=base+k)) (y:=λk=>dI (2 ^ (base+k - 32))) rfl (bw rfl hi) (show 6<8 by decide) λk hk O' g1 g2 Zz =>
   have s:∀ {b},ev G F O' b (.bin .Add (.var 1) (.var 6))=some (dI (base+k)):=aM (ab (g2 1 (by decide))) (ab g1)
   ⟨aj (x:=dI (base+k)) (y:=dI 32) s rfl (vG _ _),λh=>dK (m:=2) ak (bT (n:=32) s ak (de h)) (by decide) (Nat.le_trans (Nat.sub_le _ _) (Nat.le_trans (Nat.add_le_add (Nat.le_of_lt hb) (Nat.le_of_lt (hp k hk))) (by decide)))⟩).trans (congrArg (some ∘ D.list) (List.map_map (g:=dI) (f:=λk=>2 ^ (base+k - 32))).symm)
 have hw:((flN ps base).map wordN).length<=5:=by unfold flN;rw [List.length_map,List.length_map];exact hf
 refine aH [o (dn ps),o (dI base),none,none,none,none,none,none] rfl (aE (d:= .str flagsS) rfl (aE e3 (cH e4 rfl (aE (d:=dI (abN ps base)) (aG (aB e5) (qg (by rw [List.length_map];exact Nat.le_trans hf (by decide)))) (an (O1:=wdE ps base (some (lst D.str (wdsN ps base),true)) (o (dI (abN ps base)))) ?_ (aN (bd bN (aB (aX rfl)) (iy hz))))))))
 obtain ⟨y,g1,g2⟩:=Bt (G:=G) (F:=F) (O:=wdE ps base (some (lst D.str ((flN ps base).map wordN),true)) (o (dI (abN ps base)))) (b:=true) (a:= .var 5) (c:= .cmp .Eq (.var 4) (.list .nil)) rfl (mx (abN ps base)) λZz=>aj (aX rfl) rfl (zj _)
 rw [List.isEmpty_map] at g2
 unfold wdsN
 cases q : !decide (abN ps base=0) || (flN ps base).isEmpty with
 |false =>
  rw [q] at g2
  refine (a6 g1 g2 rfl).trans ?_
  rw [show cond false [hxS (abN ps base)] []=[] from rfl,List.append_nil];rfl
 |true =>
  rw [q] at g2
  refine aJ g1 g2 (gk (xs:=((flN ps base).map wordN).map D.str) (d:= .str (hxS (abN ps base))) rfl (ah (by rw [List.length_map];exact Nat.le_trans hw (by decide))) ?_ ?_)
  ·exact af (af bN (aD bN rfl ((congrArg (idxD · _) (congrArg D.str zz)).trans (dU (cs:=HX) (k:=abN ps base) (by rw [List.getD_eq_getElem?_getD,List.getElem?_eq_getElem (show abN ps base<HX.length from ha)];rfl) (by decide)))) (fh (by decide) (show (mk [_]).length<=1048576 by rw [ax];exact (by decide:1<=1048576)))) (cG D.str rfl (mx _) (λZz=>bN) λZz=>bN) (fh (zy _ ha) (by cases !decide (abN ps base=0)<;>decide))
  ·unfold lst
   rw [List.map_append];rfl
end
noncomputable def b5 (s:Nat):List Nat:=(List.range 5).filter λk=>decide (s / 2 ^ k % 2=1)
noncomputable def flB (s base:Nat):Bool:=decide ((pfl 32 0 (s * 2 ^ base)).2.1.natAbs<18446744073709551616)&&sizeOk (2 * (pf (s * 2 ^ base)).length+((pf (s * 2 ^ base)).map (·.length)).sum)&&decide (pf (s * 2 ^ base)=wdsN (b5 s) base)&&decide (abN (b5 s) base<16)
theorem zq:(List.range 32).all (λs=>(List.range 32).all λbase=>flB s base)=true:=by decide +kernel
theorem wu:[4,5].all (λn=>(List.range (2 ^ n)).all λs=>(List.range n).filter (λk=>(bitsN n s).getD k false)==b5 s)=true:=by decide +kernel
theorem wv {us:List Bool} (h:us.length=4\/us.length=5):(List.range us.length).filter (λk=>us.getD k false)=b5 (numB us)/\numB us<32:=by
 obtain ⟨h1,h2⟩:=cY us
 have hm:us.length∈[4,5]/\us.length<=5:=by rcases h with e |e<;>rw [e]<;>decide
 have t:=eq_of_beq (List.all_eq_true.mp (List.all_eq_true.mp wu _ hm.1) _ (List.mem_range.mpr h2))
 rw [h1] at t
 exact ⟨t,Nat.lt_of_lt_of_le h2 (Nat.pow_le_pow_right (n:=2) (by decide) hm.2)⟩
structure Has (O:MEnv) (l:List (Nat×D)):Prop where
 len:O.length=43
 ge:∀ {i:Nat} {d:D},l.lookup i=some d->getE O i=o d
theorem Has.set {O:MEnv} {l:List (Nat×D)} (H:Has O l) {i:Nat} {d:D} (hi:i<43):Has (setE O i d false) ((i,d) :: l) :=
 ⟨setE_len.trans H.len,λh=>fH h (λe1 e2=>by rw [e1,<- e2];exact bc (by rw [H.len];exact hi)) λhn h=>(aR hn).trans (H.ge h)⟩
theorem Has.keep {O:MEnv} {l:List (Nat×D)} (H:Has O l) {i:Nat} {d:D} {x:Bool} (hi:l.lookup i=none):Has (setE O i d x) l :=
 ⟨setE_len.trans H.len,λ{j e} h=>(aR λq=>nomatch (q▸hi).symm.trans h).trans (H.ge h)⟩
def Sub (l:List (Nat×D)):List (Nat×D)->Prop
 | []=>True
 |p :: r=>l.lookup p.1=some p.2/\Sub l r
theorem Has.sub {O:MEnv} {l:List (Nat×D)} (H:Has O l):∀ {l':List (Nat×D)},Sub l l'->Has O l'
 | [],_=>⟨H.len,λh=>ai h⟩
 |(i,d) :: r,⟨h1,h2⟩=>⟨H.len,λh=>fH h (λe1 e2=>H.ge (e1▸e2▸h1)) λZz h=>(H.sub h2).ge h⟩
def Tells (r:Option (MEnv×Out)):Prop:=∃ O,r=some (O,.ret (.bool true))
theorem Tells.of {r r':Option (MEnv×Out)} (h:Tells r) (e:r'=r):Tells r':=e▸h
section
variable {G:ag} {F:FEnv} {O:MEnv} {l:List (Nat×D)}
theorem bM {i:Nat} {e:T} {d:D} {rest:S} (H:Has O l) (hi:i<43) (h:ev G F O false e=some d) (k:∀ {O':MEnv},Has O' ((i,d) :: l)->Tells (ex G F O' rest)):Tells (ex G F O (.seq (.asg i false e) rest)):=(k (H.set hi)).of (aE h rfl)
theorem kh {c:T} {x:D} {a rest:S} (h:ev G F O true c=some x) (ht:truthy x=some false) (k:Tells (ex G F O rest)):Tells (ex G F O (.seq (.ifs c a .skip) rest)):=k.of (bU h ht (bu rfl))
theorem we {O':MEnv} {tg:List Nat} {one:Bool} {k:IK} {it it2:T} {body rest:S} {xs:List D} (he:enumOk one k=true) (hi:evI G F (freeze O it) false k it it2=some xs) (hl:loopL (bodyT G F tg one body) (freeze O it) xs=some (O',.next)) (h:Tells (ex G F O' rest)):Tells (ex G F O (.seq (.fors tg one k it it2 body .skip) rest)):=h.of (cB he hi hl rfl)
theorem Has.inn (H:Has O l) {O':MEnv} {i j:Nat} {d:D} (h:∀ j,j≠i->getE O' j=getE O j) (hj:j≠i) (hl:l.lookup j=some d):getE O' j=o d:=(h j hj).trans (H.ge hl)
end
section
variable {G:ag} {F:FEnv} {O:MEnv} {l:List (Nat×D)} {x y z u:D}
theorem mv {i j m:Nat} {e:T} {rest:S} (H:Has O l) (hi:i<43) (hj:j<43) (hm:m<43) (h:ev G F O false e=some (.tup [x,y,z])) (hf:freshAll [(i,false),(j,false),(m,false)] e [x,y,z]=true) (k:∀ {O':MEnv},Has O' ((m,z) :: (j,y) :: (i,x) :: l)->Tells (ex G F O' rest)):Tells (ex G F O (.seq (.multi [(i,false),(j,false),(m,false)] e) rest)):=(k (((H.set hi).set hj).set hm)).of (vw h hf rfl)
theorem u0 {i j m n:Nat} {e:T} {rest:S} (H:Has O l) (hi:i<43) (hj:j<43) (hm:m<43) (hn:n<43) (h:ev G F O false e=some (.tup [x,y,z,u])) (hf:freshAll [(i,false),(j,false),(m,false),(n,false)] e [x,y,z,u]=true) (k:∀ {O':MEnv},Has O' ((n,u) :: (m,z) :: (j,y) :: (i,x) :: l)->Tells (ex G F O' rest)):Tells (ex G F O (.seq (.multi [(i,false),(j,false),(m,false),(n,false)] e) rest)):=(k ((((H.set hi).set hj).set hm).set hn)).of (vx h hf rfl)
theorem dq {b:Bool} {dr:D} {k:Int} (H:Has O l) (h2:l.lookup 2=some dr) (i:idxD dr (.int k)=some x):ev G F O b (.idx (.var 2) (.cst (.int k)))=some x:=aD (ab (H.ge h2)) ak i
end
theorem rZ:∀ n<61,∀ k<6,(sliceRange (sliceBounds (some ((k:Nat):Int)) none (some 6) n).1 (sliceBounds (some ((k:Nat):Int)) none (some 6) n).2.1 (sliceBounds (some ((k:Nat):Int)) none (some 6) n).2.2).length<=60:=by decide +kernel
theorem rY {α:Type} {xs:List α} (h:xs.length<=60) {k:Nat} (hk:k<6):(pickL xs (some (k:Int)) none (some 6)).length<=60 :=
 Nat.le_trans (List.length_filterMap_le _ _) (rZ xs.length (Nat.lt_succ_of_le h) k hk)
theorem Bp {xs:List Nat} {k:Nat} (h:xs.length<=60) (hk:k<6):sliD (dn xs) (.int (k:Int)) .none (.int 6)=some (dn (pickL xs (some (k:Int)) none (some 6))) :=
 eV (u':=none) (st':=some 6) (bj (Nat.le_trans (Nat.le_of_lt hk) (by decide))) rfl rfl (by decide) (by rw [List.length_map];exact Nat.le_trans h (by decide)) (gV _ _ _ _ _)
noncomputable def sumZ (ns:List Int) (k:Nat):Nat:=(pickL (drawZ ns) (some (k:Int)) none (some 6)).sum
section
variable {G:ag} {F:FEnv} {O:MEnv}
theorem Bb {b:Bool} {ns:List Int} {l:List (Nat×D)} (hns:ns.length<=63) (H:Has O l) (h0:l.lookup 0=some (dZ ns)):ev G F O b s1C30=some (dn (drawZ ns)) :=
 (aU (l:=ns.take 60) (inj:= .int) (y:=λx=>dI (x.fmod 1000000000).toNat) rfl (bw (a7 (x:=dZ ns) (ab (H.ge h0)) ao ak ao (jV (n:=60) (by rw [List.length_map];exact Nat.le_trans hns (by decide)) (by decide))) (by rw [<- List.map_take];exact cD (by rw [List.length_map,List.length_take];exact Nat.le_trans (Nat.min_le_left _ _) (by decide)))) (by rw [H.len];decide) λx Zz O' h1 Zz Zz =>
  af (y:= .int 1000000000) (ab h1) (by kernel_rfl!) ((pj (by decide)).trans (congrArg (some ∘ D.int) (BQ x).1))).trans (congrArg (some ∘ D.list) (List.map_map (g:=dI) (f:=λx:Int=>(x.fmod 1000000000).toNat)).symm)
theorem tY {b:Bool} {ns:List Int} {l:List (Nat×D)} (H:Has O l) (h1:l.lookup 1=some (dn (drawZ ns))) :
  ev G F O b s1C29=some (.list ([(0,42),(1,55),(2,95),(3,421),(4,40),(5,163)].map λp=>dI (p.2+sumZ ns p.1))) :=
 qN (l:=[(0,42),(1,55),(2,95),(3,421),(4,40),(5,163)]) (f:=λp:Nat×Nat=>dI p.1) (g:=λp=>dI p.2) rfl rfl (by rw [H.len];decide) (by rw [H.len];decide) (by decide) λp hp O' g1 g2 g3 =>
  have hc:p.1<6:=(by decide:∀ p∈[(0,42),(1,55),(2,95),(3,421),(4,40),(5,163)],p.1<6) p hp
  aM (ab g2) (aG (aB (a7 (ab ((g3 1 (by decide) (by decide)).trans (H.ge h1))) (ab g1) ao ak (Bp (jD ns) hc))) (qg (Nat.le_trans (rY (jD ns) hc) (by decide))))
theorem pS {ns:List Int} (hns:ns.length<=63) (H:Has O [(0,dZ ns)]) (k:∀ {O':MEnv} {d0 d1 d2 d3 d4 d5:Nat},Has O' [(2,dn [d0,d1,d2,d3,d4,d5])]->Tells (ex G F O' s1t2)):Tells (ex G F O s1t0) :=
 bM H (by decide) (Bb hns H rfl) λH1=>bM H1 (by decide) (tY (ns:=ns) H1 rfl) λH2 =>
  k (d0:=42+sumZ ns 0) (d1:=55+sumZ ns 1) (d2:=95+sumZ ns 2) (d3:=421+sumZ ns 3) (d4:=40+sumZ ns 4) (d5:=163+sumZ ns 5) (H2.sub ⟨rfl,trivial⟩)
noncomputable def ltr (d k:Nat):Nat:=FIL.getD (d / 3 ^ k % 3) 0
noncomputable def txN (d n:Nat):List Nat:=(List.range n).map (ltr d)
theorem xG (d k:Nat):ltr d k∈FIL:=getD_mem (Nat.mod_lt _ (by decide))
theorem s6 {d n:Nat}:∀ c∈txN d n,c∈FIL:=λc h=>by
 obtain ⟨k,Zz,rfl⟩:=List.mem_map.mp h
 exact xG d k
theorem cF {d n:Nat}:(txN d n).length=n:=(List.length_map _).trans List.length_range
theorem xd:("fil":Str)=mk FIL:=by decide
theorem kZ {α:Type} (f:α->Nat):∀ l:List α,(l.map λk=>[f k]).flatten=l.map f
 | []=>rfl
 |a :: l=>congrArg (f a :: ·) (kZ f l)
theorem nJ {b:Bool} {l:List (Nat×D)} {dr:D} {i:Int} {d n:Nat} {tn:T} (H:Has O l) (h2:l.lookup 2=some dr) (hi:idxD dr (.int i)=some (dI d)) (hn:ev G F O true tn=some (dI n)) (h5:n<=5) :
  ev G F O b (.meth .join (.cst (.str "")) (.cons (.comp (.idx (.cst (.str "fil")) (.bin .Mod (.bin .FloorDiv (.idx (.var 2) (.cst (.int i))) (.bin .Pow (.cst (.int 3)) (.var 40))) (.cst (.int 3)))) [40] true .range1 tn .nil (.cst (.bool true)) [40]) .nil))=some (sS (txN d n)):=by
 refine bd (ds:=[lst sS ((List.range n).map λk=>[ltr d k])]) bN (aB ((aU (l:=List.range n) (inj:=dI) (y:=λk=>sS [ltr d k]) rfl (b9 hn (Nat.le_trans h5 (by decide))) (by rw [H.len];decide) λk hk O' g1 g2 Zz=> ?_).trans (congrArg (some ∘ D.list) (List.map_map (g:=sS) (f:=λk=>[ltr d k])).symm))) ((oe (λp hp=> ?_) (by rw [List.length_map,List.length_range];exact Nat.le_trans h5 (by decide))).trans (by rw [kZ];rfl))
 ·have hk5:k<5:=Nat.lt_of_lt_of_le (List.mem_range.mp hk) h5
  have p3:3 ^ k≠0/\3 ^ k<=1000000:=(by decide:∀ k<5,3 ^ k≠0/\3 ^ k<=1000000) k hk5
  exact aD bN (bR 3 (mH (aD (ab (H.inn g2 (by decide) h2)) ak hi) (dK (m:=3) ak (ab g1) (by decide) (Nat.le_trans (Nat.le_of_lt hk5) (by decide))) p3.1 p3.2) (by decide)) ((congrArg (idxD · _) (congrArg D.str xd)).trans (dU (cs:=FIL) (c:=ltr d k) (by unfold ltr;rw [List.getD_eq_getElem?_getD,List.getElem?_eq_getElem (show d / 3 ^ k % 3<FIL.length from Nat.mod_lt _ (by decide))];rfl) (by decide)))
 ·obtain ⟨k,Zz,rfl⟩:=List.mem_map.mp hp
  exact (by decide:1<=1000)
noncomputable def mN (d:Nat):Nat:=2+d / 27 % 2
noncomputable def nN (d:Nat):Nat:=4+d / 243 % 2
theorem zN (d:Nat):1<=mN d/\mN d<=3:=⟨Nat.le_trans (by decide) (Nat.le_add_right 2 _),Nat.add_le_add_left (Nat.le_of_lt_succ (Nat.mod_lt _ (by decide))) 2⟩
theorem zS (d:Nat):nN d=4\/nN d=5:=(Nat.mod_two_eq_zero_or_one (d / 243)).imp (λe=>congrArg (4 + ·) e) λe=>congrArg (4 + ·) e
theorem pU {dr:D} {d0 d1 d4:Nat} (i0:idxD dr (.int 0)=some (dI d0)) (i1:idxD dr (.int 1)=some (dI d1)) (i4:idxD dr (.int 4)=some (dI d4)) (H:Has O [(2,dr)])
  (k:∀ {O':MEnv},Has O' [(2,dr),(3,sS (txN d0 (mN d0))),(4,sS (txN d1 (nN d1))),(5,dI (mN d0)),(6,dI (nN d1)),(7,dI (d4 % 32)),(8,dI (4+d4 / 32 % 60))]->Tells (ex G F O' s1t5)):Tells (ex G F O s1t2):=by
 have m3:=(zN d0).2
 have n5:nN d1<=5:=(zS d1).elim (λe=>e▸by decide) λe=>e▸Nat.le_refl 5
 exact bM H (by decide) (nJ H rfl i0 (aM (m:=2) ak (bR 2 (cR 27 (dq H rfl i0) (by decide) (by decide)) (by decide))) (Nat.le_trans m3 (by decide))) λH =>
  bM H (by decide) (nJ H rfl i1 (aM (m:=4) ak (bR 2 (cR 243 (dq H rfl i1) (by decide) (by decide)) (by decide))) n5) λH =>
  u0 (x:=dI (mN d0)) (y:=dI (nN d1)) (z:=dI (d4 % 32)) (u:=dI (4+d4 / 32 % 60)) H (by decide) (by decide) (by decide) (by decide)
   (aW ((bD (w:=txN d0 (mN d0)) (ab (H.ge rfl)) (by rw [cF];exact Nat.le_trans m3 (by decide))).trans (by rw [cF])) (fP ((bD (w:=txN d1 (nN d1)) (ab (H.ge rfl)) (by rw [cF];exact Nat.le_trans n5 (by decide))).trans (by rw [cF])) (bR 32 (dq H rfl i4) (by decide)) (aM (m:=4) ak (bR 60 (cR 32 (dq H rfl i4) (by decide) (by decide)) (by decide))))) rfl λH =>
  k (H.sub ⟨rfl,rfl,rfl,rfl,rfl,rfl,rfl,trivial⟩)
end
theorem wT {l:List Nat} (h:l.length<=1048576):sliD (dn l) .none (.int (-1)) .none=some (dn l.dropLast):=(md (by rw [List.length_map];exact h)).trans (congrArg (some ∘ D.list) (List.map_dropLast).symm)
theorem yu {F:FEnv} (hOc:∀ vs:List Int,(∀ v∈vs,0<v/\v<64 ^ 3)->3 * vs.length<=100000->F "_law_octets" [dZ vs]=some (dZ (tapeN [] vs))) (hRd:∀ ds,F "_law_read" ds=readSpec ds) {W:List Nat} (hs:∀ x∈W,0<x/\x<262144) (hz:W.length<=36) :
  ∃ os:List Int,os.length<=108/\F "_law_octets" [dn W]=some (dZ os)/\F "_law_read" [dZ os]=some (dn W)/\F "_law_read" [dZ os.dropLast]=some (dn W.dropLast):=by
 have hv:∀ v∈iN W,0<v/\v<64 ^ 3:=λv hv=>by
  obtain ⟨x,hx,rfl⟩:=List.mem_map.mp hv
  exact ⟨Int.natCast_pos.mpr (hs x hx).1,Int.ofNat_lt.mpr (hs x hx).2⟩
 have hl:3 * (iN W).length<=108:=by rw [rb];exact Nat.mul_le_mul_left 3 hz
 have T:Tape (tapeN [] (iN W)) (iN W):=mw (iN W) [] [] .nil λv h=>Int.le_of_lt (hv v h).1
 have h1:(tapeN [] (iN W)).length<=108:=j2 (M:=2) (iN W) [] (λv h=>⟨Int.le_of_lt (hv v h).1,(hv v h).2⟩) (by rw [List.length_nil,Nat.zero_add];exact hl)
 have hd:(tapeN [] (iN W)).dropLast.length<=600:=by rw [List.length_dropLast];exact Nat.le_trans (Nat.sub_le _ _) (Nat.le_trans h1 (by decide))
 refine ⟨_,h1,by rw [fY];exact hOc _ hv (Nat.le_trans hl (by decide)),?_,?_⟩
 ·rw [hRd,oN (Nat.le_trans h1 (by decide)),T.rd (Nat.le_succ_of_le T.len),fY]
 ·rw [hRd,oN hd,T.rd_cut (by rw [List.length_dropLast];exact Nat.le_trans T.len (Nat.le_add_of_sub_le (Nat.le_refl _))),fY]
  exact congrArg (some ∘ dZ) List.map_dropLast.symm
theorem uF (l:List (List Nat)):cmpD .NotEq (lst sS l) (lst sS l)=some false:=ei ((kS (inj:=sS) (λa b=>congrArg some (lH a b)) l l).trans (congrArg some (beq_self_eq_true l)))
section
variable {G:ag} {F:FEnv} {O:MEnv}
variable (hSp:∀ {ls:List Nat} {pick noise:Nat},(∀ c∈ls,97<=c)->ls.length<=400->F "_law_spelled" [sS ls,dI pick,dI noise]=some (dn (splN noise (List.range ls.length) ls pick)))
  (hOc:∀ vs:List Int,(∀ v∈vs,0<v/\v<64 ^ 3)->3 * vs.length<=100000->F "_law_octets" [dZ vs]=some (dZ (tapeN [] vs))) (hRd:∀ ds,F "_law_read" ds=readSpec ds)
  {b1L:List Int} {b3L:List (Int×Str)} (hMe:∀ {pts:List Nat} {gs:List (List Nat)} {ls:List Nat},(∀ x∈pts,na b1L x)->pts.length<=1000->(pts.filter λx=> !uN.contains x).map (b3v b3L)=gs.map mk->gs.flatten=ls->(∀ g∈gs,g.length<=1000)->gs.length<=1000->F "_law_meant" [dn pts]=some (sS ls))
  (P:ky b1L b3L) (J:pc b1L b3L)
include P J hMe in
theorem sM {noise pick B:Nat} {ls:List Nat} (hf:∀ c∈ls,c∈FIL) (h0:1<=ls.length) (h5:ls.length<=B) (hB:B<=100):(∀ x∈splN noise (List.range ls.length) ls pick,na b1L x)/\1<=(splN noise (List.range ls.length) ls pick).length/\(splN noise (List.range ls.length) ls pick).length<=2 * B/\F "_law_meant" [dn (splN noise (List.range ls.length) ls pick)]=some (sS ls):=by
 obtain ⟨h1,gs,h2,h3,h4,h6⟩:=jm P J noise (List.range ls.length) ls pick (λc h=>kX c (hf c h)) (by rw [List.length_range];exact Nat.le_refl _)
 have hl:=jk noise (List.range ls.length) ls pick
 rw [List.length_range] at hl h6
 have hl2:=Nat.le_trans hl (Nat.mul_le_mul_left 2 h5)
 refine ⟨h1,?_,hl2,hMe h1 (Nat.le_trans hl2 (Nat.le_trans (Nat.mul_le_mul_left 2 hB) (by decide))) h2 h3 (λg hg=>Nat.le_trans (h4 g hg) (Nat.le_trans h5 (Nat.le_trans hB (by decide)))) (Nat.le_trans h6 (Nat.le_trans h5 (Nat.le_trans hB (by decide))))⟩
 cases ls with
 |nil=>exact nomatch h0
 |cons c r =>
  rw [List.length_cons,List.range_succ_eq_map]
  exact yj noise
include hSp hOc hRd hMe P J
theorem pT {dr b6 b7 b8:D} {d2 d3:Nat} {x y:List Nat} (hx:∀ c∈x,c∈FIL) (hy:∀ c∈y,c∈FIL) (x1:1<=x.length) (x3:x.length<=3) (y1:1<=y.length) (y5:y.length<=5) (i2:idxD dr (.int 2)=some (dI d2)) (i3:idxD dr (.int 3)=some (dI d3))
  (H:Has O [(2,dr),(3,sS x),(4,sS y),(5,dI x.length),(6,b6),(7,b7),(8,b8)])
  (k:∀ {O':MEnv},Has O' [(2,dr),(3,sS x),(4,sS y),(5,dI x.length),(6,b6),(7,b7),(8,b8)]->Tells (ex G F O' s1t11)):Tells (ex G F O s1t5):=by
 obtain ⟨s1,l1,z1,m1⟩:=sM (noise:=d3) (pick:=d2) hMe P J hx x1 x3 (by decide)
 obtain ⟨s2,l2,z2,m2⟩:=sM (noise:=d3 / 7) (pick:=d2 / 7) hMe P J hy y1 y5 (by decide)
 have c1:=hSp (ls:=x) (pick:=d2) (noise:=d3) (λc h=>(kX c (hx c h)).le) (Nat.le_trans x3 (by decide))
 have c2:=hSp (ls:=y) (pick:=d2 / 7) (noise:=d3 / 7) (λc h=>(kX c (hy c h)).le) (Nat.le_trans y5 (by decide))
 generalize splN d3 (List.range x.length) x d2=p1 at *
 generalize splN (d3 / 7) (List.range y.length) y (d2 / 7)=p2 at *
 have hW:([p1.length]++p1++p2).length<=36:=by
  rw [List.length_append,List.length_append]
  exact Nat.le_trans (Nat.add_le_add (Nat.add_le_add_left z1 1) z2) (by decide)
 obtain ⟨os,hz,f1,f2,f3⟩:=yu hOc hRd (W:=[p1.length]++p1++p2) (λv hv=>by
  rcases List.mem_append.mp hv with h |h
  ·rcases List.mem_append.mp h with h |h
   ·rw [List.mem_singleton.mp h]
    exact ⟨l1,Nat.lt_of_le_of_lt z1 (by decide)⟩
   ·exact ⟨(s1 v h).pos,(s1 v h).lt⟩
  ·exact ⟨(s2 v h).pos,(s2 v h).lt⟩) hW
 have hz':os.length<=1048576:=Nat.le_trans hz (by decide)
 have hW':([p1.length]++p1++p2).length<=1048576:=Nat.le_trans hW (by decide)
 have hWm:(([p1.length]++p1++p2).map dI).length<=1048576:=by rw [List.length_map];exact hW'
 have p1z:p1.length<=1048575:=Nat.le_trans z1 (by decide)
 have top:∀ {O:MEnv} {l:List (Nat×D)} {b:Bool} (H:Has O l) (h:l.lookup 12=some (dn ([p1.length]++p1++p2))),ev G F O b (.bin .Add (.cst (.int 1)) (.idx (.var 12) (.cst (.int 0))))=some (dI (1+p1.length)):=λH h=>aM (m:=1) ak (aD (x:=dn ([p1.length]++p1++p2)) (y:= .int ((0:Nat):Int)) (ab (H.ge h)) ak (ug (l:=[p1.length]++p1++p2) (k:=0) (Nat.succ_pos _) hW'))
 exact bM H (by decide) (au (fP (ab (H.ge rfl)) (dq H rfl i2) (dq H rfl i3)) c1) λH =>
  bM H (by decide) (af (af (bP (aB (aG (aB (ab (d:=dn p1) (H.ge rfl))) ((fT (by rw [List.length_map];exact Nat.le_succ_of_le p1z)).trans (by rw [List.length_map]))))) (ab (d:=dn p1) (H.ge rfl)) (fj (xs:=[p1.length]) (ys:=p1) fJ (Nat.le_succ_of_le p1z))) (au (fP (ab (H.ge rfl)) (cR 7 (dq H rfl i2) (by decide) (by decide)) (cR 7 (dq H rfl i3) (by decide) (by decide))) c2) (fj (xs:=[p1.length]++p1) (by rw [List.length_append];exact Nat.le_trans (Nat.add_le_add_left p1z 1) (by decide)) (Nat.le_trans z2 (by decide)))) λH =>
  bM H (by decide) (au (aB (ab (H.ge rfl))) f1) λH=>bM H (by decide) (au (aB (ab (H.ge rfl))) f2) λH =>
  kh (x:= .bool false) (qj (r:=false) (s:=false) (aj (x:=dn ([p1.length]++p1++p2)) (y:=dn ([p1.length]++p1++p2)) (ab (H.ge rfl)) (ab (H.ge rfl)) (iA _)) λZz =>
   aj (x:=dn ([p1.length]++p1++p2).dropLast) (y:=dn ([p1.length]++p1++p2).dropLast) (au (aB (a7 (x:=dZ os) (u':= .int (-1)) (ab (H.ge rfl)) ao rfl ao (wP hz'))) f3) (a7 (x:=dn ([p1.length]++p1++p2)) (u':= .int (-1)) (ab (H.ge rfl)) ao rfl ao (wT hW')) (iA _)) rfl
  (kh (aj (x:=lst sS [x,y]) (y:=lst sS [x,y]) (bP (aC (au (aB (a7 (x:=dn ([p1.length]++p1++p2)) (l':=dI 1) (u':=dI (1+p1.length)) (ab (H.ge rfl)) ak (top H rfl) ao (eV (st':=none) (bj fJ) (bj (Nat.le_trans (Nat.add_le_add_left p1z 1) (by decide))) rfl Bool.false_ne_true hWm ((lT _ (by rw [List.length_map];exact Nat.le_trans (Nat.succ_pos 0) (Nat.succ_le_succ (Nat.zero_le _)))).trans (by rw [<- List.map_drop,<- List.map_take,List.append_assoc,List.singleton_append,List.drop_succ_cons,List.drop_zero,List.take_left]))))) m1)
   (au (aB (a7 (x:=dn ([p1.length]++p1++p2)) (l':=dI (1+p1.length)) (ab (H.ge rfl)) (top H rfl) ao ao ((uU hWm (Nat.le_trans (Nat.add_le_add_left p1z 1) (by decide))).trans (by rw [<- List.map_drop,List.append_assoc,List.singleton_append,Nat.add_comm 1,List.drop_succ_cons,List.drop_left];rfl)))) m2))) (bP (aC (ab (H.ge rfl)) (ab (H.ge rfl)))) (uF _)) rfl
  (k (H.sub ⟨rfl,rfl,rfl,rfl,rfl,rfl,rfl,trivial⟩)))
end
noncomputable def sgZ (j:Nat):Int:=1 - ((2 * (j % 2):Nat):Int)
theorem wd (j:Nat):sgZ j=1\/sgZ j = -1:=by
 unfold sgZ
 rcases Nat.mod_two_eq_zero_or_one j with h |h<;>rw [h]
 ·exact .inl rfl
 ·exact .inr rfl
theorem pC {L a r q:Int} (hL:0<L) (ha:a=r+L * q) (h0:0<=r) (h1:r<L):a.fdiv L=q/\a.fmod L=r:=by
 rw [ha,Int.add_mul_fdiv_left _ _ (Int.ne_of_gt hL),Int.add_mul_fmod_self_left,Int.fdiv_eq_zero_of_lt h0 h1,Int.zero_add]
 exact ⟨rfl,Int.fmod_eq_of_lt h0 h1⟩
theorem pD (a L:Int):a.fdiv (-1 * L)=(-a).fdiv L/\a.fmod (-1 * L) = -(-a).fmod L:=by
 rw [Int.neg_one_mul,<- Int.neg_fdiv_neg a,<- Int.neg_fmod_neg (-a),Int.neg_neg,Int.neg_neg]
 exact ⟨rfl,rfl⟩
structure yO (one two T W L e:Int):Prop where
 d1:(one * T).fdiv (two * L)=cond (decide (one=two)) W (-W - 1)
 m1:(one * T).fmod (two * L)=two * cond (decide (one=two)) e (L - e)
 d2:(one * (T - e)).fdiv (two * L)=one * two * W
 m2:(one * (T - e)).fmod (two * L)=0
theorem zV {one two T W L e:Int} (h1:one=1\/one = -1) (h2:two=1\/two = -1) (hT:T=e+L * W) (he:0<e) (hL:e<L):yO one two T W L e:=by
 have hz:0<L:=Int.lt_trans he hL
 obtain ⟨a1,a2⟩:=pC hz hT (Int.le_of_lt he) hL
 obtain ⟨b1,b2⟩:=pC (a:= -T) (r:=L - e) (q:= -W - 1) hz (by rw [hT,Int.mul_sub,Int.mul_neg,Int.mul_one];lia) (Int.sub_nonneg_of_le (Int.le_of_lt hL)) (Int.sub_lt_self L he)
 obtain ⟨c1,c2⟩:=pC (a:=T - e) (r:=0) (q:=W) hz (by rw [hT,Int.add_comm e,Int.add_sub_cancel,Int.zero_add]) (Int.le_refl 0) hz
 obtain ⟨d1,d2⟩:=pC (a:= -(T - e)) (r:=0) (q:= -W) hz (by rw [hT,Int.add_comm e,Int.add_sub_cancel,Int.zero_add,Int.mul_neg]) (Int.le_refl 0) hz
 rcases h1 with rfl |rfl<;>rcases h2 with rfl |rfl
 ·rw [<- Int.one_mul T,<- Int.one_mul L] at a1 a2
  rw [<- Int.one_mul (T - e),<- Int.one_mul L] at c1 c2
  exact ⟨a1,a2.trans (Int.one_mul e).symm,c1.trans (Int.one_mul W).symm,c2⟩
 ·obtain ⟨s1,s2⟩:=pD (1 * T) L
  obtain ⟨s3,s4⟩:=pD (1 * (T - e)) L
  rw [Int.one_mul] at s1 s2 s3 s4
  exact ⟨by rw [Int.one_mul];exact s1.trans b1,by rw [Int.one_mul,s2,b2];exact (Int.neg_one_mul _).symm,by rw [Int.one_mul,s3,d1];exact (Int.neg_one_mul _).symm,by rw [Int.one_mul,s4,d2];rfl⟩
 ·rw [<- Int.neg_one_mul,<- Int.one_mul L] at b1
  rw [<- Int.neg_one_mul,<- Int.one_mul L] at b2
  rw [<- Int.neg_one_mul (T - e),<- Int.one_mul L] at d1 d2
  exact ⟨b1,b2.trans (show 1 * L - e=1 * (L - e) by rw [Int.one_mul,Int.one_mul]),d1.trans (Int.neg_one_mul _).symm,d2⟩
 ·obtain ⟨s1,s2⟩:=pD (-1 * T) L
  obtain ⟨s3,s4⟩:=pD (-1 * (T - e)) L
  rw [Int.neg_one_mul,Int.neg_neg] at s1 s2 s3 s4
  exact ⟨by rw [Int.neg_one_mul];exact s1.trans a1,by rw [Int.neg_one_mul,s2,a2];exact (Int.neg_one_mul _).symm,by rw [Int.neg_one_mul,s3,c1];exact (Int.one_mul W).symm,by rw [Int.neg_one_mul,s4,c2];rfl⟩
theorem A1 (a b:Nat):cmpD .Gt (dI a) (dI b)=some (decide (b<a)):=congrArg some (decide_eq_decide.mpr Int.ofNat_lt)
theorem oj (a b:Int):cmpD .NotEq (.tup [.int a,.int b]) (.tup [.int a,.int b])=some false:=ei (by
 show some ((a==a)&&((b==b)&&true))=some true
 rw [beq_self_eq_true,beq_self_eq_true];rfl)
theorem sH {z:Int} (h:z=1\/z = -1) (a:Int):(z * a).natAbs=a.natAbs:=by
 rw [Int.natAbs_mul]
 rcases h with rfl |rfl<;>exact Nat.one_mul _
theorem eT {z a:Int} (h:z=1\/z = -1) (ha:small a=true):small z=true/\small (z * a)=true:=by
 refine ⟨?_,?_⟩
 ·rcases h with rfl |rfl
  ·exact aV (n:=1) (by decide)
  ·exact (aV (n:=1) (by decide):small 1=true)
 ·unfold small at ha ⊢
  rw [sH h];exact ha
theorem jX {a c:Int} (h0:0<=c) (h1:c<=a) (hs:small a=true):small (a - c)=true:=by
 unfold small at hs ⊢
 rw [Int.natAbs_sub_of_nonneg_of_le h0 h1]
 exact decide_eq_true (Nat.lt_of_le_of_lt (Nat.sub_le _ _) (de hs))
structure BH (E:List Nat) (N w:Nat):Prop where
 s1:small (und w (iN (goneN E N)))=true
 s2:small (und w (iN (cntsN E N)))=true
 p1:0<=und w (iN (goneN E N))
 f1:d2iSpec [dn (goneN E N),dI w]=some (.int (und w (iN (goneN E N))))
 f2:d2iSpec [dn (cntsN E N),dI w]=some (.int (und w (iN (cntsN E N))))
 tot:und w (iN (cntsN E N))=(E.length:Int)+((2 ^ w - 1:Nat):Int) * und w (iN (goneN E N))
 fig:i2d (und w (iN (goneN E N))) w=iN ((goneN E N).filter (· != 0))
 big:E.length<2 ^ w - 1
theorem lU {w:Nat} (h:4<=w):16<=2 ^ w:=Nat.pow_le_pow_right (n:=2) (by decide) h
theorem o5 {l:List Nat} {w:Nat} (hl:∀ a∈l,a<2 ^ w) (h8:l.length<=8) (hw:w<=63):small (und w (iN l))=true/\0<=und w (iN l)/\d2iSpec [dn l,dI w]=some (.int (und w (iN l))):=by
 have hb:=vR hl
 have h8':(iN l).length<=8:=by rw [rb];exact h8
 have p:=ce w (iN l) λx hx=>(hb x hx).1
 have s:=fO p (mC w _ hb) (Nat.le_trans (Nat.mul_le_mul hw h8') (by decide))
 refine ⟨s,p,?_⟩
 rw [fY]
 exact kL (λd hd=>(hb d hd).1) (Nat.le_trans hw (by decide)) (Nat.le_trans h8' (by decide)) s (Nat.le_trans (Nat.mul_le_mul h8' hw) (by decide))
theorem yt {E:List Nat} {N w:Nat} (hE:∀ a∈E,a<N) (h8:E.length<=8) (hN:N<=8) (h4:4<=w) (hw:w<=63):BH E N w:=by
 have h16:=lU h4
 have g:∀ a∈goneN E N,a<2 ^ w:=λa ha=>by
  obtain ⟨k,Zz,rfl⟩:=List.mem_map.mp ha
  exact Nat.lt_of_le_of_lt (Nat.le_trans (Bd _ _) h8) (Nat.lt_of_lt_of_le (by decide) h16)
 have c:∀ a∈cntsN E N,a<2 ^ w:=λa ha=>by
  obtain ⟨k,Zz,rfl⟩:=List.mem_map.mp ha
  exact Nat.lt_of_le_of_lt (Nat.le_trans List.count_le_length h8) (Nat.lt_of_lt_of_le (by decide) h16)
 obtain ⟨s1,p1,f1⟩:=o5 g (by unfold goneN;rw [List.length_map,List.length_range];exact hN) hw
 obtain ⟨s2,Zz,f2⟩:=o5 c (by unfold cntsN;rw [List.length_map,List.length_range];exact hN) hw
 refine ⟨s1,s2,p1,f1,f2,?_,qU (nT E N) g (Nat.le_trans (by decide) h4) (Nat.le_trans hw (by decide)) s1,Nat.lt_of_le_of_lt h8 (Nat.lt_of_lt_of_le (by decide) (Nat.sub_le_sub_right h16 1))⟩
 rw [vd w hE,show ((2 ^ w - 1:Nat):Int)=2 ^ w - 1 by rw [Int.ofNat_sub (Nat.le_trans (by decide) h16),Int.natCast_pow];rfl]
section
variable {G:ag} {F:FEnv} {O:MEnv} {l:List (Nat×D)} {b:Bool}
theorem w7 {E:List Nat} {m n:Nat} (hE:E.length<=100) (hN:m+n<=100) (H:Has O l) (h5:l.lookup 5=some (dI m)) (h6:l.lookup 6=some (dI n)) (h17:l.lookup 17=some (dn E)):ev G F O b s1C26=some (dn (goneN E (m+n))) :=
 (aU (l:=List.range (m+n)) (inj:=dI) (y:=λk=>dI (gN E (k+1))) rfl (b9 (aM (ab (H.ge h5)) (ab (H.ge h6))) (Nat.le_trans hN (by decide))) (by rw [H.len];decide) λk hk O' g1 g2 g3 =>
  aG (aB ((bV (l:=E) (inj:=dI) (c:=thr (k+1)) (y:=dI) rfl (bw (ab (H.inn g2 (by decide) h17)) (cD (by rw [List.length_map];exact Nat.le_trans hE (by decide)))) (by rw [g3,H.len];decide) λs hs O2 q1 q2 Zz=>⟨aj (ab q1) (ab ((q2 40 (by decide)).trans g1)) (A1 s k),λZz=>ab q1⟩))) ((fT (by rw [List.length_map];exact Nat.le_trans (List.length_filter_le _ _) (Nat.le_trans hE (by decide)))).trans (by rw [List.length_map];rfl))).trans (congrArg (some ∘ D.list) (List.map_map (g:=dI) (f:=λk=>gN E (k+1))).symm)
theorem w0 {E:List Nat} {m n:Nat} (hE:E.length<=100) (hN:m+n<=100) (H:Has O l) (h5:l.lookup 5=some (dI m)) (h6:l.lookup 6=some (dI n)) (h17:l.lookup 17=some (dn E)):ev G F O b s1C24=some (dn (cntsN E (m+n))) :=
 (aU (l:=List.range (m+n)) (inj:=dI) (y:=λs=>dI (E.count s)) rfl (b9 (aM (ab (H.ge h5)) (ab (H.ge h6))) (Nat.le_trans hN (by decide))) (by rw [H.len];decide) λk hk O' g1 g2 g3 =>
  bd (ab (H.inn g2 (by decide) h17)) (aB (ab g1)) (oa (Nat.le_trans hE (by decide)))).trans (congrArg (some ∘ D.list) (List.map_map (g:=dI) (f:=λs=>E.count s)).symm)
theorem Ba {ls:List Nat} (hl:ls.length<=100) (H:Has O l) (h18:l.lookup 18=some (dn ls)):ev G F O b s1C23=some (dn (ls.filter (· != 0))) :=
 ft (l:=ls) (inj:=dI) (c:=(· != 0)) (y:=dI) rfl (bw (ab (H.ge h18)) (cD (by rw [List.length_map];exact Nat.le_trans hl (by decide)))) (by rw [H.len];decide) λk hk O' g1 g2 g3=>⟨⟨_,ab g1,mx k⟩,λZz=>ab g1⟩
theorem vL {dr:D} {d5 k:Nat} (H:Has O l) (h2:l.lookup 2=some dr) (i5:idxD dr (.int 5)=some (dI d5)) (hk:k≠0) (hk2:k<=1000000):ev G F O b (.bin .Sub (.cst (.int 1)) (.bin .Mult (.cst (.int 2)) (.bin .Mod (.bin .FloorDiv (.idx (.var 2) (.cst (.int 5))) (.cst (.int (k:Int)))) (.cst (.int 2)))))=some (.int (sgZ (d5 / k))) :=
 af ak (wg (m:=2) ak (bR 2 (cR k (dq H h2 i5) hk hk2) (by decide)) (by decide) (Nat.le_trans (Nat.le_of_lt (Nat.mod_lt _ (by decide))) (by decide))) rfl
variable (hDM:∀ a b:Int,small a=true->b≠0->small b=true->F "int_divmod" [.int a,.int b]=some (.tup [.int (a.fdiv b),.int (a.fmod b)])) (hD2:∀ ds,F "_digits2int" ds=d2iSpec ds) (hI:∀ ds,F "_int2digits" ds=i2dSpec ds)
include hDM hD2 hI
theorem rW {dr b7:D} {d5 w:Nat} {x y:List Nat} (h8:x.length+y.length<=8) (y1:1<=y.length) (h4:4<=w) (hw:w<=63) (i5:idxD dr (.int 5)=some (dI d5)) (hC:F "_law_come" [sS x,sS y]=some (dn (comeN x y)))
  (H:Has O [(2,dr),(3,sS x),(4,sS y),(5,dI x.length),(6,dI y.length),(7,b7),(8,dI w)])
  (k:∀ {O':MEnv} {e:Nat},1<=e->e<=x.length+y.length->Has O' [(2,dr),(3,sS x),(4,sS y),(5,dI x.length),(6,dI y.length),(7,b7),(13,dn (comeN x y)),(14,dI e),(23,dn ((goneN ((comeN x y).take e) (x.length+y.length)).filter (· != 0)))]->Tells (ex G F O' s1t20)):Tells (ex G F O s1t11):=by
 have hN:x.length+y.length≠0:=Nat.ne_of_gt (Nat.lt_of_lt_of_le y1 (Nat.le_add_left _ _))
 obtain ⟨e,hq⟩:∃ e,e=1+d5 % (x.length+y.length):=⟨_,rfl⟩
 have he:e<=x.length+y.length:=by
  rw [hq,Nat.add_comm];exact Nat.succ_le_of_lt (Nat.mod_lt _ (Nat.pos_of_ne_zero hN))
 have he1:1<=e:=hq▸Nat.le_add_right 1 _
 have hl:((comeN x y).take e).length=e:=by rw [List.length_take,gA,Nat.min_eq_left he]
 have hE8:((comeN x y).take e).length<=8:=by rw [hl];exact Nat.le_trans he h8
 have hCz:(comeN x y).length<=1048576:=by rw [gA];exact Nat.le_trans h8 (by decide)
 have S:=yt (E:=(comeN x y).take e) (N:=x.length+y.length) (w:=w) (λa ha=>wL x y a (List.mem_of_mem_take ha)) hE8 h8 h4 hw
 have h100:x.length+y.length<=100:=Nat.le_trans h8 (by decide)
 have k:= @k
 have hE100:=Nat.le_trans hE8 (show 8<=100 by decide)
 obtain ⟨E,hE⟩:∃ E,E=(comeN x y).take e:=⟨_,rfl⟩
 rw [<- hE] at hl hE8 S hE100
 obtain ⟨s1,s2,p1,f1,f2,tot,fig,big⟩:=S
 rw [hl] at tot big
 have hg100:(goneN E (x.length+y.length)).length<=100:=by unfold goneN;rw [List.length_map,List.length_range];exact h100
 generalize und w (iN (goneN E (x.length+y.length)))=W at *
 generalize und w (iN (cntsN E (x.length+y.length)))=T at *
 have hsL:small ((2 ^ w - 1:Nat):Int)=true:=fO (k:=w) (Int.natCast_nonneg _) (by
  rw [show (2:Int) ^ w=((2 ^ w:Nat):Int) from (Int.natCast_pow 2 w).symm]
  exact Int.ofNat_lt.mpr (Nat.sub_lt (Nat.lt_of_lt_of_le (by decide) (lU h4)) (by decide))) (Nat.le_trans hw (by decide))
 have hse:small (e:Int)=true:=aV (Nat.le_trans he (Nat.le_trans h8 (by decide)))
 have h2w:2 ^ w - 1<=2 ^ w:=Nat.sub_le _ _
 have hbig:(e:Int)<((2 ^ w - 1:Nat):Int):=Int.ofNat_lt.mpr big
 have one:=wd (d5 / 72)
 have two:=wd (d5 / 144)
 have P:=zV one two tot (Int.natCast_pos.mpr he1) hbig
 have hTe:small (T - (e:Int))=true:=jX (Int.natCast_nonneg e) (by rw [tot];exact Int.le_add_of_nonneg_right (Int.mul_nonneg (Int.natCast_nonneg _) p1)) s2
 have hpow:∀ {O:MEnv} {l:List (Nat×D)} {b:Bool} (H:Has O l) (h:l.lookup 8=some (dI w)),ev G F O b (.bin .Sub (.bin .Pow (.cst (.int 2)) (.var 8)) (.cst (.int 1)))=some (dI (2 ^ w - 1)):=λH h=>bT (n:=1) (dK (m:=2) ak (ab (H.ge h)) (by decide) (Nat.le_trans hw (by decide))) ak (Nat.le_trans (by decide) (lU h4))
 generalize hz1:sgZ (d5 / 72)=z1 at *
 generalize hz2:sgZ (d5 / 144)=z2 at *
 generalize hL:2 ^ w - 1=L at *
 obtain ⟨sz1,sT⟩:=eT one s2
 obtain ⟨Zz,sTe⟩:=eT one hTe
 obtain ⟨sz2,sLL⟩:=eT two hsL
 obtain ⟨Zz,sz12⟩:=eT one sz2
 have L0:z2 * (L:Int)≠0:=λq=>by
  have h:=sH two (L:Int)
  rw [q] at h
  exact Nat.ne_of_gt (Nat.lt_of_le_of_lt (Nat.zero_le e) big) h.symm
 have hLe:small ((L:Int) - (e:Int))=true:=jX (Int.natCast_nonneg e) (Int.le_of_lt hbig) hsL
 have g1:=(hDM _ _ sT L0 sLL).trans (by rw [P.d1,P.m1])
 have g2:=(hDM _ _ sTe L0 sLL).trans (by rw [P.d2,P.m2])
 have eqz:∀ a c:Int,cmpD .Eq (.int a) (.int c)=some (decide (a=c)):=λa c=>congrArg some (Bool.eq_iff_iff.mpr (by rw [beq_iff_eq,decide_eq_true_eq]))
 have g3:∀ r:Bool,cond r (cond r W (-W - 1)) (-(cond r W (-W - 1)) - 1)=W:=λr=>by
  cases r with
  |true=>rfl
  |false =>
   show -(-W - 1) - 1=W
   rw [Int.neg_sub,Int.sub_neg,Int.add_comm,Int.add_sub_cancel]
 have g4:i2dSpec [.int W,dI w]=some (dn ((goneN E (x.length+y.length)).filter (· != 0))):=(gK p1 s1 (Nat.le_trans (by decide) h4) (Nat.le_trans hw (by decide))).trans (by rw [fig,fY];rfl)
 exact bM H (by decide) (au (aC (ab (H.ge rfl)) (ab (H.ge rfl))) hC) λH =>
  mv (x:=dI e) (y:= .int z1) (z:= .int z2) H (by decide) (by decide) (by decide) (fP ((aM (m:=1) ak (mJ (dq H rfl i5) (aM (m:=x.length) (n:=y.length) (ab (H.ge rfl)) (ab (H.ge rfl))) hN)).trans (by rw [hq];rfl)) ((vL H rfl i5 (k:=72) (by decide) (by decide)).trans (by rw [hz1])) ((vL H rfl i5 (k:=144) (by decide) (by decide)).trans (by rw [hz2]))) rfl λH =>
  bM (d:=dn E) H (by decide) (a7 (x:=dn (comeN x y)) (u':=dI e) (ab (H.ge rfl)) ao (ab (H.ge rfl)) ao ((jV (by rw [List.length_map];exact hCz) (Nat.le_trans he (Nat.le_trans h8 (by decide)))).trans (by rw [<- List.map_take,<- hE];rfl))) λH =>
  bM H (by decide) (w7 hE100 h100 H rfl rfl rfl) λH =>
  mv (x:= .int W) (y:= .int T) (z:=dI L) H (by decide) (by decide) (by decide) (fP (au (aC (ab (H.ge rfl)) (ab (H.ge rfl))) ((hD2 _).trans f1)) (au (aC (w0 hE100 h100 H rfl rfl rfl) (ab (H.ge rfl))) ((hD2 _).trans f2)) (hpow H rfl)) rfl λH =>
  bM H (by decide) (au (aC (af (ab (H.ge rfl)) (ab (H.ge rfl)) (cM sz1 s2)) (af (ab (H.ge rfl)) (ab (d:= .int (L:Int)) (H.ge rfl)) (cM sz2 hsL))) g1) λH =>
  kh (x:= .bool false) (qj (r:=false) (s:=false) (aj (ab (H.ge rfl)) ((cG (λp:Int×Int=> .tup [.int p.1,.int (z2 * p.2)]) (x:=(W,(e:Int))) (y:=(-W - 1,(L:Int) - (e:Int))) (aj (ab (H.ge rfl)) (ab (H.ge rfl)) (eqz z1 z2)) rfl (λZz=>a8 (aC (ab (H.ge rfl)) (af (ab (H.ge rfl)) (ab (d:= .int (e:Int)) (H.ge rfl)) (cM sz2 hse)))) λZz=>a8 (aC (mF (op:= .Invert) (ab (d:= .int W) (H.ge rfl)) (congrArg (some ∘ D.int) (gx W))) (af (ab (H.ge rfl)) (af (ab (d:= .int (L:Int)) (H.ge rfl)) (ab (d:= .int (e:Int)) (H.ge rfl)) rfl) (cM sz2 hLe)))).trans (by cases decide (z1=z2)<;>rfl)) (oj _ _)) λZz =>
   aj (au (aC (af (ab (H.ge rfl)) (af (ab (d:= .int T) (H.ge rfl)) (ab (d:= .int (e:Int)) (H.ge rfl)) rfl) (cM sz1 hTe)) (af (ab (H.ge rfl)) (ab (d:= .int (L:Int)) (H.ge rfl)) (cM sz2 hsL))) g2) (a8 (aC (af (af (ab (H.ge rfl)) (ab (H.ge rfl)) (cM sz1 sz2)) (ab (H.ge rfl)) (cM sz12 s1)) ak)) (oj _ _)) rfl
  (bM H (by decide) (au (aC ((cG D.int (x:=cond (decide (z1=z2)) W (-W - 1)) (y:= -(cond (decide (z1=z2)) W (-W - 1)) - 1) (aj (ab (H.ge rfl)) (ab (H.ge rfl)) (eqz z1 z2)) rfl (λZz=>aD (ab (H.ge rfl)) ak rfl) λZz=>mF (op:= .Invert) (x:= .int (cond (decide (z1=z2)) W (-W - 1))) (aD (ab (H.ge rfl)) ak rfl) (congrArg (some ∘ D.int) (gx _))).trans (congrArg (some ∘ D.int) (g3 _))) (ab (H.ge rfl))) ((hI _).trans g4)) λH =>
  kh (aj (ab (H.ge rfl)) (Ba hg100 H rfl) (iA _)) rfl (k he1 he (hE▸H.sub ⟨rfl,rfl,rfl,rfl,rfl,rfl,rfl,rfl,rfl,trivial⟩)))
end
theorem BP (p q:Nat):(if (0:Int) > (p:Int) - (q:Int) then (0:Int) else (p:Int) - (q:Int))=((p - q:Nat):Int):=by
 by_cases h:q<=p
 ·rw [if_neg (Int.not_lt.mpr (Int.sub_nonneg_of_le (Int.ofNat_le.mpr h))),Int.ofNat_sub h]
 ·rw [if_pos (show (p:Int) - (q:Int)<0 from Int.sub_neg_of_lt (Int.ofNat_lt.mpr (Nat.lt_of_not_le h))),Nat.sub_eq_zero_of_le (Nat.le_of_not_le h)];rfl
theorem xL (p q:Nat):(if (q:Int)<(p:Int) then (q:Int) else (p:Int))=((min p q:Nat):Int):=by
 by_cases h:q<p
 ·rw [if_pos (Int.ofNat_lt.mpr h),Nat.min_eq_right (Nat.le_of_lt h)]
 ·rw [if_neg (λq=>h (Int.ofNat_lt.mp q)),Nat.min_eq_left (Nat.le_of_not_lt h)]
section
variable {G:ag} {F:FEnv} {O:MEnv} {b:Bool}
theorem fR {a c:T} {p q:Nat} (h:ev G F O true a=some (dI p)) (h2:ev G F O true c=some (dI q)):ev G F O b (.blt .max2 (.cons (.bin .Sub a c) (.cons (.cst (.int 0)) .nil)))=some (dI (p - q)) :=
 aG (ds:=[.int ((p:Int) - (q:Int)),.int 0]) (aC (af h h2 rfl) ak) (congrArg (some ∘ D.int) (BP p q))
theorem As {a c:T} {p q:Nat} (h:ev G F O true a=some (dI p)) (h2:ev G F O true c=some (dI q)):ev G F O b (.blt .min2 (.cons a (.cons c .nil)))=some (dI (min p q)) :=
 aG (ds:=[dI p,dI q]) (aC h h2) (congrArg (some ∘ D.int) (xL p q))
theorem zA (M z:Int):cmpD .In (.int z) (.tup [.int M,.int (M+1)])=some (decide (z=M) || decide (z=M+1)):=by
 show some ((M==z) || ((M+1==z) || false))=_
 rw [Bool.or_false]
 refine congrArg some (congr (congrArg or ?_) ?_)<;>exact Bool.eq_iff_iff.mpr (by rw [beq_iff_eq,decide_eq_true_eq];exact eq_comm)
end
theorem oB {Q:List Nat->Prop} {y L:List Nat} {low high:Nat} (h1:Q (y.take low)) (h2:Q (y.drop high)) (h3:∀ c∈L,Q [c]):∀ p∈y.take low :: (ones L++[y.drop high]),Q p:=λp hp=>(List.mem_cons.mp hp).elim (λe=>e▸h1) λhp=>(List.mem_append.mp hp).elim (λhp=>by
  obtain ⟨c,hc,rfl⟩:=List.mem_map.mp hp
  exact h3 c hc) λhp=>List.mem_singleton.mp hp▸h2
theorem oD {y L:List Nat} {low high:Nat} (hy5:y.length<=5) (hl:low<=y.length):∀ p∈y.take low :: (ones L++[y.drop high]),p.length<=1000:=oB (Q:=λp=>p.length<=1000) (Nat.le_trans (List.length_take_le _ _) (Nat.le_trans (Nat.le_trans hl hy5) (by decide))) (by rw [List.length_drop];exact Nat.le_trans (Nat.sub_le _ _) (Nat.le_trans hy5 (by decide))) λc Zz=>(by decide:1<=1000)
section
variable {G:ag} {F:FEnv} {l:List (Nat×D)} {y P:List Nat} {low high:Nat}
structure Bw (l:List (Nat×D)) (y P:List Nat) (low high:Nat) (M:Int):Prop where
 h4:l.lookup 4=some (sS y)
 h25:l.lookup 25=some (dI low)
 h26:l.lookup 26=some (dI high)
 h27:l.lookup 27=some (sS P)
 h28:l.lookup 28=some (.int M)
 n29:l.lookup 29=none
 n30:l.lookup 30=none
 n31:l.lookup 31=none
 n32:l.lookup 32=none
variable (K:Bw l y P low high (most P ((y.drop low).take (high - low)) low high)) (hEm:kt F) (hy:∀ c∈y,c∈FIL) (hP:∀ c∈P,c∈FIL) (hy5:y.length<=5) (hP3:P.length<=3) (hl:low<=y.length) (hh:high<=y.length)
include hEm hy hP hy5 hP3 hl hh
theorem A5 {L:List Nat} (hL:L.Sublist P):F "_ellipsis_match" [sS (joinL (y.take low :: (ones L++[y.drop high]))),sS y]=some (.bool (decide (low<=high)&&L.isSublist ((y.drop low).take (high - low)))):=by
 have hd:∀ {l:List Nat},(∀ c∈l,c∈FIL)->46∉l:=λh q=>lI 46 (h 46 q) rfl
 have hL3:L.length<=3:=Nat.le_trans hL.length_le hP3
 rw [<- wX hl hh]
 refine hEm (List.cons_ne_nil _ _) (oB (hd λc h=>hy c (List.mem_of_mem_take h)) (hd λc h=>hy c (List.mem_of_mem_drop h)) λc hc=>rL (hP c (hL.subset hc))) (oD hy5 hl) ?_ (Nat.le_trans hy5 (by decide))
 rw [List.length_cons,List.length_append,show (ones L).length=L.length from List.length_map _]
 exact Nat.le_trans (Nat.succ_le_succ (Nat.add_le_add_right hL3 1)) (by decide)
include K
theorem wH {O:MEnv} {c:Nat} {tk:List Int} (H:Has O l) (h29:getE O 29=some (dZ tk,true)) (hz:tk.length<=1000):∃ O',bodyT G F [30] true s1B21 O (dI c)=some (O',.next)/\Has O' l/\getE O' 29=some (dZ (tk++cond (hitB P ((y.drop low).take (high - low)) low high c) [((pickB P c).length:Int)] []),true):=by
 have hL:=eQ P c
 have hL3:(pickB P c).length<=3:=Nat.le_trans hL.length_le hP3
 have H1:Has (setE O 30 (dI c) false) l:=H.keep K.n30
 have g30:getE (setE O 30 (dI c) false) 30=o (dI c):=bc (by rw [H.len];decide)
 have hP10:P.length<=1000:=Nat.le_trans hP3 (by decide)
 have e31:ev G F (setE O 30 (dI c) false) false s1C20=some (lst sS (ones (pickB P c))) :=
  (ft (O:=setE O 30 (dI c) false) (l:=List.range P.length) (inj:=dI) (c:=λk=>decide (c / 2 ^ k % 2=1)) (y:=λk=>sS [P.getD k 0]) rfl (b9 (bD (w:=P) (ab (H1.ge K.h27)) hP10) (Nat.le_trans hP3 (by decide))) (by rw [H1.len];decide) λk hk O' g1 g2 Zz =>
   ⟨⟨_,Bu (ab ((g2 30 (by decide)).trans g30)) (ab g1),qh⟩,λZz=>aD (ab (H1.inn g2 (by decide) K.h27)) (ab g1) (dU (by
    have hk':=List.mem_range.mp hk
    rw [List.getD_eq_getElem?_getD,List.getElem?_eq_getElem hk'];rfl) hP10)⟩).trans (by
   rw [<- jP]
   unfold lst ones
   rw [List.map_map,List.map_map];rfl)
 have H2:Has (setE (setE O 30 (dI c) false) 31 (lst sS (ones (pickB P c))) false) l:=H1.keep K.n31
 have g31:getE (setE (setE O 30 (dI c) false) 31 (lst sS (ones (pickB P c))) false) 31=o (lst sS (ones (pickB P c))):=bc (by rw [H1.len];decide)
 have g29:getE (setE (setE O 30 (dI c) false) 31 (lst sS (ones (pickB P c))) false) 29=some (dZ tk,true):=(aR (by decide)).trans ((aR (by decide)).trans h29)
 have lo:(ones (pickB P c)).length=(pickB P c).length:=List.length_map _
 have ln:∀ {O:MEnv} {b:Bool},getE O 31=o (lst sS (ones (pickB P c)))->ev G F O b (.blt .len (.cons (.var 31) .nil))=some (.int ((pickB P c).length:Int)):=λh=>aG (aB (ab h)) ((fT (by rw [List.length_map,lo];exact Nat.le_trans hL3 (by decide))).trans (by rw [List.length_map,lo]))
 have ec:=aj (op:= .In) (G:=G) (F:=F) (a:= .blt .len (.cons (.var 31) .nil)) (c:= .tup (.cons (.var 28) (.cons (.bin .Add (.var 28) (.cst (.int 1))) .nil))) (ln g31) (a8 (aC (ab (H2.ge K.h28)) (af (ab (H2.ge K.h28)) ak rfl))) (zA (most P ((y.drop low).take (high - low)) low high) _) (b:=true)
 suffices h:∃ O',ex G F (setE (setE O 30 (dI c) false) 31 (lst sS (ones (pickB P c))) false) s1D1=some (O',.next)/\Has O' l/\getE O' 29=some (dZ (tk++cond (hitB P ((y.drop low).take (high - low)) low high c) [((pickB P c).length:Int)] []),true) by
  obtain ⟨O',h1,h2,h3⟩:=h
  exact ⟨O',ad (a:=setE O 30 (dI c) false) rfl (aE e31 (an h1 rfl)),h2,h3⟩
 unfold hitB
 generalize setE (setE O 30 (dI c) false) 31 (lst sS (ones (pickB P c))) false=O2 at *
 cases q1:decide (((pickB P c).length:Int)=most P ((y.drop low).take (high - low)) low high) || decide (((pickB P c).length:Int)=most P ((y.drop low).take (high - low)) low high+1) with
 |false =>
  rw [q1] at ec
  exact ⟨O2,a6 ec rfl rfl,H2,g29.trans (by rw [Bool.false_and];show _=some (dZ (tk++[]),true);rw [List.append_nil])⟩
 |true =>
  rw [q1] at ec
  have ej:ev G F O2 false s1J=some (sS (joinL (y.take low :: (ones (pickB P c)++[y.drop high])))) :=
   bd bN (aB (af (af (bP (aB (a7 (x:=sS y) (u':=dI low) (ab (H2.ge K.h4)) ao (ab (H2.ge K.h25)) ao (gZ (Nat.le_trans hy5 (by decide)) (Nat.le_trans (Nat.le_trans hl hy5) (by decide)))))) (ab g31) (n9 (f:=sS) (xs:=[y.take low]) fJ (by rw [lo];exact Nat.le_trans hL3 (by decide)))) (bP (aB (a7 (x:=sS y) (l':=dI high) (ab (H2.ge K.h4)) (ab (H2.ge K.h26)) ao ao (dJ (Nat.le_trans hy5 (by decide)) (Nat.le_trans (Nat.le_trans hh hy5) (by decide)))))) (n9 (f:=sS) (ys:=[y.drop high]) (by rw [List.length_append,lo];exact Nat.le_trans (Nat.add_le_add_left hL3 1) (by decide)) fJ))) (xH (p:=y.take low) (ps:=ones (pickB P c)++[y.drop high]) (oD hy5 hl) (by rw [List.length_cons,List.length_append,lo];exact Nat.le_trans (Nat.succ_le_succ (Nat.add_le_add_right hL3 1)) (by decide)))
  have e32:=au (b:=false) (f:="_ellipsis_match") (aC ej (ab (H2.ge K.h4))) (A5 hEm hy hP hy5 hP3 hl hh hL)
  generalize (decide (low<=high)&&(pickB P c).isSublist ((y.drop low).take (high - low)))=q2 at *
  have H3:Has (setE O2 32 (.bool q2) false) l:=H2.keep K.n32
  have g32:getE (setE O2 32 (.bool q2) false) 32=o (.bool q2):=bc (by rw [H2.len];decide)
  have g31':getE (setE O2 32 (.bool q2) false) 31=o (lst sS (ones (pickB P c))):=(aR (by decide)).trans g31
  have g29':getE (setE O2 32 (.bool q2) false) 29=some (dZ tk,true):=(aR (by decide)).trans g29
  suffices h:∃ O',ex G F (setE O2 32 (.bool q2) false) s1D2=some (O',.next)/\Has O' l/\getE O' 29=some (dZ (tk++cond (true&&q2) [((pickB P c).length:Int)] []),true) by
   obtain ⟨O',h1,h2,h3⟩:=h
   exact ⟨O',aJ ec rfl (aE e32 (an h1 rfl)),h2,h3⟩
  generalize setE O2 32 (.bool q2) false=O3 at *
  cases q2 with
  |true=>exact ⟨setE O3 29 (dZ (tk++[((pickB P c).length:Int)])) true,aJ (aj (ab g32) (eW rfl) i9) rfl (gk (xs:=tk.map .int) g29' (ah (by rw [List.length_map];exact Nat.le_trans hz (by decide))) (ln g31') (by unfold dZ lst;rw [List.map_append];rfl)),H3.keep K.n29,bc (by rw [H3.len];decide)⟩
  |false=>exact ⟨O3,a6 (aj (ab g32) (eW rfl) i9) rfl (bU (aj (op:= .IsNot) (r:=false) (ab g32) (eW rfl) rfl) rfl (bu rfl)),H3,g29'.trans (by show _=some (dZ (tk++[]),true);rw [List.append_nil])⟩
end
theorem xJ (p q:Nat):(if (p:Int) - (q:Int) > 1 then (p:Int) - (q:Int) else 1)=((max 1 (p - q):Nat):Int):=by
 rcases Nat.le_total q p with h |h
 ·rw [<- Int.ofNat_sub h]
  by_cases g:1<p - q
  ·rw [if_pos (show ((p - q:Nat):Int) > 1 from Int.ofNat_lt.mpr g),Nat.max_eq_right (Nat.le_of_lt g)]
  ·rw [if_neg (show ¬ ((p - q:Nat):Int) > 1 from λz=>g (Int.ofNat_lt.mp z)),Nat.max_eq_left (Nat.le_of_not_lt g)];rfl
 ·rw [Nat.sub_eq_zero_of_le h,if_neg (Int.not_lt.mpr (Int.le_trans (Int.sub_nonpos_of_le (Int.ofNat_le.mpr h)) (by decide)))];rfl
theorem xP {a b c:Nat} (h:a+b=c):(c:Int) - (a:Int)=(b:Int):=by rw [<- h,Int.natCast_add,Int.add_comm,Int.add_sub_cancel]
theorem A2 (a b:Nat):cmpD .LtE (dI a) (dI b)=some (decide (a<=b)):=congrArg some (decide_eq_decide.mpr Int.ofNat_le)
theorem Bn {n:Nat} (h:n<=1000):binD .Mult (dn [0]) (dI n)=some (dn (List.replicate n 0)):=by
 show (if (sizeOk (1 * (n:Int).toNat)&&idxOk (n:Int))=true then some (D.list ((List.replicate (n:Int).toNat [dI 0]).flatten)) else none)=_
 rw [Int.toNat_natCast,Nat.one_mul,ah (Nat.le_trans h (by decide)),cE (Nat.le_trans h (by decide))]
 refine congrArg (some ∘ D.list) ?_
 have r:∀ k,(List.replicate k [dI 0]).flatten=(List.replicate k 0).map dI:=λk=>by
  induction k with
  |zero=>rfl
  |succ k ih=>exact congrArg (dI 0 :: ·) ih
 exact r n
theorem zO {M z:Int} {l:List Int} (hl:l.length<=1000) (h:l.foldl (λa b=>if b > a then b else a) z=M):bltD .max1 [dZ (z :: l)]=some (.int M):=by
 show (ints? ((z :: l).map .int)).bind _=_
 exact ad eU (aq (ah (Nat.le_trans hl (by decide))) (congrArg (some ∘ D.int) h))
theorem Bo {a c:Nat} (hc:c<=1000) (ha:a<=1000):rngD (a:Int) (c:Int)=some ((List.range' a (c - a)).map dI):=by
 unfold rngD
 rw [Int.toNat_sub]
 exact aq (c:=(sizeOk (c - a)&&idxOk (c:Int)&&idxOk (a:Int))=true) (by rw [ah (Nat.le_trans (Nat.sub_le _ _) (Nat.le_trans hc (by decide))),cE (Nat.le_trans hc (by decide)),cE (Nat.le_trans ha (by decide))];rfl) (congrArg some (dO _ _))
theorem zK {m t j:Nat} (h:j<=t) (h2:j<=m):m - t+(m - (m - t) - j)=m - j:=by rw [<- Nat.add_sub_assoc (iK h h2),Nat.add_sub_cancel' (Nat.sub_le m t)]
theorem xq (E:List Nat) {t N:Nat} (h1:1<=t) (h2:t<=N):(goneN E N).getD (t - 1) 0=gN E t:=by
 unfold goneN
 rw [List.getD_eq_getElem?_getD,List.getElem?_map,List.getElem?_range (Nat.lt_of_lt_of_le (Nat.sub_lt h1 (by decide)) h2)]
 show gN E (t - 1+1)=_
 rw [Nat.sub_add_cancel h1]
def Ends (l0:List (Nat×D)) (r:Option (MEnv×Out)):Prop:=∃ O,r=some (O,.next)/\Has O l0
theorem Ends.of {l0:List (Nat×D)} {r r':Option (MEnv×Out)} (h:Ends l0 r) (e:r'=r):Ends l0 r':=e▸h
section
variable {G:ag} {F:FEnv} {O:MEnv} {l l0:List (Nat×D)} {x y:D} {rest:S}
theorem fZ {i:Nat} {e:T} {d:D} (H:Has O l) (hi:i<43) (h:ev G F O false e=some d) (k:∀ {O':MEnv},Has O' ((i,d) :: l)->Ends l0 (ex G F O' rest)):Ends l0 (ex G F O (.seq (.asg i false e) rest)):=(k (H.set hi)).of (aE h rfl)
theorem zf {i:Nat} {e:T} {d:D} (H:Has O l) (hi:i<43) (hn:l.lookup i=none) (h:ev G F O false e=some d) (hf:freshT e d=true) (k:∀ {O':MEnv},Has O' l->getE O' i=some (d,true)->Ends l0 (ex G F O' rest)):Ends l0 (ex G F O (.seq (.asg i true e) rest)):=(k (H.keep hn) (bc (by rw [H.len];exact hi))).of (cH h hf rfl)
theorem gB {i j:Nat} {e:T} (H:Has O l) (hi:i<43) (hj:j<43) (h:ev G F O false e=some (.tup [x,y])) (hf:freshAll [(i,false),(j,false)] e [x,y]=true) (k:∀ {O':MEnv},Has O' ((j,y) :: (i,x) :: l)->Ends l0 (ex G F O' rest)):Ends l0 (ex G F O (.seq (.multi [(i,false),(j,false)] e) rest)):=(k ((H.set hi).set hj)).of (mL h hf rfl)
theorem vJ {c:T} {a:S} (h:ev G F O true c=some x) (ht:truthy x=some false) (k:Ends l0 (ex G F O rest)):Ends l0 (ex G F O (.seq (.ifs c a .skip) rest)):=k.of (bU h ht (bu rfl))
theorem vH {O':MEnv} {tg:List Nat} {one:Bool} {k:IK} {it it2:T} {body:S} {xs:List D} (he:enumOk one k=true) (hi:evI G F (freeze O it) false k it it2=some xs) (hl:loopL (bodyT G F tg one body) (freeze O it) xs=some (O',.next)) (h:Ends l0 (ex G F O' rest)):Ends l0 (ex G F O (.seq (.fors tg one k it it2 body .skip) rest)):=h.of (cB he hi hl rfl)
theorem kQ (H:Has O l0):Ends l0 (ex G F O .skip):=⟨O,rfl,H⟩
end
section
variable {G:ag} {F:FEnv} (hEm:kt F)
include hEm
theorem nA {l:List (Nat×D)} {y P:List Nat} {low high:Nat} (K:Bw l y P low high (most P ((y.drop low).take (high - low)) low high)) (hy:∀ c∈y,c∈FIL) (hP:∀ c∈P,c∈FIL) (hy5:y.length<=5) (hP3:P.length<=3) (hl:low<=y.length) (hh:high<=y.length):∀ (cs:List Nat) (tk:List Int) (O:MEnv),Has O l->getE O 29=some (dZ tk,true)->tk.length+cs.length<=1000 ->
  ∃ O',loopL (bodyT G F [30] true s1B21) O (cs.map dI)=some (O',.next)/\Has O' l/\getE O' 29=some (dZ (tk++(cs.filter (hitB P ((y.drop low).take (high - low)) low high)).map λc=>((pickB P c).length:Int)),true)
 | [],tk,O,H,g,_=>⟨O,rfl,H,by rw [List.filter_nil,List.map_nil,List.append_nil];exact g⟩
 |c :: cs,tk,O,H,g,hz=>by
  rw [List.length_cons] at hz
  obtain ⟨O1,e,H1,g1⟩:=wH (G:=G) K hEm hy hP hy5 hP3 hl hh (c:=c) H g (Nat.le_trans (Nat.le_add_right _ _) hz)
  have l1:= @gg (hitB P ((y.drop low).take (high - low)) low high c) Int ((pickB P c).length:Int)
  obtain ⟨O',ih,H',g'⟩:=nA K hy hP hy5 hP3 hl hh cs _ O1 H1 g1 (by rw [List.length_append];exact Nat.le_trans (Nat.add_le_add_right (Nat.add_le_add_left l1 _) _) (by rw [Nat.add_assoc,Nat.add_comm 1];exact hz))
  refine ⟨O',aw e ih,H',g'.trans ?_⟩
  rw [List.filter_cons,List.append_assoc]
  cases hitB P ((y.drop low).take (high - low)) low high c with
  |true=>rfl
  |false=>rfl
noncomputable abbrev l20 (dr b7:D) (x y:List Nat) (e:Nat):List (Nat×D):=[(2,dr),(3,sS x),(4,sS y),(5,dI x.length),(6,dI y.length),(7,b7),(13,dn (comeN x y)),(14,dI e),(23,dn ((goneN ((comeN x y).take e) (x.length+y.length)).filter (· != 0)))]
variable {dr b7:D} {x y:List Nat} {e:Nat} (hx:∀ c∈x,c∈FIL) (hy:∀ c∈y,c∈FIL) (x3:x.length<=3) (y5:y.length<=5) (he:e<=x.length+y.length)
include hx hy x3 y5 he
theorem yq {O:MEnv} {t:Nat} (H:Has O (l20 dr b7 x y e)) (t1:1<=t) (t2:e - y.length<=t) (t3:t<=x.length+y.length):∃ O',bodyT G F [24] true s1B22 O (dI t)=some (O',.next)/\Has O' (l20 dr b7 x y e):=by
 have hj:e - y.length<=x.length:=Nat.sub_le_of_le_add he
 have x10:x.length<=1000:=Nat.le_trans x3 (by decide)
 obtain ⟨P,hPq⟩:∃ P,P=(x.drop (x.length - t)).take ((x.drop (x.length - t)).length - (e - y.length)):=⟨_,rfl⟩
 obtain ⟨high,hhq⟩:∃ high,high=min e y.length:=⟨_,rfl⟩
 have hP:∀ c∈P,c∈FIL:=λc h=>hx c (List.mem_of_mem_drop (List.mem_of_mem_take (hPq▸h)))
 have hP3:P.length<=3:=by rw [hPq];exact Nat.le_trans (List.length_take_le _ _) (Nat.le_trans (Nat.sub_le _ _) (by rw [List.length_drop];exact Nat.le_trans (Nat.sub_le _ _) x3))
 have hl:t - x.length<=y.length:=Nat.sub_le_of_le_add (by rw [Nat.add_comm];exact t3)
 have hh:high<=y.length:=hhq▸Nat.min_le_right _ _
 have hnz:((goneN ((comeN x y).take e) (x.length+y.length)).filter (· != 0)).length<=100:=Nat.le_trans (List.length_filter_le _ _) (by unfold goneN;rw [List.length_map,List.length_range];exact Nat.le_trans (Nat.add_le_add x3 y5) (by decide))
 have hN:x.length+y.length<=1000:=Nat.le_trans (Nat.add_le_add x3 y5) (by decide)
 have hgl:(goneN ((comeN x y).take e) (x.length+y.length)).length=x.length+y.length:=by unfold goneN;rw [List.length_map,List.length_range]
 suffices h:Ends (l20 dr b7 x y e) (ex G F (setE O 24 (dI t) false) s1B22) from h
 refine gB (x:=dI (t - x.length)) (y:=dI high) (H.set (i:=24) (d:=dI t) (by decide)) (by decide) (by decide) (aC (fR (ab (bc (by rw [H.len];decide))) (ab ((aR (by decide)).trans (H.ge rfl)))) ((As (p:=e) (q:=y.length) (ab ((aR (by decide)).trans (H.ge rfl))) (ab ((aR (by decide)).trans (H.ge rfl)))).trans (by rw [hhq]))) rfl λH=> ?_
 refine fZ (d:=sS P) H (by decide) (a7 (x:=sS x) (l':=dI (x.length - t)) (u':=dI (x.length - (e - y.length))) (ab (H.ge rfl)) (fR (ab (H.ge rfl)) (ab (H.ge rfl))) (bT (ab (H.ge rfl)) (fR (ab (H.ge rfl)) (ab (H.ge rfl))) hj) ao ?_) λH=> ?_
 ·rw [hPq,List.length_drop,<- zK t2 hj]
  exact yh x10 (Nat.sub_le _ _) (Nat.le_trans (Nat.sub_le _ _) (Nat.le_trans (Nat.sub_le _ _) x10))
 refine fZ (d:= .int (most P ((y.drop (t - x.length)).take (high - (t - x.length))) (t - x.length) high)) H (by decide) (cG D.int (aj (ab (H.ge rfl)) (ab (H.ge rfl)) (A2 _ _)) rfl (λhle=> ?_) λZz=>rfl) λH=> ?_
 ·have hle:=de hle
  have c:=tJ t3 he t2 (hhq▸hle)
  rw [<- hPq,<- hhq] at c
  have iz:=xb (nT ((comeN x y).take e) (x.length+y.length)) (k:=t - 1) (N:=x.length+y.length) (by rw [hgl];exact Nat.lt_of_lt_of_le (Nat.sub_lt t1 (by decide)) t3) (by rw [hgl];exact Nat.le_refl _)
  rw [xq _ t1 t3] at iz
  refine (af (y:=dI (gN ((comeN x y).take e) t)) (bT (ab (H.ge rfl)) (ab (H.ge rfl)) hle) (aD (af (ab (H.ge rfl)) (af (bP (aB ak)) (aM (m:=x.length) (n:=y.length) (ab (H.ge rfl)) (ab (H.ge rfl))) (Bn hN)) (fj (Nat.le_trans hnz (by decide)) (by rw [List.length_replicate];exact Nat.le_trans hN (by decide)))) (bT (m:=t) (n:=1) (ab (H.ge rfl)) ak t1) (db (by rw [List.getElem?_map,iz];rfl) (by rw [List.length_map,List.length_append,List.length_replicate];exact Nat.le_trans (Nat.add_le_add hnz hN) (by decide)))) rfl).trans (congrArg (some ∘ D.int) ?_)
  exact xP c
 refine zf (d:=dZ [-1]) H (by decide) rfl rfl rfl λH g=> ?_
 obtain ⟨O',el,H',g'⟩:=nA (G:=G) hEm ⟨rfl,rfl,rfl,rfl,rfl,rfl,rfl,rfl,rfl⟩ hy hP y5 hP3 hl hh (List.range (2 ^ P.length)) [-1] _ H g (by
  rw [List.length_range]
  exact Nat.le_trans (Nat.add_le_add_left (Nat.pow_le_pow_right (n:=2) (by decide) hP3) 1) (by decide))
 have p8:2 ^ P.length<=8:=Nat.pow_le_pow_right (n:=2) (by decide) hP3
 refine vH rfl (gD (b:=true) (dK (m:=2) ak (bD (w:=P) (ab (H.ge rfl)) (Nat.le_trans hP3 (by decide))) (by decide) (Nat.le_trans hP3 (by decide))) (Nat.le_trans p8 (by decide))) el (vJ (aj (y:= .int (most P ((y.drop (t - x.length)).take (high - (t - x.length))) (t - x.length) high)) (aG (aB (aX g')) (zO (z:= -1) (l:=takes P ((y.drop (t - x.length)).take (high - (t - x.length))) (t - x.length) high) (by unfold takes;rw [List.length_map];exact Nat.le_trans (List.length_filter_le _ _) (by rw [List.length_range];exact Nat.le_trans p8 (by decide))) (sY _ _ _ _))) (ab (H'.ge rfl)) (rM _)) rfl (kQ (H'.sub ⟨rfl,rfl,rfl,rfl,rfl,rfl,rfl,rfl,rfl,trivial⟩)))
theorem oT:∀ (ts:List Nat) (O:MEnv),Has O (l20 dr b7 x y e)->(∀ t∈ts,1<=t/\e - y.length<=t/\t<=x.length+y.length)->∃ O',loopL (bodyT G F [24] true s1B22) O (ts.map dI)=some (O',.next)/\Has O' (l20 dr b7 x y e)
 | [],O,H,_=>⟨O,rfl,H⟩
 |t :: ts,O,H,h=>by
  obtain ⟨h1,h2,h3⟩:=h t List.mem_cons_self
  obtain ⟨O1,e1,H1⟩:=yq hEm hx hy x3 y5 he H h1 h2 h3
  obtain ⟨O',e2,H'⟩:=oT ts O1 H1 λt q=>h t (List.mem_cons_of_mem _ q)
  exact ⟨O',aw e1 e2,H'⟩
theorem mV {O:MEnv} (H:Has O (l20 dr b7 x y e)) (k:∀ {O':MEnv},Has O' (l20 dr b7 x y e)->Tells (ex G F O' s1t21)):Tells (ex G F O s1t20):=by
 have hN:x.length+y.length+1<=1000:=Nat.le_trans (Nat.succ_le_succ (Nat.add_le_add x3 y5)) (by decide)
 have hm:max 1 (e - y.length)<=1000:=Nat.max_le.mpr ⟨by decide,Nat.le_trans (Nat.sub_le _ _) (Nat.le_trans he (Nat.le_of_succ_le hN))⟩
 obtain ⟨O',el,H'⟩:=oT (G:=G) hEm hx hy x3 y5 he (List.range' (max 1 (e - y.length)) (x.length+y.length+1 - max 1 (e - y.length))) O H λt ht=>by
  obtain ⟨q1,q2⟩:=List.mem_range'_1.mp ht
  exact ⟨Nat.le_trans (Nat.le_max_left _ _) q1,Nat.le_trans (Nat.le_max_right _ _) q1,Nat.le_of_lt_succ (Nat.lt_of_lt_of_le q2 (Nat.le_of_eq (Nat.add_sub_cancel' (Nat.max_le.mpr ⟨Nat.succ_le_succ (Nat.zero_le _),Nat.le_trans (Nat.sub_le _ _) (Nat.le_succ_of_le he)⟩))))⟩
 exact we rfl (ad (aG (ds:=[.int 1,.int ((e:Int) - (y.length:Int))]) (aC ak (af (ab (d:=dI e) (H.ge rfl)) (ab (d:=dI y.length) (H.ge rfl)) rfl)) (congrArg (some ∘ D.int) (xJ e y.length))) (ad (a:=((max 1 (e - y.length):Nat):Int)) rfl (ad (aM (m:=x.length+y.length) (n:=1) (aM (ab (H.ge rfl)) (ab (H.ge rfl))) ak) (ad (a:=((x.length+y.length+1:Nat):Int)) rfl (Bo hN hm))))) el (k H')
end
theorem jA {ys:List Nat}:∀ {d:List Nat} {us acc acc':List Bool},(combB ys (rowsF d) (us,acc)).1=(combB ys (rowsF d) (us,acc')).1
 | [],_,_,_=>rfl
 |a :: d,us,acc,acc'=>jA (d:=d)
theorem oW {α:Type} (f:α->Nat):∀ l:List α,(l.map λk=>2 * f k).sum=2 * (l.map f).sum
 | []=>rfl
 |a :: l=>by rw [List.map_cons,List.sum_cons,oW f l,List.map_cons,List.sum_cons,Nat.mul_add]
noncomputable def alN (a:Nat) (y:List Nat):List Nat:=((List.range y.length).filter λk=>y.getD k 0==a).map λk=>2 ^ k
theorem qm (a:Nat):∀ y:List Nat,(alN a y).sum=numB (alk a y)
 | []=>rfl
 |b :: y=>by
  unfold alN
  rw [List.length_cons,List.range_succ_eq_map,List.filter_cons]
  have e:((((List.range y.length).map Nat.succ).filter λk=>(b :: y).getD k 0==a).map λk=>2 ^ k).sum=2 * numB (alk a y):=by
   rw [List.filter_map,List.map_map,<- qm a y]
   unfold alN
   rw [<- oW]
   refine congrArg List.sum (List.map_congr_left λk Zz=> ?_)
   show 2 ^ (k+1)=_
   rw [Nat.pow_succ,Nat.mul_comm]
  show (List.map _ (if (b==a)=true then _ else _)).sum=cond (a==b) 1 0+2 * numB (alk a y)
  rw [show (a==b)=(b==a) from BEq.comm]
  cases b==a with
  |true=>exact (congrArg (1 + ·) e)
  |false=>exact e.trans (Nat.zero_add _).symm
theorem ox (k:Nat):∀ n:Nat,numB (bfs0 n++bts k)+2 ^ n=2 ^ (n+k)
 |0=>by
  rw [Nat.zero_add]
  induction k with
  |zero=>rfl
  |succ k ih =>
   show 1+2 * numB (bts k)+1=_
   have ih:numB (bts k)+1=2 ^ k:=ih
   rw [Nat.pow_succ,<- ih,Nat.mul_comm (numB (bts k)+1) 2,Nat.add_comm 1];rfl
 |n+1=>by
  have ih:=ox k n
  show 0+2 * numB (bfs0 n++bts k)+2 ^ (n+1)=_
  rw [Nat.succ_add,Nat.pow_succ,Nat.pow_succ,<- ih,Nat.zero_add,Nat.add_mul,Nat.mul_comm 2]
theorem wK:[4,5].all (λn=>(List.range (2 ^ n)).all λs=>(b5 s).length==cT (bitsN n s))=true:=by decide +kernel
theorem rz {l:List Bool} {n:Nat} (h:l.length=n) (hn:n=4\/n=5):l.length∈[4,5]:=by
 rw [h]
 rcases hn with rfl |rfl<;>decide
theorem yY {us:List Bool} (h:us.length∈[4,5]):(b5 (numB us)).length=cT us:=by
 obtain ⟨h1,h2⟩:=cY us
 have t:=eq_of_beq (List.all_eq_true.mp (List.all_eq_true.mp wK _ h) _ (List.mem_range.mpr h2))
 rw [h1] at t
 exact t
theorem wm {us ms:List Bool} (h:us.length∈[4,5]) (hm:ms.length=us.length) :
  ((numB us:Int)+Builtin.bitAnd (numB us) (numB ms)).fdiv ((2 ^ us.length:Nat):Int)=((cond (rowB false ms us).2 1 0:Nat):Int) /\
  Builtin.bitOr (((numB us:Int)+Builtin.bitAnd (numB us) (numB ms)).fmod ((2 ^ us.length:Nat):Int)) (Builtin.bitAnd (numB us) (Builtin.bitNot (numB ms)))=(numB (rowB false ms us).1:Int) /\
  ((numB us:Int)+Builtin.bitAnd (numB us) (numB ms)).natAbs<64:=by
 obtain ⟨h1,h2⟩:=cY us
 obtain ⟨g1,g2⟩:=cY ms
 rw [hm] at g1 g2
 have t:=List.all_eq_true.mp (List.all_eq_true.mp (List.all_eq_true.mp wn _ h) _ (List.mem_range.mpr h2)) _ (List.mem_range.mpr g2)
 unfold addB at t
 rw [h1,g1] at t
 exact aa t λt t3=>aa t λt1 t2=>⟨eq_of_beq t1,eq_of_beq t2,de t3⟩
section
variable {G:ag} {F:FEnv} {O:MEnv} {l:List (Nat×D)} {b:Bool}
theorem tW {y:List Nat} {a:Nat} (hy:y.length<=5) (H:Has O l) (h4:l.lookup 4=some (sS y)) (h6:l.lookup 6=some (dI y.length)) (h35:l.lookup 35=some (sS [a])):ev G F O b (.blt .sum (.cons s1C16 .nil))=some (dI (numB (alk a y))):=by
 have hz:(alN a y).length<=5:=by
  unfold alN
  rw [List.length_map]
  exact Nat.le_trans (List.length_filter_le _ _) (by rw [List.length_range];exact hy)
 refine aG (aB ((bV (O:=O) (l:=List.range y.length) (inj:=dI) (c:=λk=>y.getD k 0==a) (y:=λk=>dI (2 ^ k)) rfl (b9 (ab (H.ge h6)) (Nat.le_trans hy (by decide))) (by rw [H.len];decide) λk hk O' g1 g2 Zz=> ?_).trans (congrArg (some ∘ D.list) (List.map_map (g:=dI) (f:=λk=>2 ^ k)).symm))) ((qg (l:=alN a y) (Nat.le_trans hz (by decide))).trans (by rw [qm]))
 have hk':=List.mem_range.mp hk
 exact ⟨aj (aD (ab (H.inn g2 (by decide) h4)) (ab g1) (dU (c:=y.getD k 0) (by rw [List.getD_eq_getElem?_getD,List.getElem?_eq_getElem hk'];rfl) (Nat.le_trans hy (by decide)))) (ab (H.inn g2 (by decide) h35)) ((vF [y.getD k 0] [a]).trans (by rw [gf])),λZz=>dK (m:=2) ak (ab g1) (by decide) (Nat.le_trans (Nat.le_of_lt hk') (Nat.le_trans hy (by decide)))⟩
theorem qO {y C:List Nat} {t:Nat} (hy:y.length<=5) (hC:y.length<=C.length) (hC2:C.length<=1000) (H:Has O l) (h6:l.lookup 6=some (dI y.length)) (h13:l.lookup 13=some (dn C)) (h24:l.lookup 24=some (dI t)):ev G F O b s1C18=some (dn ((List.range y.length).filter λk=>thr t (C.getD k 0))) :=
 bV (O:=O) (l:=List.range y.length) (inj:=dI) (c:=λk=>thr t (C.getD k 0)) (y:=dI) rfl (b9 (ab (H.ge h6)) (Nat.le_trans hy (by decide))) (by rw [H.len];decide) λk hk O' g1 g2 Zz =>
  ⟨aj (x:=dI (C.getD k 0)) (y:=dI t) (aD (ab (H.inn g2 (by decide) h13)) (ab g1) (ug (Nat.lt_of_lt_of_le (List.mem_range.mp hk) hC) (Nat.le_trans hC2 (by decide)))) (ab (H.inn g2 (by decide) h24)) (vG _ _),λZz=>ab g1⟩
end
section
variable {G:ag} {F:FEnv} {x y:List Nat} {base t:Nat}
noncomputable abbrev l21 (base:Nat) (x y:List Nat):List (Nat×D):=[(3,sS x),(4,sS y),(5,dI x.length),(6,dI y.length),(7,dI base),(13,dn (comeN x y))]
noncomputable abbrev lB (base t:Nat) (x y us:List Nat) (acc:Nat):List (Nat×D):=[(34,dI (us.getD 0 0)),(33,dI acc),(25,dI (t - x.length)),(24,dI t),(3,sS x),(4,sS y),(5,dI x.length),(6,dI y.length),(7,dI base),(13,dn (comeN x y))]
variable (hDM:∀ a b:Int,small a=true->b≠0->small b=true->F "int_divmod" [.int a,.int b]=some (.tup [.int (a.fdiv b),.int (a.fmod b)])) (hn:y.length=4\/y.length=5)
include hDM hn
theorem ww {O:MEnv} {a:Nat} {us acc:List Bool} (hu:us.length=y.length) (H:Has O (lB base t x y [numB us] (cT acc))):∃ O',bodyT G F [35] true s1B17 O (sS [a])=some (O',.next)/\Has O' (lB base t x y [numB (rowB false (alk a y) us).1] (cT ((rowB false (alk a y) us).2 :: acc))):=by
 have hy5:y.length<=5:=by rcases hn with e |e<;>rw [e]<;>decide
 have h45:=rz hu hn
 obtain ⟨r1,r2,r3⟩:=wm h45 (ms:=alk a y) ((ch a y).trans hu.symm)
 have p32:2 ^ y.length<=1000000:=Nat.le_trans (Nat.pow_le_pow_right (n:=2) (by decide) hy5) (by decide)
 rw [hu] at r1 r2
 suffices h:Ends (lB base t x y [numB (rowB false (alk a y) us).1] (cT ((rowB false (alk a y) us).2 :: acc))) (ex G F (setE O 35 (sS [a]) false) s1B17) from h
 refine fZ (H.set (i:=35) (d:=sS [a]) (by decide)) (by decide) (tW hy5 (H.set (by decide)) rfl rfl rfl) λH=> ?_
 refine fZ H (by decide) (au (aC (af (ab (d:=dI (numB us)) (H.ge rfl)) (af (ab (d:=dI (numB us)) (H.ge rfl)) (ab (d:=dI (numB (alk a y))) (H.ge rfl)) rfl) rfl) (dK (m:=2) ak (ab (H.ge rfl)) (by decide) (Nat.le_trans hy5 (by decide)))) (hDM _ _ (decide_eq_true (Nat.lt_of_lt_of_le r3 (by unfold BIG;exact (show 2 ^ 6<=2 ^ 4000 from Nat.pow_le_pow_right (by decide) (by decide))))) (λq=>Nat.ne_of_gt (Nat.pow_pos (n:=y.length) (show 0<2 by decide)) (Int.ofNat.inj q)) (aV p32))) λH=> ?_
 refine gB (x:=dI (cT ((rowB false (alk a y) us).2 :: acc))) (y:=dI (numB (rowB false (alk a y) us).1)) H (by decide) (by decide) (aC ((af (ab (d:=dI (cT acc)) (H.ge rfl)) ((aD (ab (H.ge rfl)) ak rfl).trans (congrArg (some ∘ D.int) r1)) rfl).trans (congrArg (some ∘ dI) (by rw [iV,Nat.add_comm]))) ((af (aD (ab (H.ge rfl)) ak rfl) (af (ab (d:=dI (numB us)) (H.ge rfl)) (mF (op:= .Invert) (ab (d:=dI (numB (alk a y))) (H.ge rfl)) rfl) rfl) rfl).trans (congrArg (some ∘ D.int) r2))) rfl λH=>kQ (H.sub ⟨rfl,rfl,rfl,rfl,rfl,rfl,rfl,rfl,rfl,rfl,trivial⟩)
theorem nj:∀ (d:List Nat) (us acc:List Bool) (O:MEnv),us.length=y.length->Has O (lB base t x y [numB us] (cT acc))->∃ O',loopL (bodyT G F [35] true s1B17) O (chD d)=some (O',.next)/\Has O' (lB base t x y [numB (combB y (rowsF d) (us,acc)).1] (cT (combB y (rowsF d) (us,acc)).2))
 | [],us,acc,O,_,H=>⟨O,rfl,H⟩
 |a :: d,us,acc,O,hu,H=>by
  obtain ⟨O1,e1,H1⟩:=ww (G:=G) hDM hn (a:=a) hu H
  obtain ⟨O',e2,H'⟩:=nj d _ _ O1 ((gW _ _ _ (hu.trans (ch a y).symm)).trans (ch a y)) H1
  exact ⟨O',aw e1 e2,H'⟩
variable (hPf:∀ {h:Nat},(pfl 32 0 h).2.1.natAbs<18446744073709551616->sizeOk (2 * (pf h).length+((pf h).map (·.length)).sum)=true->F "pretty_flags" [dI h]=some (.str (Txt.join ", " (pf h))))
  (hWd:∀ {ps:List Nat} {base:Nat},ps.length<=5->(∀ k∈ps,k<5)->base<32->abN ps base<16->sizeOk (2 * (wdsN ps base).length+((wdsN ps base).map (·.length)).sum)=true->F "_law_words" [dn ps,dI base]=some (.str (Txt.join ", " (wdsN ps base)))) (hb:base<32) (x3:x.length<=3)
include hPf hWd hb x3
theorem nw {O:MEnv} (H:Has O (l21 base x y)) (ht:t<=x.length+y.length):∃ O',bodyT G F [24] true s1B19 O (dI t)=some (O',.next)/\Has O' (l21 base x y):=by
 have hy5:y.length<=5:=by rcases hn with e |e<;>rw [e]<;>decide
 have x10:x.length<=1000:=Nat.le_trans x3 (by decide)
 have hlow:=lE ht
 have hC:=gA x y
 obtain ⟨acc0,hs⟩:=jB ht
 have hu0:(bfs0 (t - x.length)++bts (y.length - (t - x.length))).length=y.length:=by rw [List.length_append,List.length_replicate,List.length_replicate,Nat.add_sub_cancel' hlow]
 have hf:=congrArg Prod.fst hs
 rw [jA (acc':=[])] at hf
 obtain ⟨l1,l2⟩:=dy (ys:=y) (d:=x.drop (x.length - t)) (acc:=[]) hu0
 have I:=lu (x:=x) (y:=y) (t:=t) []
 have rs:=l5 ht []
 have l3:=(dy (ys:=y.drop (t - x.length)) (d:=x.drop (x.length - t)) (us:=bts (y.length - (t - x.length))) (acc:=[]) (by rw [List.length_replicate,List.length_drop])).1
 have hnum:numB (bfs0 (t - x.length)++bts (y.length - (t - x.length)))=2 ^ y.length - 2 ^ (t - x.length):=by
  have h:=ox (y.length - (t - x.length)) (t - x.length)
  rw [Nat.add_sub_cancel' hlow] at h
  exact Nat.eq_sub_of_add_eq h
 have hcnt:cT (combB y (rowsF (x.drop (x.length - t))) (bfs0 (t - x.length)++bts (y.length - (t - x.length)),[])).1+cT (combB y (rowsF (x.drop (x.length - t))) (bfs0 (t - x.length)++bts (y.length - (t - x.length)),[])).2=y.length - (t - x.length):=by
  rw [rs] at l2 ⊢
  have c:=iX (j:=(y.drop (t - x.length)).length) I.enc (Nat.le_refl _)
  have d:=I.out (x.drop (x.length - t)).length (by rw [List.length_reverse];exact Nat.le_refl _)
  have ln:(y.drop (t - x.length)).length=y.length - (t - x.length):=List.length_drop
  rw [<- l3,List.take_length,l3,List.take_length,List.append_nil,gb,Nat.zero_add,ln] at c
  have l2':∀ {R:List Bool},R.length=(x.drop (x.length - t)).length+([]:List Bool).length->R.take (x.drop (x.length - t)).length=R:=λh=>List.take_of_length_le (Nat.le_of_eq h)
  rw [l2' l2,show ((x.drop (x.length - t)).reverse.drop (x.drop (x.length - t)).length)=[] from List.drop_eq_nil_of_le (Nat.le_of_eq List.length_reverse)] at d
  dsimp only
  rw [ic,j9,Nat.zero_add]
  have d:_+0=_:=d
  rw [Nat.add_zero] at d
  rw [d];exact c
 have hlp:(combN x y).1.length=y.length:=(eF y (rowsN x) (topsN x.length y.length) [] (by unfold topsN;rw [List.length_map,List.length_range])).1
 have loop:=nj (G:=G) (F:=F) (base:=base) (t:=t) (x:=x) hDM hn (x.drop (x.length - t)) (bfs0 (t - x.length)++bts (y.length - (t - x.length))) []
 generalize combB y (rowsF (x.drop (x.length - t))) (bfs0 (t - x.length)++bts (y.length - (t - x.length)),[])=R at *
 have hplc:(List.range y.length).filter (λk=>thr t ((comeN x y).getD k 0))=b5 (numB R.1)/\numB R.1<32:=by
  rw [<- l1] at hn
  obtain ⟨b1,b2⟩:=wv hn
  rw [l1] at b1
  refine ⟨Eq.trans (List.filter_congr λk hk=> ?_) b1,b2⟩
  have hk:=List.mem_range.mp hk
  rw [<- hf]
  show thr t (((combN x y).1++(combN x y).2).getD k 0)=((combN x y).1.map (thr t)).getD k false
  rw [List.getD_eq_getElem?_getD,List.getD_eq_getElem?_getD,List.getElem?_append_left (by rw [hlp];exact hk),List.getElem?_map,List.getElem?_eq_getElem (by rw [hlp];exact hk)];rfl
 obtain ⟨hp1,hp2⟩:=hplc
 have hb5:(b5 (numB R.1)).length=cT R.1:=yY (rz l1 hn)
 refine aa (List.all_eq_true.mp (List.all_eq_true.mp zq _ (List.mem_range.mpr hp2)) base (List.mem_range.mpr hb)) λq q4=>aa q λq q3=>aa q λq1 q2=> ?_
 have q3:=of_decide_eq_true q3
 have fp:=hPf (de q1) q2
 rw [q3] at q2 fp
 have fw:=hWd (ps:=b5 (numB R.1)) (base:=base) (Nat.le_trans (List.length_filter_le _ _) (by rw [List.length_range];exact Nat.le_refl 5)) (λk hk=>List.mem_range.mp (List.mem_filter.mp hk).1) hb (de q4) q2
 suffices h:Ends (l21 base x y) (ex G F (setE O 24 (dI t) false) s1B19) from h
 refine gB (x:=dI (t - x.length)) (y:=dI 0) (H.set (i:=24) (d:=dI t) (by decide)) (by decide) (by decide) (aC (fR (ab (bc (by rw [H.len];decide))) (ab ((aR (by decide)).trans (H.ge rfl)))) ak) rfl λH=> ?_
 refine fZ (d:=dI (2 ^ y.length - 2 ^ (t - x.length))) H (by decide) (bT (dK (m:=2) ak (ab (H.ge rfl)) (by decide) (Nat.le_trans hy5 (by decide))) (dK (m:=2) ak (ab (H.ge rfl)) (by decide) (Nat.le_trans hlow (Nat.le_trans hy5 (by decide)))) (Nat.pow_le_pow_right (by decide) hlow)) λH=> ?_
 obtain ⟨O',el,H'⟩:=loop _ hu0 (H.sub ⟨by rw [hnum];rfl,rfl,rfl,rfl,rfl,rfl,rfl,rfl,rfl,rfl,trivial⟩)
 refine vH rfl (c9 (d:=sS (x.drop (x.length - t))) (a7 (x:=sS x) (l':=dI (x.length - t)) (ab (H.ge rfl)) (fR (ab (H.ge rfl)) (ab (H.ge rfl))) ao ao (dJ x10 (Nat.le_trans (Nat.sub_le _ _) (Nat.le_trans x10 (by decide))))) (i7 (Nat.le_trans (by rw [List.length_drop];exact Nat.sub_le _ _) x10))) el ?_
 refine fZ (d:=dn (b5 (numB R.1))) H' (by decide) ((qO hy5 (by rw [hC];exact Nat.le_add_left _ _) (by rw [hC];exact Nat.le_trans (Nat.add_le_add x3 hy5) (by decide)) H' rfl rfl rfl).trans (by rw [hp1])) λH=> ?_
 have hbl:(b5 (numB R.1)).length<=y.length - (t - x.length):=by rw [hb5,<- hcnt];exact Nat.le_add_right _ _
 refine vJ (x:= .bool false) (qj (r:=false) (s:=false) (aj (x:=dI (cT R.2)) (y:=dI (y.length - (t - x.length) - (b5 (numB R.1)).length)) (ab (H.ge rfl)) (bT (bT (ab (H.ge rfl)) (ab (H.ge rfl)) hlow) (aG (aB (ab (d:=dn (b5 (numB R.1))) (H.ge rfl))) ((fT (by rw [List.length_map];exact Nat.le_trans hbl (Nat.le_trans (Nat.sub_le _ _) (Nat.le_trans hy5 (by decide))))).trans (by rw [List.length_map]))) hbl) ?_) λZz=>aj (au (aB (af (ab (d:=dI (numB R.1)) (H.ge rfl)) (ab (d:=dI base) (H.ge rfl)) ((pk (aV (Nat.le_trans (Nat.le_of_lt hp2) (by decide))) (Nat.le_trans (Nat.le_of_lt hb) (by decide))).trans (congrArg (some ∘ D.int) (show (numB R.1:Int) * 2 ^ base=((numB R.1 * 2 ^ base:Nat):Int) by rw [Int.natCast_mul,Int.natCast_pow];rfl))))) fp) (au (aC (ab (H.ge rfl)) (ab (H.ge rfl))) fw) (ei (zk _))) rfl (kQ (H.sub ⟨rfl,rfl,rfl,rfl,rfl,rfl,trivial⟩))
 rw [show y.length - (t - x.length) - (b5 (numB R.1)).length=cT R.2 by rw [hb5,<- hcnt,Nat.add_sub_cancel_left]]
 exact rM _
theorem rV {O:MEnv} {dr:D} {d5 e:Nat} (i5:idxD dr (.int 5)=some (dI d5)) (y1:1<=y.length) (H:Has O (l20 dr (dI base) x y e)):Tells (ex G F O s1t21):=by
 have hy5:y.length<=5:=by rcases hn with e |e<;>rw [e]<;>decide
 have e2:ev G F O false (.tup (.cons (.var 5) (.cons (.bin .Mod (.bin .FloorDiv (.idx (.var 2) (.cst (.int 5))) (.cst (.int 8))) (.bin .Add (.bin .Add (.var 5) (.var 6)) (.cst (.int 1)))) .nil)))=some (.tup [dI x.length,dI (d5 / 8 % (x.length+y.length+1))]) :=
  a8 (aC (ab (H.ge rfl)) (mJ (cR 8 (dq H rfl i5) (by decide) (by decide)) (aM (n:=1) (aM (ab (H.ge rfl)) (ab (H.ge rfl))) ak) (Nat.succ_ne_zero _)))
 obtain ⟨O1,e1,H1⟩:=nw (t:=x.length) hDM hn hPf hWd hb x3 (H.sub ⟨rfl,rfl,rfl,rfl,rfl,rfl,trivial⟩) (Nat.le_add_right _ _)
 obtain ⟨O2,e3,H2⟩:=nw (t:=d5 / 8 % (x.length+y.length+1)) hDM hn hPf hWd hb x3 H1 (Nat.le_of_lt_succ (Nat.mod_lt _ (Nat.succ_pos _)))
 exact we rfl (c9 e2 rfl) (aw e1 (aw e3 rfl)) ⟨O2,aN rfl⟩
end
section
variable {G:ag} {fns:List Fn} {b1L:List Int} {b3L:List (Int×Str)}
theorem cw {k:Nat} {f:Str} {ds:List D} {r:Option D} (h:(f==nR)=false) (e:FF G fns spn2 sp2 k f ds=r):FL G fns k f ds=r:=by
 unfold FL;rw [h];exact e
theorem AN {k:Nat} {ds:List D}:FL G fns k "_law_read" ds=readSpec ds:=rfl
variable (C:yN G fns b1L b3L) (P:ky b1L b3L) (J:pc b1L b3L)
include C P J
theorem pN {ns:List Int} (hns:ns.length<=63):run G (FL G fns 300) 43 s1t0 [.list (ns.map .int)]=some (.bool true):=by
 have hDM:∀ a b:Int,small a=true->b≠0->small b=true->FL G fns 300 "int_divmod" [.int a,.int b]=some (.tup [.int (a.fdiv b),.int (a.fmod b)]):=λa b h1 h2 h3=>cw rfl (ze C.com (by decide) h1 h2 h3)
 have hI:∀ ds,FL G fns 300 "_int2digits" ds=i2dSpec ds:=λds=>cw rfl (ku (k:=299) (by decide))
 have hD2:∀ ds,FL G fns 300 "_digits2int" ds=d2iSpec ds:=λds=>cw rfl (ql (k:=299) (by decide))
 have hEm:kt (FL G fns 300):=λh1 h2 h3 h4 h5=>cw rfl (vz C.com (k:=299) h1 h2 h3 h4 h5)
 have t:Tells (ex G (FL G fns 300) (o (dZ ns) :: List.replicate 42 none) s1t0) :=
  pS hns ⟨rfl,λh=>fH h (λe1 e2=>by rw [e1,<- e2];rfl) λZz h=>ai h⟩ λ{_ d0 d1 d2 d3 d4 d5} H =>
  pU (d0:=d0) (d1:=d1) (d4:=d4) rfl rfl rfl H λH=>by
   obtain ⟨m1,m3⟩:=zN d0
   have hn:=zS d1
   have n5:1<=nN d1/\nN d1<=5:=by rcases hn with e |e<;>rw [e]<;>decide
   rw [<- cF (d:=d0) (n:=mN d0)] at m1 m3
   rw [<- cF (d:=d1) (n:=nN d1)] at n5 hn
   have H:=H.sub (l':=[(2,dn [d0,d1,d2,d3,d4,d5]),(3,sS (txN d0 (mN d0))),(4,sS (txN d1 (nN d1))),(5,dI (txN d0 (mN d0)).length),(6,dI (txN d1 (nN d1)).length),(7,dI (d4 % 32)),(8,dI (4+d4 / 32 % 60))]) ⟨rfl,rfl,rfl,by rw [cF];rfl,by rw [cF];rfl,rfl,rfl,trivial⟩
   have hx:=s6 (d:=d0) (n:=mN d0)
   have hy:=s6 (d:=d1) (n:=nN d1)
   generalize txN d0 (mN d0)=x at *
   generalize txN d1 (nN d1)=y at *
   have hC:FL G fns 300 "_law_come" [sS x,sS y]=some (dn (comeN x y)):=cw rfl (be (k:=299) rfl C.come rfl (uQ (λh1 h2 h3 h4 h5=>vz C.com (k:=298) h1 h2 h3 h4 h5) (Nat.le_trans n5.2 (by decide)) hx hy m1 m3))
   exact pT (λhc hl=>cw rfl (be (k:=299) rfl C.spelled rfl (mY (jt C.com (k:=298)) hc hl))) (λvs h1 h2=>cw rfl (be (k:=299) rfl C.octets rfl (mX (λds=>ku (k:=298) (by decide)) h1 h2))) (λds=>AN)
    (λhs hz hm hf hg hn=>cw rfl (be (k:=299) rfl C.meant rfl (sC (λp=>AL C.com (k:=298)) (λp=>AM C.com (k:=298)) (jt C.com (k:=298)) hs hz hm hf hg hn))) P J (d2:=d2) (d3:=d3) hx hy m1 m3 n5.1 n5.2 rfl rfl H λH =>
    rW hDM hD2 hI (d5:=d5) (Nat.add_le_add m3 n5.2) n5.1 (Nat.le_add_right 4 _) (Nat.le_trans (Nat.add_le_add_left (Nat.le_of_lt_succ (Nat.mod_lt _ (by decide))) 4) (by decide)) rfl hC H λ{_ e} e1 e2 H =>
    mV hEm hx hy m3 n5.2 e2 H λH =>
    rV hDM hn (λh1 h2=>cw rfl (be (k:=299) rfl C.com.f1 rfl (Ab C.com.nm h1 h2))) (λh1 h2 h3 h4 h5=>cw rfl (be (k:=299) rfl C.words rfl (sD h1 h2 h3 h4 h5))) (Nat.mod_lt _ (by decide)) m3 (d5:=d5) rfl n5.1 H
 obtain ⟨O',h⟩:=t
 exact aH _ rfl h
end
noncomputable def g1:ag:=gOf T1
noncomputable def fns1:List Fn:=sigs1.map (mkFn T1)
noncomputable def b1L1:List Int:=(g1.iset "b1_set").getD []
noncomputable def b3L1:List (Int×Str):=(g1.idict "b3_exceptions").getD []
theorem BK:vy g1 fns1 b1L1 b3L1 where
 lim:=by kernel_rfl
 mark:=by kernel_rfl
 b1:=by kernel_rfl
 b3:=by kernel_rfl
 nm:=by kernel_rfl
 f1:=⟨mkFn T1 (sigs1.getD 0 lsig1),by kernel_rfl,by kernel_rfl,by kernel_rfl,by kernel_rfl⟩
 f2:=⟨mkFn T1 (sigs1.getD 1 lsig1),by kernel_rfl,by kernel_rfl,by kernel_rfl,by kernel_rfl⟩
 f3:=⟨mkFn T1 (sigs1.getD 2 lsig1),by kernel_rfl,by kernel_rfl,by kernel_rfl,by kernel_rfl⟩
 f4:=⟨mkFn T1 (sigs1.getD 3 lsig1),by kernel_rfl,by kernel_rfl,by kernel_rfl,by kernel_rfl⟩
 f5:=⟨mkFn T1 (sigs1.getD 4 lsig1),by kernel_rfl,by kernel_rfl,by kernel_rfl,by kernel_rfl⟩
 f6:=⟨mkFn T1 (sigs1.getD 5 lsig1),by kernel_rfl,by kernel_rfl,by kernel_rfl,by kernel_rfl⟩
 f7:=⟨mkFn T1 (sigs1.getD 6 lsig1),by kernel_rfl,by kernel_rfl,by kernel_rfl,by kernel_rfl⟩
 f8:=⟨mkFn T1 (sigs1.getD 7 lsig1),by kernel_rfl,by kernel_rfl,by kernel_rfl,by kernel_rfl⟩
theorem Bf:yN g1 fns1 b1L1 b3L1 where
 com:=BK
 spelled:=⟨mkFn T1 (sigs1.getD 8 lsig1),by kernel_rfl,by kernel_rfl,by kernel_rfl,by kernel_rfl⟩
 octets:=⟨mkFn T1 (sigs1.getD 9 lsig1),by kernel_rfl,by kernel_rfl,by kernel_rfl,by kernel_rfl⟩
 meant:=⟨mkFn T1 (sigs1.getD 10 lsig1),by kernel_rfl,by kernel_rfl,by kernel_rfl,by kernel_rfl⟩
 come:=⟨mkFn T1 (sigs1.getD 11 lsig1),by kernel_rfl,by kernel_rfl,by kernel_rfl,by kernel_rfl⟩
 words:=⟨mkFn T1 (sigs1.getD 12 lsig1),by kernel_rfl,by kernel_rfl,by kernel_rfl,by kernel_rfl⟩
theorem B2:ky b1L1 b3L1:=⟨by decide +kernel,by decide +kernel⟩
theorem B1:pc b1L1 b3L1:=⟨by decide +kernel⟩
theorem law1_holds (said:l1.row.wellSaid=true):l1.row.Holds:=pb said λns hns=>pN Bf B2 B1 hns
end Mine
set_option maxRecDepth 100000 in
set_option maxHeartbeats 8000000 in
theorem PySem.Challenge.cw_ta0109_01_holds : PySem.Challenge.rw_ta0109_01.Holds := by
 exact holds_law (by decide +kernel) Mine.law1_holds
