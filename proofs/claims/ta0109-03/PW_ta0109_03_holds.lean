import PyProof.Rows.All
import Wide.All
import OpenK.AllK
import Wide.FinOn
import Lean
import PySem.Challenge.RW_ta0109_03
open PySem PySem.W PyProof.Rows
set_option Elab.async false
set_option linter.all false
set_option genSizeOf false
set_option genInjectivity false
namespace Mine
theorem ah {α:Type} {a:α} {P:Prop} (h:none=some a):P:=nomatch h
theorem sm {α:Type} {a b:α} (h:some a=some b):a=b:=Option.some.inj h
theorem ae {α β:Type} {o:Option α} {f:α→Option β} {r:β} {P:Prop} (h:o.bind f=some r) (k:∀ a,o=some a→f a=some r→P):P:=by
 cases o with
 |none=>exact ah h
 |some a=>exact k a rfl h
theorem aE {α β:Type} {o:Option α} {f:α→β} {r:β} {P:Prop} (h:o.map f=some r) (k:∀ a,o=some a→f a=r→P):P:=by
 cases o with
 |none=>exact ah h
 |some a=>exact k a rfl (sm h)
theorem gd {α:Type} {c:Prop} [i:Decidable c] {o:Option α} {r:α} {P:Prop} (h:(if c then o else none)=some r) (k:c→o=some r→P):P:=by
 cases i with
 |isTrue hc=>exact k hc h
 |isFalse hc=>exact ah h
theorem fb {α:Type} {c:Prop} [i:Decidable c] {o:Option α} {r:α} {P:Prop} (h:(if c then none else o)=some r) (k:¬ c→o=some r→P):P:=by
 cases i with
 |isTrue hc=>exact ah h
 |isFalse hc=>exact k hc h
theorem ad {α β:Type} {o:Option α} {f:α→Option β} {a:α} {r:Option β} (h:o=some a) (k:f a=r):o.bind f=r:=by rw [h];exact k
theorem aX {α β:Type} {o:Option α} {f:α→β} {a:α} {b:β} (h:o=some a) (k:f a=b):o.map f=some b:=by rw [h,← k];rfl
theorem aq {α:Type} {c:Prop} [Decidable c] {o:Option α} {r:Option α} (hc:c) (k:o=r):(if c then o else none)=r:=by rw [if_pos hc];exact k
theorem gs {α:Type} {c:Prop} [Decidable c] {o:Option α} {r:Option α} (hc:¬ c) (k:o=r):(if c then none else o)=r:=by rw [if_neg hc];exact k
theorem aa {a b:Bool} {P:Prop} (h:(a&&b)=true) (k:a=true→b=true→P):P:=by
 cases a with
 |false=>cases h
 |true=>exact k rfl h
noncomputable def one? {α:Type}:List α→Option α
 | []=>none
 |a :: r=>match r with
  | []=>some a
  |_ :: _=>none
noncomputable def two? {α:Type}:List α→Option (α×α)
 | []=>none
 |a :: r=>(one? r).map fun b=>(a,b)
theorem kM {α:Type} {P:List α→Prop} {l:List α} {a:α} (h:one? l=some a) (k:P [a]):P l:=by
 cases l with
 |nil=>exact ah h
 |cons b r =>
  cases r with
  |nil=>exact sm h▸k
  |cons _ _=>exact ah h
theorem j5 {α:Type} {P:List α→Prop} {l:List α} {p:α×α} (h:two? l=some p) (k:P [p.1,p.2]):P l:=by
 cases l with
 |nil=>exact ah h
 |cons b r=>exact aE h fun a h1 h2=>kM (P:=fun r=>P (b :: r)) h1 (by rw [← h2] at k;exact k)
inductive D where
 |none
 |bool (b:Bool)
 |int (i:Int)
 |str (s:Str)
 |list (xs:List D)
 |tup (xs:List D)
noncomputable def D.scalar:D→Bool
 | .none=>true
 | .bool _=>true
 | .int _=>true
 | .str _=>true
 | .list _=>false
 | .tup _=>false
noncomputable def D.int? : D→Option Int
 | .int i=>some i
 |_=>Option.none
noncomputable def D.str? : D→Option Str
 | .str i=>some i
 |_=>Option.none
noncomputable def D.list? : D→Option (List D)
 | .list i=>some i
 |_=>Option.none
noncomputable def D.tup? : D→Option (List D)
 | .tup i=>some i
 |_=>Option.none
noncomputable def D.bool? : D→Option Bool
 | .bool i=>some i
 |_=>Option.none
noncomputable def D.nil? : D→Bool
 | .none=>true
 |_=>false
theorem aV {P:D→Prop} {d:D} {i:Int} (h:d.int? = some i) (k:P (.int i)):P d:=by
 cases d with
 |int j=>exact sm h▸k
 |_=>exact ah h
theorem d8 {P:D→Prop} {d:D} {i:Str} (h:d.str? = some i) (k:P (.str i)):P d:=by
 cases d with
 |str j=>exact sm h▸k
 |_=>exact ah h
theorem bL {P:D→Prop} {d:D} {i:List D} (h:d.list? = some i) (k:P (.list i)):P d:=by
 cases d with
 |list j=>exact sm h▸k
 |_=>exact ah h
theorem nq {P:D→Prop} {d:D} {i:Bool} (h:d.bool? = some i) (k:P (.bool i)):P d:=by
 cases d with
 |bool j=>exact sm h▸k
 |_=>exact ah h
theorem oS {P:D→Prop} {d:D} (h:d.nil? = true) (k:P .none):P d:=by
 cases d with
 |none=>exact k
 |_=>exact nomatch h
theorem s9 {a b:List D} (h:D.tup a=D.tup b):a=b:=sm (congrArg D.tup? h)
theorem uY {a b:List D} (h:D.list a=D.list b):a=b:=sm (congrArg D.list? h)
theorem Av {a b:Int} (h:D.int a=D.int b):a=b:=sm (congrArg D.int? h)
theorem boolI {a b:Bool} (h:D.bool a=D.bool b):a=b:=sm (congrArg D.bool? h)
theorem fq {P:D→Prop} {d:D} {i:List D} (h:d.tup? = some i) (k:P (.tup i)):P d:=by
 cases d with
 |tup j=>exact sm h▸k
 |_=>exact ah h
noncomputable def allEq (f:D→D→Option Bool):List D→List D→Option Bool
 | [],[]=>some true
 |x :: xs,y :: ys=>(f x y).bind fun a=>(allEq f xs ys).map fun b=>a&&b
 | [],_ :: _=>none
 |_ :: _,[]=>none
noncomputable def eqS (r:List D→List D→Option Bool) (a b:D):Option Bool:=match a with
 | .none=>if b.nil? then some true else none
 | .bool a=>b.bool?.map (a == ·)
 | .int a=>b.int?.map (a == ·)
 | .str a=>b.str?.map (a == ·)
 | .list xs=>b.list?.bind fun ys=>if xs.length=ys.length then r xs ys else some false
 | .tup xs=>b.tup?.bind fun ys=>if xs.length=ys.length then r xs ys else none
noncomputable def eqN:Nat→D→D→Option Bool
 |0=>eqS fun _ _=>none
 |n+1=>eqS (allEq (eqN n))
noncomputable def eqD (a b:D):Option Bool:=eqN 4 a b
inductive BF where
 |len |ord |chr |sum |max2 |min2 |max1 |min1 |hex |divmod
inductive MF where
 |split |startswith |endswith |find3 |lower |join |count |bitlen
inductive IK where
 |plain |range1 |range2 |enum |rev
inductive T where
 |var (i:Nat)
 |glob (x:Str)
 |cst (d:D)
 |bin (op:Operator) (a b:T)
 |un (op:UnaryOp) (a:T)
 |cmp (op:CmpOp) (a b:T)
 |cmp2 (o1 o2:CmpOp) (a b c:T)
 |bop (op:BoolOp) (a b:T)
 |ite (c a b:T)
 |nil
 |cons (a r:T)
 |list (es:T)
 |tup (es:T)
 |idx (a i:T)
 |sli (a l u st:T)
 |comp (elt:T) (tg:List Nat) (one:Bool) (k:IK) (it it2 cond:T) (locs:List Nat)
 |lrange (a b:T)
 |call (f:Str) (args:T)
 |callb (f:Str) (args:T)
 |blt (f:BF) (args:T)
 |meth (m:MF) (o args:T)
 |inset (x:Str) (a:T)
 |dget (x:Str) (a:T) (dflt:T)
inductive S where
 |skip
 |seq (a b:S)
 |asg (i:Nat) (x:Bool) (e:T)
 |unp (is:List Nat) (e:T)
 |multi (is:List (Nat×Bool)) (es:T)
 |aug (i:Nat) (op:Operator) (e:T)
 |app (i:Nat) (e:T)
 |ext (i:Nat) (e:T)
 |revm (i:Nat)
 |del (i:Nat) (e:T)
 |seti (i:Nat) (k v:T)
 |ifs (c:T) (a b:S)
 |fors (tg:List Nat) (one:Bool) (k:IK) (it it2:T) (body els:S)
 |ret (e:T)
 |retv (i:Nat)
 |brk
 |asrt (e:T)
 |bad
noncomputable abbrev MEnv:=List (Option (D×Bool))
noncomputable abbrev FEnv:=Str→List D→Option D
structure af where
 const:Str→Option D
 iset:Str→Option (List Int)
 idict:Str→Option (List (Int×Str))
@[irreducible] noncomputable def BIG:Nat:=2 ^ 4000
noncomputable def small (a:Int):Bool:=decide (a.natAbs<BIG)
noncomputable def idxOk (i:Int):Bool:=decide (i.natAbs<4611686018427387904)
noncomputable def sizeOk (n:Nat):Bool:=decide (n≤1048576)
noncomputable def truthy:D→Option Bool
 | .none=>some false
 | .bool b=>some b
 | .int i=>some (!(i==0))
 | .str s=>if sizeOk s.length then some (!(s.length==0)) else none
 | .list xs=>if sizeOk xs.length then some (!xs.isEmpty) else none
 | .tup xs=>if sizeOk xs.length then some (!xs.isEmpty) else none
noncomputable def rep (x:Str):Nat→Str
 |0=>Str.empty
 |n+1=>x++rep x n
noncomputable def ii {α:Type} (f:Int→Int→Option α) (x y:D):Option α:=x.int?.bind fun a=>y.int?.bind fun b=>f a b
theorem oB {α:Type} {f:Int→Int→Option α} {x y:D} {d:α} {P:D→D→Prop} (h:ii f x y=some d) (k:∀ a b,f a b=some d→P (.int a) (.int b)):P x y :=
 ae h fun a h1 h=>ae h fun b h2 h=>aV (P:=(P · y)) h1 (aV (P:=P (.int a)) h2 (k a b h))
noncomputable def addD (x y:D):Option D:=match x with
 | .int a=>y.int?.map fun b=> .int (a+b)
 | .str a=>y.str?.bind fun b=>if sizeOk a.length&&sizeOk b.length then some (.str (a++b)) else none
 | .list a=>y.list?.bind fun b=>if sizeOk a.length&&sizeOk b.length then some (.list (a++b)) else none
 |_=>none
noncomputable def mulD (x y:D):Option D:=y.int?.bind fun b=>match x with
 | .int a=>if small a&&small b then some (.int (a * b)) else none
 | .str a=>if sizeOk (a.length * b.toNat)&&idxOk b then some (.str (rep a b.toNat)) else none
 | .list a=>if sizeOk (a.length * b.toNat)&&idxOk b then some (.list ((List.replicate b.toNat a).flatten)) else none
 |_=>none
noncomputable def binD (op:Operator) (x y:D):Option D:=match op with
 | .Add=>addD x y
 | .Sub=>ii (fun a b=>some (.int (a - b))) x y
 | .Mult=>mulD x y
 | .FloorDiv=>ii (fun a b=>if b==0 || !small b then none else some (.int (a.fdiv b))) x y
 | .Mod=>ii (fun a b=>if b==0 then none else some (.int (a.fmod b))) x y
 | .Pow=>ii (fun a b=>if decide (0≤b)&&decide (b.toNat≤1000000)&&decide (a.natAbs<18446744073709551616) then some (.int (a ^ b.toNat)) else none) x y
 | .LShift=>ii (fun a b=>if decide (0≤b)&&decide (b.toNat≤1000000)&&small a then some (.int (a * 2 ^ b.toNat)) else none) x y
 | .RShift=>ii (fun a b=>if decide (0≤b) then some (.int (a.fdiv (2 ^ b.toNat))) else none) x y
 | .BitAnd=>ii (fun a b=>some (.int (Builtin.bitAnd a b))) x y
 | .BitOr=>ii (fun a b=>some (.int (Builtin.bitOr a b))) x y
 | .BitXor=>ii (fun a b=>some (.int (Builtin.bitXor a b))) x y
 |_=>none
noncomputable def unD (op:UnaryOp) (d:D):Option D:=match op with
 | .Not=>(truthy d).map fun b=> .bool (!b)
 | .USub=>d.int?.map fun a=> .int (-a)
 | .Invert=>d.int?.map fun a=> .int (Builtin.bitNot a)
 | .UAdd=>none
noncomputable def memD (d:D):List D→Option Bool
 | []=>some false
 |x :: xs=>(eqD x d).bind fun a=>(memD d xs).map fun b=>a || b
noncomputable def strIn (y x:Str):Bool:= !(Builtin.Str.occurrences x y 0 x.length 1).isEmpty
noncomputable def isD (a b:D):Option Bool:=match b with
 | .none=>some a.nil?
 | .bool c=>some (match a with | .bool e=>e==c |_=>false)
 |_=>none
noncomputable def inD (d b:D):Option Bool:=match b with
 | .str x=>d.str?.map (strIn · x)
 | .list xs=>memD d xs
 | .tup xs=>memD d xs
 |_=>none
noncomputable def cmpD (op:CmpOp) (a b:D):Option Bool:=match op with
 | .Eq=>eqD a b
 | .NotEq=>(eqD a b).map (!·)
 | .Lt=>ii (fun a b=>some (decide (a<b))) a b
 | .LtE=>ii (fun a b=>some (decide (a≤b))) a b
 | .Gt=>ii (fun a b=>some (decide (b<a))) a b
 | .GtE=>ii (fun a b=>some (decide (b≤a))) a b
 | .In=>inD a b
 | .NotIn=>(inD a b).map (!·)
 | .Is=>isD a b
 | .IsNot=>(isD a b).map (!·)
noncomputable def idxL (xs:List D) (i:Int):Option D :=
 if idxOk i then
  if 0≤i then xs[i.toNat]? else if 0≤i+xs.length then xs[(i+xs.length).toNat]? else none
 else none
noncomputable def idxD (a i:D):Option D:=match a with
 | .list xs=>i.int?.bind (idxL xs)
 | .tup xs=>i.int?.bind (idxL xs)
 | .str x=>i.int?.bind (idxL (x.cps.toList.map fun c=> .str ⟨#[c]⟩))
 |_=>none
noncomputable def part? : D→Option (Option Int)
 | .none=>some none
 | .int i=>if idxOk i then some (some i) else none
 |_=>none
noncomputable def pickL {α:Type} (xs:List α) (lo hi st:Option Int):List α :=
 (sliceRange (sliceBounds lo hi st xs.length).1 (sliceBounds lo hi st xs.length).2.1 (sliceBounds lo hi st xs.length).2.2).filterMap (xs[·]?)
noncomputable def sliD (a l u st:D):Option D :=
 (part? l).bind fun l=>(part? u).bind fun u=>(part? st).bind fun st =>
  if st==some 0 then none else match a with
  | .list xs=>if sizeOk xs.length then some (.list (pickL xs l u st)) else none
  | .str x=>if sizeOk x.length then some (.str ⟨(pickL x.cps.toList l u st).toArray⟩) else none
  |_=>none
noncomputable def ints? : List D→Option (List Int)
 | []=>some []
 |d :: r=>d.int?.bind fun i=>(ints? r).map (i :: ·)
noncomputable def strs? : List D→Option (List Str)
 | []=>some []
 |d :: r=>d.str?.bind fun i=>(strs? r).map (i :: ·)
noncomputable def cntD (d:D):List D→Option Nat
 | []=>some 0
 |x :: xs=>(eqD x d).bind fun b=>(cntD d xs).map fun n=>n+if b then 1 else 0
noncomputable def hexS (i:Int):Str:=PySem.baseText "0x" 16 i
noncomputable def lenD (d:D):Option D:=match d with
 | .list xs=>if sizeOk xs.length then some (.int xs.length) else none
 | .str x=>if sizeOk x.length then some (.int x.length) else none
 |_=>none
noncomputable def bestD (f:Int→Int→Int) (d:D):Option D:=d.list?.bind fun xs=>(ints? xs).bind fun ns=>match ns with
 | []=>none
 |n :: ns=>if sizeOk ns.length then some (.int (ns.foldl f n)) else none
noncomputable def bltD (f:BF) (ds:List D):Option D:=match f with
 | .len=>(one? ds).bind lenD
 | .ord=>(one? ds).bind fun d=>d.str?.bind fun x=>if x.length==1 then some (.int (x.cps.getD 0 0:Nat)) else none
 | .chr=>(one? ds).bind fun d=>d.int?.bind fun i=>if decide (0≤i)&&decide (i.toNat≤1114111) then some (.str ⟨#[i.toNat]⟩) else none
 | .sum=>(one? ds).bind fun d=>d.list?.bind fun xs=>if sizeOk xs.length then (ints? xs).map fun ns=> .int ns.sum else none
 | .max2=>(two? ds).bind fun p=>ii (fun a b=>some (.int (if b > a then b else a))) p.1 p.2
 | .min2=>(two? ds).bind fun p=>ii (fun a b=>some (.int (if b<a then b else a))) p.1 p.2
 | .max1=>(one? ds).bind (bestD fun a b=>if b > a then b else a)
 | .min1=>(one? ds).bind (bestD fun a b=>if b<a then b else a)
 | .hex=>(one? ds).bind fun d=>d.int?.bind fun i=>if decide (i.natAbs<18446744073709551616) then some (.str (hexS i)) else none
 | .divmod=>(two? ds).bind fun p=>ii (fun a b=>if b==0 || !small b then none else some (.tup [.int (a.fdiv b),.int (a.fmod b)])) p.1 p.2
noncomputable def findIn (x y:Str) (lo hi:Int):Option Int :=
 if idxOk lo&&idxOk hi&&decide (0≤lo)&&decide (0≤hi) then
  some (match Builtin.Str.occurrences x y lo.toNat (min hi.toNat x.length) 1 with
   |i :: _=>(i:Int)
   | []=> -1)
 else none
noncomputable def ss {α:Type} (f:Str→Str→Option α) (d:D) (ds:List D):Option α:=d.str?.bind fun x=>(one? ds).bind fun e=>e.str?.bind fun y=>f x y
noncomputable def findD3 (x:Str):List D→Option D
 | []=>none
 |y :: r=>y.str?.bind fun y=>(two? r).bind fun p=>p.1.int?.bind fun lo=>p.2.int?.bind fun hi=>(findIn x y lo hi).map .int
noncomputable def joinD (x:Str) (d:D):Option D:=d.list?.bind fun ys=>(strs? ys).bind fun ts=>if sizeOk (x.length * ts.length+(ts.map (·.length)).sum) then some (.str (Txt.join x ts)) else none
noncomputable def methD (f:MF) (d:D) (ds:List D):Option D:=match f with
 | .split=>ss (fun x y=>if sizeOk x.length&&decide (0<y.length) then some (.list ((Txt.split x y).map .str)) else none) d ds
 | .startswith=>ss (fun x y=>some (.bool (Txt.startswith x y))) d ds
 | .endswith=>ss (fun x y=>some (.bool (Txt.endswith x y))) d ds
 | .find3=>d.str?.bind fun x=>findD3 x ds
 | .lower=>d.str?.bind fun x=>if ds.isEmpty&&sizeOk x.length then some (.str (Txt.lower x)) else none
 | .join=>d.str?.bind fun x=>(one? ds).bind (joinD x)
 | .count=>d.list?.bind fun xs=>(one? ds).bind fun e=>if sizeOk xs.length then (cntD e xs).map fun (n:Nat)=> .int (n:Int) else none
 | .bitlen=>d.int?.bind fun i=>if ds.isEmpty then some (.int (Builtin.Int.intBits i)) else none
noncomputable def setE (σ:MEnv) (i:Nat) (d:D) (x:Bool):MEnv:=σ.set i (some (d,x))
noncomputable def clearE (σ:MEnv) (is:List Nat):MEnv:=is.foldl (fun σ i=>σ.set i none) σ
noncomputable def getE (σ:MEnv) (i:Nat):Option (D×Bool):=(σ[i]?).join
noncomputable def setAll (σ:MEnv):List Nat→List D→Option MEnv
 | [],[]=>some σ
 |i :: is,d :: ds=>setAll (setE σ i d false) is ds
 | [],_ :: _=>none
 |_ :: _,[]=>none
noncomputable def enumOk (one:Bool):IK→Bool
 | .enum=> !one
 |_=>true
noncomputable def isL:D→Bool
 | .list _=>true
 |_=>false
noncomputable def freshBin (op:Operator) (d:D):Bool:=match op with
 | .Add=>isL d
 | .Mult=>isL d
 |_=>false
noncomputable def freshSli (d:D):Bool:=isL d
noncomputable def freshM:MF→Bool
 | .split=>true
 |_=>false
noncomputable def freshT (t:T) (d:D):Bool:=match t with
 | .list _=>true
 | .lrange _ _=>true
 | .comp .. =>true
 | .bin op _ _=>freshBin op d
 | .sli .. =>freshSli d
 | .meth m _ _=>freshM m
 |_=>false
noncomputable def bindT (σ:MEnv) (tg:List Nat) (one:Bool) (d:D):Option MEnv :=
 if one then (one? tg).map fun i=>setE σ i d false else d.tup?.bind fun ds=>setAll σ tg ds
noncomputable def compL (f:D→Option (Option D)):List D→Option (List D)
 | []=>some []
 |x :: xs=>(f x).bind fun o=>(compL f xs).map fun ys=>o.elim ys (· :: ys)
noncomputable def enumD (k:Nat):List D→List D
 | []=>[]
 |x :: xs=> .tup [.int k,x] :: enumD (k+1) xs
noncomputable def rangeD (a:Int):Nat→List D
 |0=>[]
 |n+1=> .int a :: rangeD (a+1) n
noncomputable def iterD (d:D):Option (List D):=match d with
 | .list xs=>if sizeOk xs.length then some xs else none
 | .tup xs=>if sizeOk xs.length then some xs else none
 | .str x=>if sizeOk x.length then some (x.cps.toList.map fun c=> .str ⟨#[c]⟩) else none
 |_=>none
noncomputable def rngD (m n:Int):Option (List D):=if sizeOk (n - m).toNat&&idxOk n&&idxOk m then some (rangeD m (n - m).toNat) else none
noncomputable def feedD (k:IK) (o p:Option D):Option (List D):=match k with
 | .plain=>o.bind iterD
 | .range1=>o.bind fun d=>d.int?.bind (rngD 0)
 | .range2=>o.bind fun d=>d.int?.bind fun m=>p.bind fun e=>e.int?.bind (rngD m)
 | .enum=>o.bind fun d=>(iterD d).map (enumD 0)
 | .rev=>o.bind fun d=>d.list?.bind fun xs=>if sizeOk xs.length then some xs.reverse else none
noncomputable def stops:BoolOp→Bool→Bool
 | .And,b=> !b
 | .Or,b=>b
variable (G:af) (F:FEnv)
noncomputable def ev (σ:MEnv) (b:Bool):T→Option D
 | .var i=>(getE σ i).bind fun p=>if p.2 && !b then none else some p.1
 | .glob x=>G.const x
 | .cst d=>if d.scalar then some d else none
 | .bin op a c=>(ev σ true a).bind fun x=>(ev σ true c).bind fun y=>binD op x y
 | .un op a=>(ev σ true a).bind fun x=>unD op x
 | .cmp op a c=>(ev σ true a).bind fun x=>(ev σ true c).bind fun y=>(cmpD op x y).map .bool
 | .cmp2 o1 o2 a c d=>(ev σ true a).bind fun x=>(ev σ true c).bind fun y=>(cmpD o1 x y).bind fun r =>
   cond r ((ev σ true d).bind fun z=>(cmpD o2 y z).map .bool) (some (.bool false))
 | .bop op a c=>(ev σ b a).bind fun x=>(truthy x).bind fun r=>cond (stops op r) (some x) (ev σ b c)
 | .ite c a d=>(ev σ true c).bind fun x=>(truthy x).bind fun r=>cond r (ev σ b a) (ev σ b d)
 | .nil=>some (.tup [])
 | .cons a r=>(ev σ b a).bind fun x=>(ev σ b r).bind fun y=>y.tup?.map fun xs=> .tup (x :: xs)
 | .list es=>(ev σ false es).bind fun y=>y.tup?.bind fun xs=>if sizeOk xs.length then some (.list xs) else none
 | .tup es=>(ev σ false es).bind fun y=>y.tup?.bind fun xs=>if sizeOk xs.length then some (.tup xs) else none
 | .idx a i=>(ev σ true a).bind fun x=>(ev σ true i).bind fun y=>idxD x y
 | .sli a l u st=>(ev σ true a).bind fun x=>(ev σ true l).bind fun l=>(ev σ true u).bind fun u=>(ev σ true st).bind fun st=>sliD x l u st
 | .comp elt tg one k it it2 c locs=>if !enumOk one k then none else
   (feedD k (ev σ true it) (ev σ true it2)).bind fun xs =>
    (compL (fun d=>(bindT (clearE σ locs) tg one d).bind fun σ'=>(ev σ' true c).bind fun x=>(truthy x).bind fun r=>cond r ((ev σ' false elt).map some) (some none)) xs).map .list
 | .lrange a c=>(ev σ true a).bind fun d=>d.int?.bind fun m=>(ev σ true c).bind fun e=>e.int?.bind fun n=>(rngD m n).map .list
 | .call f args=>(ev σ false args).bind fun y=>y.tup?.bind fun ds=>F f ds
 | .callb f args=>(ev σ true args).bind fun y=>y.tup?.bind fun ds=>(F f ds).bind fun r=>if r.scalar then some r else none
 | .blt f args=>(ev σ true args).bind fun y=>y.tup?.bind fun ds=>bltD f ds
 | .meth m o args=>(ev σ true o).bind fun d=>(ev σ true args).bind fun y=>y.tup?.bind fun ds=>methD m d ds
 | .inset x a=>(ev σ true a).bind fun d=>d.int?.bind fun i=>(G.iset x).map fun l=> .bool (l.contains i)
 | .dget x a dflt=>(ev σ true a).bind fun d=>d.int?.bind fun i=>(ev σ true dflt).bind fun d=>(G.idict x).bind fun l =>
   if d.scalar then some ((l.lookup i).elim d .str) else none
noncomputable def isRange:IK→Bool
 | .range1=>true
 | .range2=>true
 |_=>false
noncomputable def evI (σ:MEnv) (b:Bool) (k:IK) (it it2:T):Option (List D):=feedD k (ev G F σ (b || isRange k) it) (ev G F σ true it2)
inductive Out where
 |next |brk |ret (d:D)
noncomputable def Out.isNext:Out→Bool
 | .next=>true
 | .brk=>false
 | .ret _=>false
noncomputable def Out.aft (e:Option (MEnv×Out)) (σ:MEnv):Out→Option (MEnv×Out)
 | .next=>e
 | .brk=>some (σ,.next)
 | .ret d=>some (σ,.ret d)
noncomputable def Out.fin:Out→Option D
 | .next=>some .none
 | .brk=>none
 | .ret d=>some d
noncomputable def loopL (f:MEnv→D→Option (MEnv×Out)):MEnv→List D→Option (MEnv×Out)
 |σ,[]=>some (σ,.next)
 |σ,x :: xs=>(f σ x).bind fun p=>cond p.2.isNext (loopL f p.1 xs) (some p)
noncomputable def freeze (σ:MEnv):T→MEnv
 | .var i=>(getE σ i).elim σ fun p=>setE σ i p.1 false
 |_=>σ
noncomputable def setMulti (σ:MEnv):List (Nat×Bool)→List D→Option MEnv
 | [],[]=>some σ
 |p :: is,d :: ds=>setMulti (setE σ p.1 d p.2) is ds
 | [],_ :: _=>none
 |_ :: _,[]=>none
noncomputable def freshAll:List (Nat×Bool)→T→List D→Bool
 | [],.nil,[]=>true
 |p :: is,.cons e r,d :: ds=>(!p.2 || freshT e d)&&freshAll is r ds
 |_,_,_=>false
noncomputable def augOk:Operator→Bool
 | .Add=>true
 | .Sub=>true
 | .BitXor=>true
 |_=>false
noncomputable def own? (σ:MEnv) (i:Nat):Option (List D):=(getE σ i).bind fun p=>p.1.list?.bind fun xs=>if p.2&&sizeOk xs.length then some xs else none
noncomputable def nxt (σ:MEnv):Option (MEnv×Out):=some (σ,.next)
noncomputable def ex (σ:MEnv):S→Option (MEnv×Out)
 | .skip=>some (σ,.next)
 | .seq a c=>(ex σ a).bind fun p=>cond p.2.isNext (ex p.1 c) (some p)
 | .asg i x e=>(ev G F σ false e).bind fun d=>if x && !freshT e d then none else some (setE σ i d x,.next)
 | .unp is e=>(ev G F σ false e).bind fun d=>d.tup?.bind fun ds=>(setAll σ is ds).map fun σ'=>(σ',.next)
 | .multi is es=>(ev G F σ false es).bind fun y=>y.tup?.bind fun ds=>if freshAll is es ds then (setMulti σ is ds).map fun σ'=>(σ',.next) else none
 | .aug i op e=>(getE σ i).bind fun p=>p.1.int?.bind fun a=>(ev G F σ true e).bind fun y=>y.int?.bind fun c =>
   if p.2 || !augOk op then none else (binD op (.int a) (.int c)).map fun d=>(setE σ i d false,.next)
 | .app i e=>(own? σ i).bind fun xs=>(ev G F σ false e).map fun d=>(setE σ i (.list (xs++[d])) true,.next)
 | .ext i e=>(own? σ i).bind fun xs=>(ev G F σ false e).bind fun y=>y.list?.bind fun ys=>if sizeOk ys.length then some (setE σ i (.list (xs++ys)) true,.next) else none
 | .revm i=>(own? σ i).map fun xs=>(setE σ i (.list xs.reverse) true,.next)
 | .del i e=>(own? σ i).bind fun xs=>(ev G F σ true e).bind fun y=>y.int?.bind fun k =>
   if decide (0≤k)&&decide (k<xs.length) then some (setE σ i (.list (xs.eraseIdx k.toNat)) true,.next)
   else if decide (k = -1)&&decide (0<xs.length) then some (setE σ i (.list (xs.eraseIdx (xs.length - 1))) true,.next) else none
 | .seti i k v=>(own? σ i).bind fun xs=>(ev G F σ true k).bind fun y=>y.int?.bind fun k=>(ev G F σ false v).bind fun d =>
   if decide (0≤k)&&decide (k<xs.length) then some (setE σ i (.list (xs.set k.toNat d)) true,.next) else none
 | .ifs c a e=>(ev G F σ true c).bind fun x=>(truthy x).bind fun r=>cond r (ex σ a) (ex σ e)
 | .fors tg one k it it2 body els=>if !enumOk one k then none else (evI G F (freeze σ it) false k it it2).bind fun xs =>
   (loopL (fun σ d=>(bindT σ tg one d).bind fun σ'=>ex σ' body) (freeze σ it) xs).bind fun p=>p.2.aft (ex p.1 els) p.1
 | .ret e=>(ev G F σ false e).map fun d=>(σ,.ret d)
 | .retv i=>(getE σ i).map fun p=>(σ,.ret p.1)
 | .brk=>some (σ,.brk)
 | .asrt e=>(ev G F σ true e).bind fun x=>(truthy x).bind fun r=>cond r (some (σ,.next)) none
 | .bad=>none
noncomputable def run (n:Nat) (body:S) (ds:List D):Option D :=
 (ex G F (ds.map (fun d=>some (d,false))++List.replicate (n - ds.length) none) body).bind fun p=>p.2.fin
theorem y0 {a b c:Bool} {P:Prop} (h:(a&&b&&c)=true) (k:a=true→b=true→c=true→P):P:=aa h fun h hc=>aa h fun ha hb=>k ha hb hc
theorem de {p:Prop} [Decidable p] (h:decide p=true):p:=of_decide_eq_true h
theorem jw {a b:Bool} {P:Prop} (h:¬ (a || b)=true) (k:a=false→b=false→P):P:=by
 cases a with
 |true=>exact absurd rfl h
 |false=>exact k rfl (Bool.eq_false_iff.mpr h)
theorem nz {b:Int} (h:(b==0)=false):b≠0:=fun e=>by rw [e] at h;cases h
theorem df {n:Nat} (h:n≤1048576):(n:Int)<2 ^ 63:=Int.lt_of_le_of_lt (Int.ofNat_le.mpr h) (by decide)
theorem aM {n:Nat} (h:sizeOk n=true):n≤1048576:=of_decide_eq_true h
theorem nt {b:Bool} (h:(!b)=true):b=false:=Bool.not_eq_true' _▸h
theorem l9 {l:List Str} {x:Str} (h:(!l.contains x)=true):x∉l:=fun q=>nomatch (List.contains_iff_mem.mpr q).symm.trans (nt h)
theorem fD {l:List Str} {x:Str} (h:l.contains x=true):x∈l:=List.contains_iff_mem.mp h
theorem Ag {b:Int} (h:b.toNat≤1000000):b≤1000000:=Int.toNat_le.mp h
theorem Af {a b:Nat} (h1:sizeOk a=true) (h2:sizeOk b=true):a+b≤16777216:=Nat.le_trans (Nat.add_le_add (aM h1) (aM h2)) (by decide)
theorem bZ {n:Nat} (h:n≤1048576):n≤sizeLine:=by rw [sizeLine_eq];exact Nat.le_trans h (by decide)
theorem em {l:List Str} {i:Nat} (h:i<l.length):l[i]? = some (l.getD i Str.empty):=by
 rw [List.getD_eq_getElem?_getD,List.getElem?_eq_getElem h];rfl
theorem nu {a:Array Value} {j:Nat} {v:Value} (g:a.toList[j]? = some v) (h:j<a.size):a[j]=v:=by
 rw [Array.getElem?_toList,Array.getElem?_eq_getElem h] at g
 exact Option.some.inj g
theorem yS {i:Int} (h:i.toNat≤1114111):i≤1114111:=Int.toNat_le.mp h
theorem jo {j:Int} {n:Nat} (h0:0≤j) (h:j<n) (hn:n≤1048576) : -(2 ^ 63:Int)≤j∧j<2 ^ 63:=⟨Int.le_trans (by decide) h0,Int.lt_trans h (Int.lt_of_le_of_lt (Int.ofNat_le.mpr hn) (by decide))⟩
theorem l5 {a b c d:Nat} (ha:a≤1048576) (hb:b≤1048576) (z:c=a) (z2:d=b):c+d≤2097152:=z▸z2▸Nat.add_le_add ha hb
theorem bq {α:Type} [BEq α] [ReflBEq α] {a:α} {b:Bool} (h:(some a).map (a == ·)=some b):b=true:=by rw [← sm h];exact BEq.rfl
end Mine
set_option genSizeOf false
set_option genInjectivity false
namespace Mine
structure Cx where
 tbl:List Str
 fns:List Str
 consts:List Str
 sets:List Str
 dicts:List Str
noncomputable def idOf (l:List Str) (x:Str):Option Nat:=l.findIdx? (· == x)
noncomputable def seeK:Option NameKind→Bool
 |some .local=>true
 |some .cell=>true
 |some .free=>true
 |_=>false
noncomputable def stoK:Option NameKind→Bool
 |some .local=>true
 |some .cell=>true
 |_=>false
noncomputable def celK:Option NameKind→Bool
 |some .cell=>true
 |some .free=>true
 |_=>false
noncomputable def seen (sc:Scope) (x:Str):Bool:=seeK (sc.names.lookup x)
noncomputable def storable (sc:Scope) (x:Str):Bool:=stoK (sc.names.lookup x)
noncomputable def isGlob (sc:Scope) (x:Str):Bool:=sc.names.lookup x==some .globalImplicit
noncomputable def dbg (x:Str):Bool:= !(x==("__debug__":Str))
noncomputable def dcl (x:Str):Bool:= !(x==("__classdict__":Str))
noncomputable def bfs:List (Str×Nat×BF):=[("len",1,.len),("ord",1,.ord),("chr",1,.chr),("sum",1,.sum),("max",2,.max2),("min",2,.min2),("max",1,.max1),("min",1,.min1),("hex",1,.hex),("divmod",2,.divmod)]
noncomputable def bNm:BF→Str
 | .len=>"len" | .ord=>"ord" | .chr=>"chr" | .sum=>"sum" | .max2=>"max" | .min2=>"min" | .max1=>"max" | .min1=>"min" | .hex=>"hex" | .divmod=>"divmod"
noncomputable def mNm:MF→Str
 | .split=>"split" | .startswith=>"startswith" | .endswith=>"endswith" | .find3=>"find" | .lower=>"lower" | .join=>"join" | .count=>"count" | .bitlen=>"bit_length"
noncomputable def locsOf (c:Cx) (sc:Scope):List Nat:=sc.names.filterMap fun p=>if p.2 == .local || p.2 == .cell then idOf c.tbl p.1 else none
noncomputable def distinctN:List (Str×NameKind)→Bool
 | []=>true
 |p :: r=> !(r.any fun q=>q.1==p.1)&&distinctN r
noncomputable def cellish (sc:Scope) (x:Str):Bool:=celK (sc.names.lookup x)
noncomputable def scOk (sc sc':Scope):Bool:=sc'.kind == .function&&distinctN sc'.names&&sc'.names.all fun p=> !(p.2 == .free) || cellish sc p.1
noncomputable def genK:Comprehension→List Expr
 |⟨t,i,fs,_⟩=>t :: i :: fs
noncomputable def info (sc:Scope):Expr→List Expr×Nat×Scope×List (Option Expr)
 | .BinOp l _ r _=>([l,r],0,sc,[])
 | .UnaryOp _ a _=>([a],0,sc,[])
 | .BoolOp _ vs _=>(vs,0,sc,[])
 | .IfExp t a b _=>([t,a,b],0,sc,[])
 | .Compare l _ cs _=>(l :: cs,0,sc,[])
 | .Call f as _ _=>(f :: as,0,sc,[])
 | .Attribute o _ _=>([o],0,sc,[])
 | .Subscript a i _=>([a,i],0,sc,[])
 | .Slice l u st _=>([l.getD default,u.getD default,st.getD default],0,sc,[l,u,st])
 | .List es _=>(es,0,sc,[])
 | .Tuple es k _=>(es,k,sc,[])
 | .Constant _ k _=>([],k,sc,[])
 | .ListComp elt gens sc' _=>(elt :: gens.flatMap genK,0,sc',[])
 | .Dict ks vs _=>(ks.filterMap id++vs,ks.length,sc,[])
 |_=>([],0,sc,[])
noncomputable def noSc:Scope:=default
noncomputable def kids (e:Expr):List Expr:=(info noSc e).1
noncomputable def isCall (e:Expr):Bool:=e.ctorIdx==16
noncomputable def hd (l:List Expr):Expr:=l.headD default
noncomputable def kid (k:Nat) (e:Expr):Expr:=(kids e).getD k default
noncomputable def numE (e:Expr):Nat:=(info noSc e).2.1
noncomputable def scE (sc:Scope) (e:Expr):Scope:=(info sc e).2.2.1
noncomputable def part3 (e:Expr):List (Option Expr):=(info noSc e).2.2.2
noncomputable def constE:D→Const
 | .bool b=> .bool b
 | .int i=> .int i
 | .str x=> .str x
 |_=> .none
noncomputable def isLst:T→Bool
 | .nil=>true
 | .cons _ _=>true
 |_=>false
noncomputable def tailM (op:BoolOp) (m:Option BoolOp) (es:List Expr):Bool:=m==some op && !es.tail.isEmpty
noncomputable def tailB (t:T) (m:Option BoolOp) (es:List Expr):Bool:=match t with
 | .bop op _ _=>tailM op m es
 |_=>false
noncomputable def isNilT:T→Bool
 | .nil=>true
 |_=>false
noncomputable def IK.two:IK→Bool
 | .range2=>true
 |_=>false
noncomputable def IK.bare:IK→Bool
 | .plain=>true
 |_=>false
noncomputable def isSetE (e:Expr):Bool:=e.ctorIdx==7
noncomputable def isSliceE (e:Expr):Bool:=e.ctorIdx==26
noncomputable def isTrueT:T→Bool
 | .cst (.bool true)=>true
 |_=>false
noncomputable def isNoneT:T→Bool
 | .cst .none=>true
 |_=>false
noncomputable def nameE (c:Cx) (i:Nat) (e:Expr):Expr:= .Name (c.tbl.getD i Str.empty) e.pos
noncomputable def tgE (c:Cx) (tg:List Nat) (one:Bool) (e:Expr):Expr:=cond one (nameE c (tg.headD 0) e) (.Tuple (List.zipWith (nameE c) tg (kids e)) (numE e) e.pos)
noncomputable def stoI (c:Cx) (sc:Scope) (i:Nat):Bool:=decide (i<c.tbl.length)&&storable sc (c.tbl.getD i Str.empty)
noncomputable def tgB (c:Cx) (sc:Scope) (tg:List Nat) (one:Bool) (e:Expr):Bool:=cond one (tg.length==1) ((kids e).length==tg.length)&&tg.all (stoI c sc)
noncomputable def callE (f:Str) (args:List Expr) (e:Expr):Expr:= .Call (.Name f (kid 0 e).pos) args [] e.pos
noncomputable def rangeS:Str:="range"
noncomputable def enumS:Str:="enumerate"
noncomputable def revS:Str:="reversed"
noncomputable def listS:Str:="list"
noncomputable def getS:Str:="get"
noncomputable def gl (sc:Scope) (f:Str):Bool:=isGlob sc f&&dbg f
noncomputable def slE (t:T) (r:Bool×Expr) (o:Option Expr):Bool×Option Expr:=(cond o.isSome r.1 (isNoneT t),o.map fun _=>r.2)
noncomputable def e1 (t:T) (r:Bool×List Expr):Bool×Expr:=(!isLst t&&r.1,hd r.2)
noncomputable def el (t:T) (r:Bool×List Expr):Bool×List Expr:=(isLst t&&r.1,r.2)
noncomputable def argsE (e:Expr):List Expr:=(kids e).tail
noncomputable def bopE (op:BoolOp) (b:T) (t:Bool) (x:Bool×Expr) (y:Bool×List Expr) (x':Bool×Expr) (y':Bool×List Expr) (pos:Pos):Bool×List Expr :=
 cond t (x.1 && !isLst b&&y.1,x.2 :: y.2) (x'.1 && !isLst b&&y'.1,[.BoolOp op (x'.2 :: y'.2) pos])
noncomputable def itE (sc:Scope) (k:IK) (y:Expr) (z:Bool×Expr) (i:Expr):Bool×Expr:=match k with
 | .plain=>(!isSetE y,y)
 | .range1=>(gl sc rangeS,callE rangeS [y] i)
 | .range2=>(gl sc rangeS&&z.1,callE rangeS [y,z.2] i)
 | .enum=>(gl sc enumS,callE enumS [y] i)
 | .rev=>(gl sc revS,callE revS [y] i)
noncomputable def un (c:Cx) (sc:Scope):T→Option BoolOp→List Expr→Bool×List Expr
 | .var i,_,es=>(decide (i<c.tbl.length)&&seen sc (c.tbl.getD i Str.empty)&&dbg (c.tbl.getD i Str.empty)&&dcl (c.tbl.getD i Str.empty),[nameE c i (hd es)])
 | .glob x,_,es=>(isGlob sc x&&c.consts.contains x&&dbg x,[.Name x (hd es).pos])
 | .cst d,_,es=>(d.scalar,[.Constant (constE d) (numE (hd es)) (hd es).pos])
 | .bin op a b,_,es =>
  let x:=e1 a (un c sc a none [kid 0 (hd es)]);let y:=e1 b (un c sc b none [kid 1 (hd es)])
  (x.1&&y.1,[.BinOp x.2 op y.2 (hd es).pos])
 | .un op a,_,es=>let x:=e1 a (un c sc a none [kid 0 (hd es)]);(x.1,[.UnaryOp op x.2 (hd es).pos])
 | .cmp op a b,_,es =>
  let x:=e1 a (un c sc a none [kid 0 (hd es)]);let y:=e1 b (un c sc b none [kid 1 (hd es)])
  (x.1&&y.1 && !behindInMarks op y.2,[.Compare x.2 [op] [y.2] (hd es).pos])
 | .cmp2 o p a b d,_,es =>
  let x:=e1 a (un c sc a none [kid 0 (hd es)]);let y:=e1 b (un c sc b none [kid 1 (hd es)]);let z:=e1 d (un c sc d none [kid 2 (hd es)])
  (x.1&&y.1&&z.1 && !behindInMarks p z.2,[.Compare x.2 [o,p] [y.2,z.2] (hd es).pos])
 | .bop op a b,m,es=>bopE op b (tailM op m es) (e1 a (un c sc a none [hd es])) (un c sc b (some op) es.tail) (e1 a (un c sc a none [kid 0 (hd es)])) (un c sc b (some op) (argsE (hd es))) (hd es).pos
 | .ite d a b,_,es =>
  let z:=e1 d (un c sc d none [kid 0 (hd es)]);let x:=e1 a (un c sc a none [kid 1 (hd es)]);let y:=e1 b (un c sc b none [kid 2 (hd es)])
  (z.1&&x.1&&y.1,[.IfExp z.2 x.2 y.2 (hd es).pos])
 | .nil,_,_=>(true,[])
 | .cons a r,_,es=>let x:=e1 a (un c sc a none [hd es]);let y:=el r (un c sc r none es.tail);(x.1&&y.1,x.2 :: y.2)
 | .list t,_,es=>let x:=el t (un c sc t none (kids (hd es)));(x.1,[.List x.2 (hd es).pos])
 | .tup t,_,es=>let x:=el t (un c sc t none (kids (hd es)));(x.1,[.Tuple x.2 (numE (hd es)) (hd es).pos])
 | .idx a i,_,es =>
  let x:=e1 a (un c sc a none [kid 0 (hd es)]);let y:=e1 i (un c sc i none [kid 1 (hd es)])
  (x.1&&y.1 && !isSliceE y.2,[.Subscript x.2 y.2 (hd es).pos])
 | .sli a l u st,_,es =>
  let s:=kid 1 (hd es);let p:=part3 s
  let x:=e1 a (un c sc a none [kid 0 (hd es)])
  let l:=slE l (e1 l (un c sc l none [kid 0 s])) (p.getD 0 none);let u:=slE u (e1 u (un c sc u none [kid 1 s])) (p.getD 1 none);let st:=slE st (e1 st (un c sc st none [kid 2 s])) (p.getD 2 none)
  (x.1&&l.1&&u.1&&st.1,[.Subscript x.2 (.Slice l.2 u.2 st.2 s.pos) (hd es).pos])
 | .comp elt tg one k it it2 cnd locs,_,es =>
  let e:=hd es;let sc':=scE sc e;let i:=kid 2 e
  let x:=e1 elt (un c sc' elt none [kid 0 e])
  let y:=e1 it (un c sc it none [cond k.bare i (kid 1 i)]);let z:=e1 it2 (un c sc it2 none [kid 2 i])
  let w:=e1 cnd (un c sc' cnd none [kid 3 e])
  let iter:=itE sc k y.2 z i
  let nc:=isTrueT cnd&&(kids e).tail.tail.tail.isEmpty
  (x.1&&y.1&&iter.1&&(nc || w.1)&&tgB c sc' tg one (kid 1 e)&&scOk sc sc'&&locs==locsOf c sc',[.ListComp x.2 [⟨tgE c tg one (kid 1 e),iter.2,cond nc [] [w.2],0⟩] sc' e.pos])
 | .lrange a b,_,es =>
  let r:=kid 1 (hd es)
  let x:=e1 a (un c sc a none [kid 1 r]);let y:=e1 b (un c sc b none [kid 2 r])
  (x.1&&y.1&&gl sc listS&&gl sc rangeS,[callE listS [callE rangeS [x.2,y.2] r] (hd es)])
 | .call f t,_,es=>let x:=el t (un c sc t none (argsE (hd es)));(x.1&&gl sc f&&c.fns.contains f,[callE f x.2 (hd es)])
 | .callb f t,_,es=>let x:=el t (un c sc t none (argsE (hd es)));(x.1&&gl sc f&&c.fns.contains f,[callE f x.2 (hd es)])
 | .blt f t,_,es=>let x:=el t (un c sc t none (argsE (hd es)));(x.1&&gl sc (bNm f),[callE (bNm f) x.2 (hd es)])
 | .meth m o t,_,es =>
  let p:=kid 0 (hd es)
  let x:=el t (un c sc t none (argsE (hd es)));let y:=e1 o (un c sc o none [kid 0 p])
  (x.1&&y.1&&p.pos.endLine==(hd es).pos.line && !isCall y.2&&decide (x.2.length<30),[.Call (.Attribute y.2 (mNm m) p.pos) x.2 [] (hd es).pos])
 | .inset x a,_,es=>let y:=e1 a (un c sc a none [kid 0 (hd es)]);(y.1&&isGlob sc x&&c.sets.contains x,[.Compare y.2 [.In] [.Name x (kid 1 (hd es)).pos] (hd es).pos])
 | .dget x a d,_,es =>
  let p:=kid 0 (hd es);let two:=(kids (hd es)).tail.tail.isEmpty
  let y:=e1 a (un c sc a none [kid 1 (hd es)]);let z:=e1 d (un c sc d none [kid 2 (hd es)])
  (y.1&&cond two (isNoneT d) z.1&&p.pos.endLine==(hd es).pos.line&&isGlob sc x&&c.dicts.contains x,[.Call (.Attribute (.Name x (kid 0 p).pos) getS p.pos) (y.2 :: cond two [] [z.2]) [] (hd es).pos])
noncomputable def sinfo:Stmt→List Expr×List Stmt×List Stmt×Option Expr
 | .Assign ts v _=>(v :: ts,[],[],none)
 | .AugAssign t _ v _=>([v,t],[],[],none)
 | .Expr e _=>([e],[],[],none)
 | .Delete ts _=>(ts,[],[],none)
 | .If t a b _=>([t],a,b,none)
 | .For t i a b _=>([i,t],a,b,none)
 | .Return e _=>(e.toList,[],[],none)
 | .Assert t m _=>([t],[],[],m)
 |_=>([],[],[],none)
noncomputable def skids (s:Stmt):List Expr:=(sinfo s).1
noncomputable def sbod (s:Stmt):List Stmt:=(sinfo s).2.1
noncomputable def sels (s:Stmt):List Stmt:=(sinfo s).2.2.1
noncomputable def smsg (s:Stmt):Option Expr:=(sinfo s).2.2.2
noncomputable def skid (k:Nat) (st:Stmt):Expr:=(skids st).getD k default
noncomputable def hs (l:List Stmt):Stmt:=l.headD default
noncomputable def isSeq:S→Bool
 | .skip=>true
 | .seq _ _=>true
 |_=>false
noncomputable def appendS:Str:="append"
noncomputable def extendS:Str:="extend"
noncomputable def reverseS:Str:="reverse"
noncomputable def isTupE (e:Expr):Bool:=e.ctorIdx==25
noncomputable def isBadC (e:Expr):Bool:=e.ctorIdx==9 || e.ctorIdx==10
noncomputable def unE (c:Cx) (sc:Scope) (t:T) (e:Expr):Bool×Expr:=e1 t (un c sc t none [e])
noncomputable def ownM (c:Cx) (i:Nat) (m:Str) (as:List Expr) (st:Stmt):Stmt:= .Expr (.Call (.Attribute (nameE c i (kid 0 (kid 0 (skid 0 st)))) m (kid 0 (skid 0 st)).pos) as [] (skid 0 st).pos) st.pos
noncomputable def ownB (st:Stmt):Bool:=(kid 0 (skid 0 st)).pos.endLine==(skid 0 st).pos.line
noncomputable def vars (c:Cx) (is:List Nat) (e:Expr):Expr:= .Tuple (List.zipWith (nameE c) is (kids e)) (numE e) e.pos
noncomputable def varsB (c:Cx) (sc:Scope) (is:List Nat) (e:Expr):Bool:=(kids e).length==is.length&&is.all (stoI c sc)
noncomputable def unS (c:Cx) (sc:Scope):S→List Stmt→Bool×List Stmt
 | .skip,_=>(true,[])
 | .seq a b,ss =>
  let x:=unS c sc a [hs ss];let y:=unS c sc b ss.tail
  (!isSeq a&&isSeq b&&x.1&&y.1,hs x.2 :: y.2)
 | .asg i _ e,ss=>let s:=hs ss;let x:=unE c sc e (skid 0 s);(x.1&&stoI c sc i && !isBadC x.2,[.Assign [nameE c i (skid 1 s)] x.2 s.pos])
 | .unp is e,ss=>let s:=hs ss;let x:=unE c sc e (skid 0 s);(x.1&&varsB c sc is (skid 1 s) && !isTupE x.2,[.Assign [vars c is (skid 1 s)] x.2 s.pos])
 | .multi is es,ss =>
  let s:=hs ss;let v:=skid 0 s;let x:=el es (un c sc es none (kids v))
  (x.1&&varsB c sc (is.map (·.1)) (skid 1 s)&&is.all (fun p=> !p.2) && !(x.2.all (constantsAlone 8))&&decide (is.length<30),[.Assign [vars c (is.map (·.1)) (skid 1 s)] (.Tuple x.2 (numE v) v.pos) s.pos])
 | .aug i op e,ss=>let s:=hs ss;let x:=unE c sc e (skid 0 s);(x.1&&stoI c sc i,[.AugAssign (nameE c i (skid 1 s)) op x.2 s.pos])
 | .app i e,ss=>let s:=hs ss;let x:=unE c sc e (kid 1 (skid 0 s));(x.1&&stoI c sc i&&ownB s,[ownM c i appendS [x.2] s])
 | .ext i e,ss=>let s:=hs ss;let x:=unE c sc e (kid 1 (skid 0 s));(x.1&&stoI c sc i&&ownB s,[ownM c i extendS [x.2] s])
 | .revm i,ss=>let s:=hs ss;(stoI c sc i&&ownB s,[ownM c i reverseS [] s])
 | .del i e,ss=>let s:=hs ss;let x:=unE c sc e (kid 1 (skid 0 s));(x.1&&stoI c sc i,[.Delete [.Subscript (nameE c i (kid 0 (skid 0 s))) x.2 (skid 0 s).pos] s.pos])
 | .seti i k v,ss =>
  let s:=hs ss;let t:=skid 1 s;let x:=unE c sc k (kid 1 t);let y:=unE c sc v (skid 0 s)
  (x.1&&y.1&&stoI c sc i,[.Assign [.Subscript (nameE c i (kid 0 t)) x.2 t.pos] y.2 s.pos])
 | .ifs t a b,ss =>
  let s:=hs ss;let x:=unE c sc t (skid 0 s);let y:=unS c sc a (sbod s);let z:=unS c sc b (sels s)
  (x.1&&isSeq a&&y.1&&isSeq b&&z.1,[.If x.2 y.2 z.2 s.pos])
 | .fors tg one k it it2 a b,ss =>
  let s:=hs ss;let i:=skid 0 s;let u:=unE c sc it (cond k.bare i (kid 1 i));let v:=unE c sc it2 (kid 2 i)
  let x:=itE sc k u.2 v i;let y:=unS c sc a (sbod s);let z:=unS c sc b (sels s)
  (u.1&&x.1&&tgB c sc tg one (skid 1 s)&&isSeq a&&y.1&&isSeq b&&z.1,[.For (tgE c tg one (skid 1 s)) x.2 y.2 z.2 s.pos])
 | .ret e,ss=>let s:=hs ss;let x:=unE c sc e (skid 0 s);let n:=(skids s).isEmpty;(cond n (isNoneT e) x.1,[.Return (cond n none (some x.2)) s.pos])
 | .retv i,ss=>let s:=hs ss;(decide (i<c.tbl.length)&&seen sc (c.tbl.getD i Str.empty),[.Return (some (nameE c i (skid 0 s))) s.pos])
 | .brk,ss=>(true,[.Break (hs ss).pos])
 | .asrt e,ss=>let s:=hs ss;let x:=unE c sc e (skid 0 s);(x.1,[.Assert x.2 (smsg s) s.pos])
 | .bad,ss=>(true,[hs ss])
noncomputable def codeB (c:Cx) (sc:Scope) (code:S) (body:List Stmt):Bool:=isSeq code&&(unS c sc code body).1
end Mine
set_option genSizeOf false
set_option genInjectivity false
namespace Mine
noncomputable def TupAt (h:Heap) (a:Addr) (items:Array Value):Prop:=∃ n,h.get? a=some {cls:= .type "tuple",data:= .seq items n}
noncomputable def dicD:Data→Bool
 | .dict _ _=>true
 |_=>false
noncomputable def fldD:Data→Bool
 | .fields _=>true
 |_=>false
noncomputable def nonC:Value→Bool
 | .none=>true
 |_=>false
noncomputable def isTab (o:Obj):Bool:=dicD o.data || (nonC o.cls&&fldD o.data)
theorem cP {o:Obj} {v:Option Value} (h:o.data = .cell v):isTab o=false:=by
 unfold isTab;rw [h];exact Bool.and_false _
theorem bj {o:Obj} {v:FuncData} (h:o.data = .func v):isTab o=false:=by
 unfold isTab;rw [h];exact Bool.and_false _
theorem dy {o:Obj} {t:String} (h:o.cls = .type t) (hd:dicD o.data=false):isTab o=false:=by
 unfold isTab;rw [h,hd];rfl
theorem br {o:Obj} {t:String} {vs:Array Value} (h:o.cls = .type t) (hd:o.data = .fields vs):isTab o=false:=dy h (by rw [hd];rfl)
theorem qz {o:Obj} {t:String} (h:o.cls = .type t) (hd:o.data = .plain):isTab o=false:=dy h (by rw [hd];rfl)
theorem TupAt.at' {h h':Heap} {a:Addr} {items:Array Value} (x:TupAt h a items) (e:∀ o,isTab o=false→h.get? a=some o→h'.get? a=some o):TupAt h' a items :=
 let ⟨n,ho⟩:=x;⟨n,e _ rfl ho⟩
theorem PL.at' {h h':Heap} {a:Addr} {items:Array Value} (x:h.PlainList a items) (e:∀ o,isTab o=false→h.get? a=some o→h'.get? a=some o):h'.PlainList a items :=
 let ⟨n,ho⟩:=x;⟨n,e _ rfl ho⟩
theorem PL.al {h:Heap} {a:Addr} {items:Array Value} (x:h.PlainList a items):∃ o,h.get? a=some o:=let ⟨_,ho⟩:=x;⟨_,ho⟩
theorem PL.lt {h:Heap} {a:Addr} {items:Array Value} (x:h.PlainList a items):a<h.objs.size:=let ⟨_,ho⟩:=x;Heap.lt_size ho
theorem PL.isList {h:Heap} {a:Addr} {items:Array Value} (x:h.PlainList a items):h.IsList a items:=let ⟨n,ho⟩:=x;⟨_,ho,rfl,n,rfl⟩
theorem TupAt.al {h:Heap} {a:Addr} {items:Array Value} (x:TupAt h a items):∃ o,h.get? a=some o:=let ⟨_,ho⟩:=x;⟨_,ho⟩
theorem TupAt.lt {h:Heap} {a:Addr} {items:Array Value} (x:TupAt h a items):a<h.objs.size:=let ⟨_,ho⟩:=x;Heap.lt_size ho
theorem TupAt.isTup {h:Heap} {a:Addr} {items:Array Value} (x:TupAt h a items):IsTup h a items:=let ⟨n,ho⟩:=x;⟨_,ho,rfl,n,rfl⟩
noncomputable def Kq (h h':Heap):Prop:=∀ b o,h.get? b=some o→h'.get? b=some o
theorem Kq.refl (h:Heap):Kq h h:=fun _ _ e=>e
theorem Kq.trans {a b c:Heap} (x:Kq a b) (y:Kq b c):Kq a c:=fun i o e=>y i o (x i o e)
theorem Kq.push (h:Heap) (o:Obj):Kq h (h.push o):=fun _ _ e=>Heap.get?_push_of_some _ e
theorem aJ (h:Heap):h.get? h.objs.size=none:=by
 cases e:h.get? h.objs.size with
 |none=>rfl
 |some o=>exact absurd (Heap.lt_size e) (Nat.lt_irrefl _)
noncomputable def Al (h:Heap) (b:Addr):Prop:=∃ o,h.get? b=some o
noncomputable def Dt (h:Heap) (b:Addr):Prop:=∃ o es n,h.get? b=some o∧o.data = .dict es n
theorem Dt.kq {h h':Heap} {b:Addr} (d:Dt h b) (k:∀ o,h.get? b=some o→h'.get? b=some o):Dt h' b:=let ⟨o,es,n,e1,e2⟩:=d;⟨o,es,n,k o e1,e2⟩
theorem Ns.dt {h:Heap} {a:Addr} {m:Str→Option Value} (x:h.Ns a m):Dt h a:=let ⟨o,es,ep,e1,e2,_⟩:=x;⟨o,es,ep,e1,e2⟩
theorem PL.nodt {h:Heap} {a:Addr} {items:Array Value} (x:h.PlainList a items):¬ Dt h a:=fun ⟨o,es,n,e1,e2⟩=>by
 obtain ⟨k,ho⟩:=x;rw [ho] at e1;cases e1;cases e2
theorem Cell.nodt {h:Heap} {a:Addr} {v:Option Value} (x:h.IsCell a v):¬ Dt h a:=fun ⟨o,es,n,e1,e2⟩=>by
 obtain ⟨o',h1,h2⟩:=x;rw [h1] at e1;cases e1;rw [h2] at e2;cases e2
class Tabs where
 tb:Addr→Prop
 q:Int→Int→Str
 fa:Addr→Prop
variable [Tabs]
inductive TabV (h:Heap) (b:Addr):List Value→Prop
 |nil:TabV h b []
 |cons {l c:Int} {t u:Tok} {a:Addr} {o:Obj} {vs:Array Value} {tq:Tok} {r:List Value}:h.get? a=some o→o.cls = .type "code"→o.data = .fields vs→vs[1]? = some (.str (Tabs.q l c) tq)→TabV h b r→TabV h b (.int l t :: .int c u :: .ref a :: r)
noncomputable def Gw (h':Heap) (b:Addr) (o:Obj):Prop :=
 h'.get? b=some o∨(Tabs.tb b∧∃ vs more:Array Value,o.cls = .none∧o.data = .fields vs∧h'.get? b=some {o with data:= .fields (vs++more)}∧TabV h' b more.toList) ∨
  (Tabs.fa b∧∃ es n sl,o.data = .dict es n∧h'.get? b=some {o with slots:=sl})
theorem Gw.ob {h':Heap} {b:Addr} {o:Obj} (g:Gw h' b o) (t:isTab o=false):h'.get? b=some o:=by
 rcases g with g |⟨_,vs,more,e1,e2,_⟩ |⟨_,es,n,sl,e1,_⟩
 ·exact g
 ·unfold isTab at t;rw [e1,e2] at t;cases t
 ·unfold isTab at t;rw [e1] at t;cases t
theorem Gw.al {h':Heap} {b:Addr} {o:Obj} (g:Gw h' b o):Al h' b:=by
 rcases g with g |⟨_,vs,more,_,_,e,_⟩ |⟨_,es,n,sl,_,e⟩
 ·exact ⟨_,g⟩
 ·exact ⟨_,e⟩
 ·exact ⟨_,e⟩
theorem Gw.dict {h':Heap} {b:Addr} {o:Obj} {es:Array DictEntry} {n:Nat} (g:Gw h' b o) (hd:o.data = .dict es n):∃ sl,h'.get? b=some {o with slots:=sl}:=by
 rcases g with g |⟨_,vs,more,_,e2,_⟩ |⟨_,es',n',sl,_,e⟩
 ·exact ⟨o.slots,g⟩
 ·rw [hd] at e2;cases e2
 ·exact ⟨sl,e⟩
theorem Gw.obF {h':Heap} {b:Addr} {o:Obj} {es:Array DictEntry} {n:Nat} (g:Gw h' b o) (hd:o.data = .dict es n) (hf:¬ Tabs.fa b):h'.get? b=some o:=by
 rcases g with g |⟨_,vs,more,_,e2,_⟩ |⟨f,_⟩
 ·exact g
 ·rw [hd] at e2;cases e2
 ·exact absurd f hf
theorem Dt.gw {h h':Heap} {b:Addr} (d:Dt h b) (k:∀ o,h.get? b=some o→Gw h' b o):Dt h' b:=by
 obtain ⟨o,es,n,e1,e2⟩:=d
 obtain ⟨sl,e3⟩:=(k o e1).dict e2
 exact ⟨_,es,n,e3,e2⟩
noncomputable def Kp (h h':Heap):Prop:=∀ b o,h.get? b=some o→Gw h' b o
theorem Kp.of {h h':Heap} (k:∀ b o,h.get? b=some o→h'.get? b=some o):Kp h h':=fun b o e=> .inl (k b o e)
theorem Kp.refl (h:Heap):Kp h h:=fun _ _ e=> .inl e
theorem Kp.ob {h h':Heap} {b:Addr} {o:Obj} (k:Kp h h') (e:h.get? b=some o) (t:isTab o=false):h'.get? b=some o:=(k b o e).ob t
theorem Kp.at {h h':Heap} (k:Kp h h') (a:Addr):∀ o,isTab o=false→h.get? a=some o→h'.get? a=some o:=fun _ t e=>k.ob e t
noncomputable def Cd (h h':Heap):Prop:=(∀ a o vs,o.cls = .type "code"→o.data = .fields vs→h.get? a=some o→h'.get? a=some o)∧∀ b,Dt h b→Dt h' b
theorem Cd.refl (h:Heap):Cd h h:=⟨fun _ _ _ _ _ e=>e,fun _ e=>e⟩
theorem Cd.trans {a b c:Heap} (x:Cd a b) (y:Cd b c):Cd a c:=⟨fun i o vs h1 h2 e=>y.1 i o vs h1 h2 (x.1 i o vs h1 h2 e),fun b d=>y.2 b (x.2 b d)⟩
theorem Kp.cd {h h':Heap} (k:Kp h h'):Cd h h':=⟨fun _ _ _ h1 h2 e=>k.ob e (br h1 h2),fun b d=>d.gw (k b)⟩
noncomputable def Cc (h h':Heap):Prop:=∀ a o vs,o.cls = .type "code"→o.data = .fields vs→h.get? a=some o→h'.get? a=some o
theorem TabV.up {h h':Heap} {b:Addr} (k:Cc h h'):∀ {l:List Value},TabV h b l→TabV h' b l
 |_,.nil=> .nil
 |_,.cons e1 e2 e3 e4 r=> .cons (k _ _ _ e2 e3 e1) e2 e3 e4 (r.up k)
theorem TabV.app {h:Heap} {b:Addr} {m:List Value} (y:TabV h b m):∀ {l:List Value},TabV h b l→TabV h b (l++m)
 |_,.nil=>y
 |_,.cons e1 e2 e3 e4 r=> .cons e1 e2 e3 e4 (TabV.app y r)
theorem Gw.thenC {h1 h2:Heap} {b:Addr} {o:Obj} (g:Gw h1 b o) (k:∀ o,h1.get? b=some o→Gw h2 b o) (kk:Cc h1 h2):Gw h2 b o:=by
 rcases g with g |⟨t,vs,more,e1,e2,e3,e4⟩ |⟨t,es,n,sl,e1,e2⟩
 ·exact k _ g
 ·rcases k _ e3 with g |⟨_,vs',more',f1,f2,f3,f4⟩ |⟨_,es,n,sl,f1,_⟩
  ·exact .inr (.inl ⟨t,vs,more,e1,e2,g,e4.up kk⟩)
  ·cases f2
   refine .inr (.inl ⟨t,vs,more++more',e1,e2,?_,?_⟩)
   ·rw [← Array.append_assoc];exact f3
   ·rw [Array.toList_append];exact TabV.app f4 (e4.up kk)
  ·cases f1
 ·obtain ⟨sl',e3⟩:=(k _ e2).dict e1
  exact .inr (.inr ⟨t,es,n,sl',e1,e3⟩)
theorem Gw.then {h1 h2:Heap} {b:Addr} {o:Obj} (g:Gw h1 b o) (k:∀ o,h1.get? b=some o→Gw h2 b o) (kk:Cd h1 h2):Gw h2 b o:=g.thenC k kk.1
theorem Kp.trans {a b c:Heap} (x:Kp a b) (y:Kp b c):Kp a c:=fun i o e=>(x i o e).then (y i) y.cd
theorem Kp.push (h:Heap) (o:Obj):Kp h (h.push o):= .of fun _ _ e=>Heap.get?_push_of_some _ e
theorem Cc.sb {b c:Heap} {D:Addr} (sb:∀ x o,x≠D→b.get? x=some o→c.get? x=some o) (hd:∀ o,b.get? D=some o→∀ vs,o.data ≠ .fields vs):Cc b c:=fun x o vs _ h2 e=>sb x o (fun q=>hd o (q▸e) vs h2) e
theorem Cd.sb {b c:Heap} {D:Addr} (sb:∀ x o,x≠D→b.get? x=some o→c.get? x=some o) (hd:∀ o,b.get? D=some o→∀ vs,o.data ≠ .fields vs) (hdt:Dt b D→Dt c D):Cd b c :=
 ⟨fun x o vs _ h2 e=>sb x o (fun q=>hd o (q▸e) vs h2) e,fun x d=>by
  by_cases q:x=D
  ·subst q;exact hdt d
  ·exact d.kq fun o e=>sb x o q e⟩
theorem Kp.sb {a b c:Heap} {D:Addr} (k:Kp a b) (hn:a.get? D=none) (sb:∀ x o,x≠D→b.get? x=some o→c.get? x=some o) (hd:∀ o,b.get? D=some o→∀ vs,o.data ≠ .fields vs):Kp a c :=
 fun x o e=>(k x o e).thenC (fun o' e'=> .inl (sb x o' (fun q=>by rw [q,hn] at e;cases e) e')) (Cc.sb sb hd)
theorem Dt.al {h:Heap} {b:Addr} (d:Dt h b):Al h b:=let ⟨o,_,_,e,_⟩:=d;⟨o,e⟩
theorem Cd.sbn {a b c:Heap} {D:Addr} (x:Cd a b) (hn:a.get? D=none) (sb:∀ x o,x≠D→b.get? x=some o→c.get? x=some o) (hd:∀ o,b.get? D=some o→∀ vs,o.data ≠ .fields vs):Cd a c :=
 ⟨fun i o vs h1 h2 e=>Cc.sb sb hd i o vs h1 h2 (x.1 i o vs h1 h2 e),fun i d=>(x.2 i d).kq fun o e=>sb i o (fun q=>by obtain ⟨o',e'⟩:=d.al;rw [q,hn] at e';cases e') e⟩
theorem PL.nofields {h:Heap} {a:Addr} {items:Array Value} (x:h.PlainList a items):∀ o,h.get? a=some o→∀ vs,o.data ≠ .fields vs:=fun o e vs q=>by
 obtain ⟨n,ho⟩:=x;rw [e] at ho;cases ho;cases q
theorem Ns.nofields {h:Heap} {a:Addr} {m:Str→Option Value} (x:h.Ns a m):∀ o,h.get? a=some o→∀ vs,o.data ≠ .fields vs:=fun o e vs q=>by
 obtain ⟨o',es,ep,ho,hd,_⟩:=x;rw [e] at ho;cases ho;rw [hd] at q;cases q
theorem Kp.none {h h':Heap} {b:Addr} (k:Kp h h') (e:h'.get? b=none):h.get? b=none:=by
 cases q:h.get? b with
 |none=>rfl
 |some o=>obtain ⟨o',e'⟩:=(k _ _ q).al;rw [e] at e';cases e'
theorem Kp.ns {h h':Heap} {a:Addr} {m:Str→Option Value} (k:Kp h h') (n:h.Ns a m):h'.Ns a m:=by
 obtain ⟨o,es,ep,e1,e2,e3⟩:=n
 obtain ⟨sl,e4⟩:=(k a o e1).dict e2
 exact ⟨_,es,ep,e4,e2,e3⟩
theorem Ns.gw {h h':Heap} {a:Addr} {m:Str→Option Value} (n:h.Ns a m) (k:∀ o,h.get? a=some o→Gw h' a o):h'.Ns a m:=by
 obtain ⟨o,es,ep,e1,e2,e3⟩:=n
 obtain ⟨sl,e4⟩:=(k o e1).dict e2
 exact ⟨_,es,ep,e4,e2,e3⟩
theorem Kp.cell {h h':Heap} {a:Addr} {v:Option Value} (k:Kp h h') (n:h.IsCell a v):h'.IsCell a v:=by
 obtain ⟨o,e1,e2⟩:=n
 exact ⟨o,k.ob e1 (cP e2),e2⟩
class Frk where
 fs:Option (List Env)
structure KB [Frk] (hB h:Heap):Prop where
 kp:Kp hB h
 al:∀ l,Frk.fs=some l→∀ e∈l,e.scope.kind ≠ .module∧∃ L,e.frame=some L∧Tabs.fa L∧Dt h L
section
variable [Frk]
theorem KB.cdt {hB h h':Heap} (k:KB hB h) (kp:Kp hB h') (c:Cd h h'):KB hB h':=⟨kp,fun l hl e he=>let ⟨h1,L,h2,h3,h4⟩:=k.al l hl e he;⟨h1,L,h2,h3,c.2 L h4⟩⟩
theorem KB.trans {hB h h':Heap} (k:KB hB h) (y:Kp h h'):KB hB h':=k.cdt (k.kp.trans y) y.cd
theorem KB.ob {h h':Heap} {b:Addr} {o:Obj} (k:KB h h') (e:h.get? b=some o) (t:isTab o=false):h'.get? b=some o:=k.kp.ob e t
theorem KB.none {h h':Heap} {b:Addr} (k:KB h h') (e:h'.get? b=Option.none):h.get? b=Option.none:=k.kp.none e
theorem KB.ns {h h':Heap} {a:Addr} {m:Str→Option Value} (k:KB h h') (n:h.Ns a m):h'.Ns a m:=k.kp.ns n
end
theorem Al.keep {h h':Heap} {b:Addr} (k:Kp h h') (a:Al h b):Al h' b:=let ⟨o,e⟩:=a;(k _ _ e).al
theorem Al.ne {h:Heap} {a b:Addr} (x:Al h a) (y:h.get? b=none):a≠b:=by
 rintro rfl;obtain ⟨o,e⟩:=x;rw [y] at e;cases e
mutual
noncomputable def Den (h:Heap) (X:Addr→Prop):D→Value→Prop
 | .none,v=>v = .none
 | .bool b,v=>v = .bool b
 | .int i,v=>∃ t,v = .int i t
 | .str x,v=>∃ t,v = .str x t
 | .list ds,v=>∃ a items,v = .ref a∧¬ X a∧h.PlainList a items∧DenL h X ds items.toList
 | .tup ds,v=>∃ a items,v = .ref a∧¬ X a∧TupAt h a items∧DenL h X ds items.toList
noncomputable def DenL (h:Heap) (X:Addr→Prop):List D→List Value→Prop
 | [],vs=>vs=[]
 |d :: ds,vs=>∃ v r,vs=v :: r∧Den h X d v∧DenL h X ds r
end
mutual
theorem Den.mono {h h':Heap} {X X':Addr→Prop} (hk:∀ b o,¬ X b→isTab o=false→h.get? b=some o→h'.get? b=some o) (hx:∀ b,Al h b→¬ X b→¬ X' b) :
  ∀ (d:D) (v:Value),Den h X d v→Den h' X' d v
 | .none,v,e=>e
 | .bool b,v,e=>e
 | .int i,v,e=>e
 | .str x,v,e=>e
 | .list ds,v,⟨a,items,e,n,l,r⟩=>⟨a,items,e,hx a (PL.al l) n,PL.at' l fun o=>hk a o n,DenL.mono hk hx ds _ r⟩
 | .tup ds,v,⟨a,items,e,n,l,r⟩=>⟨a,items,e,hx a (TupAt.al l) n,TupAt.at' l fun o=>hk a o n,DenL.mono hk hx ds _ r⟩
theorem DenL.mono {h h':Heap} {X X':Addr→Prop} (hk:∀ b o,¬ X b→isTab o=false→h.get? b=some o→h'.get? b=some o) (hx:∀ b,Al h b→¬ X b→¬ X' b) :
  ∀ (ds:List D) (vs:List Value),DenL h X ds vs→DenL h' X' ds vs
 | [],vs,e=>e
 |d :: ds,vs,⟨v,r,e,a,b⟩=>⟨v,r,e,Den.mono hk hx d v a,DenL.mono hk hx ds r b⟩
end
theorem Den.keep {h h':Heap} {X:Addr→Prop} {d:D} {v:Value} (k:Kp h h') (e:Den h X d v):Den h' X d v:=Den.mono (fun b o _ t e=>k.ob e t) (fun _ _ n=>n) d v e
theorem DenL.keep {h h':Heap} {X:Addr→Prop} {ds:List D} {vs:List Value} (k:Kp h h') (e:DenL h X ds vs):DenL h' X ds vs:=DenL.mono (fun b o _ t e=>k.ob e t) (fun _ _ n=>n) ds vs e
noncomputable def DenT (h:Heap) (X:Addr→Prop):D→Value→Prop
 | .list ds,v=>∃ a items,v = .ref a∧h.PlainList a items∧DenL h X ds items.toList
 |d,v=>Den h X d v
theorem Den.top {h:Heap} {X:Addr→Prop} {d:D} {v:Value} (e:Den h X d v):DenT h X d v:=by
 cases d with
 |list ds=>obtain ⟨a,items,e,_,l,r⟩:=e;exact ⟨a,items,e,l,r⟩
 |_=>exact e
theorem DenT.keep {h h':Heap} {X:Addr→Prop} {d:D} {v:Value} (k:Kp h h') (e:DenT h X d v):DenT h' X d v:=by
 cases d with
 |list ds=>obtain ⟨a,items,e,l,r⟩:=e;exact ⟨a,items,e,PL.at' l (k.at a),r.keep k⟩
 |_=>exact Den.keep k e
noncomputable def DenR (h:Heap) (X:Addr→Prop) (b:Bool) (d:D) (v:Value):Prop:=if b then DenT h X d v else Den h X d v
theorem DenR.top {h:Heap} {X:Addr→Prop} {b:Bool} {d:D} {v:Value} (e:DenR h X b d v):DenT h X d v:=by
 cases b
 ·exact Den.top e
 ·exact e
theorem DenR.keep {h h':Heap} {X:Addr→Prop} {b:Bool} {d:D} {v:Value} (k:Kp h h') (e:DenR h X b d v):DenR h' X b d v:=by
 cases b
 ·exact Den.keep k e
 ·exact DenT.keep k e
theorem Den.toR {h:Heap} {X:Addr→Prop} {b:Bool} {d:D} {v:Value} (e:Den h X d v):DenR h X b d v:=by
 cases b
 ·exact e
 ·exact Den.top e
theorem Den.scal {h h':Heap} {X X':Addr→Prop} {d:D} {v:Value} (hs:d.scalar=true) (e:Den h X d v):Den h' X' d v:=by
 cases d<;>first |exact e |cases hs
theorem DenL.length {h:Heap} {X:Addr→Prop}:∀ {ds:List D} {vs:List Value},DenL h X ds vs→vs.length=ds.length
 | [],vs,e=>by rw [show vs=[] from e];rfl
 |d :: ds,vs,⟨v,r,e,_,b⟩=>by rw [e,List.length_cons,List.length_cons,b.length]
theorem DenL.get {h:Heap} {X:Addr→Prop}:∀ {ds:List D} {vs:List Value} {i:Nat} {d:D},DenL h X ds vs→ds[i]? = some d→∃ v,vs[i]? = some v∧Den h X d v
 |d :: ds,vs,0,_,⟨v,r,e,a,_⟩,hi=>by
  cases hi;exact ⟨v,by rw [e];rfl,a⟩
 |d :: ds,vs,i+1,_,⟨v,r,e,_,b⟩,hi=>by
  obtain ⟨v',h1,h2⟩:=b.get (i:=i) (by simpa using hi)
  exact ⟨v',by rw [e];simpa using h1,h2⟩
theorem DenL.get' {h:Heap} {X:Addr→Prop} {ds:List D} {vs:List Value} {i:Nat} {v:Value} (x:DenL h X ds vs) (hv:vs[i]? = some v):∃ d,ds[i]? = some d∧Den h X d v:=by
 have hi:i<vs.length:=(List.getElem?_eq_some_iff.mp hv).1
 rw [x.length] at hi
 obtain ⟨v',h1,h2⟩:=x.get (List.getElem?_eq_getElem hi)
 rw [hv] at h1;cases h1
 exact ⟨_,List.getElem?_eq_getElem hi,h2⟩
theorem DenL.append {h:Heap} {X:Addr→Prop}:∀ {ds es:List D} {vs ws:List Value},DenL h X ds vs→DenL h X es ws→DenL h X (ds++es) (vs++ws)
 | [],es,vs,ws,e,f=>by rw [show vs=[] from e];exact f
 |d :: ds,es,vs,ws,⟨v,r,e,a,b⟩,f=>⟨v,r++ws,by rw [e];rfl,a,b.append f⟩
theorem DenL.single {h:Heap} {X:Addr→Prop} {d:D} {v:Value} (e:Den h X d v):DenL h X [d] [v]:=⟨v,[],rfl,e,rfl⟩
theorem DenL.of_get {h:Heap} {X:Addr→Prop}:∀ {ds:List D} {vs:List Value},vs.length=ds.length→(∀ (i:Nat) d,ds[i]? = some d→∃ v,vs[i]? = some v∧Den h X d v)→DenL h X ds vs
 | [],vs,hl,_=>List.eq_nil_of_length_eq_zero hl
 |d :: ds,[],hl,_=>by cases hl
 |d :: ds,v :: r,hl,hg=>by
  obtain ⟨v',h1,h2⟩:=hg 0 d rfl
  cases h1
  exact ⟨v,r,rfl,h2,DenL.of_get (by simpa using hl) fun i d hd=>by
   obtain ⟨v',h1,h2⟩:=hg (i+1) d (by simpa using hd)
   exact ⟨v',by simpa using h1,h2⟩⟩
theorem DenL.reverse {h:Heap} {X:Addr→Prop}:∀ {ds:List D} {vs:List Value},DenL h X ds vs→DenL h X ds.reverse vs.reverse
 | [],vs,e=>by rw [show vs=[] from e];exact rfl
 |d :: ds,vs,⟨v,r,e,a,b⟩=>by
  rw [e,List.reverse_cons,List.reverse_cons]
  exact b.reverse.append (.single a)
theorem DenL.set {h:Heap} {X:Addr→Prop} {d:D} {v:Value} (hd:Den h X d v):∀ {ds:List D} {vs:List Value} {i:Nat},DenL h X ds vs→DenL h X (ds.set i d) (vs.set i v)
 | [],vs,i,e=>by rw [show vs=[] from e];exact rfl
 |e :: ds,vs,0,⟨v',r,e',a,b⟩=>⟨v,r,by rw [e'];rfl,hd,b⟩
 |e :: ds,vs,i+1,⟨v',r,e',a,b⟩=>⟨v',r.set i v,by rw [e'];rfl,a,b.set hd⟩
theorem DenL.erase {h:Heap} {X:Addr→Prop}:∀ {ds:List D} {vs:List Value} {i:Nat},DenL h X ds vs→DenL h X (ds.eraseIdx i) (vs.eraseIdx i)
 | [],vs,i,e=>by rw [show vs=[] from e];exact rfl
 |e :: ds,vs,0,⟨v',r,e',a,b⟩=>by rw [e'];exact b
 |e :: ds,vs,i+1,⟨v',r,e',a,b⟩=>⟨v',r.eraseIdx i,by rw [e'];rfl,a,b.erase⟩
theorem DenL.pick {h:Heap} {X:Addr→Prop} {ds:List D} {vs:List Value} (x:DenL h X ds vs):∀ (is:List Nat),DenL h X (is.filterMap (ds[·]?)) (is.filterMap (vs[·]?))
 | []=>rfl
 |i :: is=>by
  have ih:=x.pick is
  simp only [List.filterMap_cons]
  cases hd:ds[i]? with
  |none =>
   have:vs[i]? = none:=by
    rw [List.getElem?_eq_none_iff] at hd ⊢;rw [x.length];exact hd
   rw [this];exact ih
  |some d =>
   obtain ⟨v,h1,h2⟩:=x.get hd
   rw [h1];exact ⟨v,_,rfl,h2,ih⟩
theorem DenL.tail_mem {h:Heap} {X:Addr→Prop} {ds:List D} {vs:List Value} (x:DenL h X ds vs):∀ d∈ds,∃ v,v∈vs∧Den h X d v:=fun d hd=>by
 obtain ⟨i,hi⟩:=List.getElem?_of_mem hd
 obtain ⟨v,h1,h2⟩:=x.get hi
 exact ⟨v,List.mem_of_getElem? h1,h2⟩
theorem gI {h:Heap} {X:Addr→Prop}:∀ {ds:List D} {ns:List Int} {vs:List Value},ints? ds=some ns→DenL h X ds vs→IntsAre vs ns∧ns.length=ds.length
 | [],ns,vs,e,x=>by rw [← sm e,show vs=[] from x];exact ⟨.nil,rfl⟩
 |d :: ds,ns,vs,e,⟨v,r,e',a,b⟩=>ae e fun i hi e=>aE e fun ns' e1 e2=>aV (P:=fun d=>Den h X d v→_) hi (fun ⟨t,ht⟩=>by
  have ⟨h1,h2⟩:=gI e1 b
  rw [e',ht,← e2]
  exact ⟨by constructor;exact h1,congrArg (· + 1) h2⟩) a
theorem j0 {h:Heap} {X:Addr→Prop}:∀ {ds:List D} {ts:List Str} {vs:List Value},strs? ds=some ts→DenL h X ds vs→∃ l:List (Str×Tok),vs=strValues l∧l.map (·.1)=ts
 | [],ts,vs,e,x=>⟨[],x,sm e⟩
 |d :: ds,ts,vs,e,⟨v,r,e',a,b⟩=>ae e fun y hi e=>aE e fun ts' e1 e2=>d8 (P:=fun d=>Den h X d v→_) hi (fun ⟨t,ht⟩=>by
  have ⟨l,h1,h2⟩:=j0 e1 b
  exact ⟨(y,t) :: l,by rw [e',ht,h1];rfl,by rw [← e2,← h2];rfl⟩) a
structure FrM (env:Env) (h:Heap) (m cm:Str→Option Value):Prop where
 ns:h.Ns env.locals m
 cell:∀ n c,env.cells.lookup n=some c→h.IsCell c (cm n)
 offL:∀ n c,env.cells.lookup n=some c→c≠env.locals
 inj:∀ n n' c,env.cells.lookup n=some c→env.cells.lookup n'=some c→n=n'
 has:∀ x,env.kindOf x=some .cell∨env.kindOf x=some .free→∃ c,env.cells.lookup x=some c
noncomputable def valK (l c:Option Value):Option NameKind→Option Value
 |some .local=>l
 |some .cell=>c
 |some .free=>c
 |_=>none
noncomputable def valOf (env:Env) (m cm:Str→Option Value) (x:Str):Option Value:=valK (m x) (cm x) (env.kindOf x)
theorem FrM.keep {env:Env} {h h':Heap} {m cm:Str→Option Value} (F:FrM env h m cm) (k:Kp h h'):FrM env h' m cm :=
 ⟨k.ns F.ns,fun n c e=>k.cell (F.cell n c e),F.offL,F.inj,F.has⟩
noncomputable def DenV (h:Heap) (X:Addr→Prop) (x:Bool) (d:D) (v:Value):Prop :=
 if x then ∃ a items ds,v = .ref a∧d = .list ds∧h.PlainList a items∧DenL h X ds items.toList else Den h X d v
theorem DenV.keep {h h':Heap} {X:Addr→Prop} {x:Bool} {d:D} {v:Value} (k:Kp h h') (e:DenV h X x d v):DenV h' X x d v:=by
 cases x
 ·exact Den.keep k e
 ·obtain ⟨a,items,ds,e1,e2,l,r⟩:=e
  exact ⟨a,items,ds,e1,e2,PL.at' l (k.at a),r.keep k⟩
theorem DenV.top {h:Heap} {X:Addr→Prop} {x:Bool} {d:D} {v:Value} (e:DenV h X x d v):DenT h X d v:=by
 cases x
 ·exact Den.top e
 ·obtain ⟨a,items,ds,e1,e2,l,r⟩:=e
  subst e2;exact ⟨a,items,e1,l,r⟩
structure jI (env:Env):Prop where
 kind:env.scope.kind = .function
 glob:env.globals=mainGlobals
 blt:env.builtins=builtinsNs
structure RR (env:Env) (tbl:List Str) (Ex:Addr→Prop) (ow:Nat→Addr) (σ:MEnv) (h:Heap):Prop where
 ok:jI env
 nd:tbl.Nodup
 lt:∀ b,Ex b→Al h b
 own:Ex env.locals∧∀ n c,env.cells.lookup n=some c→Ex c
 fr:∃ m cm,FrM env h m cm∧∀ i x d b,tbl[i]? = some x→getE σ i=some (d,b)→seen env.scope x=true→∃ v,valOf env m cm x=some v∧DenV h Ex b d v∧(b=true→v = .ref (ow i))
theorem RR.keep {env:Env} {tbl:List Str} {Ex:Addr→Prop} {ow:Nat→Addr} {σ:MEnv} {h h':Heap} (R:RR env tbl Ex ow σ h) (k:Kp h h'):RR env tbl Ex ow σ h':=by
 obtain ⟨ok,nd,lt,own,m,cm,F,hv⟩:=R
 refine ⟨ok,nd,fun b hb=>(lt b hb).keep k,own,m,cm,F.keep k,fun i x d b h1 h2 h3=> ?_⟩
 obtain ⟨v,e,dv,hw⟩:=hv i x d b h1 h2 h3
 exact ⟨v,e,dv.keep k,hw⟩
theorem fw {sc:Scope} {x:Str} (h:seen sc x=true):sc.names.lookup x=some .local∨sc.names.lookup x=some .cell∨sc.names.lookup x=some .free:=by
 unfold seen at h
 cases hk:sc.names.lookup x with
 |none=>rw [hk] at h;cases h
 |some k=>cases k<;>first |exact .inl rfl |exact .inr (.inl rfl) |exact .inr (.inr rfl) |(rw [hk] at h;cases h)
theorem idOf_get {l:List Str} {x:Str} {i:Nat} (h:idOf l x=some i):l[i]? = some x:=by
 unfold idOf at h
 obtain ⟨hi,hp,_⟩:=List.findIdx?_eq_some_iff_getElem.mp h
 rw [List.getElem?_eq_getElem hi]
 simpa using hp
section
variable {M:Model} {A:Around} {E:Value→Shared→Prop} {s:Shared} {env:Env} {tbl:List Str} {Ex:Addr→Prop} {ow:Nat→Addr} {σ:MEnv}
theorem dC {x:Str} {i:Nat} {d:D} {b:Bool} {Q:Value→Shared→Prop} (R:RR env tbl Ex ow σ s.heap) (hs:seen env.scope x=true) (hi:tbl[i]? = some x)
  (hg:getE σ i=some (d,b)) (hcd:(x==("__classdict__":Str))=false) (h:∀ v,DenV s.heap Ex b d v→(b=true→v = .ref (ow i))→Q v s):wpAny M A (loadName env x) Q E s:=by
 obtain ⟨ok,nd,lt,own,m,cm,F,hv⟩:=R
 obtain ⟨v,e,dv,hw⟩:=hv i x d b hi hg hs
 have hk:=fw hs
 unfold valOf Env.kindOf at e
 rcases hk with hk |hk |hk
 ·rw [hk] at e
  exact wpAny_loadName_local ok.kind hk F.ns e (h v dv hw)
 ·rw [hk] at e
  obtain ⟨c,hc⟩:=F.has x (.inl hk)
  exact wpAny_loadName_cell ok.kind hk hc (e▸F.cell x c hc) (h v dv hw)
 ·rw [hk] at e
  obtain ⟨c,hc⟩:=F.has x (.inr hk)
  exact wpAny_loadName_free ok.kind hk hc (e▸F.cell x c hc) (h v dv hw) hcd
theorem tI {x:Str} {i:Nat} {pos:Pos} {d:D} {b:Bool} {Q:Value→Shared→Prop} (R:RR env tbl Ex ow σ s.heap) (hs:seen env.scope x=true) (hi:tbl[i]? = some x)
  (hg:getE σ i=some (d,b)) (hd:(x==("__debug__":Str))=false) (hcd:(x==("__classdict__":Str))=false) (h:∀ v,DenV s.heap Ex b d v→Q v s):wpAny M A (eval (.Name x pos) env) Q E s :=
 wpAny_Name (dC R hs hi hg hcd fun v dv _=>h v dv) hd
end
end Mine
set_option genSizeOf false
set_option genInjectivity false
namespace Mine
variable [Tabs] [Frk]
theorem cO {a:Int} (h:small a=true):Builtin.Int.intBits a≤4000:=PySem.intBits_le_iff.mpr (by unfold small BIG at h;simpa using h)
theorem dq {x y:Int} (h:small y=true):Builtin.divisionGoesByPylong x y=false:=by
 refine PyProof.noPylong_of_log2 ?_
 have h2:y.natAbs<2 ^ 4000:=by unfold small BIG at h;simpa using h
 by_cases h0:y.natAbs=0
 ·rw [h0];decide
 ·exact Nat.lt_trans ((Nat.log2_lt h0).mpr h2) (by decide)
noncomputable def FrV (h h':Heap) (Ex:Addr→Prop) (d:D) (v:Value):Prop :=
 ∃ a items ds,v = .ref a∧h.get? a=none∧d = .list ds∧h'.PlainList a items∧DenL h' (fun b=>Ex b∨b=a) ds items.toList
noncomputable def Ps (s:Shared) (Ex:Addr→Prop) (d:D) (fr:Bool) (Q:Value→Shared→Prop):Prop :=
 ∀ v h' tk,Kp s.heap h'→Den h' Ex d v→(fr=true→FrV s.heap h' Ex d v)→Q v {s with heap:=h',toks:=tk}
theorem Ps.now {s:Shared} {Ex:Addr→Prop} {d:D} {Q:Value→Shared→Prop} {v:Value} (P:Ps s Ex d false Q) (tk:Nat) (hd:Den s.heap Ex d v):Q v {s with toks:=tk} :=
 P v s.heap tk (Kp.refl _) hd (fun h=>by cases h)
theorem Ps.here {s:Shared} {Ex:Addr→Prop} {d:D} {Q:Value→Shared→Prop} {v:Value} (P:Ps s Ex d false Q) (hd:Den s.heap Ex d v):Q v s:=P.now s.toks hd
structure Ar (n:Nat) (A:Around):Prop where
 hd:A.handled=none
 depth:A.depth+n≤900
 units:A.units+4 * n≤9000
 fr:∀ l,Frk.fs=some l→A.frames=some l
theorem Ar.mono {n m:Nat} {A:Around} (h:Ar n A) (l:m≤n):Ar m A:=⟨h.hd,Nat.le_trans (Nat.add_le_add_left l _) h.depth,Nat.le_trans (Nat.add_le_add_left (Nat.mul_le_mul_left 4 l) _) h.units,h.fr⟩
theorem Ar.deep (off:Frk.fs=none) {n:Nat} {A:Around} (h:Ar (n+1) A) (env:Env):Ar n (A.deeper env) :=
 ⟨h.hd,Nat.le_trans (Nat.le_of_eq ((Nat.add_assoc _ _ _).trans (congrArg _ (Nat.add_comm 1 n)))) h.depth,Nat.le_trans (show A.units+3+4 * n≤A.units+(4 * n+4) from Nat.le_trans (Nat.le_of_eq ((Nat.add_assoc _ _ _).trans (congrArg _ (Nat.add_comm 3 _)))) (Nat.add_le_add_left (Nat.add_le_add_left (by decide) _) _)) h.units,fun l hl=>ah (off.symm.trans hl)⟩
section
variable {prog:Program} {w:World} {A:Around} {E:Value→Shared→Prop} {s:Shared} {Ex:Addr→Prop}
theorem Ps.newList {ds:List D} {items:List Value} {fr:Bool} {Q:Value→Shared→Prop} (P:Ps s Ex (.list ds) fr Q) (lt:∀ b,Ex b→Al s.heap b) (hd:DenL s.heap Ex ds items) (tk:Nat) :
  Q (.ref s.heap.objs.size) {s with heap:=s.heap.push {cls:= .type "list",data:= .seq items.toArray},toks:=tk}:=by
 have k:=Kp.push s.heap {cls:= .type "list",data:= .seq items.toArray}
 have pl:(s.heap.push {cls:= .type "list",data:= .seq items.toArray}).PlainList s.heap.objs.size items.toArray:=⟨0,Heap.get?_push_size _ rfl⟩
 refine P _ _ tk k ⟨_,_,rfl,fun e=>(lt _ e).ne (aJ _) rfl,pl,hd.keep k⟩ fun _=>⟨_,_,ds,rfl,aJ _,rfl,pl,?_⟩
 exact DenL.mono (fun b o _ t e=>k.ob e t) (fun b hb n e=>e.elim n fun e=>hb.ne (aJ _) e) _ _ hd
theorem Ps.int {i:Int} {d:D} {Q:Value→Shared→Prop} (P:Ps s Ex d false Q) (h:some (D.int i)=some d) (t:Tok) (tk:Nat):Q (.int i t) {s with toks:=tk}:=P.now tk (sm h▸⟨t,rfl⟩)
theorem Ps.str {i:Str} {d:D} {Q:Value→Shared→Prop} (P:Ps s Ex d false Q) (h:some (D.str i)=some d) (t:Tok) (tk:Nat):Q (.str i t) {s with toks:=tk}:=P.now tk (sm h▸⟨t,rfl⟩)
theorem aY {op:Operator} {a b d:D} {va vb:Value} {Q:Value→Shared→Prop} {f:Int→Int→Option D} (ha:DenT s.heap Ex a va) (hb:DenT s.heap Ex b vb) (hd:ii f a b=some d)
  (h:∀ i j t u,f i j=some d→wpAny (model prog w) A (binaryOp op (.int i t) (.int j u)) Q E s):wpAny (model prog w) A (binaryOp op va vb) Q E s :=
 oB (P:=fun a b=>DenT s.heap Ex a va→DenT s.heap Ex b vb→_) hd (fun i j hf ⟨t,ha⟩ ⟨u,hb⟩=>by rw [ha,hb];exact h i j t u hf) ha hb
end
end Mine
set_option genSizeOf false
set_option genInjectivity false
namespace Mine
variable [Tabs] [Frk]
noncomputable def vkd:Value→Nat
 | .none=>0
 | .bool _=>1
 | .int _ _=>2
 | .str _ _=>3
 |_=>4
noncomputable def dkd:D→Nat
 | .none=>0
 | .bool _=>1
 | .int _=>2
 | .str _=>3
 | .list _=>4
 | .tup _=>4
theorem pX {h:Heap} {X:Addr→Prop} {d:D} {v:Value} (e:DenT h X d v):vkd v=dkd d:=by
 cases d with
 |none=>rw [show v=_ from e];rfl
 |bool b=>rw [show v=_ from e];rfl
 |int i=>obtain ⟨t,e⟩:=e;rw [e];rfl
 |str i=>obtain ⟨t,e⟩:=e;rw [e];rfl
 |list ds=>obtain ⟨a,_,e,_⟩:=e;rw [e];rfl
 |tup ds=>obtain ⟨a,_,e,_⟩:=e;rw [e];rfl
theorem fK {h:Heap} {X X':Addr→Prop} {d d':D} {v:Value} {P:Prop} (e:DenT h X d v) (f:DenT h X' d' v) (n:Nat.beq (dkd d) (dkd d')=false):P :=
 absurd ((pX e).symm.trans (pX f)) (Nat.ne_of_beq_eq_false n)
theorem qo {h:Heap} {a:Addr} {i j:Array Value} {P:Prop} (l:h.PlainList a i) (t:TupAt h a j):P:=by
 obtain ⟨n,l⟩:=l
 obtain ⟨m,t⟩:=t
 rw [l] at t
 exact absurd (Value.type.inj (congrArg Obj.cls (sm t))) (by decide)
theorem zy {h:Heap} {a:Addr} {i j:Array Value} (l:h.PlainList a i) (t:h.PlainList a j):i=j:=by
 obtain ⟨n,l⟩:=l
 obtain ⟨m,t⟩:=t
 rw [l] at t
 exact (Data.seq.inj (congrArg Obj.data (sm t))).1
theorem yu {h:Heap} {a:Addr} {i j:Array Value} (l:TupAt h a i) (t:TupAt h a j):i=j:=by
 obtain ⟨n,l⟩:=l
 obtain ⟨m,t⟩:=t
 rw [l] at t
 exact (Data.seq.inj (congrArg Obj.data (sm t))).1
mutual
theorem Den.fn {h:Heap} {X X':Addr→Prop}:∀ (d d':D) (v:Value),DenT h X d v→DenT h X' d' v→d=d'
 | .none,d',v,e,f=>by
  cases d' with
  |none=>rfl
  |_=>exact fK e f rfl
 | .bool b,d',v,e,f=>by
  cases d' with
  |bool b'=>exact congrArg D.bool (Value.bool.inj ((show v=_ from e).symm.trans f))
  |_=>exact fK e f rfl
 | .int b,d',v,e,f=>by
  cases d' with
  |int b' =>
   obtain ⟨t,e⟩:=e
   obtain ⟨u,f⟩:=f
   exact congrArg D.int (Value.int.inj (e.symm.trans f)).1
  |_=>exact fK e f rfl
 | .str b,d',v,e,f=>by
  cases d' with
  |str b' =>
   obtain ⟨t,e⟩:=e
   obtain ⟨u,f⟩:=f
   exact congrArg D.str (Value.str.inj (e.symm.trans f)).1
  |_=>exact fK e f rfl
 | .list ds,d',v,e,f=>by
  cases d' with
  |list ds' =>
   obtain ⟨a,items,e,l,r⟩:=e
   obtain ⟨a',items',e',l',r'⟩:=f
   obtain rfl:=Value.ref.inj (e.symm.trans e')
   obtain rfl:=zy l l'
   rw [DenL.fn ds ds' _ r r']
  |tup ds' =>
   obtain ⟨a,items,e,l,r⟩:=e
   obtain ⟨a',items',e',_,l',_⟩:=f
   obtain rfl:=Value.ref.inj (e.symm.trans e')
   exact qo l l'
  |_=>exact fK (d:= .list ds) e f rfl
 | .tup ds,d',v,e,f=>by
  cases d' with
  |tup ds' =>
   obtain ⟨a,items,e,_,l,r⟩:=e
   obtain ⟨a',items',e',_,l',r'⟩:=f
   obtain rfl:=Value.ref.inj (e.symm.trans e')
   obtain rfl:=yu l l'
   rw [DenL.fn ds ds' _ r r']
  |list ds' =>
   obtain ⟨a,items,e,_,l,_⟩:=e
   obtain ⟨a',items',e',l',r'⟩:=f
   obtain rfl:=Value.ref.inj (e.symm.trans e')
   exact qo l' l
  |_=>exact fK (d:= .tup ds) e f rfl
theorem DenL.fn {h:Heap} {X X':Addr→Prop}:∀ (ds ds':List D) (vs:List Value),DenL h X ds vs→DenL h X' ds' vs→ds=ds'
 | [],ds',vs,e,f=>by
  cases ds' with
  |nil=>rfl
  |cons d' ds' =>
   obtain ⟨v',r',e',_⟩:=f
   exact nomatch (show vs=[] from e).symm.trans e'
 |d :: ds,ds',vs,e,f=>by
  obtain ⟨v,r,e,a,b⟩:=e
  cases ds' with
  |nil=>exact nomatch (show vs=[] from f).symm.trans e
  |cons d' ds' =>
   obtain ⟨v',r',e',a',b'⟩:=f
   obtain ⟨rfl,rfl⟩:=List.cons.inj (e.symm.trans e')
   rw [Den.fn d d' v a.top a'.top,DenL.fn ds ds' r b b']
end
theorem qu {f:D→D→Option Bool}:∀ {xs ys:List D} {b:Bool},allEq f xs ys=some b→xs.length=ys.length∧∃ e:Nat→Bool,(∀ i x y,xs[i]? = some x→ys[i]? = some y→f x y=some (e i))∧(List.range xs.length).all e=b:=by
 intro xs
 induction xs with
 |nil =>
  intro ys b h
  cases ys with
  |nil=>exact ⟨rfl,fun _=>true,fun i x y h=>(nomatch (List.getElem?_nil (i:=i)).symm.trans h),sm h⟩
  |cons _ _=>exact ah h
 |cons x xs ih =>
  intro ys b h
  cases ys with
  |nil=>exact ah h
  |cons y ys =>
   refine ae h fun a h1 h=>aE h fun c h2 h3=> ?_
   obtain ⟨hl,e,he,ha⟩:=ih h2
   refine ⟨congrArg (· + 1) hl,fun i=>Nat.casesOn i a e,fun i x' y' hx hy=> ?_,?_⟩
   ·cases i with
    |zero=>rw [← sm hx,← sm hy];exact h1
    |succ i=>exact he i x' y' hx hy
   ·rw [List.length_cons,List.range_succ_eq_map,List.all_cons,List.all_map,← h3,← ha];rfl
theorem gv {r:List D→List D→Option Bool} (hr:∀ ds b,r ds ds=some b→b=true) (d:D) (b:Bool) (h:eqS r d d=some b):b=true:=by
 cases d with
 |none=>exact (sm h).symm
 |bool c=>exact bq (a:=c) h
 |int c=>exact bq (a:=c) h
 |str c=>exact bq (a:=c) h
 |list ds=>exact hr ds b ((if_pos rfl).symm.trans h)
 |tup ds=>exact hr ds b ((if_pos rfl).symm.trans h)
theorem eE {f:D→D→Option Bool} (hf:∀ d b,f d d=some b→b=true):∀ (ds:List D) (b:Bool),allEq f ds ds=some b→b=true
 | [],b,h=>(sm h).symm
 |d :: ds,b,h=>ae h fun a h1 h=>aE h fun c h2 h3=>by rw [← h3,hf d a h1,eE hf ds c h2];rfl
theorem j9:∀ (n:Nat) (d:D) (b:Bool),eqN n d d=some b→b=true
 |0=>gv fun _ _ h=>ah h
 |n+1=>gv (eE (j9 n))
open PySem.SeqAt
noncomputable def ItemsEq (s:Shared) (A:Around) (r:List D→List D→Option Bool):Prop:=∀ X Y (xs ys:List D) (its its2:Array Value) (b:Bool),DenL s.heap X xs its.toList→DenL s.heap Y ys its2.toList→r xs ys=some b →
 xs.length=ys.length∧∃ e:Nat→Bool,(∀ j (h1:j<its.size) (h2:j<its2.size),EqAt A.in1 s its[j] its2[j] (e j))∧(List.range xs.length).all e=b
theorem ak {h:Heap} {X:Addr→Prop} {xs:List D} {its:Array Value} (r:DenL h X xs its.toList):its.size=xs.length:=Array.length_toList.symm.trans r.length
theorem l8 {X Y:Addr→Prop} {s:Shared} {a b:D} {va vb:Value} {r:Bool} {A:Around} {f:List D→List D→Option Bool} (hu:A.units<cLine) (F:ItemsEq s A f) (ha:DenT s.heap X a va) (hb:DenT s.heap Y b vb) (h:eqS f a b=some r):RcAt A s va vb r∧RcNeAt A s va vb (!r):=by
 revert hb
 cases a with
 |none=>exact gd h fun hb e=>oS (P:=fun b=>DenT s.heap Y b vb→_) hb fun hb=>by rw [show va=_ from ha,show vb=_ from hb,← sm e];exact ⟨RcAt.none_none,RcNeAt.none_none⟩
 |bool x=>exact aE h fun y hb e=>nq (P:=fun b=>DenT s.heap Y b vb→_) hb fun hb=>by rw [show va=_ from ha,show vb=_ from hb,← e];exact ⟨RcAt.bool_bool _ _,RcNeAt.bool_bool _ _⟩
 |int x=>exact aE h fun y hb e=>aV (P:=fun b=>DenT s.heap Y b vb→_) hb fun ⟨u,hb⟩=>by obtain ⟨t,ha⟩:=ha;rw [ha,hb,← e];exact ⟨RcAt.int_int _ _ _ _,RcNeAt.int_int _ _ _ _⟩
 |str x=>exact aE h fun y hb e=>d8 (P:=fun b=>DenT s.heap Y b vb→_) hb fun ⟨u,hb⟩=>by obtain ⟨t,ha⟩:=ha;rw [ha,hb,← e];exact ⟨RcAt.str_str _ _ _ _,RcNeAt.str_str _ _ _ _⟩
 |list xs =>
  refine ae h fun ys hb h=>bL (P:=fun b=>DenT s.heap Y b vb→_) hb fun hb=> ?_
  obtain ⟨p,its,e1,l1,r1⟩:=ha
  obtain ⟨q,its2,e2,l2,r2⟩:=hb
  have z1:=ak r1
  have z2:=ak r2
  rw [e1,e2]
  by_cases hl:xs.length=ys.length
  ·rw [if_pos hl] at h
   obtain ⟨_,e,he,hall⟩:=F X Y xs ys its its2 r r1 r2 h
   rw [← hall,← z1]
   have z:=z1.trans (hl.trans z2.symm)
   exact ⟨RcAt.lists (PL.isList l1) (PL.isList l2) z hu he,RcNeAt.lists (PL.isList l1) (PL.isList l2) z hu he⟩
  ·rw [if_neg hl] at h
   rw [← sm h]
   have z:(its.size != its2.size)=true:=by rw [z1,z2];exact bne_iff_ne.mpr hl
   exact ⟨RcAt.lists_lengths (PL.isList l1) (PL.isList l2) z hu,RcNeAt.lists_lengths (PL.isList l1) (PL.isList l2) z hu⟩
 |tup xs =>
  refine ae h fun ys hb h=>fq (P:=fun b=>DenT s.heap Y b vb→_) hb fun hb=>gd h fun hl h=> ?_
  obtain ⟨p,its,e1,_,l1,r1⟩:=ha
  obtain ⟨q,its2,e2,_,l2,r2⟩:=hb
  have z1:=ak r1
  have z2:=ak r2
  rw [e1,e2]
  obtain ⟨_,e,he,hall⟩:=F X Y xs ys its its2 r r1 r2 h
  have z:=z1.trans (hl.trans z2.symm)
  have k1:=RcAt.tuples (A:=A) (e:=e) (TupAt.isTup l1) (TupAt.isTup l2) hu he
  have k2:=RcNeAt.tuples (A:=A) (e:=e) (TupAt.isTup l1) (TupAt.isTup l2) hu he
  have q1:min its.size its2.size=xs.length:=by rw [← z,Nat.min_self,z1]
  rw [q1,z,beq_self_eq_true,Bool.and_true,hall] at k1 k2
  exact ⟨k1,k2⟩
theorem mY {X Y:Addr→Prop} {s:Shared} {a b:D} {va vb:Value} {r:Bool} {A:Around} {f:List D→List D→Option Bool} (hu:A.units<cLine) (F:ItemsEq s A f) (hr:∀ ds b,f ds ds=some b→b=true) (ha:DenT s.heap X a va) (hb:DenT s.heap Y b vb) (h:eqS f a b=some r):EqAt A s va vb r:=by
 have refs:∀ p q,va = .ref p→vb = .ref q→EqAt A s va vb r:=fun p q e1 e2=>by
  subst e1 e2
  by_cases hpq:p=q
  ·subst hpq
   obtain rfl:=Den.fn _ _ _ ha hb
   rw [gv hr _ r h]
   exact EqAt.same _
  ·exact EqAt.of_refs hpq (l8 hu F ha hb h).1
 revert hb refs
 cases a with
 |none=>exact gd h fun hb e=>oS (P:=fun b=>DenT s.heap Y b vb→_) hb fun hb _=>by rw [show va=_ from ha,show vb=_ from hb,← sm e];exact EqAt.same _
 |bool x=>exact aE h fun y hb e=>nq (P:=fun b=>DenT s.heap Y b vb→_) hb fun hb _=>by rw [show va=_ from ha,show vb=_ from hb,← e];exact EqAt.bool_bool _ _
 |int x=>exact aE h fun y hb e=>aV (P:=fun b=>DenT s.heap Y b vb→_) hb fun ⟨u,hb⟩ _=>by obtain ⟨t,ha⟩:=ha;rw [ha,hb,← e];exact EqAt.int_int _ _ _ _
 |str x=>exact aE h fun y hb e=>d8 (P:=fun b=>DenT s.heap Y b vb→_) hb fun ⟨u,hb⟩ _=>by obtain ⟨t,ha⟩:=ha;rw [ha,hb,← e];exact EqAt.str_str _ _ _ _
 |list xs =>
  refine ae h fun ys hb h=>bL (P:=fun b=>DenT s.heap Y b vb→_) hb fun hb refs=> ?_
  obtain ⟨p,_,e1,_⟩:=ha
  obtain ⟨q,_,e2,_⟩:=hb
  exact refs p q e1 e2
 |tup xs =>
  refine ae h fun ys hb h=>fq (P:=fun b=>DenT s.heap Y b vb→_) hb fun hb refs=> ?_
  obtain ⟨p,_,e1,_⟩:=ha
  obtain ⟨q,_,e2,_⟩:=hb
  exact refs p q e1 e2
theorem jW {s:Shared} {A:Around} {f:D→D→Option Bool} (hf:∀ X Y a b va vb r,DenT s.heap X a va→DenT s.heap Y b vb→f a b=some r→EqAt A.in1 s va vb r):ItemsEq s A (allEq f):=fun X Y xs ys its its2 b r1 r2 h=>by
 obtain ⟨hl,e,he,hall⟩:=qu h
 refine ⟨hl,e,fun j h1 h2=> ?_,hall⟩
 have hx:=List.getElem?_eq_getElem (l:=xs) (i:=j) (ak r1▸h1)
 have hy:=List.getElem?_eq_getElem (l:=ys) (i:=j) (ak r2▸h2)
 obtain ⟨v1,g1,d1⟩:=r1.get hx
 obtain ⟨v2,g2,d2⟩:=r2.get hy
 rw [nu g1 h1,nu g2 h2]
 exact hf X Y _ _ _ _ _ d1.top d2.top (he j _ _ hx hy)
theorem ee {s:Shared}:∀ (n:Nat) (A:Around),A.units+n<cLine→∀ (X Y:Addr→Prop) (a b:D) (va vb:Value) (r:Bool),DenT s.heap X a va→DenT s.heap Y b vb→eqN n a b=some r→EqAt A s va vb r
 |0,A,hu,X,Y,a,b,va,vb,r,ha,hb,h=>mY hu (fun _ _ _ _ _ _ _ _ _ h=>ah h) (fun _ _ h=>ah h) ha hb h
 |n+1,A,hu,X,Y,a,b,va,vb,r,ha,hb,h =>
  mY (Nat.lt_of_le_of_lt (Nat.le_add_right _ _) hu) (jW (ee n A.in1 (Nat.lt_of_le_of_lt (Nat.le_of_eq (Nat.succ_add_eq_add_succ _ _)) hu))) (eE (j9 n)) ha hb h
theorem qb {X Y:Addr→Prop} {s:Shared} {a b:D} {va vb:Value} {r:Bool} {A:Around} (hu:A.units+5<cLine) (ha:DenT s.heap X a va) (hb:DenT s.heap Y b vb) (h:eqD a b=some r):RcAt A s va vb r∧RcNeAt A s va vb (!r) :=
 l8 (Nat.lt_of_le_of_lt (Nat.le_add_right _ _) hu) (jW (ee 3 A.in1 (Nat.lt_of_le_of_lt (Nat.le_of_eq (Nat.add_assoc A.units 1 3)) (Nat.lt_of_succ_lt hu)))) ha hb h
end Mine
set_option genSizeOf false
set_option genInjectivity false
namespace Mine
variable [Tabs] [Frk]
open PySem.SeqAt
noncomputable def hitV (h:Heap) (X:Addr→Prop) (d:D) (xs:List D) (y:Value):Bool :=
 @decide (∃ x∈xs,Den h X x y∧eqD x d=some true) (Classical.propDecidable _)
theorem jP {h:Heap} {X:Addr→Prop} {d x:D} {xs:List D} {y:Value} {b:Bool} (hm:x∈xs) (hx:Den h X x y) (hb:eqD x d=some b):hitV h X d xs y=b:=by
 unfold hitV
 cases b with
 |true=>exact @decide_eq_true _ (Classical.propDecidable _) ⟨x,hm,hx,hb⟩
 |false =>
  refine @decide_eq_false _ (Classical.propDecidable _) fun ⟨x',_,hx',he⟩=> ?_
  rw [Den.fn _ _ _ hx.top hx'.top,he] at hb
  exact nomatch sm hb
theorem kB {d:D}:∀ {xs:List D} {r:Bool},memD d xs=some r→(∀ x∈xs,∃ b,eqD x d=some b)∧(r=true↔∃ x∈xs,eqD x d=some true)
 | [],r,h=>by rw [← sm h];exact ⟨fun _ hx=>(nomatch hx),⟨fun q=>(nomatch q),fun ⟨_,hx,_⟩=>(nomatch hx)⟩⟩
 |x :: xs,r,h=>ae h fun a h1 h=>aE h fun b h2 h3=>by
  obtain ⟨i1,i2⟩:=kB h2
  refine ⟨fun y hy=> ?_,?_⟩
  ·rcases List.mem_cons.mp hy with rfl |hy
   ·exact ⟨a,h1⟩
   ·exact i1 y hy
  ·rw [← h3]
   simp only [Bool.or_eq_true,List.mem_cons,exists_eq_or_imp,h1,i2,Option.some.injEq]
theorem yr {X Y:Addr→Prop} {s:Shared} {A:Around} {d:D} {v:Value} {xs:List D} {its:List Value} {r:Bool} (hu:A.units+4<cLine) (hv:DenT s.heap Y d v) (hx:DenL s.heap X xs its) (h:memD d xs=some r) :
  (∀ y,y∈its→EqAt A s y v (hitV s.heap X d xs y))∧its.any (hitV s.heap X d xs)=r:=by
 obtain ⟨h1,h2⟩:=kB h
 constructor
 ·intro y hy
  obtain ⟨i,hi⟩:=List.getElem?_of_mem hy
  obtain ⟨x,hx1,hx2⟩:=hx.get' hi
  obtain ⟨b,hb⟩:=h1 x (List.mem_of_getElem? hx1)
  rw [jP (List.mem_of_getElem? hx1) hx2 hb]
  exact ee 4 _ hu _ _ _ _ _ _ _ hx2.top hv hb
 ·rw [Bool.eq_iff_iff,h2,List.any_eq_true]
  constructor
  ·rintro ⟨y,hy,he⟩
   obtain ⟨x,hx1,_,hx2⟩:= @of_decide_eq_true _ (Classical.propDecidable _) he
   exact ⟨x,hx1,hx2⟩
  ·rintro ⟨x,hx1,hx2⟩
   obtain ⟨y,hy,hd⟩:=hx.tail_mem x hx1
   exact ⟨y,hy,jP hx1 hd hx2⟩
theorem fY {h:Heap} {X:Addr→Prop} {xs:List D} {its:Array Value} (r:DenL h X xs its.toList):its.isEmpty=xs.isEmpty:=by
 have z:=ak r
 rw [Array.isEmpty,z]
 cases xs<;>rfl
section
variable {prog:Program} {w:World} {A:Around} {E:Value→Shared→Prop} {s:Shared} {Ex:Addr→Prop}
theorem pq {A:Around} (hu:A.units+6<cLine):A.in1.units+4<cLine:=Nat.lt_of_le_of_lt (Nat.le_of_eq (Nat.add_assoc A.units 1 4)) (Nat.lt_of_succ_lt hu)
theorem jb {a b:D} {va vb:Value} {r:Bool} (hu:A.units+6<cLine) (ha:DenT s.heap Ex a va) (hb:DenT s.heap Ex b vb) (h:inD a b=some r) :
  (∀ {Q:Value→Shared→Prop},Q (.bool r) s→wpAny (model prog w) A (compareOp .In va vb) Q E s)∧(∀ {Q:Value→Shared→Prop},Q (.bool (!r)) s→wpAny (model prog w) A (compareOp .NotIn va vb) Q E s):=by
 have hu:=pq hu
 cases b with
 |str x =>
  obtain ⟨u,hb⟩:=hb
  revert ha
  refine aE h fun y hy e=>d8 (P:=fun a=>DenT s.heap Ex a va→_) hy fun ⟨t,ha⟩=> ?_
  rw [ha,hb,← e]
  exact ⟨P.in_str,P.notIn_str⟩
 |list xs =>
  obtain ⟨p,its,e1,l1,r1⟩:=hb
  obtain ⟨k1,k2⟩:=yr (A:=A.in1) hu ha r1 h
  rw [e1]
  rw [Array.any_toList] at k2
  exact ⟨fun hq=>in_listAt _ (PL.isList l1) (fun y hy=>k1 y (Array.mem_toList_iff.mpr hy)) (by rw [k2];exact hq),fun hq=>notIn_listAt _ (PL.isList l1) (fun y hy=>k1 y (Array.mem_toList_iff.mpr hy)) (by rw [k2];exact hq)⟩
 |tup xs =>
  obtain ⟨p,its,e1,_,l1,r1⟩:=hb
  obtain ⟨k1,k2⟩:=yr (A:=A.in1) hu ha r1 h
  rw [e1]
  rw [Array.any_toList] at k2
  exact ⟨fun hq=>in_tupleAt _ (TupAt.isTup l1) (fun y hy=>k1 y (Array.mem_toList_iff.mpr hy)) (by rw [k2];exact hq),fun hq=>notIn_tupleAt _ (TupAt.isTup l1) (fun y hy=>k1 y (Array.mem_toList_iff.mpr hy)) (by rw [k2];exact hq)⟩
 |_=>exact ah h
theorem je {X Y:Addr→Prop} {h:Heap} {a b:D} {va vb:Value} {r:Bool} (ha:DenT h X a va) (hb:DenT h Y b vb) (hr:isD a b=some r):plainIs va vb=true∧(va==vb)=r:=by
 cases b with
 |none =>
  rw [show vb=_ from hb,← sm hr]
  cases a with
  |none=>rw [show va=_ from ha];exact ⟨rfl,rfl⟩
  |bool _=>rw [show va=_ from ha];exact ⟨rfl,rfl⟩
  |int _=>obtain ⟨t,ha⟩:=ha;rw [ha];exact ⟨rfl,rfl⟩
  |str _=>obtain ⟨t,ha⟩:=ha;rw [ha];exact ⟨rfl,rfl⟩
  |list _=>obtain ⟨p,_,ha,_⟩:=ha;rw [ha];exact ⟨rfl,rfl⟩
  |tup _=>obtain ⟨p,_,ha,_⟩:=ha;rw [ha];exact ⟨rfl,rfl⟩
 |bool c =>
  rw [show vb=_ from hb,← sm hr]
  cases a with
  |none=>rw [show va=_ from ha];exact ⟨rfl,rfl⟩
  |bool b'=>rw [show va=_ from ha];exact ⟨rfl,by cases b'<;>cases c<;>rfl⟩
  |int _=>obtain ⟨t,ha⟩:=ha;rw [ha];exact ⟨rfl,rfl⟩
  |str _=>obtain ⟨t,ha⟩:=ha;rw [ha];exact ⟨rfl,rfl⟩
  |list _=>obtain ⟨p,_,ha,_⟩:=ha;rw [ha];exact ⟨rfl,rfl⟩
  |tup _=>obtain ⟨p,_,ha,_⟩:=ha;rw [ha];exact ⟨rfl,rfl⟩
 |_=>exact ah hr
theorem dh {op:CmpOp} {a b:D} {va vb:Value} {r:Bool} {f:Int→Int→Bool} {Q:Value→Shared→Prop} (ha:DenT s.heap Ex a va) (hb:DenT s.heap Ex b vb) (h:ii (fun a b=>some (f a b)) a b=some r) (hq:Q (.bool r) s)
  (k:∀ i j t u,Q (.bool (f i j)) s→wpAny (model prog w) A (compareOp op (.int i t) (.int j u)) Q E s):wpAny (model prog w) A (compareOp op va vb) Q E s :=
 oB (P:=fun a b=>DenT s.heap Ex a va→DenT s.heap Ex b vb→_) h (fun i j hf ⟨t,ha⟩ ⟨u,hb⟩=>by rw [ha,hb];exact k i j t u (sm hf▸hq)) ha hb
theorem cj {op:CmpOp} {a b:D} {va vb:Value} {r:Bool} {Q:Value→Shared→Prop} (hu:A.units+6<cLine) (ha:DenT s.heap Ex a va) (hb:DenT s.heap Ex b vb) (h:cmpD op a b=some r)
  (hq:Q (.bool r) s):wpAny (model prog w) A (compareOp op va vb) Q E s:=by
 cases op with
 |Eq=>exact (qb (Nat.lt_of_succ_lt hu) ha hb h).1 prog w E Q hq
 |NotEq=>exact aE h fun b' h e=>(qb (Nat.lt_of_succ_lt hu) ha hb h).2 prog w E Q (e▸hq)
 |Lt=>exact dh ha hb h hq fun _ _ _ _=>PyProof.Rows.lt_int
 |LtE=>exact dh ha hb h hq fun _ _ _ _=>PyProof.Rows.le_int
 |Gt=>exact dh ha hb h hq fun _ _ _ _=>PyProof.Rows.gt_int
 |GtE=>exact dh ha hb h hq fun _ _ _ _=>PyProof.Rows.ge_int
 |In=>exact (jb hu ha hb h).1 hq
 |NotIn=>exact aE h fun b' h e=>(jb hu ha hb h).2 (e▸hq)
 |Is=>exact have ⟨h1,h2⟩:=je ha hb h;wpAny_is_plain h1 (h2▸hq)
 |IsNot=>exact aE h fun b' h e=>have ⟨h1,h2⟩:=je ha hb h;wpAny_isNot_plain h1 (by rw [h2,e];exact hq)
theorem dc {a:D} {va:Value} {r:Bool} {Q:Bool→Shared→Prop} (ha:DenT s.heap Ex a va) (h:truthy a=some r) (hq:∀ tk,Q r {s with toks:=tk}):wpAny (model prog w) A (PySem.truthy va) Q E s:=by
 cases a with
 |none=>obtain rfl:=sm h;rw [show va = .none from ha];exact fun _ _ _=>hq s.toks
 |bool b=>rw [show va = .bool _ from ha];exact wpAny_truthy_bool (sm h▸hq s.toks)
 |int i=>obtain ⟨t,ha⟩:=ha;rw [ha];exact PyProof.Rows.truthy_int (show Q (!(i==0)) s from sm h▸hq s.toks)
 |str x =>
  refine gd h fun hs h=> ?_
  obtain ⟨t,ha⟩:=ha;rw [ha]
  refine PySem.P.truthy_str (Int.not_le.mpr (df (aM hs))) ?_
  have e:((x.length:Int) != 0) = !(x.length==0):=by
   cases x.length with
   |zero=>rfl
   |succ n=>rfl
  rw [e,sm h]
  exact hq (s.toks+1+1)
 |list xs =>
  refine gd h fun hs h=> ?_
  obtain ⟨p,its,e1,l1,r1⟩:=ha
  rw [e1]
  refine wpAny_truthy_list (PL.isList l1) (by rw [ak r1];exact df (aM hs)) ?_
  rw [fY r1,sm h]
  exact hq _
 |tup xs =>
  refine gd h fun hs h=> ?_
  obtain ⟨p,its,e1,_,l1,r1⟩:=ha
  rw [e1]
  refine PyProof.Rows.truthy_tuple (TupAt.isTup l1) (by rw [ak r1];exact df (aM hs)) ?_
  rw [fY r1,sm h]
  exact hq _
theorem ry {op:UnaryOp} {a d:D} {va:Value} {Q:Value→Shared→Prop} (ha:DenT s.heap Ex a va) (h:unD op a=some d) (P:Ps s Ex d false Q):wpAny (model prog w) A (unaryOp op va) Q E s:=by
 cases op with
 |Not=>exact aE h fun b h e=>PyProof.Rows.not_of (dc ha h fun tk=>P.now tk (e▸rfl))
 |USub=>exact aE h fun i hi e=>aV (P:=fun a=>DenT s.heap Ex a va→_) hi (fun ⟨t,ha⟩=>by rw [ha];exact PyProof.Rows.neg_int (P.int (congrArg some e) _ _)) ha
 |Invert=>exact aE h fun i hi e=>aV (P:=fun a=>DenT s.heap Ex a va→_) hi (fun ⟨t,ha⟩=>by rw [ha];exact PyProof.Rows.invert_int (P.int (congrArg some e) _ _)) ha
 |UAdd=>exact ah h
end
end Mine
set_option genSizeOf false
set_option genInjectivity false
namespace Mine
variable [Tabs] [Frk]
open Builtin Builtin.Str
section
variable {prog:Program} {w:World} {A:Around} {E:Value→Shared→Prop} {s:Shared} {Ex:Addr→Prop}
theorem kN (x:Str):∀ n,(rep x n).cps.toList=(List.replicate n x.cps.toList).flatten
 |0=>rfl
 |n+1=>by
  show (x.cps++(rep x n).cps).toList=_
  rw [Array.toList_append,kN x n];rfl
theorem jf:∀ (l:List (Array Nat)) (acc:Array Nat),(l.foldl (· ++ ·) acc).toList=acc.toList++(l.map Array.toList).flatten
 | [],acc=>by simp
 |a :: l,acc=>by rw [List.foldl_cons,jf l];simp
theorem vX (x:Str) (n:Int):Txt.mul x n=rep x n.toNat:=by
 have ext:∀ a b:Str,a.cps.toList=b.cps.toList→a=b:=fun a b h=>by
  cases a;cases b;simp only [Str.mk.injEq];exact Array.toList_inj.mp h
 apply ext
 rw [kN]
 unfold Txt.mul
 by_cases h1:n<1
 ·rw [if_pos h1,Int.toNat_of_nonpos (Int.le_of_lt_add_one h1)];rfl
 ·rw [if_neg h1]
  split
  ·rename_i h
   simp only [Bool.or_eq_true,beq_iff_eq] at h
   rcases h with h |h
   ·subst h;simp
   ·have:x.cps.toList=[]:=by have h':x.cps.size=0:=h;simpa using h'
    rw [this];simp
  ·show ((List.replicate n.toNat x.cps).foldl (· ++ ·) #[]).toList=_
   rw [jf];simp
theorem cT {i:Int} (h:idxOk i=true) : -(2 ^ 63:Int)≤i∧i<2 ^ 63 :=
 have h:(i.natAbs:Int)<(4611686018427387904:Nat):=Int.ofNat_lt.mpr (of_decide_eq_true h)
 have h:(i.natAbs:Int)<2 ^ 63:=Int.lt_trans h (by decide)
 ⟨Int.neg_le_of_neg_le (Int.le_trans (by rw [← Int.natAbs_neg];exact Int.le_natAbs) (Int.le_of_lt h)),Int.lt_of_le_of_lt Int.le_natAbs h⟩
theorem rZ {x:Str} {n:Int} (h:sizeOk (x.length * n.toNat)=true) (hi:idxOk n=true):MulOk x n:=by
 have hs:=aM h
 refine ⟨?_,fun h1 _=> ?_,fun _ _=>decide_eq_false (Nat.not_lt.mpr (bZ hs))⟩
 ·rw [decide_eq_false (Int.not_lt.mpr (cT hi).1),decide_eq_false (Int.not_le.mpr (cT hi).2)];rfl
 ·refine Int.not_lt.mpr (Int.le_ediv_of_mul_le (Int.lt_of_lt_of_le Int.zero_lt_one (Int.not_lt.mp h1)) ?_)
  rw [← Int.toNat_of_nonneg (Int.le_trans (by decide) (Int.not_lt.mp h1))]
  exact Int.le_trans (Int.ofNat_le.mpr hs) (by decide)
theorem rO {a b:Int} (h:b.toNat≤1000000) (h3:small a=true):(Builtin.Int.intBits a:Int)+b≤2 ^ 27:=Int.le_trans (Int.add_le_add (Int.ofNat_le.mpr (cO h3)) (Ag h)) (by decide)
theorem ui {k:Nat} {n:Int} (h1:sizeOk (k * n.toNat)=true) (h2:idxOk n=true):¬(!Builtin.List.listFitsIndex n)=true∧¬k * n.toNat > (2 ^ 63 - 1) / 8∧¬Builtin.List.listTooLong (k * n.toNat)=true:=by
 have h1:=aM h1
 refine ⟨?_,Nat.not_lt.mpr (Nat.le_trans h1 (by decide)),fun q=>Nat.not_lt.mpr (bZ h1) (of_decide_eq_true q)⟩
 unfold Builtin.List.listFitsIndex
 rw [decide_eq_true (cT h2).1,decide_eq_true (cT h2).2];exact Bool.false_ne_true
theorem gX:∀ (l:List (Array Value)) (acc:Array Value),(l.foldl (fun x1 x2=>x1++x2) acc).toList=acc.toList++(l.map Array.toList).flatten
 | [],acc=>by simp
 |a :: l,acc=>by rw [List.foldl_cons,gX l];simp
theorem nJ (its:Array Value) (n:Nat):List.foldl (fun x1 x2=>x1++x2) #[] (List.replicate (if its.isEmpty=true then 0 else n) its)=((List.replicate n its.toList).flatten).toArray:=by
 apply Array.toList_inj.mp
 rw [gX]
 split
 ·rename_i h
  have:its.toList=[]:=by simpa using h
  rw [this];simp
 ·simp
theorem DenL.flat {h:Heap} {X:Addr→Prop} {ds:List D} {vs:List Value} (x:DenL h X ds vs):∀ n,DenL h X (List.replicate n ds).flatten (List.replicate n vs).flatten
 |0=>rfl
 |n+1=>by rw [List.replicate_succ,List.replicate_succ,List.flatten_cons,List.flatten_cons];exact x.append (x.flat n)
theorem n8 {a b d:D} {va vb:Value} {Q:Value→Shared→Prop} (lt:∀ b,Ex b→Al s.heap b) (ha:DenT s.heap Ex a va) (hb:DenT s.heap Ex b vb) (hd:addD a b=some d) (P:Ps s Ex d (isL d) Q) :
  wpAny (model prog w) A (binaryOp .Add va vb) Q E s:=by
 revert hb
 cases a with
 |int i =>
  obtain ⟨t,ha⟩:=ha
  exact aE hd fun j hj e=>aV (P:=fun b=>DenT s.heap Ex b vb→_) hj fun ⟨u,hb⟩=>by subst e;rw [ha,hb];exact PyProof.Rows.add_int (P.now _ ⟨_,rfl⟩)
 |str x =>
  obtain ⟨t,ha⟩:=ha
  refine ae hd fun y hy hd=>d8 (P:=fun b=>DenT s.heap Ex b vb→_) hy fun ⟨u,hb⟩=>gd hd fun hs e=> ?_
  obtain rfl:=sm e
  rw [ha,hb]
  exact PyProof.Rows.add_str (fun t' tk=>P.now tk ⟨_,rfl⟩) (aa hs fun h1 h2=>by rw [sizeLine_eq];exact Af h1 h2)
 |list xs =>
  refine ae hd fun ys hy hd=>bL (P:=fun b=>DenT s.heap Ex b vb→_) hy fun hb=>gd hd fun hs e=> ?_
  obtain rfl:=sm e
  obtain ⟨p,its,e1,⟨n1,l1⟩,r1⟩:=ha
  obtain ⟨q,its2,e2,⟨n2,l2⟩,r2⟩:=hb
  rw [e1,e2]
  refine PySem.P.add_list l1 l2 ?_ (aa hs fun h1 h2=>by rw [sizeLine_eq,ak r1,ak r2];exact Af h1 h2)
  have:=P.newList (ds:=xs++ys) (items:=its.toList++its2.toList) lt (r1.append r2) s.toks
  rw [show (its.toList++its2.toList).toArray=its++its2 from Array.toList_inj.mp (by simp)] at this
  exact this
 |_=>exact ah hd
theorem oO {a b d:D} {va vb:Value} {Q:Value→Shared→Prop} (lt:∀ b,Ex b→Al s.heap b) (ha:DenT s.heap Ex a va) (hb:DenT s.heap Ex b vb) (hd:mulD a b=some d) (P:Ps s Ex d (isL d) Q) :
  wpAny (model prog w) A (binaryOp .Mult va vb) Q E s:=by
 revert hb
 refine ae hd fun n hn hd=>aV (P:=fun b=>DenT s.heap Ex b vb→_) hn fun ⟨u,hb⟩=> ?_
 rw [hb]
 cases a with
 |int i =>
  obtain ⟨t,ha⟩:=ha
  refine gd hd fun hs e=> ?_
  obtain rfl:=sm e
  rw [ha]
  exact aa hs fun h1 h2=>PyProof.Rows.mul_int (P.now _ ⟨_,rfl⟩) (IntMulOk.of_bits (Nat.le_trans (cO h1) (by decide)) (Nat.le_trans (cO h2) (by decide)))
 |str x =>
  obtain ⟨t,ha⟩:=ha
  refine gd hd fun hs e=> ?_
  obtain rfl:=sm e
  rw [ha]
  exact aa hs fun h1 h2=>SB.mul (rZ h1 h2) fun t' k=>P.now k ⟨_,by rw [vX]⟩
 |list xs =>
  obtain ⟨p,its,e1,⟨n1,l1⟩,r1⟩:=ha
  refine gd hd fun hs e=>aa hs fun h1 h2=> ?_
  obtain rfl:=sm e
  obtain ⟨g1,g2,g3⟩:=ui (ak r1▸h1) h2
  rw [e1]
  refine wpAny_binaryOp_repeat_ref (T:="list") (U:="int") (by decide) ⟨_,l1,rfl⟩ (fun s'=>typeIs_int s' n u) noFill_list_mul F.fills_int_mul F.slot_int_rmul repeat_list F.slot_int_index.lookup
   (call_meets F.slot_int_rmul (typeIs_int s n u) F.entry_int_rmul (F.args_int_rmul_2 _ _) (int___rmul___int_list n u p its n1) ⟨l1,rfl,⟨_,l1,rfl⟩,?_⟩)
  refine call_meets F.slot_list_mul ⟨_,l1,rfl⟩ F.entry_list_mul (F.args_list_mul_2 _ _) (AutoListH.list___mul___list_int_3 p its n1 n u g1 g2 g3) ⟨l1,?_⟩
  have:=P.newList (ds:=(List.replicate n.toNat xs).flatten) (items:=(List.replicate n.toNat its.toList).flatten) lt (r1.flat _) s.toks
  rw [← nJ] at this
  exact this
 |_=>exact ah hd
theorem eH {op:Operator} {a b d:D} {va vb:Value} {Q:Value→Shared→Prop} (lt:∀ b,Ex b→Al s.heap b) (ha:DenT s.heap Ex a va) (hb:DenT s.heap Ex b vb) (hd:binD op a b=some d) (P:Ps s Ex d (freshBin op d) Q) :
  wpAny (model prog w) A (binaryOp op va vb) Q E s:=by
 cases op with
 |Add=>exact n8 lt ha hb hd P
 |Mult=>exact oO lt ha hb hd P
 |Sub=>exact aY ha hb hd fun _ _ _ _ e=>PyProof.Rows.sub_int (P.int e _ _)
 |Mod=>exact aY ha hb hd fun _ _ _ _ e=>fb e fun hb e=>PyProof.Rows.mod_int (nz (Bool.eq_false_iff.mpr hb)) (P.int e _ _)
 |Pow=>exact aY ha hb hd fun _ _ _ _ e=>gd e fun hs e=>y0 hs fun h1 h2 h3=>PyProof.Rows.pow_int_small (de h1) (Ag (de h2)) (de h3) (P.int e _ _)
 |LShift=>exact aY ha hb hd fun _ _ _ _ e=>gd e fun hs e=>y0 hs fun h1 h2 h3=>PyProof.Rows.lshift_int (de h1) (rO (de h2) h3) (P.int e _ _)
 |RShift=>exact aY ha hb hd fun _ _ _ _ e=>gd e fun hs e=>PyProof.Rows.rshift_int (de hs) (P.int e _ _)
 |BitAnd=>exact aY ha hb hd fun _ _ _ _ e=>PyProof.Rows.and_int (P.int e _ _)
 |BitOr=>exact aY ha hb hd fun _ _ _ _ e=>PyProof.Rows.or_int (P.int e _ _)
 |BitXor=>exact aY ha hb hd fun _ _ _ _ e=>PyProof.Rows.xor_int (P.int e _ _)
 |FloorDiv=>exact aY ha hb hd fun _ _ _ _ e=>fb e fun hb e=>jw hb fun h1 h2=>PyProof.Rows.floordiv_int (nz h1) (P.int e _ _) (.inl (dq (by rw [← Bool.not_eq_false',h2])))
 |_=>exact ah hd
end
end Mine
set_option genSizeOf false
set_option genInjectivity false
namespace Mine
variable [Tabs] [Frk]
open Builtin Builtin.Str
theorem ip {d:D} {v:Value} {h:Heap} {X:Addr→Prop} {l:Option Int} (hd:DenT h X d v) (hp:part? d=some l):IsPart v l∧∃ l':Option (Int×Tok),v=partValue l'∧l'.map (·.1)=l:=by
 cases d with
 |none=>rw [show v = .none from hd,← sm hp];exact ⟨.none,none,rfl,rfl⟩
 |int i =>
  obtain ⟨t,hd⟩:=hd
  exact gd hp fun _ e=>by rw [hd,← sm e];exact ⟨.int i t,some (i,t),rfl,rfl⟩
 |_=>exact ah hp
theorem jc {α β:Type} {xs:List α} {ys:List β} (h:xs.length=ys.length) (lo hi st:Option Int):∃ is:List Nat,pickL xs lo hi st=is.filterMap (xs[·]?)∧pickL ys lo hi st=is.filterMap (ys[·]?):=by
 unfold pickL
 rw [h]
 exact ⟨_,rfl,rfl⟩
theorem kU (items:Array Value) (lo hi st:Option Int):slicePick items lo hi st=(pickL items.toList lo hi st).toArray:=by
 unfold slicePick pickL
 rw [Array.length_toList]
 congr 1
 congr 1
 funext i
 simp
theorem jn (x:Str) (l u st:Option (Int×Tok)):slicePicked x l u st=sliceRange (sliceBounds (l.map (·.1)) (u.map (·.1)) (st.map (·.1)) x.length).1 (sliceBounds (l.map (·.1)) (u.map (·.1)) (st.map (·.1)) x.length).2.1 (sliceBounds (l.map (·.1)) (u.map (·.1)) (st.map (·.1)) x.length).2.2:=rfl
theorem hZ {α:Type} (xs:List α):(List.range xs.length).filterMap (xs[·]?)=xs:=by
 induction xs with
 |nil=>rfl
 |cons x xs ih =>
  rw [List.length_cons,List.range_succ_eq_map,List.filterMap_cons]
  simp only [List.getElem?_cons_zero,List.filterMap_map]
  congr 1
theorem vm (n:Nat) (i:Int):clipAt n i≤n:=Int.toNat_le.mpr (Int.max_le.mpr ⟨Int.natCast_nonneg n,Int.min_le_right _ _⟩)
theorem nT {lo hi st:Option Int} {n:Nat} (hs:st.getD 1=1):sliceBounds lo hi st n=(((lo.elim 0 (clipAt n):Nat):Int),((hi.elim n (clipAt n):Nat):Int),1):=by
 cases st with
 |none=>exact sliceBounds_plain lo hi n
 |some k =>
  obtain rfl:k=1:=hs
  exact sliceBounds_plain lo hi n
theorem pS {a b n:Nat} (hb:b≤n) (h:b - a=n):(List.range (b - a)).map (a + ·)=List.range n:=by
 rw [h]
 cases n with
 |zero=>rfl
 |succ n =>
  cases a with
  |zero=>exact (List.map_congr_left fun k _=>Nat.zero_add k).trans (List.map_id' _)
  |succ a=>exact absurd (h▸Nat.sub_lt (Nat.pos_of_ne_zero fun q=>by rw [q,Nat.zero_sub] at h;exact nomatch h) (Nat.succ_pos a)) (Nat.not_lt.mpr hb)
theorem oH {lo hi:Option Int} {st:Option Int} {n:Nat} (hs:st.getD 1=1) (hl:(sliceRange (sliceBounds lo hi st n).1 (sliceBounds lo hi st n).2.1 (sliceBounds lo hi st n).2.2).length=n) :
  sliceRange (sliceBounds lo hi st n).1 (sliceBounds lo hi st n).2.1 (sliceBounds lo hi st n).2.2=List.range n:=by
 rw [nT hs] at hl ⊢
 have hb:hi.elim n (clipAt n)≤n:=by
  cases hi with
  |none=>exact Nat.le_refl n
  |some i=>exact vm n i
 rw [show sliceRange (((lo.elim 0 (clipAt n):Nat):Int),((hi.elim n (clipAt n):Nat):Int),(1:Int)).1 (((lo.elim 0 (clipAt n):Nat):Int),((hi.elim n (clipAt n):Nat):Int),(1:Int)).2.1 (((lo.elim 0 (clipAt n):Nat):Int),((hi.elim n (clipAt n):Nat):Int),(1:Int)).2.2=_ from sliceRange_one _ _] at hl ⊢
 rw [List.length_map,List.length_range] at hl
 exact pS hb hl
section
variable {prog:Program} {w:World} {A:Around} {E:Value→Shared→Prop} {s:Shared} {Ex:Addr→Prop}
theorem m8 {i:Int} {k:Nat} (h0:0≤i) (h1:i.toNat<k):seqIndex? i k=some i.toNat:=by
 unfold seqIndex?
 simp only [if_neg (Int.not_lt.mpr h0)]
 rw [if_pos (by simp only [Bool.and_eq_true,decide_eq_true_eq];exact ⟨h0,(Int.toNat_lt h0).mp h1⟩)]
theorem md {i:Int} {k:Nat} (h:i<0) (h0:0≤i+k):seqIndex? i k=some (i+k).toNat:=by
 unfold seqIndex?
 simp only [if_pos h]
 rw [if_pos (by simp only [Bool.and_eq_true,decide_eq_true_eq];exact ⟨h0,by have:=Int.add_lt_add_right h k;rw [Int.zero_add] at this;exact this⟩)]
theorem gn {xs:List D} {i:Int} {d:D} {P:Prop} (h:idxL xs i=some d) (k:(-(2 ^ 63:Int)≤i∧i<2 ^ 63)→∀ j,seqIndex? i xs.length=some j→xs[j]? = some d→(0≤i→j=i.toNat)→P):P :=
 gd h fun h1 h=>by
  by_cases h0:0≤i
  ·rw [if_pos h0] at h
   exact k (cT h1) _ (m8 h0 (List.getElem?_eq_some_iff.mp h).1) h fun _=>rfl
  ·rw [if_neg h0] at h
   exact gd h fun h2 h=>k (cT h1) _ (md (Int.not_le.mp h0) h2) h fun q=>absurd q h0
theorem wb {i:Int} (h : -(2 ^ 63:Int)≤i∧i<2 ^ 63):(decide (i < -(2 ^ 63:Int)) || decide (i≥2 ^ 63))=false:=by
 rw [decide_eq_false (Int.not_lt.mpr h.1),decide_eq_false (Int.not_le.mpr h.2)];rfl
theorem pL {i:Int} {k j:Nat} (h:seqIndex? i k=some j) (q:i<0) : -(k:Int)≤i∧j=(i+k).toNat:=by
 unfold seqIndex? at h
 simp only [if_pos q] at h
 exact gd h fun h1 e=>⟨aa h1 fun h1 _=>Int.le_of_sub_nonneg (by rw [Int.sub_neg];exact de h1),(sm e).symm⟩
theorem ny {a i d:D} {va vi:Value} {Q:Value→Shared→Prop} (ha:DenT s.heap Ex a va) (hi:DenT s.heap Ex i vi) (hd:idxD a i=some d) (P:Ps s Ex d false Q) :
  wpAny (model prog w) A (getItem va vi) Q E s:=by
 revert hi
 cases a with
 |list xs =>
  obtain ⟨p,its,e1,l1,r1⟩:=ha
  rw [e1]
  refine ae hd fun n hn hd=>aV (P:=fun i=>DenT s.heap Ex i vi→_) hn fun ⟨t,hi⟩=>gn hd fun hb j hj hx h0=> ?_
  rw [hi]
  obtain ⟨v,g,dv⟩:=r1.get hx
  rw [← ak r1] at hj
  rw [Array.getElem?_toList] at g
  by_cases q:0≤n
  ·exact wpAny_getItem_list (PL.isList l1) q hb.2 (h0 q▸g) (P.here dv)
  ·exact wpAny_getItem_list_neg (PL.isList l1) (Int.not_le.mp q) (pL hj (Int.not_le.mp q)).1 hb.1 ((pL hj (Int.not_le.mp q)).2▸g) (P.here dv)
 |tup xs =>
  obtain ⟨p,its,e1,_,l1,r1⟩:=ha
  rw [e1]
  refine ae hd fun n hn hd=>aV (P:=fun i=>DenT s.heap Ex i vi→_) hn fun ⟨t,hi⟩=>gn hd fun hb j hj hx h0=> ?_
  rw [hi]
  obtain ⟨v,g,dv⟩:=r1.get hx
  rw [← ak r1] at hj
  rw [Array.getElem?_toList] at g
  exact PyProof.Rows.getItem_tuple (j:=j) (TupAt.isTup l1) hb.1 hb.2 hj g (P.here dv)
 |str x =>
  obtain ⟨u,ha⟩:=ha
  rw [ha]
  refine ae hd fun n hn hd=>aV (P:=fun i=>DenT s.heap Ex i vi→_) hn fun ⟨t,hi⟩=>gn hd fun hb j hj hx h0=> ?_
  rw [hi]
  rw [List.length_map,Array.length_toList] at hj
  rw [List.getElem?_map,Array.getElem?_toList] at hx
  refine aE hx fun c hc e=>PySem.P.getItem_str (wb hb) (c:=c) ?_ (P.now _ (e▸⟨_,rfl⟩))
  show (seqIndex? n x.cps.size).bind _=_
  rw [hj];exact hc
 |_=>exact ah hd
theorem gY {α β:Type} {xs:List α} {ys:List β} (h:xs.length=ys.length):∀ is:List Nat,(is.filterMap (xs[·]?)).length=(is.filterMap (ys[·]?)).length
 | []=>rfl
 |i :: is=>by
  have ih:=gY h is
  simp only [List.filterMap_cons]
  by_cases hi:i<xs.length
  ·rw [List.getElem?_eq_getElem hi,List.getElem?_eq_getElem (h▸hi)]
   exact congrArg (· + 1) ih
  ·rw [List.getElem?_eq_none (Nat.not_lt.mp hi),List.getElem?_eq_none (h▸Nat.not_lt.mp hi)]
   exact ih
theorem rY {α:Type} (xs:List α) (lo hi st:Option Int):(pickL xs lo hi st).length≤xs.length:=by
 have:=slicePick_size_le (Array.replicate xs.length Value.none) lo hi st
 rw [kU] at this
 obtain ⟨is,q1,q2⟩:=jc (xs:=(Array.replicate xs.length Value.none).toList) (ys:=xs) (by simp) lo hi st
 rw [q1,List.size_toArray,gY (ys:=xs) (by simp),← q2] at this
 simpa using this
theorem qR {x:Str} {t:Tok} {l u st:Option (Int×Tok)} {sl:Addr} {Q:Value→Shared→Prop} (hx:x.length≤1048576) (hsl:s.heap.IsSliceOf sl (partValue l) (partValue u) (partValue st)) (h0:st.map (·.1)≠some 0)
  (P:Ps s Ex (.str ⟨(pickL x.cps.toList (l.map (·.1)) (u.map (·.1)) (st.map (·.1))).toArray⟩) false Q):wpAny (model prog w) A (getItem (.str x t) (.ref sl)) Q E s:=by
 have e2:pickL x.cps.toList (l.map (·.1)) (u.map (·.1)) (st.map (·.1))=(slicePicked x l u st).filterMap (x.cps[·]?):=by
  rw [jn];unfold pickL;rw [Array.length_toList]
  show List.filterMap _ (sliceRange (sliceBounds _ _ _ x.length).1 _ _)=_
  congr 1;funext i;exact Array.getElem?_toList
 refine wpAny_getItem_str_slice (l:=l) (u:=u) (st:=st) hsl ?_ ?_
 ·cases st with
  |none=>rfl
  |some c=>exact decide_eq_false fun e=>h0 (congrArg some e)
 ·unfold sliceMade
  split
  ·rename_i hc
   refine aa hc fun h1 h2=> ?_
   refine P.now s.toks ⟨t,?_⟩
   rw [e2,jn,oH (beq_iff_eq.mp h1) (beq_iff_eq.mp h2)]
   have:=hZ x.cps.toList
   rw [Array.length_toList] at this
   show Value.str x t=Value.str ⟨(List.filterMap _ (List.range x.cps.size)).toArray⟩ t
   rw [show (fun i=>x.cps[i]?)=(fun i=>x.cps.toList[i]?) from funext fun i=>Array.getElem?_toList.symm,this]
  ·rw [← e2]
   refine ⟨?_,P.now _ ⟨_,rfl⟩⟩
   show (pickL x.cps.toList _ _ _).toArray.size≤sizeLine
   rw [List.size_toArray,sizeLine_eq]
   exact Nat.le_trans (rY _ _ _ _) (Nat.le_trans (Nat.le_of_eq Array.length_toList) (Nat.le_trans hx (by decide)))
theorem oA {a l u st d:D} {va vl vu vs:Value} {sl:Addr} {Q:Value→Shared→Prop} (lt:∀ b,Ex b→Al s.heap b) (ha:DenT s.heap Ex a va) (hl:DenT s.heap Ex l vl) (hu:DenT s.heap Ex u vu) (hs:DenT s.heap Ex st vs)
  (hsl:s.heap.IsSliceOf sl vl vu vs) (hd:sliD a l u st=some d) (P:Ps s Ex d (freshSli d) Q) :
  wpAny (model prog w) A (getItem va (.ref sl)) Q E s:=by
 refine ae hd fun l' hl' hd=>ae hd fun u' hu' hd=>ae hd fun st' hs' hd=>fb hd fun h0 hd=> ?_
 have h0:st'≠some 0:=fun e=>h0 (by rw [e];rfl)
 obtain ⟨pl,l2,el,ml⟩:=ip hl hl'
 obtain ⟨pu,u2,eu,mu⟩:=ip hu hu'
 obtain ⟨ps,s2,es,ms⟩:=ip hs hs'
 cases a with
 |list xs =>
  refine gd hd fun hsz e=> ?_
  obtain rfl:=sm e
  obtain ⟨p,its,e1,l1,r1⟩:=ha
  rw [e1]
  obtain ⟨is,q1,q2⟩:=jc r1.length l' u' st'
  refine wpAny_getItem_list_slice (PL.isList l1) hsl pl pu ps h0 ?_ (by rw [sizeLine_eq,ak r1];exact Nat.le_trans (aM hsz) (by decide))
  rw [kU,q1]
  exact P.newList (ds:=pickL xs l' u' st') (items:=is.filterMap (its.toList[·]?)) lt (by rw [q2];exact r1.pick is) s.toks
 |str x =>
  refine gd hd fun hsz e=> ?_
  obtain rfl:=sm e
  obtain ⟨t,ha⟩:=ha
  subst ha el eu es ml mu ms
  exact qR (aM hsz) hsl h0 P
 |_=>exact ah hd
end
end Mine
set_option genSizeOf false
set_option genInjectivity false
namespace Mine
variable [Tabs] [Frk]
open Builtin Builtin.Str
noncomputable def DenRL (h:Heap) (X:Addr→Prop) (b:Bool):List D→List Value→Prop
 | [],vs=>vs=[]
 |d :: ds,vs=>∃ v r,vs=v :: r∧DenR h X b d v∧DenRL h X b ds r
theorem DenRL.denL {h:Heap} {X:Addr→Prop}:∀ {ds:List D} {vs:List Value},DenRL h X false ds vs→DenL h X ds vs
 | [],_,e=>e
 |d :: ds,vs,⟨v,r,e,a,q⟩=>⟨v,r,e,a,DenRL.denL q⟩
theorem DenT.free {h:Heap} {X:Addr→Prop} {d:D} {v:Value} (e:DenT h X d v):Den h (fun _=>False) d v:=by
 cases d with
 |list ds =>
  obtain ⟨a,items,e,l,r⟩:=e
  exact ⟨a,items,e,id,l,r.mono (fun _ _ _ _ e=>e) (fun _ _ _=>id)⟩
 |none=>exact e
 |bool _=>exact e
 |int _=>exact e
 |str _=>exact e
 |tup _=>exact Den.mono (fun _ _ _ _ e=>e) (fun _ _ _=>id) _ _ e
theorem DenRL.free {h:Heap} {X:Addr→Prop} {b:Bool}:∀ {ds:List D} {vs:List Value},DenRL h X b ds vs→DenL h (fun _=>False) ds vs
 | [],_,e=>e
 |d :: ds,vs,⟨v,r,e,a,q⟩=>⟨v,r,e,a.top.free,DenRL.free q⟩
theorem DenRL.one {h:Heap} {X:Addr→Prop} {b:Bool} {d:D} {vs:List Value} (e:DenRL h X b [d] vs):∃ v,vs=[v]∧DenR h X b d v:=by
 obtain ⟨v,r,e,a,q⟩:=e
 exact ⟨v,by rw [e,show r=[] from q],a⟩
theorem DenRL.two {h:Heap} {X:Addr→Prop} {b:Bool} {d e:D} {vs:List Value} (x:DenRL h X b [d,e] vs):∃ v u,vs=[v,u]∧DenR h X b d v∧DenR h X b e u:=by
 obtain ⟨v,r,e,a,q⟩:=x
 obtain ⟨u,e',a'⟩:=q.one
 exact ⟨v,u,by rw [e,e'],a,a'⟩
theorem DenRL.three {h:Heap} {X:Addr→Prop} {b:Bool} {d e f:D} {vs:List Value} (x:DenRL h X b [d,e,f] vs):∃ v u x,vs=[v,u,x]∧DenR h X b d v∧DenR h X b e u∧DenR h X b f x:=by
 obtain ⟨v,r,e,a,q⟩:=x
 obtain ⟨u,x,e',a',a''⟩:=q.two
 exact ⟨v,u,x,by rw [e,e'],a,a',a''⟩
noncomputable def bName:BF→String
 | .len=>"len" | .ord=>"ord" | .chr=>"chr" | .sum=>"sum" | .max2=>"max" | .min2=>"min" | .max1=>"max" | .min1=>"min" | .hex=>"hex" | .divmod=>"divmod"
theorem nU {le:Int→Int→Prop} (rf:∀ a,le a a) (tr:∀ a b c,le a b→le b c→le a c) {f:Int→Int→Int} (hf:∀ a b,(f a b=a∨f a b=b)∧le a (f a b)∧le b (f a b)):∀ (ns:List Int) (n:Int),ns.foldl f n∈n :: ns∧∀ m∈n :: ns,le m (ns.foldl f n)
 | [],n=>⟨List.mem_cons_self,fun m hm=>List.mem_singleton.mp hm▸rf _⟩
 |k :: ns,n=>by
  obtain ⟨h1,h2⟩:=nU rf tr hf ns (f n k)
  obtain ⟨g1,g2,g3⟩:=hf n k
  have h3:=h2 _ List.mem_cons_self
  refine ⟨?_,fun m hm=> ?_⟩
  ·rcases List.mem_cons.mp h1 with e |e
   ·rw [List.foldl_cons,e]
    rcases g1 with g1 |g1<;>rw [g1]
    ·exact List.mem_cons_self
    ·exact List.mem_cons_of_mem _ List.mem_cons_self
   ·exact List.mem_cons_of_mem _ (List.mem_cons_of_mem _ e)
  ·rcases List.mem_cons.mp hm with rfl |hm
   ·exact tr _ _ _ g2 h3
   ·rcases List.mem_cons.mp hm with rfl |hm
    ·exact tr _ _ _ g3 h3
    ·exact h2 m (List.mem_cons_of_mem _ hm)
theorem Ao (ns:List Int) (n:Int):ns.foldl (fun a b=>if b > a then b else a) n∈n :: ns∧∀ m∈n :: ns,m≤ns.foldl (fun a b=>if b > a then b else a) n :=
 nU (le:=(· ≤ ·)) Int.le_refl (fun _ _ _=>Int.le_trans) (fun a b=>by
  by_cases h:b > a
  ·rw [if_pos h];exact ⟨.inr rfl,Int.le_of_lt h,Int.le_refl _⟩
  ·rw [if_neg h];exact ⟨.inl rfl,Int.le_refl _,Int.not_lt.mp h⟩) ns n
theorem Am (ns:List Int) (n:Int):ns.foldl (fun a b=>if b<a then b else a) n∈n :: ns∧∀ m∈n :: ns,ns.foldl (fun a b=>if b<a then b else a) n≤m :=
 nU (le:=fun a b=>b≤a) Int.le_refl (fun _ _ _ h1 h2=>Int.le_trans h2 h1) (fun a b=>by
  by_cases h:b<a
  ·rw [if_pos h];exact ⟨.inr rfl,Int.le_of_lt h,Int.le_refl _⟩
  ·rw [if_neg h];exact ⟨.inl rfl,Int.le_refl _,Int.not_lt.mp h⟩) ns n
theorem rq {h:Heap} {X:Addr→Prop} {ds:List D} {ns:List Int} {its:Array Value} (e:ints? ds=some ns) (r:DenL h X ds its.toList) :
  ∃ xs:Array (Int×Tok),its=intItems xs∧ns=xs.toList.map (·.1):=by
 obtain ⟨h1,h2⟩:=gI e r
 obtain ⟨xs,hx⟩:=h1.allInts.items
 have hx':its=intItems xs:=hx
 subst hx'
 exact ⟨xs,rfl,by rw [← nums_intItems,h1.numsOf]⟩
section
variable {prog:Program} {w:World} {A:Around} {E:Value→Shared→Prop} {s:Shared} {Ex:Addr→Prop}
theorem lG {c:Prop} [Decidable c] {i j:Int} {t u:Tok} {P:Value→Prop} (h:∀ t,P (.int (if c then i else j) t)):P (if c then .int i t else .int j u):=by
 by_cases hc:c
 ·rw [if_pos hc] at h ⊢;exact h _
 ·rw [if_neg hc] at h ⊢;exact h _
theorem lP {d:D} {v:Value} {ns:List Int} {xs:List D} (hd:DenT s.heap Ex d v) (hl:d.list? = some xs) (hn:ints? xs=some ns):∃ p ys,v = .ref p∧s.heap.PlainList p (intItems ys)∧ns=ys.toList.map (·.1):=by
 revert hd
 refine bL (P:=fun d=>DenT s.heap Ex d v→_) hl fun ⟨p,its,e1,l1,r1⟩=> ?_
 obtain ⟨ys,e2,e3⟩:=rq hn r1
 exact ⟨p,ys,e1,e2▸l1,e3⟩
theorem tE {le:Int→Int→Prop} (anti:∀ a b,le a b→le b a→a=b) {ys:Array (Int×Tok)} {v:Value} {j:Nat} {m:Int} (hv:(intItems ys)[j]? = some v) (hj:j<ys.size) (b2:∀ i,i≤ys.size - 1→le (numAt ys i) (numAt ys j)) (m1:m∈ys.toList.map (·.1)) (m2:∀ k∈ys.toList.map (·.1),le k m):∃ t,v = .int m t:=by
 have hv':v = .int (numAt ys j) ys[j].2:=by
  unfold intItems at hv
  rw [Array.getElem?_map,Array.getElem?_eq_getElem hj] at hv
  rw [← sm hv]
  unfold numAt
  rw [Array.getElem?_eq_getElem hj];rfl
 have hl:(ys.toList.map (·.1)).length=ys.size:=by rw [List.length_map,Array.length_toList]
 refine ⟨_,hv'.trans (congrArg (Value.int · _) (anti _ _ ?_ ?_))⟩
 ·apply m2
  rw [numAt_eq]
  exact PySem.getD_mem (by rw [hl];exact hj)
 ·obtain ⟨i,hi,he⟩:=PySem.mem_getD m1
  rw [← he,← numAt_eq]
  exact b2 i (Nat.le_sub_one_of_lt (hl▸hi))
theorem ik {nm:String} {d e:D} {v:Value} {Q:Value→Shared→Prop} {le:Int→Int→Prop} {f:Int→Int→Int} (anti:∀ a b,le a b→le b a→a=b) (hd:DenT s.heap Ex d v) (h:bestD f d=some e) (P:Ps s Ex e false Q)
  (hf:∀ ns n,ns.foldl f n∈n :: ns∧∀ m∈n :: ns,le m (ns.foldl f n))
  (call':∀ (p:Addr) (ys:Array (Int×Tok)),s.heap.PlainList p (intItems ys)→0<ys.size→ys.size≤1048577→(∀ v h' tk j,j<ys.size→(∀ i,i≤ys.size - 1→le (numAt ys i) (numAt ys j))→(intItems ys)[j]? = some v→Kp s.heap h'→Q v {s with heap:=h',toks:=tk})→wpAny (model prog w) A (call (.builtin nm) [.ref p]) Q E s) :
  wpAny (model prog w) A (call (.builtin nm) [v]) Q E s:=by
 refine ae h fun xs hx h=>ae h fun ns hn h=> ?_
 obtain ⟨p,ys,e1,l1,e3⟩:=lP hd hx hn
 cases ns with
 |nil=>exact ah h
 |cons n ns =>
  refine gd h fun hs h=> ?_
  have hl:ys.size=ns.length+1:=by
   have:=congrArg List.length e3
   rw [List.length_map,Array.length_toList] at this
   exact this.symm
  rw [e1]
  refine call' p ys l1 (hl▸Nat.succ_pos _) (hl▸Nat.succ_le_succ (aM hs)) fun v h' tk j hj b2 hv hk=> ?_
  obtain ⟨m1,m2⟩:=hf ns n
  rw [e3] at m1 m2
  obtain ⟨t,e⟩:=tE anti hv hj b2 m1 m2
  rw [e]
  exact P _ _ _ hk (sm h▸⟨_,rfl⟩) fun h=>nomatch h
@[elab_as_elim] theorem bx {hp:Heap} {ds:List D} {d:D} {vs:List Value} {P:List Value→Prop} (hd:one? ds=some d) (h:DenRL hp Ex true ds vs) (k:∀ v,DenT hp Ex d v→P [v]):P vs :=
 kM (P:=fun ds=>DenRL hp Ex true ds vs→P vs) hd (fun h=>let ⟨v,e,hv⟩:=h.one;e▸k v hv.top) h
@[elab_as_elim] theorem fW {hp:Heap} {ds:List D} {d:D×D} {vs:List Value} {P:List Value→Prop} (hd:two? ds=some d) (h:DenRL hp Ex true ds vs) (k:∀ v u,DenT hp Ex d.1 v→DenT hp Ex d.2 u→P [v,u]):P vs :=
 j5 (P:=fun ds=>DenRL hp Ex true ds vs→P vs) hd (fun h=>let ⟨v,u,e,hv,hu⟩:=h.two;e▸k v u hv.top hu.top) h
@[elab_as_elim] theorem aQ {hp:Heap} {d:D} {i:Int} {v:Value} {P:Value→Prop} (hd:d.int? = some i) (h:DenT hp Ex d v) (k:∀ t,P (.int i t)):P v :=
 aV (P:=fun d=>DenT hp Ex d v→P v) hd (fun ⟨t,e⟩=>e▸k t) h
@[elab_as_elim] theorem bX {hp:Heap} {d:D} {i:Str} {v:Value} {P:Value→Prop} (hd:d.str? = some i) (h:DenT hp Ex d v) (k:∀ t,P (.str i t)):P v :=
 d8 (P:=fun d=>DenT hp Ex d v→P v) hd (fun ⟨t,e⟩=>e▸k t) h
@[elab_as_elim] theorem eK {hp:Heap} {d:D} {xs:List D} {v:Value} {P:Value→Prop} (hd:d.list? = some xs) (h:DenT hp Ex d v) (k:∀ p its,hp.PlainList p its→DenL hp Ex xs its.toList→P (.ref p)):P v :=
 bL (P:=fun d=>DenT hp Ex d v→P v) hd (fun ⟨p,its,e,l,r⟩=>e▸k p its l r) h
@[elab_as_elim] theorem kG {hp:Heap} {α:Type} {a b:D} {f:Int→Int→Option α} {r:α} {v u:Value} {P:Value→Value→Prop} (hd:ii f a b=some r) (h:DenT hp Ex a v) (h2:DenT hp Ex b u) (k:∀ i j t t',f i j=some r→P (.int i t) (.int j t')):P v u :=
 ae hd fun i hi hd=>ae hd fun j hj hd=>aQ (P:=(P · u)) hi h fun t=>aQ (P:=P (.int i t)) hj h2 fun t'=>k i j t t' hd
theorem pC {d e:D} {v:Value} {Q:Value→Shared→Prop} (hd:DenT s.heap Ex d v) (h:lenD d=some e) (P:Ps s Ex e false Q):wpAny (model prog w) A (call (.builtin "len") [v]) Q E s:=by
 cases d with
 |list xs =>
  obtain ⟨p,its,e1,l1,r1⟩:=hd
  refine gd h fun hs e=> ?_
  rw [e1]
  refine len_list (PL.isList l1) (by rw [ak r1];exact df (aM hs)) ?_
  rw [ak r1];exact P.int e _ _
 |str x =>
  obtain ⟨t,e1⟩:=hd
  refine gd h fun hs e=> ?_
  rw [e1]
  exact PySem.P.len_str (Int.not_le.mpr (df (aM hs))) (P.int e _ _)
 |_=>exact ah h
theorem oK {f:BF} {ds:List D} {vs:List Value} {d:D} {Q:Value→Shared→Prop} (hh:A.handled=none) (lt:∀ b,Ex b→Al s.heap b) (h:DenRL s.heap Ex true ds vs) (hd:bltD f ds=some d) (P:Ps s Ex d false Q) :
  wpAny (model prog w) A (call (.builtin (bName f)) vs) Q E s:=by
 have kp:∀ (i:Int) (h':Heap) (tk:Nat) (t:Tok),some (D.int i)=some d→(∀ b o,s.heap.get? b=some o→h'.get? b=some o)→Q (.int i t) {s with heap:=h',toks:=tk}:=fun i h' tk t e hk=>P _ _ _ (.of hk) (sm e▸⟨_,rfl⟩) fun h=>nomatch h
 cases f with
 |len =>
  refine ae hd fun a ha hd=> ?_
  refine bx ha h fun v hv=> ?_
  exact pC hv hd P
 |ord =>
  refine ae hd fun a ha hd=>ae hd fun x hx hd=>gd hd fun hs e=> ?_
  refine bx ha h fun v hv=> ?_
  refine bX hx hv fun t=> ?_
  exact ord_of_one (beq_iff_eq.mp hs) (P.int e _ _)
 |chr =>
  refine ae hd fun a ha hd=>ae hd fun i hi hd=>gd hd fun hs e=>aa hs fun h1 h2=> ?_
  refine bx ha h fun v hv=> ?_
  refine aQ hi hv fun t=> ?_
  exact chr_of_range (de h1) (yS (de h2)) (P.str e _ _)
 |sum =>
  refine ae hd fun a ha hd=>ae hd fun xs hx hd=>gd hd fun _ hd=>aE hd fun ns hn e=> ?_
  refine bx ha h fun v hv=> ?_
  obtain ⟨p,ys,e1,l1,e3⟩:=lP hv hx hn
  rw [e1]
  refine sum_intListG hh (PL.isList l1) fun h' tk t' hk=>kp _ _ _ _ ?_ hk
  rw [preSum_eq,List.take_of_length_le (by rw [List.length_map,Array.length_toList];exact Nat.le_refl _),← e3,e]
 |max2 =>
  refine ae hd fun a ha hd=> ?_
  refine fW ha h fun v u hv hu=> ?_
  refine kG hd hv hu fun i j t t' e=>max_two_ints hh fun h' tk hk=> ?_
  exact lG (P:=fun v=>Q v {s with heap:=h',toks:=tk}) (fun t=>kp _ _ _ t e hk)
 |min2 =>
  refine ae hd fun a ha hd=> ?_
  refine fW ha h fun v u hv hu=> ?_
  refine kG hd hv hu fun i j t t' e=>min_two_ints hh fun h' tk hk=> ?_
  exact lG (P:=fun v=>Q v {s with heap:=h',toks:=tk}) (fun t=>kp _ _ _ t e hk)
 |max1 =>
  refine ae hd fun a ha hd=> ?_
  refine bx ha h fun v hv=> ?_
  exact ik (le:=(· ≤ ·)) (fun _ _=>Int.le_antisymm) hv hd P (fun ns n=>Ao ns n) fun p ys l1 h0 hz k =>
   max_intList hh (PL.isList l1) h0 fun v h' tk hv hk=>let ⟨b1,b2⟩:=argBest_gt (numAt ys) (ys.size - 1);k v h' tk _ (Nat.lt_of_le_of_lt b1 (Nat.sub_one_lt_of_lt h0)) b2 hv (.of hk)
 |min1 =>
  refine ae hd fun a ha hd=> ?_
  refine bx ha h fun v hv=> ?_
  exact ik (le:=fun a b=>b≤a) (fun _ _ h1 h2=>Int.le_antisymm h2 h1) hv hd P (fun ns n=>Am ns n) fun p ys l1 h0 hz k =>
   min_intList hh (PL.isList l1) h0 fun v h' tk hv hk=>let ⟨b1,b2⟩:=argBest_lt (numAt ys) (ys.size - 1);k v h' tk _ (Nat.lt_of_le_of_lt b1 (Nat.sub_one_lt_of_lt h0)) b2 hv (.of hk)
 |hex =>
  refine ae hd fun a ha hd=>ae hd fun i hi hd=>gd hd fun hs e=> ?_
  refine bx ha h fun v hv=> ?_
  refine aQ hi hv fun t=> ?_
  exact PySem.P.hex_of_int (P.str e _ _) (PySem.baseText_under (by decide) (by decide) (de hs))
 |divmod =>
  refine ae hd fun a ha hd=> ?_
  refine fW ha h fun v u hv hu=> ?_
  refine kG hd hv hu fun i j t t' e=>fb e fun hb e=>jw hb fun h1 h2=> ?_
  obtain rfl:=sm e
  refine divmod_int (nz h1) ?_ (.inl (dq (by rw [← Bool.not_eq_false',h2])))
  have k:=Kp.push s.heap {cls:= .type "tuple",data:= .seq #[.int (i.fdiv j) s.toks,.int (i.fmod j) (s.toks+1)]}
  exact P _ _ _ k ⟨_,_,rfl,fun e=>(lt _ e).ne (aJ _) rfl,⟨0,Heap.get?_push_size _ rfl⟩,⟨_,_,rfl,⟨_,rfl⟩,_,_,rfl,⟨_,rfl⟩,rfl⟩⟩ fun h=>nomatch h
end
end Mine
set_option genSizeOf false
set_option genInjectivity false
namespace Mine
variable [Tabs] [Frk]
open Builtin Builtin.Str
noncomputable def mId:MF→String
 | .split=>"str.split" | .startswith=>"str.startswith" | .endswith=>"str.endswith" | .find3=>"str.find" | .lower=>"str.lower" | .join=>"str.join" | .count=>"list.count" | .bitlen=>"int.bit_length"
noncomputable def mTy:MF→String
 | .count=>"list" | .bitlen=>"int" |_=>"str"
theorem xG (f:MF):PlainAttrs (mTy f)∧Slot (mTy f) (mNm f) (mId f)∧typeOf (.builtin (mId f))=pure (.type "method_descriptor"):=by
 cases f
 ·exact ⟨F.plainAttrs_str,F.slot_str_split,F.type_str_split⟩
 ·exact ⟨F.plainAttrs_str,F.slot_str_startswith,F.type_str_startswith⟩
 ·exact ⟨F.plainAttrs_str,F.slot_str_endswith,F.type_str_endswith⟩
 ·exact ⟨F.plainAttrs_str,F.slot_str_find,F.type_str_find⟩
 ·exact ⟨F.plainAttrs_str,F.slot_str_lower,F.type_str_lower⟩
 ·exact ⟨F.plainAttrs_str,F.slot_str_join,F.type_str_join⟩
 ·exact ⟨F.plainAttrs_list,F.slot_list_count,F.type_list_count⟩
 ·exact ⟨F.plainAttrs_int,PyProof.Rows.slot_int_bit_length,PyProof.Rows.type_int_bit_length⟩
theorem z8 {f:MF} {d r:D} {ds:List D} {s:Shared} {Ex:Addr→Prop} {v:Value} (h:methD f d ds=some r) (hd:DenT s.heap Ex d v):s.TypeIs v (mTy f)∧(∀ a,v = .ref a→∃ ob,s.heap.get? a=some ob∧ob.dict=none):=by
 have st:∀ {x},d.str? = some x→s.TypeIs v "str"∧(∀ a,v = .ref a→∃ ob,s.heap.get? a=some ob∧ob.dict=none):=fun hx=>by
  refine bX hx hd fun t=> ?_
  exact ⟨typeIs_str _ _ _,fun _ e=>nomatch e⟩
 cases f with
 |count =>
  refine ae h fun xs hx _=> ?_
  refine eK hx hd fun p its l r=> ?_
  exact ⟨(PL.isList l).typeIs,fun a e=>let ⟨n,ho⟩:=l;⟨_,Value.ref.inj e▸ho,rfl⟩⟩
 |bitlen =>
  refine ae h fun xs hx _=> ?_
  refine aQ hx hd fun t=> ?_
  exact ⟨typeIs_int _ _ _,fun _ e=>nomatch e⟩
 |_=>exact ae h fun x hx _=>st hx
theorem lX (x y:Str) (i j:Int) (t u v w:Tok):Gives («str.find» ⟨[.str x t,.str y u,.int i v,.int j w],[]⟩)
  (.int (match occurrences x y (fromIndex x.length i) (min (fromIndex x.length j) x.length) 1 with |k :: _=>(k:Int) | []=> -1)):=by
 show Gives (match occurrences x y (fromIndex x.length i) (min (fromIndex x.length j) x.length) 1 with |k :: _=>retInt k | []=>(do rule "str.find.not-found";retInt (-1))) _
 cases occurrences x y (fromIndex x.length i) (min (fromIndex x.length j) x.length) 1 with
 |nil=>exact .rule (.of_eq rfl)
 |cons k l=>exact .of_eq rfl
theorem fe {n:Nat} {i:Int} (h:0≤i):fromIndex n i=i.toNat:=by
 unfold fromIndex
 split
 ·omega
 ·omega
theorem mB {X Y:Addr→Prop} {s:Shared} {A:Around} {d:D} {v:Value} (hu:A.units+5<cLine) (hv:DenT s.heap Y d v):∀ {xs:List D} {its:List Value} {n:Nat},DenL s.heap X xs its→cntD d xs=some n →
  (∀ y,y∈its→∃ x b,Den s.heap X x y∧eqD x d=some b)∧∀ e:Value→Bool,(∀ y x b,y∈its→Den s.heap X x y→eqD x d=some b→e y=b)→its.countP e=n
 | [],its,n,hx,h=>by
  rw [show its=[] from hx,← sm h]
  exact ⟨fun y hy=>(nomatch hy),fun e _=>rfl⟩
 |x :: xs,its,n,⟨y,r,e',a,b⟩,h=>ae h fun bb h1 h=>aE h fun m h2 h3=>by
  rw [e',← h3]
  obtain ⟨i1,i2⟩:=mB hu hv b h2
  refine ⟨fun z hz=> ?_,fun e he=> ?_⟩
  ·rcases List.mem_cons.mp hz with rfl |hz
   ·exact ⟨x,bb,a,h1⟩
   ·exact i1 z hz
  ·rw [List.countP_cons,i2 e fun y x b hy=>he y x b (List.mem_cons_of_mem _ hy),he y x bb List.mem_cons_self a h1]
theorem xa {x:Str} {ts:List Str} (h:x.length * ts.length+(ts.map (·.length)).sum≤1048576):JoinOk x ts=true:=by
 unfold JoinOk
 rw [StrLaws.joinTotal]
 rw [Nat.mul_comm] at h
 have:tooLong ((ts.map (·.length)).sum+ts.length * x.length)=false:=by
  unfold tooLong
  rw [sizeLine_eq]
  exact decide_eq_false (by omega)
 rw [this];rfl
theorem kt {h:Heap} {X:Addr→Prop}:∀ (l:List (Str×Tok)),DenL h X ((l.map (·.1)).map .str) (strValues l)
 | []=>rfl
 |p :: l=>⟨_,_,rfl,⟨_,rfl⟩,kt l⟩
section
variable {prog:Program} {w:World} {A:Around} {E:Value→Shared→Prop} {s:Shared} {Ex:Addr→Prop}
theorem lT {x y:Str} {t u:Tok} {Q:Value→Shared→Prop} {fr:Bool} (lt:∀ b,Ex b→Al s.heap b) (hx:x.length≤1048576) (hy:0<y.length) (P:Ps s Ex (.list ((Txt.split x y).map .str)) fr Q) :
  wpAny (model prog w) A (call (.builtin "str.split") [.str x t,.str y u]) Q E s:=by
 have hy0:(y.length==0)=false:=by simp;omega
 have key:∀ (l:List (Str×Tok)) tk,l.map (·.1)=Txt.split x y→Q (.ref s.heap.objs.size) {s with heap:=s.heap.push {cls:= .type "list",data:= .seq (strValues l).toArray},toks:=tk}:=fun l tk hl=>by
  refine P.newList lt ?_ tk
  rw [← hl];exact kt l
 have ho:=StrLaws.occ_length_le x y 0 x.length (x.length+1)
 cases h1:(decide (x.length<y.length) || decide (strKind x<strKind y))
 ·cases hf:(occurrences x y 0 x.length (x.length+1)).isEmpty
  ·refine call_meets F.slot_str_split (typeIs_str _ _ _) F.entry_str_split (F.args_str_split_2 _ _) (meets_str_split_sep x y t u h1 hy0 hf (by rw [sizeLine_eq];omega) (by rw [length_partsBetween,sizeLine_eq];omega)) ?_
   show wants Q E _ {s with toks:=_,heap:=s.heap.push {cls:= .type "list",data:= .seq (strsFrom s.toks (partsBetween x (occurrences x y 0 x.length (x.length+1)) y.length)).toArray}}
   rw [strsFrom_eq]
   exact key (numbered s.toks _) _ ((numbered_texts _ _).trans ((if_neg (ne_true_of_eq_false h1)).trans (if_neg (ne_true_of_eq_false hf))).symm)
  ·exact call_meets F.slot_str_split (typeIs_str _ _ _) F.entry_str_split (F.args_str_split_2 _ _) (meets_str_split_not_found x y t u h1 hy0 hf)
    (key [(x,t)] _ ((if_neg (ne_true_of_eq_false h1)).trans (if_pos hf)).symm)
 ·exact call_meets F.slot_str_split (typeIs_str _ _ _) F.entry_str_split (F.args_str_split_2 _ _) (meets_str_split_cannot_occur x y t u h1)
   (key [(x,t)] _ (if_pos h1).symm)
theorem q7 {x:Str} {ds:List D} {r:D} {vs:List Value} {P:List Value→Prop} (hd:findD3 x ds=some r) (h:DenRL s.heap Ex true ds vs) (k:∀ y lo hi t u v,(findIn x y lo hi).map .int=some r→P [.str y t,.int lo u,.int hi v]):P vs:=by
 cases ds with
 |nil=>exact ah hd
 |cons d ds =>
  obtain ⟨v,w,e,hv,hw⟩:=h
  refine ae hd fun y hy hd=>ae hd fun p hp hd=>ae hd fun lo hl hd=>ae hd fun hi hh hd=> ?_
  rw [e]
  refine bX hy hv.top fun t=> ?_
  refine fW hp hw fun a b ha hb=> ?_
  refine aQ hl ha fun u=> ?_
  refine aQ hh hb fun q=> ?_
  exact k y lo hi t u q hd
theorem lJ {f:Str→Str→Option D} {d r:D} {ds:List D} {v:Value} {vs:List Value} {P:Value→List Value→Prop} (hd:ss f d ds=some r) (hv:DenT s.heap Ex d v) (h:DenRL s.heap Ex true ds vs) (k:∀ x y t u,f x y=some r→P (.str x t) [.str y u]):P v vs :=
 ae hd fun x hx hd=>ae hd fun e he hd=>ae hd fun y hy hd=>bx (P:=P v) he h fun w hw=>bX (P:=fun v=>P v [w]) hx hv fun t=>bX (P:=fun w=>P (.str x t) [w]) hy hw fun u=>k x y t u hd
theorem l7 {ds:List D} {vs:List Value} (hd:ds.isEmpty=true) (h:DenRL s.heap Ex true ds vs):vs=[]:=by
 cases ds with
 |nil=>exact h
 |cons _ _=>exact nomatch hd
theorem lY {d e r:D} {xs:List D} {v u:Value} {Q:Value→Shared→Prop} (hu:A.units+6<cLine) (hv:DenT s.heap Ex d v) (hx:d.list? = some xs) (h:DenT s.heap Ex e u) (hd:(cntD e xs).map (fun (n:Nat)=>D.int (n:Int))=some r) (P:Ps s Ex r false Q) :
  wpAny (model prog w) A (call (.builtin "list.count") [v,u]) Q E s:=by
 refine aE hd fun n hn e1=> ?_
 refine eK hx hv fun p its l r1=> ?_
 obtain ⟨n0,l1⟩:=l
 have hu1:A.in1.units+5<cLine:=Nat.lt_of_le_of_lt (Nat.le_of_eq (Nat.add_assoc A.units 1 5)) hu
 obtain ⟨k1,k2⟩:=mB (A:=A.in1) hu1 h r1 hn
 have hit:∀ y x b,y∈its.toList→Den s.heap Ex x y→eqD x e=some b→hitV s.heap Ex e xs y=b:=fun y x b hy hx hb=>by
  obtain ⟨i,hi⟩:=List.getElem?_of_mem hy
  obtain ⟨x',hx1,hx2⟩:=r1.get' hi
  rw [Den.fn _ _ _ hx.top hx2.top] at hb
  exact jP (List.mem_of_getElem? hx1) hx2 hb
 refine call_meets F.slot_list_count ⟨_,l1,rfl⟩ F.entry_list_count (F.args_list_count_2 _ _) (PySem.SeqAt.list_countAt p its n0 none #[] u (hitV s.heap Ex e xs)) ⟨l1,fun y hy=> ?_,?_⟩
 ·obtain ⟨x,b,hx,hb⟩:=k1 y (Array.mem_toList_iff.mpr hy)
  rw [hit y x b (Array.mem_toList_iff.mpr hy) hx hb]
  exact ee 4 _ (Nat.lt_of_succ_lt hu1) _ _ _ _ _ _ _ hx.top h hb
 ·rw [k2 _ hit]
  exact P.int (congrArg some e1) _ _
theorem oN {x:Str} {t:Tok} {e r:D} {u:Value} {Q:Value→Shared→Prop} (h:DenT s.heap Ex e u) (hd:joinD x e=some r) (P:Ps s Ex r false Q):wpAny (model prog w) A (call (.builtin "str.join") [.str x t,u]) Q E s:=by
 refine ae hd fun ys hy hd=>ae hd fun ts ht hd=>gd hd fun hs hd=> ?_
 refine eK hy h fun p its l1 r1=> ?_
 obtain ⟨l,h1,h2⟩:=j0 ht r1
 exact SC.join (l:=l) (by rw [← h1];exact PL.isList l1) h2 (xa (aM hs)) fun t' k=>P.str hd _ _
theorem lZ {f:MF} {d:D} {ds:List D} {v:Value} {vs:List Value} {r:D} {Q:Value→Shared→Prop} (hu:A.units+6<cLine) (lt:∀ b,Ex b→Al s.heap b) (hv:DenT s.heap Ex d v) (h:DenRL s.heap Ex true ds vs) (hd:methD f d ds=some r) (P:Ps s Ex r (freshM f) Q) :
  wpAny (model prog w) A (call (.builtin (mId f)) (v :: vs)) Q E s:=by
 cases f with
 |split=>exact lJ (P:=fun v vs=>wpAny (model prog w) A (call (.builtin "str.split") (v :: vs)) Q E s) hd hv h fun x y t u e=>gd e fun hs e=>aa hs fun h1 h2=>by obtain rfl:=sm e;exact lT lt (aM h1) (de h2) P
 |startswith=>exact lJ (P:=fun v vs=>wpAny (model prog w) A (call (.builtin "str.startswith") (v :: vs)) Q E s) hd hv h fun x y t u e=>SC.startswith (P.here (sm e▸rfl))
 |endswith=>exact lJ (P:=fun v vs=>wpAny (model prog w) A (call (.builtin "str.endswith") (v :: vs)) Q E s) hd hv h fun x y t u e=>SC.endswith (P.here (sm e▸rfl))
 |find3 =>
  refine ae hd fun x hx hd=> ?_
  refine bX hx hv fun t0=> ?_
  refine q7 (P:=fun vs=>wpAny (model prog w) A (call (.builtin "str.find") (.str x t0 :: vs)) Q E s) hd h fun y lo hi t u v e=>aE e fun i hf e=>gd hf fun hs hf=> ?_
  refine aa hs fun hs h4=>aa hs fun hs h3=> ?_
  refine call_gives F.slot_str_find (typeIs_str _ _ _) F.entry_str_find (F.args_str_find_4 _ _ _ _) (lX _ _ _ _ _ _ _ _) ?_
  rw [fe (de h3),fe (de h4)]
  exact P.int (congrArg some ((congrArg D.int (sm hf)).trans e)) _ _
 |lower =>
  refine ae hd fun x hx hd=>gd hd fun hs hd=>aa hs fun h1 h2=> ?_
  rw [l7 h1 h]
  refine bX hx hv fun t0=> ?_
  exact SC.lower (fit_lower (Nat.le_trans (aM h2) (by decide))) (P.str hd _ _)
 |join =>
  refine ae hd fun x hx hd=>ae hd fun e he hd=> ?_
  refine bx he h fun u hu=> ?_
  refine bX hx hv fun t0=> ?_
  exact oN hu hd P
 |count =>
  refine ae hd fun xs hx hd=>ae hd fun e he hd=>gd hd fun _ hd=> ?_
  refine bx he h fun u hu'=> ?_
  exact lY hu hv hx hu' hd P
 |bitlen =>
  refine ae hd fun x hx hd=>gd hd fun h1 hd=> ?_
  rw [l7 h1 h]
  refine aQ hx hv fun t0=> ?_
  exact PyProof.Rows.call_int_bit_length (P.int hd _ _)
end
end Mine
set_option genSizeOf false
set_option genInjectivity false
namespace Mine
variable [Tabs] [Frk]
noncomputable def ScEq (env:Env) (sc:Scope):Prop:=∀ x,env.scope.names.lookup x=sc.names.lookup x∨(sc.names.lookup x=some .free∧env.scope.names.lookup x=some .cell)
theorem ScEq.seen {env:Env} {sc:Scope} {x:Str} (h:ScEq env sc) (hs:seen sc x=true):Mine.seen env.scope x=true:=by
 unfold Mine.seen at hs ⊢
 rcases h x with h |⟨h1,h2⟩
 ·rw [h];exact hs
 ·rw [h2];rfl
theorem ScEq.glob {env:Env} {sc:Scope} {x:Str} (h:ScEq env sc) (hs:isGlob sc x=true):env.kindOf x=some .globalImplicit:=by
 have hs:(sc.names.lookup x==_)=true:=hs
 rcases h x with h |⟨h1,h2⟩
 ·exact h.trans (beq_iff_eq.mp hs)
 ·rw [h1] at hs;exact absurd hs (by decide)
noncomputable def bnames:List Str:=["len","ord","chr","sum","max","min","hex","divmod","range","enumerate","reversed","list","next","iter","StopIteration"]
structure Base (prog:Program) (w:World) (c:Cx) (G:af) (hB:Heap) (mg mb:Str→Option Value):Prop where
 ns:hB.Ns mainGlobals mg
 bn:hB.Ns builtinsNs mb
 blt:∀ x,x∈bnames→mg x=none∧mb x=bootBuiltins x
 cst:∀ x d,x∈c.consts→G.const x=some d→d.scalar=true∧∃ v,mg x=some v∧Den hB (fun _=>False) d v
 iset:∀ x l,x∈c.sets→G.iset x=some l→∃ a,mg x=some (.ref a)∧∀ (A:Around) (E:Value→Shared→Prop) (s:Shared) (i:Int) (t:Tok) (Q:Value→Shared→Prop),KB hB s.heap→A.units+12<cLine→(∀ tk,Q (.bool (l.contains i)) {s with toks:=tk}) →
  wpAny (model prog w) A (compareOp .In (.int i t) (.ref a)) Q E s
 idict:∀ x l,x∈c.dicts→G.idict x=some l→∃ a,mg x=some (.ref a)∧∀ (s:Shared),KB hB s.heap→s.TypeIs (.ref a) "dict"∧(∃ ob,s.heap.get? a=some ob∧ob.dict=none) ∧
  ∀ (A:Around) (E:Value→Shared→Prop) (i:Int) (t:Tok) (Q:Value→Shared→Prop) (dv:Value),A.units+12<cLine→(∀ tk,match l.lookup i with |some v=>∀ t',Q (.str v t') {s with toks:=tk} |none=>Q dv {s with toks:=tk}) →
   wpAny (model prog w) A (call (.builtin "dict.get") [.ref a,.int i t,dv]) Q E s∧(dv = .none→wpAny (model prog w) A (call (.builtin "dict.get") [.ref a,.int i t]) Q E s)
 ndb:∀ x,x∈c.sets∨x∈c.dicts→(x==("__debug__":Str))=false
 fn:∀ x,x∈c.fns→∃ a o fd,mg x=some (.ref a)∧hB.get? a=some o∧o.data = .func fd
noncomputable def Ctr (prog:Program) (w:World) (hB:Heap) (n:Nat) (F:FEnv) (f:Str) (a:Addr):Prop :=
 ∀ (A:Around) (E:Value→Shared→Prop) (s:Shared) (X:Addr→Prop) (ds:List D) (vs:List Value) (r:D) (Q:Value→Shared→Prop),Ar n A→KB hB s.heap→(∀ b,X b→Al s.heap b)→DenL s.heap X ds vs→F f ds=some r →
  (∀ v h' tk,Kp s.heap h'→Den h' X r v→Q v {s with heap:=h',toks:=tk})→wpAny (model prog w) A (call (.ref a) vs) Q E s
noncomputable def Pe (s:Shared) (Ex:Addr→Prop) (b:Bool) (d:D) (fr:Bool) (Q:Value→Shared→Prop):Prop :=
 ∀ v h' tk,Kp s.heap h'→DenR h' Ex b d v→(fr=true→FrV s.heap h' Ex d v)→Q v {s with heap:=h',toks:=tk}
theorem FrV.from {h h₁ h':Heap} {Ex:Addr→Prop} {d:D} {v:Value} (k:Kp h h₁) (e:FrV h₁ h' Ex d v):FrV h h' Ex d v:=by
 obtain ⟨a,items,ds,e1,e2,r⟩:=e
 exact ⟨a,items,ds,e1,k.none e2,r⟩
theorem Pe.from {s:Shared} {Ex:Addr→Prop} {b:Bool} {d:D} {fr:Bool} {Q:Value→Shared→Prop} (P:Pe s Ex b d fr Q) {h₁:Heap} {tk:Nat} (k:Kp s.heap h₁):Ps {s with heap:=h₁,toks:=tk} Ex d fr Q :=
 fun v h' tk' k' hd hf=>P v h' tk' (k.trans k') (hd.toR) fun e=>(hf e).from k
structure Wd where
 P:Program
 w:World
 c:Cx
 G:af
 F:FEnv
 hB:Heap
 n:Nat
noncomputable abbrev Wd.Ok (X:Wd) (mg mb:Str→Option Value):Prop:=Base X.P X.w X.c X.G X.hB mg mb
noncomputable def Wd.Ct (X:Wd) (mg:Str→Option Value):Prop:=∀ f a,f∈X.c.fns→mg f=some (.ref a)→Ctr X.P X.w X.hB X.n X.F f a
structure At (X:Wd) (sc:Scope) (σ:MEnv) where
 A:Around
 s:Shared
 env:Env
 Ex:Addr→Prop
 ow:Nat→Addr
 hsc:ScEq env sc
 R:RR env X.c.tbl Ex ow σ s.heap
 k:KB X.hB s.heap
 ar:Ar X.n A
noncomputable abbrev At.to {X:Wd} {sc:Scope} {σ:MEnv} (p:At X sc σ) {h:Heap} (k:Kp p.s.heap h) (tk:Nat):At X sc σ where
 A:=p.A
 s:={p.s with heap:=h,toks:=tk}
 env:=p.env
 Ex:=p.Ex
 ow:=p.ow
 hsc:=p.hsc
 R:=p.R.keep k
 k:=p.k.trans k
 ar:=p.ar
section
variable (X:Wd) (sc:Scope)
noncomputable def VS (t:T) (e:Expr):Prop:=∀ (σ:MEnv) (p:At X sc σ) (E:Value→Shared→Prop) (b:Bool) (d:D) (Q:Value→Shared→Prop),ev X.G X.F σ b t=some d →
 Pe p.s p.Ex b d (freshT t d) Q→wpAny (model X.P X.w) p.A (eval e p.env) Q E p.s
noncomputable def IsS (t:T) (e:Expr):Prop:=∀ (σ:MEnv) (p:At X sc σ) (E:Value→Shared→Prop) (d:D) (r:Bool) (Q:Bool→Shared→Prop),ev X.G X.F σ true t=some d→truthy d=some r →
 (∀ h' tk,Kp p.s.heap h'→Q r {p.s with heap:=h',toks:=tk})→wpAny (model X.P X.w) p.A (isTrue e p.env (eval e p.env)) Q E p.s
noncomputable def AS (t:T) (es:List Expr):Prop :=
 (∀ env pos,(backTo pos (starEach es env)).any (·.1)=false∧(backTo pos (starEach es env)).all (fun x=> !x.1)=true∧(es=[]∧t = .nil∧backTo pos (starEach es env)=[]∨∃ x r,backTo pos (starEach es env)=(false,x) :: r)) ∧
 ∀ (σ:MEnv) (p:At X sc σ) (E:Value→Shared→Prop) (b:Bool) (ds:List D) (pos:Pos) (Q:List Value→Shared→Prop),ev X.G X.F σ b t=some (.tup ds) →
  (∀ vs h' tk,Kp p.s.heap h'→DenRL h' p.Ex b ds vs→Q vs {p.s with heap:=h',toks:=tk})→wpAny (model X.P X.w) p.A (spliced (backTo pos (starEach es p.env))) Q E p.s
end
theorem FrV.keep {h h₁ h':Heap} {Ex:Addr→Prop} {d:D} {v:Value} (k:Kp h₁ h') (e:FrV h h₁ Ex d v):FrV h h' Ex d v:=by
 obtain ⟨a,items,ds,e1,e2,e3,l,r⟩:=e
 exact ⟨a,items,ds,e1,e2,e3,PL.at' l (k.at a),r.keep k⟩
theorem Ar.cl {n:Nat} {A:Around} (h:Ar n A):A.units+12<cLine :=
 Nat.lt_of_le_of_lt (Nat.add_le_add_right (Nat.le_trans (Nat.le_add_right _ _) h.units) 12) (by decide)
theorem Ar.cl6 {n:Nat} {A:Around} (h:Ar n A):A.units+6<cLine:=Nat.lt_of_le_of_lt (Nat.add_le_add_left (by decide) _) h.cl
section
variable {X:Wd} {sc:Scope}
theorem At.here {σ:MEnv} {p:At X sc σ} {b:Bool} {d:D} {Q:Value→Shared→Prop} {v:Value} (P:Pe p.s p.Ex b d false Q) (hd:Den p.s.heap p.Ex d v) (tk:Nat):Q v {p.s with toks:=tk} :=
 P v p.s.heap tk (Kp.refl _) hd.toR fun e=>nomatch e
theorem yg {x:Str} {i:Nat} {pos:Pos} (hs:seen sc x=true) (hi:X.c.tbl[i]? = some x) (hd:(x==("__debug__":Str))=false) (hcd:(x==("__classdict__":Str))=false):VS X sc (.var i) (.Name x pos):=fun σ p E b d Q h P=>by
 refine ae h fun q hg h=>fb h fun hx h=> ?_
 refine tI p.R (p.hsc.seen hs) hi hg hd hcd fun v hv=>P v p.s.heap p.s.toks (Kp.refl _) ?_ (fun e=>nomatch e)
 rw [← sm h]
 cases b with
 |true=>exact hv.top
 |false =>
  rw [Bool.not_false,Bool.and_true,Bool.not_eq_true] at hx
  rw [hx] at hv
  exact hv
theorem vY {x:Str} {pos:Pos} {mg mb:Str→Option Value} (B:X.Ok mg mb) (hs:isGlob sc x=true) (hi:x∈X.c.consts) (hd:(x==("__debug__":Str))=false):VS X sc (.glob x) (.Name x pos):=fun σ p E b d Q h P=>by
 obtain ⟨h1,v,h2,h3⟩:=B.cst x d hi h
 exact PySem.Calls.Name_function_global p.R.ok.kind (p.hsc.glob hs) (PySem.Calls.loadGlobal_global (by rw [p.R.ok.glob];exact p.k.ns B.ns) h2 (At.here P (h3.scal h1) _)) hd
theorem yc {k:D} {kd:Nat} {pos:Pos}:VS X sc (.cst k) (.Constant (constE k) kd pos):=fun σ p E b d Q h P=>by
 refine gd h fun hs h=> ?_
 obtain rfl:=sm h
 cases k with
 |none=>exact wpAny_Constant_none (At.here P rfl _)
 |bool _=>exact wpAny_Constant_bool (At.here P rfl _)
 |int _=>exact wpAny_Constant_int (At.here P ⟨_,rfl⟩ _)
 |str _=>exact wpAny_Constant_str (At.here P ⟨_,rfl⟩ _)
 |list _=>exact nomatch hs
 |tup _=>exact nomatch hs
theorem yx {op:Operator} {ta tb:T} {a b:Expr} {pos:Pos} (ha:VS X sc ta a) (hb:VS X sc tb b):VS X sc (.bin op ta tb) (.BinOp a op b pos):=fun σ p E bb d Q h P=>by
 refine ae h fun x hx h=>ae h fun y hy h=> ?_
 refine wpAny_BinOp (ha σ p E true x _ hx fun va h1 tk1 k1 d1 _=>hb σ (p.to k1 tk1) E true y _ hy fun vb h2 tk2 k2 d2 _=> ?_)
 exact eH (p.R.keep (k1.trans k2)).lt (d1.keep k2).top d2.top h (P.from (k1.trans k2))
theorem ux {op:UnaryOp} {ta:T} {a:Expr} {pos:Pos} (ha:VS X sc ta a):VS X sc (.un op ta) (.UnaryOp op a pos):=fun σ p E bb d Q h P=>by
 refine ae h fun x hx h=> ?_
 exact wpAny_UnaryOp (ha σ p E true x _ hx fun va h1 tk1 k1 d1 _=>ry d1.top h (P.from k1))
theorem m6 {op:CmpOp} {ta tb:T} {a b:Expr} (ha:VS X sc ta a) (hb:VS X sc tb b) {σ:MEnv} (p:At X sc σ) {E:Value→Shared→Prop} {x y:D} {r:Bool} {Q:Value→Shared→Prop} (hx:ev X.G X.F σ true ta=some x) (hy:ev X.G X.F σ true tb=some y) (hr:cmpD op x y=some r)
  (P:∀ h' tk,Kp p.s.heap h'→Q (.bool r) {p.s with heap:=h',toks:=tk}):wpAny (model X.P X.w) p.A (eval a p.env) (fun va s₁=>wpAny (model X.P X.w) p.A (eval b p.env) (fun vb s₂=>wpAny (model X.P X.w) p.A (compareOp op va vb) Q E s₂) E s₁) E p.s :=
 ha σ p E true x _ hx fun va h1 tk1 k1 d1 _=>hb σ (p.to k1 tk1) E true y _ hy fun vb h2 tk2 k2 d2 _=>cj p.ar.cl6 (d1.keep k2).top d2.top hr (P h2 tk2 (k1.trans k2))
theorem zl {op:CmpOp} {ta tb:T} {a b:Expr} {pos:Pos} (ha:VS X sc ta a) (hb:VS X sc tb b) (hm:behindInMarks op b=false):VS X sc (.cmp op ta tb) (.Compare a [op] [b] pos):=fun σ p E bb d Q h P=>by
 refine ae h fun x hx h=>ae h fun y hy h=>aE h fun r hr e=> ?_
 exact wpAny_Compare1 (m6 ha hb p hx hy hr fun h' tk k=>P _ h' tk k (Den.toR (e▸rfl)) fun e=>nomatch e) hm
theorem xH {op:CmpOp} {ta tb:T} {a b:Expr} {pos:Pos} (ha:VS X sc ta a) (hb:VS X sc tb b) (hm:behindInMarks op b=false):IsS X sc (.cmp op ta tb) (.Compare a [op] [b] pos):=fun σ p E d r0 Q h ht P=>by
 refine ae h fun x hx h=>ae h fun y hy h=>aE h fun r hr e=> ?_
 obtain rfl:r=r0:=sm ((congrArg truthy e).trans ht)
 exact wpAny_isTrue_Compare1 (m6 ha hb p hx hy hr fun h' tk k=>wpAny_truthy_bool (P h' tk k)) hm
theorem m9 {o1 o2:CmpOp} {e1 e2:Expr} {t1 t2:Sem Value} (h:behindInMarks o2 e2=false):markedEach [o1,o2] [e1,e2] [t1,t2]=[t1,t2]:=by
 show [t1,markedBehindIn o2 e2 t2]=_
 unfold markedBehindIn
 rw [h]
theorem vd {o1 o2:CmpOp} {ta tb tc:T} {a b e:Expr} {pos:Pos} (ha:VS X sc ta a) (hb:VS X sc tb b) (hc:VS X sc tc e) (hm:behindInMarks o2 e=false) :
  VS X sc (.cmp2 o1 o2 ta tb tc) (.Compare a [o1,o2] [b,e] pos):=fun σ p E bb d Q h P=>by
 refine ae h fun x hx h=>ae h fun y hy h=>ae h fun r hr h=> ?_
 rw [arm_eval_Compare,arm_evalEach_cons,arm_evalEach_cons,arm_evalEach_nil,m9 hm]
 refine wpAny_bind (ha σ p E true x _ hx fun va h1 tk1 k1 d1 _=> ?_)
 refine wpAny_bind (wpAny_holding (hb σ (p.to k1 tk1) E true y _ hy fun vb h2 tk2 k2 d2 _=> ?_))
 refine wpAny_bind (wpAny_standAt (wpAny_bind (wpAny_holding (cj p.ar.cl6 (d1.keep k2).top d2.top hr ?_))))
 refine wpAny_bind (wpAny_release (wpAny_bind (wpAny_holding (wpAny_truthy_bool ?_))))
 cases r with
 |true =>
  rw [if_pos rfl]
  refine ae h fun z hz h=>aE h fun r hr2 e=> ?_
  refine wpAny_bind (wpAny_holding (hc σ (p.to (k1.trans k2) tk2) E true z _ hz fun vc h3 tk3 k3 d3 _=> ?_))
  refine wpAny_bind (wpAny_standAt (wpAny_operateT ?_))
  exact cj p.ar.cl6 (d2.keep k3).top d3.top hr2 (P _ _ _ ((k1.trans k2).trans k3) (Den.toR (e▸rfl)) fun e=>nomatch e)
 |false =>
  rw [if_neg (by decide)]
  exact wpAny_pure (P _ _ _ (k1.trans k2) (Den.toR (sm h▸rfl)) fun e=>nomatch e)
theorem xz {o1 o2:CmpOp} {ta tb tc:T} {a b e:Expr} {pos:Pos} (ha:VS X sc ta a) (hb:VS X sc tb b) (hc:VS X sc tc e) (hm:behindInMarks o2 e=false) :
  IsS X sc (.cmp2 o1 o2 ta tb tc) (.Compare a [o1,o2] [b,e] pos):=fun σ p E d r0 Q h ht P=>by
 refine ae h fun x hx h=>ae h fun y hy h=>ae h fun r hr h=> ?_
 rw [arm_isTrue_Compare,arm_evalEach_cons,arm_evalEach_cons,arm_evalEach_nil,m9 hm]
 refine wpAny_bind (ha σ p E true x _ hx fun va h1 tk1 k1 d1 _=> ?_)
 refine wpAny_bind (wpAny_holding (hb σ (p.to k1 tk1) E true y _ hy fun vb h2 tk2 k2 d2 _=> ?_))
 refine wpAny_bind (wpAny_standAt (wpAny_bind (wpAny_holding (cj p.ar.cl6 (d1.keep k2).top d2.top hr ?_))))
 refine wpAny_bind (wpAny_release (wpAny_bind (wpAny_holding (wpAny_truthy_bool ?_))))
 cases r with
 |true =>
  rw [if_pos rfl]
  refine ae h fun z hz h=>aE h fun r hr2 e=> ?_
  obtain rfl:r=r0:=sm ((congrArg truthy e).trans ht)
  refine wpAny_bind (wpAny_holding (hc σ (p.to (k1.trans k2) tk2) E true z _ hz fun vc h3 tk3 k3 d3 _=> ?_))
  refine wpAny_bind (wpAny_standAt (wpAny_bind (wpAny_operateT ?_)))
  exact cj p.ar.cl6 (d2.keep k3).top d3.top hr2 (wpAny_holding (wpAny_truthy_bool (P _ _ ((k1.trans k2).trans k3))))
 |false =>
  rw [if_neg (by decide)]
  obtain rfl:false=r0:=sm ((congrArg truthy (sm h)).trans ht)
  exact wpAny_pure (P _ _ (k1.trans k2))
end
end Mine
set_option genSizeOf false
set_option genInjectivity false
namespace Mine
variable [Tabs] [Frk]
section
variable {X:Wd} {sc:Scope}
theorem gC {t:T} {e:Expr} (h:VS X sc t e) (he:∀ env whole,isTrue e env whole=(do let v ← whole;standAt e.pos;holding [v] (PySem.truthy v))):IsS X sc t e:=fun σ p E d r Q hd ht P =>
 wpAny_isTrue_value (h σ p E true d _ hd fun v h1 tk1 k1 d1 _=>dc d1.top ht fun tk=>P h1 tk k1) (he _ _)
theorem yR {ta:T} {a:Expr} {pos:Pos} (ha:IsS X sc ta a):IsS X sc (.un .Not ta) (.UnaryOp .Not a pos):=fun σ p E d r Q h ht P=>by
 refine ae h fun x hx h=>aE h fun b hb e=> ?_
 obtain rfl:(!b)=r:=sm ((congrArg truthy e).trans ht)
 exact wpAny_isTrue_Not (ha σ p E x b _ hx hb P)
theorem zf {tc ta tb:T} {e a b:Expr} {pos:Pos} (hc:IsS X sc tc e) (ha:VS X sc ta a) (hb:VS X sc tb b):VS X sc (.ite tc ta tb) (.IfExp e a b pos):=fun σ p E bb d Q h P=>by
 refine ae h fun x hx h=>ae h fun r ht h=> ?_
 refine wpAny_IfExp (hc σ p E x r _ hx ht fun h1 tk1 k1=> ?_)
 cases r with
 |true =>
  rw [if_pos rfl]
  exact ha σ (p.to k1 tk1) E bb d Q h fun v h' tk k' hd _=>P v h' tk (k1.trans k') hd fun e=>nomatch e
 |false =>
  rw [if_neg (by decide)]
  exact hb σ (p.to k1 tk1) E bb d Q h fun v h' tk k' hd _=>P v h' tk (k1.trans k') hd fun e=>nomatch e
theorem yp {tc ta tb:T} {e a b:Expr} {pos:Pos} (hc:IsS X sc tc e) (ha:IsS X sc ta a) (hb:IsS X sc tb b):IsS X sc (.ite tc ta tb) (.IfExp e a b pos):=fun σ p E d r0 Q h hr P=>by
 refine ae h fun x hx h=>ae h fun r ht h=> ?_
 rw [arm_isTrue_IfExp]
 refine wpAny_bind (hc σ p E x r _ hx ht fun h1 tk1 k1=> ?_)
 cases r with
 |true =>
  rw [if_pos rfl]
  exact ha σ (p.to k1 tk1) E d r0 Q h hr fun h' tk k'=>P h' tk (k1.trans k')
 |false =>
  rw [if_neg (by decide)]
  exact hb σ (p.to k1 tk1) E d r0 Q h hr fun h' tk k'=>P h' tk (k1.trans k')
noncomputable def BS (X:Wd) (sc:Scope) (t:T) (op:BoolOp) (es:List Expr):Prop :=
 (∀ (σ:MEnv) (p:At X sc σ) (E:Value→Shared→Prop) (b:Bool) (d:D) (pos:Pos) (Q:Value→Shared→Prop),ev X.G X.F σ b t=some d→Pe p.s p.Ex b d false Q→wpAny (model X.P X.w) p.A (boolOp pos op (evalEach es p.env)) Q E p.s) ∧
 (∀ (σ:MEnv) (p:At X sc σ) (E:Value→Shared→Prop) (d:D) (r:Bool) (Q:Bool→Shared→Prop),ev X.G X.F σ true t=some d→truthy d=some r→(∀ h' tk,Kp p.s.heap h'→Q r {p.s with heap:=h',toks:=tk})→wpAny (model X.P X.w) p.A (allTrue op es p.env) Q E p.s)
theorem yq {t:T} {e:Expr} {op:BoolOp} (h:VS X sc t e) (hi:IsS X sc t e):BS X sc t op [e]:=by
 refine ⟨fun σ p E b d pos Q hd P=> ?_,fun σ p E d r Q hd ht P=> ?_⟩
 ·rw [arm_evalEach_cons,arm_evalEach_nil]
  exact h σ p E b d Q hd fun v h' tk k' hd _=>P v h' tk k' hd fun e=>nomatch e
 ·rw [arm_allTrue_cons]
  refine wpAny_bind (hi σ p E d r _ hd ht fun h1 tk1 k1=> ?_)
  have:=P h1 tk1 k1
  cases op<;>cases r<;>exact wpAny_pure this
theorem vQ {ta tr:T} {a:Expr} {r1:Expr} {rest:List Expr} {op:BoolOp} (h:VS X sc ta a) (hi:IsS X sc ta a) (hr:BS X sc tr op (r1 :: rest)):BS X sc (.bop op ta tr) op (a :: r1 :: rest):=by
 refine ⟨fun σ p E b d pos Q hd P=> ?_,fun σ p E d r0 Q hd ht0 P=> ?_⟩
 ·refine ae hd fun x hx hd=>ae hd fun r ht hd=> ?_
  rw [arm_evalEach_cons,arm_evalEach_cons]
  refine wpAny_bind (h σ p E b x _ hx fun v h1 tk1 k1 d1 _=> ?_)
  refine wpAny_bind (wpAny_standAt (wpAny_bind (wpAny_holding (dc d1.top ht fun tk=> ?_))))
  have stop:=fun e:some x=some d=>P v h1 tk k1 (sm e▸d1) fun e=>nomatch e
  have go:=fun hd=>hr.1 σ (p.to k1 tk) E b d pos Q hd fun v h' tk k' hd _=>P v h' tk (k1.trans k') hd fun e=>nomatch e
  cases op<;>cases r<;>first |exact wpAny_pure (stop hd) |exact go hd
 ·refine ae hd fun x hx hd=>ae hd fun r ht hd=> ?_
  rw [arm_allTrue_cons]
  refine wpAny_bind (hi σ p E x r _ hx ht fun h1 tk1 k1=> ?_)
  have stop:=fun e:some x=some d=>(show r=r0 from sm (ht.symm.trans ((congrArg truthy (sm e)).trans ht0)))▸P h1 tk1 k1
  have go:=fun hd=>hr.2 σ (p.to k1 tk1) E d r0 Q hd ht0 fun h' tk k'=>P h' tk (k1.trans k')
  cases op<;>cases r<;>first |exact wpAny_pure (stop hd) |exact go hd
theorem w8 {op:BoolOp} {ta tr:T} {es:List Expr} {pos:Pos} (h:BS X sc (.bop op ta tr) op es):VS X sc (.bop op ta tr) (.BoolOp op es pos):=fun σ p E bb d Q hd P=>by
 rw [arm_eval_BoolOp]
 exact h.1 σ p E bb d pos Q hd P
theorem xr {t:T} {op:BoolOp} {es:List Expr} {pos:Pos} (h:BS X sc t op es):IsS X sc t (.BoolOp op es pos):=fun σ p E d r Q hd ht P =>
 wpAny_isTrue_BoolOp (h.2 σ p E d r Q hd ht P)
theorem zd:AS X sc .nil [] :=
 ⟨fun env pos=>⟨rfl,rfl,.inl ⟨rfl,rfl,rfl⟩⟩,fun σ p E b ds pos Q h P=>PySem.Calls.spliced_nil (P [] p.s.heap p.s.toks (Kp.refl _) (by rw [← s9 (sm h)];rfl))⟩
theorem vf {te tr:T} {e:Expr} {r:List Expr} (hst:∀ rest env,starEach (e :: rest) env=(false,eval e env) :: starEach rest env) (he:VS X sc te e) (hr:AS X sc tr r):AS X sc (.cons te tr) (e :: r):=by
 have e1:∀ env pos,backTo pos (starEach (e :: r) env)=(false,eval e env) :: backTo pos (starEach r env):=fun env pos=>by rw [hst];rfl
 refine ⟨fun env pos=> ?_,fun σ p E b ds pos Q h P=> ?_⟩
 ·obtain ⟨h1,h2,_⟩:=hr.1 env pos
  rw [e1]
  exact ⟨by rw [List.any_cons,h1];rfl,by rw [List.all_cons,h2];rfl,.inr ⟨_,_,rfl⟩⟩
 ·refine ae h fun x hx h=>ae h fun y hy h=>aE h fun xs hxs e=> ?_
  rw [e1]
  refine PySem.Calls.spliced_cons (he σ p E b x _ hx fun v h1 tk1 k1 d1 f1=> ?_)
  refine hr.2 σ (p.to k1 tk1) E b xs pos _ (fq (P:=fun y=>ev X.G X.F σ b tr=some y→_) hxs id hy) fun vs h2 tk2 k2 d2=> ?_
  exact P (v :: vs) h2 tk2 (k1.trans k2) (s9 e▸⟨v,vs,rfl,d1.keep k2,d2⟩)
theorem fC {α:Type} {t:T} {σ:MEnv} {b:Bool} {f:List D→Option α} {r:α} {P:Prop} {G:af} {F:FEnv} (h:((ev G F σ b t).bind fun y=>y.tup?.bind f)=some r) (k:∀ ds,ev G F σ b t=some (.tup ds)→f ds=some r→P):P :=
 ae h fun y hy h=>ae h fun ds hds h=>fq (P:=fun y=>ev G F σ b t=some y→P) hds (fun hy=>k ds hy h) hy
theorem wy {t:T} {es:List Expr} {pos:Pos} (h:AS X sc t es):VS X sc (.list t) (.List es pos):=fun σ p E b d Q hd P=>by
 refine fC hd fun xs hxs hd=>gd hd fun hs hd=> ?_
 obtain rfl:=sm hd
 refine wpAny_List (h.2 σ p E false xs pos _ hxs fun vs h1 tk1 k1 d1=> ?_)
 have dl:=d1.denL
 exact ⟨dl.length▸bZ (aM hs),Ps.newList (s:={p.s with heap:=h1,toks:=tk1}) (P.from k1) (p.R.keep k1).lt dl tk1⟩
theorem pO {t:T} {es:List Expr} {kk:Nat} {pos:Pos} (h:AS X sc t es):VS X sc (.tup t) (.Tuple es kk pos):=fun σ p E b d Q hd P=>by
 refine fC hd fun xs hxs hd=>gd hd fun hs hd=> ?_
 obtain rfl:=sm hd
 refine wpAny_Tuple (h.2 σ p E false xs pos _ hxs fun vs h1 tk1 k1 d1=> ?_)
 have dl:=d1.denL
 have k2:=Kp.push h1 {cls:= .type "tuple",data:= .seq vs.toArray}
 exact ⟨dl.length▸bZ (aM hs),P _ _ _ (k1.trans k2) (Den.toR ⟨_,_,rfl,fun e=>((p.R.keep k1).lt _ e).ne (aJ _) rfl,⟨0,Heap.get?_push_size _ rfl⟩,dl.keep k2⟩) fun e=>nomatch e⟩
noncomputable def Subs (s:Shared) (v:Value):Prop:=∃ T id,s.TypeIs v T∧typeLookup (.type T) "__getitem__"=pure (some (.builtin id))
theorem lL {a:D} {va:Value} {s:Shared} {Ex:Addr→Prop} (ha:DenT s.heap Ex a va) (h:(match a with | .list _=>true | .tup _=>true | .str _=>true |_=>false)=true):Subs s va:=by
 cases a with
 |list xs=>obtain ⟨p,its,e,l,r⟩:=ha;rw [e];exact ⟨_,_,(PL.isList l).typeIs,slot_list_getitem.lookup⟩
 |tup xs=>obtain ⟨p,its,e,_,l,r⟩:=ha;rw [e];exact ⟨_,_,(TupAt.isTup l).typeIs,F.slot_tuple_getitem.lookup⟩
 |str x=>obtain ⟨t,e⟩:=ha;rw [e];exact ⟨_,_,typeIs_str _ _ _,F.slot_str_getitem.lookup⟩
 |_=>exact nomatch h
theorem tW {a i d:D} {va:Value} {s:Shared} {Ex:Addr→Prop} (ha:DenT s.heap Ex a va) (h:idxD a i=some d):Subs s va:=lL ha (by
 cases a with
 |list _=>rfl
 |tup _=>rfl
 |str _=>rfl
 |_=>exact ah h)
theorem sL {a l u st d:D} {va:Value} {s:Shared} {Ex:Addr→Prop} (ha:DenT s.heap Ex a va) (h:sliD a l u st=some d):Subs s va:=lL ha (ae h fun _ _ h=>ae h fun _ _ h=>ae h fun _ _ h=>fb h fun _ h=>by
 cases a with
 |list _=>rfl
 |tup _=>rfl
 |str _=>rfl
 |_=>exact ah h)
theorem kg {A:Around} {E:Value→Shared→Prop} {s:Shared} {value slice:Expr} {o i:Value} {ops:List Value} {Q:Value→Shared→Prop} (hT:Subs s o) (hs:subscripted slice false o i=operate ops (getItem o i)) (h:wpAny (model X.P X.w) A (getItem o i) Q E s) :
  wpAny (model X.P X.w) A (subscriptTail value slice o i) Q E s:=by
 obtain ⟨T,id,hT,hl⟩:=hT
 unfold subscriptTail
 refine wpAny_bind ?_
 rw [getitemInPython_of_ne hT.not_modules]
 refine wpAny_bind (wpAny_specialOf hT hl ?_)
 have fin:wpAny (model X.P X.w) A (subscripted slice false o i) (fun r s₃=>wpAny (model X.P X.w) A (letTemporaryGo value o r >>= fun _=>pure r) Q E s₃) E s:=by
  rw [hs]
  exact wpAny_operating (wpAny_mono h (fun r s₃ h₃=>wpAny_bind (wpAny_letTemporaryGo (wpAny_pure h₃))) fun _ _ x=>x)
 first
  |exact wpAny_pure (wpAny_bind fin)
  |exact wpAny_bind (wpAny_pure (wpAny_bind fin))
  |exact wpAny_bind fin
theorem xN {i:Expr} (h:isSliceE i=false) (o v:Value):subscripted i false o v=operate [o,v] (getItem o v):=by
 cases i<;>first |rfl |exact nomatch h
theorem yF {ta ti:T} {a i:Expr} {pos:Pos} (ha:VS X sc ta a) (hi:VS X sc ti i) (hs:isSliceE i=false):VS X sc (.idx ta ti) (.Subscript a i pos):=fun σ p E b d Q hd P=>by
 refine ae hd fun x hx hd=>ae hd fun y hy hd=> ?_
 refine Subscript_ (ha σ p E true x _ hx fun va h1 tk1 k1 d1 _=>hi σ (p.to k1 tk1) E true y _ hy fun vi h2 tk2 k2 d2 _=> ?_)
 have d1':=(d1.keep k2).top
 exact kg (tW (s:={p.s with heap:=h2,toks:=tk2}) d1' hd) (xN hs _ _) (ny d1' d2.top hd (P.from (k1.trans k2)))
noncomputable def OS (X:Wd) (sc:Scope) (t:T) (e:Option Expr):Prop:=∀ (σ:MEnv) (p:At X sc σ) (E:Value→Shared→Prop) (d:D) (Q:Value→Shared→Prop),ev X.G X.F σ true t=some d→Pe p.s p.Ex true d false Q→wpAny (model X.P X.w) p.A (evalPart e p.env) Q E p.s
theorem wL:OS X sc (.cst .none) none:=fun σ p E d Q h P=>evalPart_none_step (At.here P (sm h▸rfl) _)
theorem xj {t:T} {e:Expr} (h:VS X sc t e):OS X sc t (some e):=fun σ p E d Q hd P =>
 evalPart_some_step (h σ p E true d Q hd fun v h' tk k' hd _=>P v h' tk k' hd fun e=>nomatch e)
theorem y9 {ta tl tu ts:T} {a:Expr} {l u st:Option Expr} {p0 pos:Pos} (ha:VS X sc ta a) (hl:OS X sc tl l) (hu:OS X sc tu u) (hst:OS X sc ts st) :
  VS X sc (.sli ta tl tu ts) (.Subscript a (.Slice l u st p0) pos):=fun σ p E b d Q hd P=>by
 refine ae hd fun x hx hd=>ae hd fun y hy hd=>ae hd fun z hz hd=>ae hd fun q hq hd=> ?_
 refine Subscript_ (ha σ p E true x _ hx fun va h1 tk1 k1 d1 _=>wpAny_Slice (hl σ (p.to k1 tk1) E y _ hy fun vl h2 tk2 k2 d2 _=> ?_))
 refine hu σ (p.to (k1.trans k2) tk2) E z _ hz fun vu h3 tk3 k3 d3 _=> ?_
 refine hst σ (p.to ((k1.trans k2).trans k3) tk3) E q _ hq fun vs h4 tk4 k4 d4 _=> ?_
 have k5:=Kp.push h4 {cls:= .type "slice",data:= .fields #[vl,vu,vs]}
 have k45:=k4.trans k5
 have k35:=Kp.trans k3 k45
 have kk:=k1.trans (Kp.trans k2 k35)
 have dx:=(d1.keep (Kp.trans k2 k35)).top
 refine kg (ops:=if st.isNone then [.ref h4.objs.size,va] else [va,.ref h4.objs.size]) (sL (s:={p.s with heap:=h4.push {cls:= .type "slice",data:= .fields #[vl,vu,vs]},toks:=tk4}) dx hd) ?_ ?_
 ·cases st<;>rfl
 ·exact oA (p.R.keep kk).lt dx (d2.keep k35).top (d3.keep k45).top (d4.keep k5).top ⟨_,Heap.get?_push_size _ rfl,rfl,rfl⟩ hd (P.from kk)
end
end Mine
set_option genSizeOf false
set_option genInjectivity false
namespace Mine
variable [Tabs] [Frk]
theorem zO (f:BF):bNm f∈bnames∧bootBuiltins (bNm f)=some (.builtin (bName f)):=by cases f<;>exact ⟨by decide,by decide +kernel⟩
section
variable {X:Wd} {sc:Scope} {mg mb:Str→Option Value} {σ:MEnv}
theorem bw {t:T} {es:List Expr} (h:AS X sc t es) (p:At X sc σ) {E:Value→Shared→Prop} {b:Bool} {ds:List D} {pos:Pos} {f:Value} {Q:Args→Shared→Prop} (hd:ev X.G X.F σ b t=some (.tup ds))
  (P:∀ vs h' tk,Kp p.s.heap h'→DenRL h' p.Ex b ds vs→Q ⟨vs,[]⟩ {p.s with heap:=h',toks:=tk}):wpAny (model X.P X.w) p.A (evalArgs f true (backTo pos (starEach es p.env)) []) Q E p.s:=by
 rcases (h.1 p.env pos).2.2 with ⟨he,ht,hl⟩ |⟨x,r,hl⟩
 ·rw [hl]
  subst ht
  exact PyProof.Rows.evalArgs_none (P [] p.s.heap p.s.toks (Kp.refl _) (by rw [← s9 (sm hd)];rfl))
 ·have:=h.2 σ p E b ds pos (fun vs s'=>Q ⟨vs,[]⟩ s') hd P
  rw [hl] at this ⊢
  exact PySem.Calls.evalArgs_plain this
theorem eZ (p:At X sc σ) {E:Value→Shared→Prop} {x:Str} {pos:Pos} {v:Value} {Q:Value→Shared→Prop} (B:X.Ok mg mb) (hs:isGlob sc x=true) (hd:(x==("__debug__":Str))=false) (hv:mg x=some v) (h:Q v p.s):wpAny (model X.P X.w) p.A (eval (.Name x pos) p.env) Q E p.s :=
 PySem.Calls.Name_function_global p.R.ok.kind (p.hsc.glob hs) (PySem.Calls.loadGlobal_global (by rw [p.R.ok.glob];exact p.k.ns B.ns) hv h) hd
theorem cR (p:At X sc σ) {E:Value→Shared→Prop} {x:Str} {pos:Pos} {v:Value} {Q:Value→Shared→Prop} (B:X.Ok mg mb) (hs:isGlob sc x=true) (hd:(x==("__debug__":Str))=false) (hn:x∈bnames) (hv:bootBuiltins x=some v) (h:Q v p.s):wpAny (model X.P X.w) p.A (eval (.Name x pos) p.env) Q E p.s :=
 PySem.Calls.Name_function_global p.R.ok.kind (p.hsc.glob hs) (PySem.Calls.loadGlobal_builtin (by rw [p.R.ok.glob];exact p.k.ns B.ns) (B.blt x hn).1 (by rw [p.R.ok.blt];exact p.k.ns B.bn) ((B.blt x hn).2.trans hv) h) hd
theorem jT (B:X.Ok mg mb) (CT:X.Ct mg) {t:T} {es:List Expr} {f:Str} {np pos:Pos} (h:AS X sc t es) (hs:isGlob sc f=true) (hd:(f==("__debug__":Str))=false) (hf:f∈X.c.fns) (p:At X sc σ) {E:Value→Shared→Prop} {b:Bool} {ds:List D} {r:D} {Y:Addr→Prop} {Q:Value→Shared→Prop}
  (hds:ev X.G X.F σ b t=some (.tup ds)) (hr:X.F f ds=some r) (hY:∀ b,Y b→p.Ex b) (hden:∀ h' vs,DenRL h' p.Ex b ds vs→DenL h' Y ds vs) (P:∀ v h' tk,Kp p.s.heap h'→Den h' Y r v→Q v {p.s with heap:=h',toks:=tk}):wpAny (model X.P X.w) p.A (eval (.Call (.Name f np) es [] pos) p.env) Q E p.s:=by
 obtain ⟨a,o,fd,hm,ho,hfd⟩:=B.fn f hf
 refine wpAny_Call_ofName (eZ p B hs hd hm ?_)
 refine PySem.Calls.callWith_function (o:=o) (fd:=fd) (bw h p hds fun vs h' tk k' dl=>⟨⟨(p.k.trans k').ob ho (bj hfd),hfd⟩,?_⟩)
 exact CT f a hf hm p.A E _ Y ds vs r Q p.ar (p.k.trans k') (fun b hb=>(p.R.keep k').lt b (hY b hb)) (hden h' vs dl) hr fun v h2 tk2 k2 dv=>P v h2 tk2 (k'.trans k2) dv
theorem xb {t:T} {es:List Expr} {f:Str} {np pos:Pos} (B:X.Ok mg mb) (CT:X.Ct mg) (h:AS X sc t es) (hs:isGlob sc f=true) (hd:(f==("__debug__":Str))=false) (hf:f∈X.c.fns):VS X sc (.call f t) (.Call (.Name f np) es [] pos):=fun σ p E b d Q he P=>by
 refine fC he fun ds hds he=> ?_
 exact jT B CT h hs hd hf p hds he (fun _ e=>e) (fun _ _ dl=>dl.denL) fun v h2 tk2 k2 dv=>P v h2 tk2 k2 dv.toR fun e=>nomatch e
theorem s5 {t:T} {es:List Expr} {f:Str} {np pos:Pos} (B:X.Ok mg mb) (CT:X.Ct mg) (h:AS X sc t es) (hs:isGlob sc f=true) (hd:(f==("__debug__":Str))=false) (hf:f∈X.c.fns):VS X sc (.callb f t) (.Call (.Name f np) es [] pos):=fun σ p E b d Q he P=>by
 refine fC he fun ds hds he=>ae he fun r hr he=>gd he fun hsc he=> ?_
 obtain rfl:=sm he
 exact jT B CT h hs hd hf p hds hr (fun _ e=>e.elim) (fun _ _ dl=>dl.free) fun v h2 tk2 k2 dv=>P v h2 tk2 k2 (Den.toR (dv.scal hsc)) fun e=>nomatch e
theorem x9 {t:T} {es:List Expr} {bf:BF} {np pos:Pos} (B:X.Ok mg mb) (h:AS X sc t es) (hs:isGlob sc (bNm bf)=true):VS X sc (.blt bf t) (.Call (.Name (bNm bf) np) es [] pos):=fun σ p E b d Q he P=>by
 refine fC he fun ds hds he=> ?_
 obtain ⟨h1,h2⟩:=zO bf
 refine wpAny_Call_ofName (cR p B hs (by cases bf<;>rfl) h1 h2 ?_)
 refine PySem.Calls.callWith_builtin (h.1 p.env pos).1 (bw h p hds fun vs h' tk k' dl=> ?_)
 exact oK p.ar.hd (p.R.keep k').lt dl he (P.from k')
theorem v8 {o:Expr} {m:Str} {env:Env} {x:Sem Value} (h:isCall o=false):attributeBase o m env x=x:=by
 cases o<;>first |rfl |exact nomatch h
theorem vJ {t to:T} {es:List Expr} {o:Expr} {mf:MF} {ap pos:Pos} (ho:VS X sc to o) (h:AS X sc t es) (hb:isCall o=false) (hl:(ap.endLine==pos.line)=true) (h30:es.length<30):VS X sc (.meth mf to t) (.Call (.Attribute o (mNm mf) ap) es [] pos):=fun σ p E b d Q he P=>by
 refine ae he fun x hx he=>fC he fun ds hds he=> ?_
 refine wpAny_Call_method_lateS (v8 hb) ?_ hl (ho σ p E true x _ hx fun ov h1 tk1 k1 d1 _=> ?_)
 ·rw [(h.1 p.env pos).2.1]
  exact decide_eq_true h30
 ·obtain ⟨f1,f2,f3⟩:=xG mf
  obtain ⟨t1,t2⟩:=z8 (s:={p.s with heap:=h1,toks:=tk1}) he d1.top
  refine ⟨_,_,f1,f2,f3,t1,t2,?_⟩
  refine PySem.Calls.callWith_builtin (h.1 p.env pos).1 (bw h (p.to k1 tk1) hds fun vs h' tk k' dl=> ?_)
  exact lZ p.ar.cl6 (p.R.keep (k1.trans k')).lt (d1.keep k').top dl he (P.from (k1.trans k'))
theorem kL {ta:T} {a:Expr} {x:Str} {p0:Pos} (B:X.Ok mg mb) (ha:VS X sc ta a) (hs:isGlob sc x=true) (hx:x∈X.c.sets) (p:At X sc σ) {E:Value→Shared→Prop} {d:D} {b:Bool} {Q:Value→Shared→Prop} (he:ev X.G X.F σ b (.inset x ta)=some d)
  (P:∀ r h' tk,d = .bool r→Kp p.s.heap h'→Q (.bool r) {p.s with heap:=h',toks:=tk}):wpAny (model X.P X.w) p.A (eval a p.env) (fun va s₁=>wpAny (model X.P X.w) p.A (eval (.Name x p0) p.env) (fun vb s₂=>wpAny (model X.P X.w) p.A (compareOp .In va vb) Q E s₂) E s₁) E p.s:=by
 refine ae he fun y hy he=>ae he fun i hi he=>aE he fun l hl e=> ?_
 obtain ⟨s1,hm,hin⟩:=B.iset x l hx hl
 refine ha σ p E true _ _ hy fun va h1 tk1 k1 d1 _=> ?_
 refine aQ hi d1.top fun t=> ?_
 refine eZ (p.to k1 tk1) B hs (B.ndb _ (.inl hx)) hm ?_
 exact hin p.A E _ i t Q (p.k.trans k1) p.ar.cl fun tk=>P _ h1 tk e.symm k1
theorem sU {ta:T} {a:Expr} {x:Str} {p0 pos:Pos} (B:X.Ok mg mb) (ha:VS X sc ta a) (hs:isGlob sc x=true) (hx:x∈X.c.sets) :
  VS X sc (.inset x ta) (.Compare a [.In] [.Name x p0] pos)∧IsS X sc (.inset x ta) (.Compare a [.In] [.Name x p0] pos) :=
 ⟨fun σ p E b d Q he P=>wpAny_Compare1 (kL B ha hs hx p he fun r h' tk e k=>P _ h' tk k (Den.toR (e▸rfl)) fun e=>nomatch e) rfl,
  fun σ p E d r Q he ht P=>wpAny_isTrue_Compare1 (kL B ha hs hx p he fun r' h' tk e k=>wpAny_truthy_bool (sm ((congrArg truthy e).symm.trans ht)▸P h' tk k)) rfl⟩
theorem vp {ta te:T} {es:List Expr} {x:Str} {p0 ap pos:Pos} (B:X.Ok mg mb) (h:AS X sc (.cons ta .nil) es∧te = .cst .none∨AS X sc (.cons ta (.cons te .nil)) es) (hl:(ap.endLine==pos.line)=true) (h30:es.length<30) (hs:isGlob sc x=true) (hx:x∈X.c.dicts) :
  VS X sc (.dget x ta te) (.Call (.Attribute (.Name x p0) getS ap) es [] pos):=fun σ p E b d Q he P=>by
 refine ae he fun y hy he=>ae he fun i hi he=>ae he fun dd hdd he=>ae he fun l hl' he=>gd he fun hsd he=> ?_
 obtain rfl:=sm he
 obtain ⟨a,hm,hin⟩:=B.idict x l hx hl'
 have all:(backTo pos (starEach es p.env)).any (·.1)=false∧(backTo pos (starEach es p.env)).all (fun x=> !x.1)=true:=h.elim (fun h=>⟨(h.1.1 p.env pos).1,(h.1.1 p.env pos).2.1⟩) fun h=>⟨(h.1 p.env pos).1,(h.1 p.env pos).2.1⟩
 refine wpAny_Call_method_lateS rfl ?_ hl (eZ p B hs (B.ndb _ (.inr hx)) hm ?_)
 ·rw [all.2]
  exact decide_eq_true h30
 ·obtain ⟨t1,⟨ob,t2,t3⟩,_⟩:=hin p.s p.k
  refine ⟨_,_,PySem.F.plainAttrs_dict,PySem.F.slot_dict_get,PySem.F.type_dict_get,t1,fun a' e=>⟨ob,Value.ref.inj e▸t2,t3⟩,?_⟩
  refine PySem.Calls.callWith_builtin all.1 ?_
  have fin:=fun h' tk (t:Tok) (dv:Value) (k':Kp p.s.heap h') (hdv:Den h' p.Ex dd dv)=>(hin {p.s with heap:=h',toks:=tk} (p.k.trans k')).2.2 p.A E i t Q dv p.ar.cl fun tk'=>by
   cases hlk:l.lookup i with
   |none =>
    rw [hlk] at P
    exact P _ _ _ k' hdv.toR fun e=>nomatch e
   |some v =>
    rw [hlk] at P
    exact fun t'=>P _ _ _ k' (Den.toR ⟨t',rfl⟩) fun e=>nomatch e
  rcases h with ⟨h,hte⟩ |h
  ·refine bw h p (b:=true) (ds:=[y]) (ad hy rfl) fun vs h' tk k' dl=> ?_
   obtain ⟨v,e0,dv⟩:=dl.one
   rw [e0]
   refine aQ hi dv.top fun t=> ?_
   exact (fin h' tk t .none k' (by rw [hte] at hdd;rw [← sm hdd];rfl)).2 rfl
  ·refine bw h p (b:=true) (ds:=[y,dd]) (ad hy (ad (ad hdd rfl) rfl)) fun vs h' tk k' dl=> ?_
   obtain ⟨v,u,e0,dv,e2⟩:=dl.two
   rw [e0]
   refine aQ hi dv.top fun t=> ?_
   exact (fin h' tk t u k' (e2.top.free.scal hsd)).1
end
end Mine
set_option genSizeOf false
set_option genInjectivity false
namespace Mine
variable [Tabs] [Frk]
theorem gF (σ:MEnv) (i j:Nat) (o:Option (D×Bool)):getE (σ.set i o) j=if i=j∧i<σ.length then o else getE σ j:=by
 unfold getE
 rw [List.getElem?_set]
 by_cases h:i=j
 ·subst h
  by_cases h2:i<σ.length
  ·rw [if_pos rfl,if_pos h2,if_pos ⟨rfl,h2⟩];rfl
  ·rw [if_pos rfl,if_neg h2,if_neg fun q=>h2 q.2,List.getElem?_eq_none (Nat.le_of_not_lt h2)]
 ·rw [if_neg h,if_neg fun q=>h q.1]
theorem ma {σ:MEnv} {i:Nat} {e:D×Bool} (h:getE σ i=some e):i<σ.length:=Nat.lt_of_not_le fun q=>by
 unfold getE at h
 rw [List.getElem?_eq_none q] at h
 exact ah h
theorem fx {σ:MEnv} {i j:Nat} {e:D×Bool} (h:getE (σ.set i none) j=some e):j≠i∧getE σ j=some e:=by
 rw [gF] at h
 by_cases hc:i=j∧i<σ.length
 ·rw [if_pos hc] at h;exact ah h
 ·rw [if_neg hc] at h
  exact ⟨fun q=>hc ⟨q.symm,q▸ma h⟩,h⟩
theorem aT {σ:MEnv} {i j:Nat} {d:D} {x:Bool} {e:D×Bool} (h:getE (setE σ i d x) j=some e):(j=i∧e=(d,x))∨(j≠i∧getE σ j=some e):=by
 unfold setE at h
 rw [gF] at h
 by_cases hc:i=j∧i<σ.length
 ·rw [if_pos hc] at h;exact .inl ⟨hc.1.symm,(sm h).symm⟩
 ·rw [if_neg hc] at h
  exact .inr ⟨fun q=>hc ⟨q.symm,q▸ma h⟩,h⟩
structure KF (N:Str→Prop) (env:Env) (h h':Heap):Prop where
 kp:∀ b o,b≠env.locals→(∀ n,N n→env.cells.lookup n≠some b)→h.get? b=some o→Gw h' b o
 cd:Cd h h'
noncomputable abbrev KS (sc:Scope) (env:Env) (h h':Heap):Prop:=KF (fun x=>storable sc x=true) env h h'
theorem KF.refl {N:Str→Prop} (env:Env) (h:Heap):KF N env h h:=⟨fun _ _ _ _ e=> .inl e,Cd.refl h⟩
theorem KF.trans {N:Str→Prop} {env:Env} {a b c:Heap} (x:KF N env a b) (y:KF N env b c):KF N env a c:=⟨fun i o h1 h2 e=>(x.kp i o h1 h2 e).then (fun o e=>y.kp i o h1 h2 e) y.cd,x.cd.trans y.cd⟩
theorem Kp.kf {N:Str→Prop} {env:Env} {a b:Heap} (x:Kp a b):KF N env a b:=⟨fun i o _ _ e=>x i o e,x.cd⟩
theorem KF.notex {N:Str→Prop} {env:Env} {h h':Heap} {Ex:Addr→Prop} (kf:KF N env h h') (own:Ex env.locals∧∀ n c,env.cells.lookup n=some c→Ex c):∀ b o,¬ Ex b→isTab o=false→h.get? b=some o→h'.get? b=some o :=
 fun b o n t e=>(kf.kp b o (fun q=>n (q▸own.1)) (fun n' _ q=>n (own.2 n' b q)) e).ob t
theorem i7 {tbl:List Str} (nd:tbl.Nodup) {i j:Nat} {x:Str} (hi:tbl[i]? = some x) (hj:tbl[j]? = some x):i=j:=by
 obtain ⟨h1,e1⟩:=List.getElem?_eq_some_iff.mp hi
 obtain ⟨h2,e2⟩:=List.getElem?_eq_some_iff.mp hj
 have hp:=List.pairwise_iff_getElem.mp nd
 rcases Nat.lt_trichotomy i j with hl |hl |hl
 ·exact absurd (e1.trans e2.symm) (hp i j h1 h2 hl)
 ·exact hl
 ·exact absurd (e2.trans e1.symm) (hp j i h2 h1 hl)
section
variable {prog:Program} {w:World} {A:Around} {E:Value→Shared→Prop} {s:Shared} {env:Env} {tbl:List Str} {Ex:Addr→Prop} {ow:Nat→Addr} {σ:MEnv}
theorem dX {h:Heap} {a b:Addr} {o o':Obj} {P:Prop} (h1:h.get? a=some o) (h2:h.get? b=some o') (e:a=b) (n:o.data≠o'.data):P:=by
 subst e
 rw [h1] at h2
 exact absurd (congrArg Obj.data (sm h2)) n
theorem gW {m cm:Str→Option Value} {h:Heap} (F:FrM env h m cm) {a:Addr} {items:Array Value} (l:h.PlainList a items):a≠env.locals∧∀ n,env.cells.lookup n≠some a:=by
 obtain ⟨n0,l⟩:=l
 refine ⟨fun e=> ?_,fun n hn=> ?_⟩
 ·obtain ⟨o,es,ep,ho,hdat,_⟩:=F.ns
  exact dX l ho e fun q=>nomatch q.trans hdat
 ·obtain ⟨o,ho,hdat⟩:=F.cell n a hn
  exact dX l ho rfl fun q=>nomatch q.trans hdat
theorem iH {N:Str→Prop} {m cm:Str→Option Value} {h h':Heap} (F:FrM env h m cm) (own:Ex env.locals∧∀ n c,env.cells.lookup n=some c→Ex c) (kf:KF N env h h') {d:D} {v:Value} {b:Bool} (hd:DenV h Ex b d v):DenV h' Ex b d v:=by
 have kx:=kf.notex own
 cases b with
 |false=>exact Den.mono kx (fun _ _ n=>n) _ _ hd
 |true =>
  obtain ⟨a,items,ds,e1,e2,l,r⟩:=hd
  obtain ⟨n1,n2⟩:=gW F l
  exact ⟨a,items,ds,e1,e2,PL.at' l fun o t e=>(kf.kp a o n1 (fun n' _=>n2 n') e).ob t,DenL.mono kx (fun _ _ n=>n) _ _ r⟩
theorem bM {N:Str→Prop} {x:Str} {i:Nat} {v:Value} {d:D} {b:Bool} {Q:Unit→Shared→Prop} (hN:N x) (R:RR env tbl Ex ow σ s.heap) (hs:seen env.scope x=true) (hi:tbl[i]? = some x)
  (hfree:env.scope.names.lookup x≠some .free) (hd:DenV s.heap Ex b d v) (how:b=true→v = .ref (ow i))
  (h:∀ h' tk,RR env tbl Ex ow (setE σ i d b) h'→KF N env s.heap h'→Q () {s with heap:=h',toks:=tk}):wpAny (model prog w) A (storeName env x v) Q E s:=by
 obtain ⟨ok,nd,lt,own,m,cm,F,hv⟩:=R
 have key:∀ (h':Heap) (m' cm':Str→Option Value),FrM env h' m' cm'→KF N env s.heap h'→(∀ b,Ex b→Al h' b)→(∀ y,y≠x→m' y=m y∧cm' y=cm y)→valOf env m' cm' x=some v→RR env tbl Ex ow (setE σ i d b) h':=by
  intro h' m' cm' F' kf lt' hy hx
  refine ⟨ok,nd,lt',own,m',cm',F',fun j y e b' hj hg hsy=> ?_⟩
  rcases aT hg with ⟨rfl,e1⟩ |⟨hji,hg⟩
  ·obtain ⟨rfl,rfl⟩:=Prod.mk.inj e1
   obtain rfl:=sm (hi.symm.trans hj)
   exact ⟨v,hx,iH F own kf hd,how⟩
  ·obtain ⟨u,e1,e2,e3⟩:=hv j y e b' hj hg hsy
   obtain ⟨q1,q2⟩:=hy y fun e=>hji (i7 nd hj (e▸hi))
   exact ⟨u,by unfold valOf;rw [q1,q2];exact e1,iH F own kf e2,e3⟩
 rcases fw hs with hk |hk |hk
 ·refine wpAny_storeName_local hk F.ns (fun h' hn hsb=> ?_) (by rw [ok.kind];rfl)
  have kf:KF N env s.heap h':=⟨fun b o n1 _ e=> .inl (hsb.extBut b o n1 e),Cd.sb (fun b o n e=>hsb.extBut b o n e) (Ns.nofields F.ns) fun _=>Ns.dt hn⟩
  refine h h' _ (key h' _ cm ⟨hn,fun n c hc=>(F.cell n c hc).sameBut hsb (F.offL n c hc),F.offL,F.inj,F.has⟩ kf (fun b hb=> ?_) (fun y hy=>⟨if_neg hy,rfl⟩) ?_) kf
  ·by_cases hbl:b=env.locals
   ·obtain ⟨o,_,_,ho,_⟩:=hn;exact ⟨o,hbl▸ho⟩
   ·obtain ⟨o,ho⟩:=lt b hb;exact ⟨o,hsb.extBut b o hbl ho⟩
  ·unfold valOf;rw [show env.kindOf x=_ from hk];exact if_pos rfl
 ·obtain ⟨c,hc⟩:=F.has x (.inl hk)
  refine wpAny_storeName_cell ok.kind hk hc (F.cell x c hc) fun h' hc' hsb=> ?_
  have kf:KF N env s.heap h':=⟨fun b o _ n2 e=> .inl (hsb.extBut b o (fun q=>n2 x hN (q▸hc)) e),Cd.sb (fun b o n e=>hsb.extBut b o n e) (fun o e vs q=>by
   obtain ⟨o',g1,g2⟩:=F.cell x c hc
   exact dX g1 e rfl fun e=>nomatch g2.symm.trans (e.trans q)) fun d=>absurd d (Cell.nodt (F.cell x c hc))⟩
  refine h h' s.toks (key h' m (fun y=>if y=x then some v else cm y) ⟨F.ns.sameBut hsb (Ne.symm (F.offL x c hc)),fun n c2 hn2=> ?_,F.offL,F.inj,F.has⟩ kf (fun b hb=> ?_) (fun y hy=>⟨rfl,if_neg hy⟩) ?_) kf
  ·by_cases hnx:n=x
   ·subst hnx
    obtain rfl:=sm (hc.symm.trans hn2)
    rw [if_pos rfl];exact hc'
   ·rw [if_neg hnx]
    exact (F.cell n c2 hn2).sameBut hsb fun e=>hnx (F.inj n x c (e▸hn2) hc)
  ·by_cases hbl:b=c
   ·obtain ⟨o,ho,_⟩:=hc';exact ⟨o,hbl▸ho⟩
   ·obtain ⟨o,ho⟩:=lt b hb;exact ⟨o,hsb.extBut b o hbl ho⟩
  ·unfold valOf;rw [show env.kindOf x=_ from hk];exact if_pos rfl
 ·exact absurd hk hfree
theorem jr {N:Str→Prop} {x:Str} {i:Nat} {v:Value} {d:D} {pos:Pos} {b:Bool} {Q:Unit→Shared→Prop} (hN:N x) (R:RR env tbl Ex ow σ s.heap) (hs:seen env.scope x=true) (hi:tbl[i]? = some x)
  (hfree:env.scope.names.lookup x≠some .free) (hd:DenV s.heap Ex b d v) (how:b=true→v = .ref (ow i))
  (h:∀ h' tk,RR env tbl Ex ow (setE σ i d b) h'→KF N env s.heap h'→Q () {s with heap:=h',toks:=tk}):wpAny (model prog w) A (assign (.Name x pos) env v) Q E s :=
 wpAny_assign_Name (bM hN R hs hi hfree hd how h)
end
end Mine
set_option genSizeOf false
set_option genInjectivity false
namespace Mine
variable [Tabs] [Frk]
theorem bT {sc:Scope} {x:Str} (h:storable sc x=true):sc.names.lookup x=some .local∨sc.names.lookup x=some .cell:=by
 unfold storable at h
 cases hk:sc.names.lookup x with
 |none=>rw [hk] at h;exact nomatch h
 |some k=>cases k<;>first |exact .inl rfl |exact .inr rfl |(rw [hk] at h;exact nomatch h)
theorem bv {sc:Scope} {x:Str} (h:storable sc x=true):seen sc x=true:=by
 unfold seen
 rcases bT h with e |e<;>rw [e]<;>rfl
theorem bD {env:Env} {sc:Scope} {x:Str} (hsc:ScEq env sc) (h:storable sc x=true):seen env.scope x=true∧env.scope.names.lookup x≠some .free:=by
 refine ⟨hsc.seen (bv h),fun q=> ?_⟩
 rcases hsc x with e |⟨e,_⟩
 ·rw [e] at q
  rcases bT h with e |e<;>exact nomatch q.symm.trans e
 ·rcases bT h with q |q<;>exact nomatch e.symm.trans q
theorem lr {h h':Heap} (k:Heap.ExtBut h.objs.size h h'):Kp h h':=fun b o e=> .inl (k b o (Nat.ne_of_lt (Heap.lt_size e)) e)
inductive Tgs (c:Cx) (sc:Scope):List Expr→List Nat→Prop where
 |nil:Tgs c sc [] []
 |cons {x:Str} {p:Pos} {i:Nat} {es:List Expr} {is:List Nat}:storable sc x=true→c.tbl[i]? = some x→Tgs c sc es is→Tgs c sc (.Name x p :: es) (i :: is)
theorem cX {c:Cx} {sc:Scope} {i:Nat} (h:stoI c sc i=true):storable sc (c.tbl.getD i Str.empty)=true∧c.tbl[i]? = some (c.tbl.getD i Str.empty):=aa h fun h1 h2=>⟨h2,em (de h1)⟩
theorem mM {c:Cx} {sc:Scope}:∀ {is:List Nat} {l:List Expr},l.length=is.length→is.all (stoI c sc)=true→Tgs c sc (List.zipWith (nameE c) is l) is:=by
 intro is
 induction is with
 |nil=>intro l _ _;exact .nil
 |cons i is ih =>
  intro l hl ha
  cases l with
  |nil=>exact nomatch hl
  |cons e l=>exact aa ha fun h1 h2=> .cons (cX h1).1 (cX h1).2 (ih (Nat.succ.inj hl) h2)
theorem Tgs.length {c:Cx} {sc:Scope}:∀ {es:List Expr} {is:List Nat},Tgs c sc es is→es.length=is.length
 |_,_,.nil=>rfl
 |_,_,.cons _ _ h=>by rw [List.length_cons,List.length_cons,h.length]
theorem Tgs.each {c:Cx} {sc:Scope} (env:Env):∀ {es:List Expr} {is:List Nat},Tgs c sc es is→(assignEach es env).length=es.length∧(assignEach es env).findIdx? (·.1)=none
 |_,_,.nil=>⟨rfl,rfl⟩
 |_,_,.cons (x:=x) (p:=p) (es:=es) _ _ h=>by
  obtain ⟨h1,h2⟩:=h.each env
  have e:assignEach (.Name x p :: es) env=(false,assign (.Name x p) env) :: assignEach es env:=rfl
  rw [e]
  refine ⟨by rw [List.length_cons,List.length_cons,h1],?_⟩
  rw [List.findIdx?_cons,h2];rfl
theorem ew:∀ {is:List Nat} {ds:List D} {σ σ':MEnv},setAll σ is ds=some σ'→is.length=ds.length:=by
 intro is
 induction is with
 |nil =>
  intro ds σ σ' h
  cases ds with
  |nil=>rfl
  |cons _ _=>exact ah h
 |cons i is ih =>
  intro ds σ σ' h
  cases ds with
  |nil=>exact ah h
  |cons d ds=>exact congrArg (· + 1) (ih h)
section
variable {prog:Program} {w:World} {A:Around} {E:Value→Shared→Prop} {env:Env} {c:Cx} {sc:Scope} {Ex:Addr→Prop}
theorem lO (hsc:ScEq env sc) {es:List Expr} {is:List Nat} (ht:Tgs c sc es is):∀ {ds:List D} {vs:List Value} {σ σ':MEnv} {s:Shared} {Q:Unit→Shared→Prop},RR env c.tbl Ex ow σ s.heap→DenL s.heap Ex ds vs→setAll σ is ds=some σ' →
  (∀ h' tk,RR env c.tbl Ex ow σ' h'→KS sc env s.heap h'→Q () {s with heap:=h',toks:=tk})→wpAny (model prog w) A (assignInOrder ((assignEach es env).map (·.2)) vs) Q E s:=by
 induction ht with
 |nil =>
  intro ds vs σ σ' s Q R hd hs h
  cases ds with
  |cons _ _=>exact ah hs
  |nil =>
   obtain rfl:=sm hs
   rw [show vs=[] from hd]
   exact wpAny_pure (h s.heap s.toks R (KF.refl _ _))
 | @cons x p i es is h1 h2 h3 ih =>
  intro ds vs σ σ' s Q R hd hs h
  cases ds with
  |nil=>exact ah hs
  |cons d ds =>
   obtain ⟨v,r,e,dv,dr⟩:=hd
   rw [e]
   obtain ⟨s1,s2⟩:=bD hsc h1
   refine wpAny_bind (wpAny_holding (jr (b:=false) (N:=fun x=>storable sc x=true) h1 R s1 h2 s2 dv (fun e=>nomatch e) fun h' tk R' kf=> ?_))
   exact ih (s:={s with heap:=h',toks:=tk}) R' (DenL.mono (kf.notex R.own) (fun _ _ n=>n) _ _ dr) hs fun h'' tk' R'' kf'=>h h'' tk' R'' (kf.trans kf')
theorem dg {es:List Expr} {is:List Nat} {k:Nat} {pos:Pos} {ds:List D} {t:Addr} {items:Array Value} {σ σ':MEnv} {s:Shared} {Q:Unit→Shared→Prop} (hh:A.handled=none) (hsc:ScEq env sc) (ht:Tgs c sc es is) (R:RR env c.tbl Ex ow σ s.heap)
  (hit:s.heap.IsTuple t items) (hd:DenL s.heap Ex ds items.toList) (hs:setAll σ is ds=some σ') (h:∀ h' tk,RR env c.tbl Ex ow σ' h'→KS sc env s.heap h'→Q () {s with heap:=h',toks:=tk}) :
  wpAny (model prog w) A (assign (.Tuple es k pos) env (.ref t)) Q E s:=by
 obtain ⟨e1,e2⟩:=ht.each env
 have l1:=hd.length
 have l2:=ew hs
 rw [Array.length_toList] at l1
 refine wpAny_assign_Tuple hh hit (by rw [e1,ht.length,l2,l1]) e2 fun h1 k1=> ?_
 have kp:=lr k1
 exact lO hsc ht (s:={s with heap:=h1}) (R.keep kp) (hd.keep kp) hs fun h' tk R' kf=>h h' tk R' (kp.kf.trans kf)
noncomputable def TgOk (c:Cx) (sc:Scope) (target:Expr) (tg:List Nat) (one:Bool):Prop :=
 (one=true∧∃ x p i,target = .Name x p∧tg=[i]∧storable sc x=true∧c.tbl[i]? = some x) ∨
 (one=false∧∃ es k p,target = .Tuple es k p∧Tgs c sc es tg)
theorem oY {e:Expr} {tg:List Nat} {one:Bool} (h:tgB c sc tg one e=true):TgOk c sc (tgE c tg one e) tg one:=aa h fun h1 h2=>by
 cases one with
 |true =>
  cases tg with
  |nil=>exact nomatch h1
  |cons i r =>
   cases r with
   |cons _ _=>exact nomatch h1
   |nil=>exact aa h2 fun h2 _=> .inl ⟨rfl,_,_,i,rfl,rfl,(cX h2).1,(cX h2).2⟩
 |false=>exact .inr ⟨rfl,_,_,_,rfl,mM (beq_iff_eq.mp h1) h2⟩
end
noncomputable def clFrom (env:Env):List (Str×NameKind)→List (Str×Addr)→List (Str×Addr)
 | [],acc=>acc
 |(n,k) :: r,acc=>if k == .free then clFrom env r ((n,(env.cells.lookup n).getD 0) :: acc) else clFrom env r acc
theorem fi {env:Env} (f:Str×NameKind→List (Str×Addr)→Sem (ForInStep (List (Str×Addr)))) (hf:∀ n k r,f (n,k) r=if k == .free then (do let a ← cellOf env n;pure (.yield ((n,a) :: r))) else pure (.yield r)) :
  ∀ (l:List (Str×NameKind)) (acc:List (Str×Addr)),(∀ n,(n,NameKind.free)∈l→(env.cells.lookup n).isSome=true)→forIn l acc f=(pure (clFrom env l acc):Sem _)
 | [],acc,_=>rfl
 |(n,k) :: r,acc,hl=>by
  rw [List.forIn_cons,hf]
  unfold clFrom
  have ih:=fun acc=>fi f hf r acc fun n hn=>hl n (List.mem_cons_of_mem _ hn)
  cases hk:(k==NameKind.free) with
  |true =>
   have hk':k = .free:=by simpa using hk
   subst hk'
   obtain ⟨a,ha⟩:=Option.isSome_iff_exists.mp (hl n (List.mem_cons_self ..))
   have hc:cellOf env n=pure a:=by unfold cellOf;rw [ha]
   simp only [if_true,hc,ha,Option.getD_some]
   exact ih _
  |false =>
   simp only [Bool.false_eq_true,if_false]
   exact ih _
theorem jD {scope:Scope} {env:Env} (h:∀ n,(n,NameKind.free)∈scope.names→(env.cells.lookup n).isSome=true):closureFor scope env=pure (clFrom env scope.names []):=by
 simp only [closureFor]
 rw [fi (env:=env) _ (fun n k r=>by cases hk:(k==NameKind.free)<;>simp [hk]) _ _ h]
 rfl
theorem cJ {env:Env}:∀ {l:List (Str×NameKind)} {acc:List (Str×Addr)} {n:Str} {c:Addr},(clFrom env l acc).lookup n=some c →
  ((n,NameKind.free)∈l∧c=(env.cells.lookup n).getD 0)∨acc.lookup n=some c
 | [],acc,n,c,h=> .inr h
 |(m,k) :: r,acc,n,c,h=>by
  unfold clFrom at h
  split at h
  ·rename_i hk
   have hk':k = .free:=by simpa using hk
   subst hk'
   rcases cJ h with ⟨h1,h2⟩ |h1
   ·exact .inl ⟨List.mem_cons_of_mem _ h1,h2⟩
   ·rw [List.lookup_cons] at h1
    split at h1
    ·rename_i hb
     cases h1
     left
     have:n=m:=by simpa using hb
     subst this
     exact ⟨List.mem_cons_self ..,rfl⟩
    ·exact .inr h1
  ·rcases cJ h with ⟨h1,h2⟩ |h1
   ·exact .inl ⟨List.mem_cons_of_mem _ h1,h2⟩
   ·exact .inr h1
theorem dE {env:Env}:∀ {l:List (Str×NameKind)} {acc:List (Str×Addr)} {n:Str},(acc.lookup n).isSome=true→((clFrom env l acc).lookup n).isSome=true
 | [],acc,n,h=>h
 |(m,k) :: r,acc,n,h=>by
  unfold clFrom
  split
  ·refine dE ?_
   rw [List.lookup_cons]
   split
   ·rfl
   ·exact h
  ·exact dE h
theorem im {env:Env}:∀ {l:List (Str×NameKind)} {acc:List (Str×Addr)} {n:Str},(n,NameKind.free)∈l→((clFrom env l acc).lookup n).isSome=true
 |(m,k) :: r,acc,n,h=>by
  unfold clFrom
  rcases List.mem_cons.mp h with e |h
  ·cases e
   rw [if_pos (by decide)]
   refine dE ?_
   rw [List.lookup_cons]
   simp
  ·split<;>exact im h
theorem bR:∀ (l:List (Str×NameKind)) (n:Nat) (acc:List (Str×Addr)),cellsFrom n l acc=cellsFrom n l []++acc
 | [],n,acc=>rfl
 |(m,k) :: r,n,acc=>by
  unfold cellsFrom
  split
  ·rw [bR r (n+1) ((m,n) :: acc),bR r (n+1) [(m,n)]]
   simp
  ·exact bR r n acc
theorem cM:∀ {l:List (Str×NameKind)} {n:Nat} {acc:List (Str×Addr)} {x:Str} {c:Addr},(x,c)∈cellsFrom n l acc→(x,NameKind.cell)∈l∨(x,c)∈acc
 | [],n,acc,x,c,h=> .inr h
 |(m,k) :: r,n,acc,x,c,h=>by
  unfold cellsFrom at h
  split at h
  ·rename_i hk
   have hk':k = .cell:=by simpa using hk
   subst hk'
   rcases cM h with h1 |h1
   ·exact .inl (List.mem_cons_of_mem _ h1)
   ·rcases List.mem_cons.mp h1 with e |h1
    ·cases e;exact .inl (List.mem_cons_self ..)
    ·exact .inr h1
  ·rcases cM h with h1 |h1
   ·exact .inl (List.mem_cons_of_mem _ h1)
   ·exact .inr h1
theorem ck:∀ {l:List (Str×NameKind)} {n:Nat} {acc:List (Str×Addr)} {x:Str},(acc.lookup x).isSome=true→((cellsFrom n l acc).lookup x).isSome=true
 | [],n,acc,x,h=>h
 |(m,k) :: r,n,acc,x,h=>by
  unfold cellsFrom
  split
  ·refine ck ?_
   rw [List.lookup_cons]
   split
   ·rfl
   ·exact h
  ·exact ck h
theorem cK:∀ {l:List (Str×NameKind)} {n:Nat} {acc:List (Str×Addr)} {x:Str},(x,NameKind.cell)∈l→((cellsFrom n l acc).lookup x).isSome=true
 |(m,k) :: r,n,acc,x,h=>by
  unfold cellsFrom
  rcases List.mem_cons.mp h with e |h
  ·cases e
   rw [if_pos (by decide)]
   refine ck ?_
   rw [List.lookup_cons]
   simp
  ·split<;>exact cK h
theorem ba:∀ {l:List (Str×NameKind)} {x:Str} {k:NameKind},distinctN l=true→(x,k)∈l→l.lookup x=some k
 |(m,k') :: r,x,k,h,hm=>by
  simp only [distinctN,Bool.and_eq_true,Bool.not_eq_true',List.any_eq_false] at h
  rw [List.lookup_cons]
  rcases List.mem_cons.mp hm with e |hm
  ·cases e;simp
  ·have:=h.1 (x,k) hm
   have hne:(x==m)=false:=by simpa using this
   rw [hne]
   exact ba h.2 hm
end Mine
set_option genSizeOf false
set_option genInjectivity false
namespace Mine
variable [Tabs] [Frk]
theorem RR.grow {env:Env} {tbl:List Str} {Ex W:Addr→Prop} {ow:Nat→Addr} {σ:MEnv} {h h':Heap} (R:RR env tbl Ex ow σ h) (k:Kp h h') (w1:∀ b,W b→h.get? b=none) (w2:∀ b,W b→Al h' b):RR env tbl (fun b=>Ex b∨W b) ow σ h':=by
 obtain ⟨ok,nd,lt,own,m,cm,F,hv⟩:=R
 refine ⟨ok,nd,fun b hb=>hb.elim (fun e=>(lt b e).keep k) (w2 b),⟨.inl own.1,fun n c e=> .inl (own.2 n c e)⟩,m,cm,F.keep k,fun i x d b h1 h2 h3=> ?_⟩
 obtain ⟨v,e,dv,hw⟩:=hv i x d b h1 h2 h3
 have hx:∀ b,Al h b→¬ Ex b→¬ (Ex b∨W b):=fun b hb n e=>e.elim n fun e=>hb.ne (w1 b e) rfl
 refine ⟨v,e,?_,hw⟩
 cases b with
 |false=>exact Den.mono (fun b o _ t e=>k.ob e t) hx _ _ dv
 |true =>
  obtain ⟨a,items,ds,e1,e2,l,r⟩:=dv
  exact ⟨a,items,ds,e1,e2,PL.at' l (k.at a),DenL.mono (fun b o _ t e=>k.ob e t) hx _ _ r⟩
theorem DenL.grow {Ex W:Addr→Prop} {h h':Heap} {d:List D} {v:List Value} (x:DenL h Ex d v) (k:Kp h h') (w1:∀ b,W b→h.get? b=none):DenL h' (fun b=>Ex b∨W b) d v :=
 DenL.mono (fun b o _ t e=>k.ob e t) (fun b hb n e=>e.elim n fun e=>hb.ne (w1 b e) rfl) _ _ x
theorem gb {tbl:List Str} (nd:tbl.Nodup) {i:Nat} {x:Str} (h:tbl[i]? = some x):idOf tbl x=some i:=by
 unfold idOf
 obtain ⟨hl,e⟩:=List.getElem?_eq_some_iff.mp h
 rw [List.findIdx?_eq_some_iff_getElem]
 refine ⟨hl,by simpa using e,fun j hj=> ?_⟩
 have hjl:j<tbl.length:=Nat.lt_trans hj hl
 intro hc
 have:tbl[j]=x:=by simpa using hc
 have:=i7 nd (List.getElem?_eq_some_iff.mpr ⟨hjl,this⟩) h
 omega
theorem cN {is:List Nat}:∀ {σ:MEnv} {i:Nat} {e:D×Bool},getE (clearE σ is) i=some e→i∉is∧getE σ i=some e:=by
 induction is with
 |nil=>intro σ i e h;exact ⟨List.not_mem_nil,h⟩
 |cons j r ih =>
  intro σ i e h
  obtain ⟨h1,h2⟩:=ih (σ:=σ.set j none) h
  obtain ⟨h3,h4⟩:=fx h2
  exact ⟨fun hm=>(List.mem_cons.mp hm).elim h3 h1,h4⟩
theorem tj {sc:Scope} {x:Str} (h:cellish sc x=true):sc.names.lookup x=some .cell∨sc.names.lookup x=some .free:=by
 unfold cellish at h
 cases hk:sc.names.lookup x with
 |none=>rw [hk] at h;exact nomatch h
 |some k=>cases k<;>first |exact .inl rfl |exact .inr rfl |(rw [hk] at h;exact nomatch h)
theorem uF {sc sc':Scope} {env:Env} (hsc:ScEq env sc) (ok:scOk sc sc'=true):sc'.kind = .function∧distinctN sc'.names=true∧∀ n,(n,NameKind.free)∈sc'.names→env.kindOf n=some .cell∨env.kindOf n=some .free:=aa ok fun ok h3=>aa ok fun h1 h2=>⟨beq_iff_eq.mp h1,h2,fun n hn=>by
 have:=List.all_eq_true.mp h3 _ hn
 rcases hsc n with e |⟨_,e⟩
 ·rw [show env.kindOf n=_ from e]
  exact tj this
 ·exact .inl e⟩
theorem gq {c:Cx} {sc:Scope} {x:Str} {i:Nat} (hid:idOf c.tbl x=some i) (h:(x,NameKind.local)∈sc.names∨(x,NameKind.cell)∈sc.names):i∈locsOf c sc:=by
 unfold locsOf
 rw [List.mem_filterMap]
 rcases h with h |h<;>exact ⟨_,h,hid⟩
theorem dp (g:Str→NameKind→NameKind) (hg:∀ n k,g n k=k∨(k = .free∧g n k = .cell)) (x:Str):∀ l:List (Str×NameKind),
  (l.map fun p=>(p.1,g p.1 p.2)).lookup x=l.lookup x∨(l.lookup x=some .free∧(l.map fun p=>(p.1,g p.1 p.2)).lookup x=some .cell)
 | []=> .inl rfl
 |(n,k) :: r=>by
  rw [List.map_cons,List.lookup_cons,List.lookup_cons]
  cases hx:x==n with
  |true =>
   rcases hg n k with e |⟨e1,e2⟩
   ·left;show some (g n k)=some k;rw [e]
   ·right;exact ⟨by rw [e1],by show some (g n k)=_;rw [e2]⟩
  |false=>exact dp g hg x r
theorem bO {sc':Scope} {env:Env} {x:Str}:(relabel sc' env).names.lookup x=sc'.names.lookup x∨(sc'.names.lookup x=some .free∧(relabel sc' env).names.lookup x=some .cell):=by
 have e:(relabel sc' env).names=sc'.names.map fun p=>(p.1,(fun n k=>if (k == .free&&env.scope.kind == .function&&env.kindOf n==some .cell) then NameKind.cell else k) p.1 p.2):=by
  unfold relabel
  apply List.map_congr_left
  intro p _
  show (if _ then _ else _)=(p.1,if _ then _ else _)
  cases (p.2 == .free&&env.scope.kind == .function&&env.kindOf p.1==some .cell)<;>rfl
 rw [e]
 refine dp (fun n k=>if (k == .free&&env.scope.kind == .function&&env.kindOf n==some .cell) then NameKind.cell else k) (fun n k=> ?_) x _
 by_cases hc:(k == .free&&env.scope.kind == .function&&env.kindOf n==some .cell)=true
 ·exact aa hc fun h _=>aa h fun h _=> .inr ⟨beq_iff_eq.mp h,if_pos hc⟩
 ·exact .inl (if_neg hc)
noncomputable def compEnv (sc':Scope) (cl:List (Str×Addr)) (C:Addr) (env:Env):Env:=compEnvC sc' cl C env
section
variable {prog:Program} {w:World} {A:Around} {E:Value→Shared→Prop} {env:Env} {c:Cx} {sc sc':Scope} {Ex:Addr→Prop} {s:Shared} {σ:MEnv}
theorem tK {Q:Env→Shared→Prop} (hsc:ScEq env sc) (R:RR env c.tbl Ex ow σ s.heap) (ok:scOk sc sc'=true)
  (h:∀ cells h4,(∀ b,Ex b∨(s.heap.objs.size≤b∧(b=s.heap.objs.size∨∃ n,cells.lookup n=some b))→Al h4 b)→Kp s.heap h4→(∀ n a,cells.lookup n=some a→Al h4 a) →
   RR (compEnvC sc' cells s.heap.objs.size env) c.tbl (fun b=>Ex b∨(s.heap.objs.size≤b∧(b=s.heap.objs.size∨∃ n,cells.lookup n=some b))) ow (clearE σ (locsOf c sc')) h4 →
   ScEq (compEnvC sc' cells s.heap.objs.size env) sc' →
   (∀ n a,storable sc' n=true→cells.lookup n=some a→s.heap.objs.size≤a) →
   (∀ i x e,c.tbl[i]? = some x→seen (relabel sc' env) x=true→getE (clearE σ (locsOf c sc')) i=some e→seen env.scope x=true∧getE σ i=some e) →
   Q {scope:=sc',locals:=s.heap.objs.size,globals:=env.globals,cells:=cells,qual:=env.qual,func:=none,code:=env.code,frame:=env.frame,builtins:=env.builtins} {s with heap:=h4}) :
  wpAny (model prog w) A (newFunctionEnv sc' env.globals (clFrom env sc'.names []) [] env.qual none .none (some env)) Q E s:=by
 obtain ⟨eok,nd,lt,own,m,cm,F,hv⟩:=R
 obtain ⟨ok1,ok2,hcell⟩:=uF hsc ok
 have hfree:∀ n,(n,NameKind.free)∈sc'.names→∃ a,env.cells.lookup n=some a:=fun n hn=>F.has n (hcell n hn)
 simp only [newFunctionEnv,Option.isSome_some,if_true]
 refine wpAny_bind (wpAny_alloc ?_)
 refine wpAny_bind (wpAny_layCells _ (fun name kind cells=>by cases hkc:kind==NameKind.cell<;>simp [hkc]) _ _ _ _ ?_)
 rw [show ({s with heap:=s.heap.push {cls:= .type "dict",data:= .dict #[]}}:Shared).heap.objs.size=s.heap.objs.size+1 from Heap.size_push ..]
 have cok:=cellsFrom_ok sc'.names (s.heap.push {cls:= .type "dict",data:= .dict #[]}) (s.heap.objs.size+1) [] ⟨fun _ _ hm=>(nomatch hm),List.Pairwise.nil⟩ (by rw [Heap.size_push];exact Nat.le_refl _)
 rw [Heap.size_push] at cok
 rw [bR]
 have kp:Kp s.heap (pushCells (s.heap.push {cls:= .type "dict",data:= .dict #[]}) sc'.names):= .of fun b o e=>pushCells_keeps _ _ b o (Heap.get?_push_of_some _ e)
 show wpAny _ _ _ _ _ {s with heap:=pushCells (s.heap.push {cls:= .type "dict",data:= .dict #[]}) sc'.names}
 generalize hH:pushCells (s.heap.push {cls:= .type "dict",data:= .dict #[]}) sc'.names=h4 at *
 generalize hO:cellsFrom (s.heap.objs.size+1) sc'.names []=own' at *
 have lown:∀ n a,own'.lookup n=some a→h4.IsCell a none∧s.heap.objs.size+1≤a∧(n,NameKind.cell)∈sc'.names:=fun n a hl=>by
  have hm:=mem_of_lookup hl
  refine ⟨(cok.empty n a hm).1,(cok.empty n a hm).2,?_⟩
  rw [← hO] at hm
  rcases cM hm with e |e
  ·exact e
  ·cases e
 have lcl:∀ n a,(clFrom env sc'.names []).lookup n=some a→(n,NameKind.free)∈sc'.names∧env.cells.lookup n=some a:=fun n a hl=>by
  rcases cJ hl with ⟨h1,h2⟩ |h1
  ·obtain ⟨a',ha'⟩:=hfree n h1
   rw [ha'] at h2
   exact ⟨h1,by rw [ha',h2];rfl⟩
  ·cases h1
 have lall:∀ n a,(own'++clFrom env sc'.names []).lookup n=some a→own'.lookup n=some a∨(own'.lookup n=none∧(clFrom env sc'.names []).lookup n=some a):=fun n a hl=>by
  rw [List.lookup_append] at hl
  cases ho:own'.lookup n with
  |none=>rw [ho] at hl;exact .inr ⟨rfl,by simpa using hl⟩
  |some a'=>rw [ho] at hl;exact .inl (by simpa using hl)
 have hCns:h4.Ns s.heap.objs.size (fun _=>none):=by
  rw [← hH];exact (Heap.Ns.new s.heap (.type "dict")).keeps (pushCells_keeps _ _)
 have alC:Al h4 s.heap.objs.size:=let ⟨o,_,_,ho,_⟩:=hCns;⟨o,ho⟩
 have alc:∀ n a,(own'++clFrom env sc'.names []).lookup n=some a→Al h4 a:=fun n a hl=>by
  rcases lall n a hl with h1 |⟨_,h1⟩
  ·obtain ⟨o,ho,_⟩:=(lown n a h1).1;exact ⟨o,ho⟩
  ·exact (lt a (own.2 n a (lcl n a h1).2)).keep kp
 have sq:ScEq (compEnvC sc' (own'++clFrom env sc'.names []) s.heap.objs.size env) sc':=fun x=>bO
 have al:∀ b,Ex b∨(s.heap.objs.size≤b∧(b=s.heap.objs.size∨∃ n,(own'++clFrom env sc'.names []).lookup n=some b))→Al h4 b:=by
  rintro b (h1 |⟨_,rfl |⟨n,h1⟩⟩)
  ·exact (lt b h1).keep kp
  ·exact alC
  ·exact alc n b h1
 have nofree:∀ n,(n,NameKind.free)∈sc'.names→own'.lookup n=none:=fun n hn=>by
  cases ho:own'.lookup n with
  |none=>rfl
  |some a =>
   have h1:=ba ok2 (lown n a ho).2.2
   rw [ba ok2 hn] at h1
   cases h1
 have st:∀ n a,storable sc' n=true→(own'++clFrom env sc'.names []).lookup n=some a→s.heap.objs.size≤a:=fun n a hs hl=>by
  rcases lall n a hl with h1 |⟨_,h1⟩
  ·exact Nat.le_of_succ_le (lown n a h1).2.1
  ·have:=ba ok2 (lcl n a h1).1
   rcases bT hs with e |e<;>exact nomatch this.symm.trans e
 have sn:∀ i x e,c.tbl[i]? = some x→seen (relabel sc' env) x=true→getE (clearE σ (locsOf c sc')) i=some e→sc'.names.lookup x=some .free:=fun i x e h1 h3 h2=>by
  obtain ⟨n1,_⟩:=cN h2
  have hid:=gb nd h1
  have hk:=fw h3
  rcases bO (sc':=sc') (env:=env) (x:=x) with e |⟨e,_⟩
  ·rw [e] at hk
   rcases hk with hk |hk |hk
   ·exact absurd (gq hid (.inl (mem_of_lookup hk))) n1
   ·exact absurd (gq hid (.inr (mem_of_lookup hk))) n1
   ·exact hk
  ·exact e
 have snk:∀ x,sc'.names.lookup x=some .free→seen env.scope x=true:=fun x hfr=>by
  unfold seen
  rcases hcell x (mem_of_lookup hfr) with e |e<;>rw [show env.scope.names.lookup x=_ from e]<;>rfl
 have sn2:∀ i x e,c.tbl[i]? = some x→seen (relabel sc' env) x=true→getE (clearE σ (locsOf c sc')) i=some e→seen env.scope x=true∧getE σ i=some e:=fun i x e h1 h3 h2=>⟨snk x (sn i x e h1 h3 h2),(cN h2).2⟩
 refine wpAny_pure (h _ h4 al kp alc ?_ sq st sn2)
 refine ⟨⟨ok1,eok.glob,eok.blt⟩,nd,al,⟨.inr ⟨Nat.le_refl _,.inl rfl⟩,fun n a hl=> ?_⟩,fun _=>none,fun x=>if (own'.lookup x).isSome then none else cm x,⟨hCns,fun n a hl=> ?_,fun n a hl=> ?_,fun n n' a hl hl'=> ?_,fun x hx=> ?_⟩,fun i x d b h1 h2 h3=> ?_⟩
 ·have hl:(own'++clFrom env sc'.names []).lookup n=some a:=hl
  rcases lall n a hl with h1 |⟨_,h1⟩
  ·exact .inr ⟨by have:=(lown n a h1).2.1;omega,.inr ⟨n,hl⟩⟩
  ·exact .inl (own.2 n a (lcl n a h1).2)
 ·have hl:(own'++clFrom env sc'.names []).lookup n=some a:=hl
  rcases lall n a hl with h1 |⟨h0,h1⟩
  ·rw [h1];exact (lown n a h1).1
  ·rw [h0];exact kp.cell (F.cell n a (lcl n a h1).2)
 ·have hl:(own'++clFrom env sc'.names []).lookup n=some a:=hl
  rcases lall n a hl with h1 |⟨h0,h1⟩
  ·have:=(lown n a h1).2.1
   exact Nat.ne_of_gt this
  ·exact (lt a (own.2 n a (lcl n a h1).2)).ne (aJ _)
 ·have hl:(own'++clFrom env sc'.names []).lookup n=some a:=hl
  have hl':(own'++clFrom env sc'.names []).lookup n'=some a:=hl'
  have oc:∀ x y,own'.lookup x=some a→(clFrom env sc'.names []).lookup y=some a→False:=fun x y h1 h2=>by
   obtain ⟨o,ho⟩:=lt a (own.2 y a (lcl y a h2).2)
   have h3:=Heap.lt_size ho
   have h4:=(lown x a h1).2.1
   exact absurd (Nat.lt_of_lt_of_le h3 (Nat.le_of_succ_le h4)) (Nat.lt_irrefl _)
  rcases lall n a hl with h1 |⟨_,h1⟩<;>rcases lall n' a hl' with h2 |⟨_,h2⟩
  ·exact name_of_addr cok.apart (mem_of_lookup h1) (mem_of_lookup h2)
  ·exact (oc n n' h1 h2).elim
  ·exact (oc n' n h2 h1).elim
  ·exact F.inj n n' a (lcl n a h1).2 (lcl n' a h2).2
 ·have key:sc'.names.lookup x=some .cell∨sc'.names.lookup x=some .free:=by
   rcases bO (sc':=sc') (env:=env) (x:=x) with e |⟨e,_⟩
   ·have hx:(relabel sc' env).names.lookup x=some .cell∨(relabel sc' env).names.lookup x=some .free:=hx
    rw [e] at hx;exact hx
   ·exact .inr e
  show ∃ a,(own'++clFrom env sc'.names []).lookup x=some a
  rw [List.lookup_append]
  rcases key with e |e
  ·have:=cK (n:=s.heap.objs.size+1) (acc:=[]) (mem_of_lookup e)
   rw [hO] at this
   obtain ⟨a,ha⟩:=Option.isSome_iff_exists.mp this
   exact ⟨a,by rw [ha];rfl⟩
  ·rw [nofree x (mem_of_lookup e)]
   obtain ⟨a,ha⟩:=Option.isSome_iff_exists.mp (im (env:=env) (acc:=[]) (mem_of_lookup e))
   exact ⟨a,by rw [ha];rfl⟩
 ·have g1:=(cN h2).2
  have hfr:=sn i x _ h1 h3 h2
  have hm:=mem_of_lookup hfr
  have hkc:=hcell x hm
  have hsn:=snk x hfr
  obtain ⟨v,e,dv,hw⟩:=hv i x d b h1 g1 hsn
  refine ⟨v,?_,?_,hw⟩
  ·have e1:cm x=some v:=by
    unfold valOf at e
    rcases hkc with q |q<;>rw [q] at e<;>exact e
   have e2:(if (own'.lookup x).isSome then none else cm x)=some v:=by rw [nofree x hm];exact e1
   unfold valOf
   rcases bO (sc':=sc') (env:=env) (x:=x) with q |⟨_,q⟩
   ·rw [show (compEnvC sc' (own'++clFrom env sc'.names []) s.heap.objs.size env).kindOf x=some .free from q.trans hfr];exact e2
   ·rw [show (compEnvC sc' (own'++clFrom env sc'.names []) s.heap.objs.size env).kindOf x=some .cell from q];exact e2
  ·have hx:∀ b,Al s.heap b→¬ Ex b→¬ (Ex b∨(s.heap.objs.size≤b∧(b=s.heap.objs.size∨∃ n,(own'++clFrom env sc'.names []).lookup n=some b))):=fun b hb n e=>e.elim n fun e=>by
    obtain ⟨o,ho⟩:=hb
    have:=Heap.lt_size ho
    exact absurd (Nat.lt_of_lt_of_le this e.1) (Nat.lt_irrefl _)
   cases b with
   |false=>exact Den.mono (fun b o _ t e=>kp.ob e t) hx _ _ dv
   |true =>
    obtain ⟨a,items,ds,e1,e2,l,r⟩:=dv
    exact ⟨a,items,ds,e1,e2,PL.at' l (kp.at a),DenL.mono (fun b o _ t e=>kp.ob e t) hx _ _ r⟩
end
end Mine
set_option genSizeOf false
set_option genInjectivity false
namespace Mine
variable [Tabs] [Frk]
noncomputable def IsFields (o:Obj):Prop:=∃ fs,o.data = .fields fs
noncomputable def IsSeq (o:Obj):Prop:=∃ is n,o.data = .seq is n
theorem lj {env:Env} {m cm:Str→Option Value} {h:Heap} (F:FrM env h m cm) {b:Addr} {o:Obj} (ho:h.get? b=some o) (hd:IsFields o∨IsSeq o):b≠env.locals∧∀ n,env.cells.lookup n≠some b:=by
 refine ⟨fun e=> ?_,fun n hn=> ?_⟩
 ·obtain ⟨o',es,ep,ho',hd',_⟩:=F.ns
  refine dX ho ho' e fun q=> ?_
  rcases hd with ⟨fs,hd⟩ |⟨is,k,hd⟩<;>exact nomatch hd.symm.trans (q.trans hd')
 ·obtain ⟨o',ho',hd'⟩:=F.cell n b hn
  refine dX ho ho' rfl fun q=> ?_
  rcases hd with ⟨fs,hd⟩ |⟨is,k,hd⟩<;>exact nomatch hd.symm.trans (q.trans hd')
theorem RR.frame {env:Env} {tbl:List Str} {Ex:Addr→Prop} {ow:Nat→Addr} {σ:MEnv} {h:Heap} (R:RR env tbl Ex ow σ h) {b:Addr} {o:Obj} (ho:h.get? b=some o) (hd:IsFields o∨IsSeq o):b≠env.locals∧∀ n,env.cells.lookup n≠some b :=
 let ⟨_,_,F,_⟩:=R.fr;lj F ho hd
theorem RR.own_al {env:Env} {tbl:List Str} {Ex:Addr→Prop} {ow:Nat→Addr} {σ:MEnv} {h:Heap} (R:RR env tbl Ex ow σ h) {i:Nat} {x:Str} {d:D} (h1:tbl[i]? = some x) (h2:seen env.scope x=true) (h3:getE σ i=some (d,true)) :
  ∃ items ds,d = .list ds∧h.PlainList (ow i) items∧DenL h Ex ds items.toList:=by
 obtain ⟨m,cm,F,hv⟩:=R.fr
 obtain ⟨v,e,⟨a,items,ds,e1,e2,l,r⟩,hw⟩:=hv i x d true h1 h3 h2
 rw [← Value.ref.inj (e1.symm.trans (hw rfl))]
 exact ⟨items,ds,e2,l,r⟩
theorem RR.chg {env:Env} {tbl:List Str} {Ex Ex' Wr:Addr→Prop} {ow:Nat→Addr} {σ:MEnv} {h h':Heap} (R:RR env tbl Ex ow σ h) (hk:∀ b o,¬ Wr b→h.get? b=some o→h'.get? b=some o) (hx:∀ b,Wr b→Ex b)
  (nl:¬ Wr env.locals) (nc:∀ n c,env.cells.lookup n=some c→¬ Wr c) (no:∀ i x d,tbl[i]? = some x→seen env.scope x=true→getE σ i=some (d,true)→¬ Wr (ow i))
  (e1:∀ b,Ex' b→Ex b) (e2:∀ b,Ex b→¬ Wr b→Ex' b) (al:∀ b,Ex' b→Wr b→Al h' b):RR env tbl Ex' ow σ h':=by
 obtain ⟨ok,nd,lt,own,m,cm,F,hv⟩:=R
 have kx:∀ b o,¬ Ex b→isTab o=false→h.get? b=some o→h'.get? b=some o:=fun b o n _ e=>hk b o (fun q=>n (hx b q)) e
 have xx:∀ b,Al h b→¬ Ex b→¬ Ex' b:=fun b _ n e=>n (e1 b e)
 refine ⟨ok,nd,fun b hb=> ?_,⟨e2 _ own.1 nl,fun n c hc=>e2 _ (own.2 n c hc) (nc n c hc)⟩,m,cm,⟨F.ns.at' fun o e=>hk _ o nl e,fun n c hc=>let ⟨o,ho,hd⟩:=F.cell n c hc;⟨o,hk c o (nc n c hc) ho,hd⟩,F.offL,F.inj,F.has⟩,fun i x d b h1 h2 h3=> ?_⟩
 ·by_cases hwb:Wr b
  ·exact al b hb hwb
  ·obtain ⟨o,ho⟩:=lt b (e1 b hb);exact ⟨o,hk b o hwb ho⟩
 ·obtain ⟨v,e,dv,hw'⟩:=hv i x d b h1 h2 h3
  refine ⟨v,e,?_,hw'⟩
  cases b with
  |false=>exact Den.mono kx xx _ _ dv
  |true =>
   obtain ⟨a,items,ds,q1,q2,⟨n0,l⟩,r⟩:=dv
   exact ⟨a,items,ds,q1,q2,⟨n0,hk a _ (Value.ref.inj (q1.symm.trans (hw' rfl))▸no i x d h1 h3 h2) l⟩,DenL.mono kx xx _ _ r⟩
theorem RR.nofld {env:Env} {tbl:List Str} {Ex:Addr→Prop} {ow:Nat→Addr} {σ:MEnv} {h:Heap} (R:RR env tbl Ex ow σ h) {i:Nat} {x:Str} {d:D} (h1:tbl[i]? = some x) (h2:seen env.scope x=true) (h3:getE σ i=some (d,true)) {o:Obj} (ho:h.get? (ow i)=some o) (hf:IsFields o):False:=by
 obtain ⟨its,ds,_,⟨n,l⟩,_⟩:=R.own_al h1 h2 h3
 obtain ⟨fs,hf⟩:=hf
 exact dX l ho rfl fun q=>nomatch q.trans hf
theorem RR.mutl {env:Env} {tbl:List Str} {Ex:Addr→Prop} {ow:Nat→Addr} {σ:MEnv} {h h':Heap} {Wr:Addr→Prop} (R:RR env tbl Ex ow σ h) (hk:∀ b o,¬ Wr b→h.get? b=some o→h'.get? b=some o) (hx:∀ b,Wr b→Ex b)
  (hw:∀ b,Wr b→∃ o,h.get? b=some o∧IsFields o) (ha:∀ b,Wr b→Al h' b):RR env tbl Ex ow σ h' :=
 R.chg hk hx (fun e=>let ⟨_,ho,hd⟩:=hw _ e;(R.frame ho (.inl hd)).1 rfl) (fun n c hc e=>let ⟨_,ho,hd⟩:=hw _ e;(R.frame ho (.inl hd)).2 n hc) (fun i x d h1 h2 h3 e=>let ⟨_,ho,hd⟩:=hw _ e;R.nofld h1 h2 h3 ho hd) (fun _ e=>e) (fun _ e _=>e) fun b _ e=>ha b e
theorem RR.drop {env:Env} {tbl:List Str} {Ex:Addr→Prop} {ow:Nat→Addr} {σ:MEnv} {h h':Heap} {Wr:Addr→Prop} (R:RR env tbl Ex ow σ h) (hk:∀ b o,¬ Wr b→h.get? b=some o→h'.get? b=some o) (hx:∀ b,Wr b→Ex b)
  (hw:∀ b,Wr b→∃ o,h.get? b=some o∧IsFields o):RR env tbl (fun b=>Ex b∧¬ Wr b) ow σ h' :=
 R.chg hk hx (fun e=>let ⟨_,ho,hd⟩:=hw _ e;(R.frame ho (.inl hd)).1 rfl) (fun n c hc e=>let ⟨_,ho,hd⟩:=hw _ e;(R.frame ho (.inl hd)).2 n hc) (fun i x d h1 h2 h3 e=>let ⟨_,ho,hd⟩:=hw _ e;R.nofld h1 h2 h3 ho hd) (fun _ e=>e.1) (fun _ e n=>⟨e,n⟩) fun b e n=>absurd n e.2
theorem RR.other {env:Env} {tbl:List Str} {Ex:Addr→Prop} {ow:Nat→Addr} {σ:MEnv} {h h':Heap} {D:Addr} (R:RR env tbl Ex ow σ h) (hk:Heap.SameBut D h h') (hx:Ex D) (hd:∃ o,h.get? D=some o∧IsSeq o) (ha:Al h' D)
  (hn:∀ i x d,tbl[i]? = some x→seen env.scope x=true→getE σ i=some (d,true)→ow i≠D):RR env tbl Ex ow σ h':=by
 obtain ⟨o0,ho0,hs⟩:=hd
 obtain ⟨f1,f2⟩:=R.frame ho0 (.inr hs)
 exact R.chg (Wr:=(· = D)) (fun b o n e=>hk.extBut b o n e) (fun _ e=>e▸hx) (fun e=>f1 e.symm) (fun n c hc e=>f2 n (e▸hc)) hn (fun _ e=>e) (fun _ e _=>e) fun _ _ e=>e▸ha
theorem RR.weaken {env:Env} {tbl:List Str} {Ex:Addr→Prop} {ow:Nat→Addr} {σ σ':MEnv} {h:Heap} (R:RR env tbl Ex ow σ' h) (hw:∀ j e,getE σ j=some e→getE σ' j=some e):RR env tbl Ex ow σ h:=by
 obtain ⟨ok,nd,lt,own,m,cm,F,hv⟩:=R
 exact ⟨ok,nd,lt,own,m,cm,F,fun i x d b h1 h2 h3=>hv i x d b h1 (hw i _ h2) h3⟩
structure Turns (prog:Program) (w:World) (A:Around) (c:Cx) (sc:Scope) (target:Expr) (tg:List Nat) (one:Bool) (I:Addr) (xs:List D) (Fp Wr:Addr→Prop) (It:Heap→(Addr→Prop)→Prop) (St:Nat→Heap→Prop):Prop where
 frame:∀ i h h',St i h→(∀ b o,Fp b→h.get? b=some o→h'.get? b=some o)→St i h'
 kinds:∀ i h b,St i h→Fp b→∃ o,h.get? b=some o∧(∃ T,o.cls = .type T∧T≠"code")∧(IsFields o∨(¬ Wr b∧IsSeq o))
 sub:∀ b,Wr b→Fp b
 items:∀ h h' X X',It h X→(∀ b o,¬ X b→isTab o=false→h.get? b=some o→h'.get? b=some o)→(∀ b,Al h b→¬ X b→¬ X' b)→It h' X'
 next:∀ i d (s:Shared) (env:Env) (Ex:Addr→Prop) (ow:Nat→Addr) (σ σ':MEnv) (Q:Unit→Shared→Prop) (E E':Value→Shared→Prop),ScEq env sc→xs[i]? = some d→St i s.heap→It s.heap Ex→(∀ b,Wr b→Ex b)→RR env c.tbl Ex ow σ s.heap→bindT σ tg one d=some σ' →
  (∀ h' tk,St (i+1) h'→It h' Ex→RR env c.tbl Ex ow σ' h'→(∀ b o,¬ Wr b→b≠env.locals→(∀ n,storable sc n=true→env.cells.lookup n≠some b)→s.heap.get? b=some o→Gw h' b o)→Cd s.heap h'→Q () {s with heap:=h',toks:=tk}) →
  wpAny (model prog w) A (pyNext (.ref I)) (fun r s₁=>∃ v,r=some v∧wpAny (model prog w) A (letOwnedTupleGo target (.ref I) v) (fun _ s₂=>wpAny (model prog w) A (assign target env v) Q E' s₂) E' s₁) E s
 done:∀ (s:Shared) (Q:Shared→Prop) (E:Value→Shared→Prop),St xs.length s.heap→(∀ h' tk,(∀ b o,¬ Wr b→s.heap.get? b=some o→h'.get? b=some o)→Q {s with heap:=h',toks:=tk}) →
  wpAny (model prog w) A (pyNext (.ref I)) (fun r s₁=>r=none∧Q s₁) E s
 self:∀ i (s:Shared) (Q:Value→Shared→Prop) (E:Value→Shared→Prop),St i s.heap→Q (.ref I) s→wpAny (model prog w) A (pyIter (.ref I)) Q E s
theorem lS {o:Obj} {T:String} {P:Prop} (hc:o.cls = .type T) (hf:IsFields o∨(P∧IsSeq o)):isTab o=false:=dy hc (by
 rcases hf with ⟨fs,hd⟩ |⟨_,is,k,hd⟩<;>rw [hd]<;>rfl)
theorem n7 {h:Heap} {b:Addr} {o:Obj} {P:Prop} (ho:h.get? b=some o) (hf:IsFields o∨(P∧IsSeq o)):¬ Dt h b:=fun ⟨o',es,n,e1,e2⟩=>by
 obtain rfl:=sm (ho.symm.trans e1)
 rcases hf with ⟨fs,hd⟩ |⟨_,is,k,hd⟩<;>exact nomatch e2.symm.trans hd
noncomputable abbrev Knd (h:Heap) (b:Addr) (P:Prop):Prop:=∃ o,h.get? b=some o∧(∃ T,o.cls = .type T∧T≠"code")∧(IsFields o∨(P∧IsSeq o))
theorem Knd.notab {h:Heap} {b:Addr} {P:Prop} (k:Knd h b P) {o:Obj} (e:h.get? b=some o):isTab o=false:=by
 obtain ⟨o',ho',⟨T',hc',_⟩,hf⟩:=k
 obtain rfl:=sm (e.symm.trans ho')
 exact lS hc' hf
theorem Knd.or {h:Heap} {b:Addr} {P:Prop} (k:Knd h b P):∃ o,h.get? b=some o∧(IsFields o∨IsSeq o):=let ⟨o,ho,_,hf⟩:=k;⟨o,ho,hf.imp id (·.2)⟩
theorem Knd.fld {h:Heap} {b:Addr} {P:Prop} (k:Knd h b P) (n:¬ P):∃ o,h.get? b=some o∧IsFields o:=let ⟨o,ho,_,hf⟩:=k;⟨o,ho,hf.elim id fun q=>absurd q.1 n⟩
theorem nC {h h':Heap} {Wr:Addr→Prop} {P:Addr→Prop} (kn:∀ b,Wr b→Knd h b (P b)) (k:∀ b o,¬ Wr b→h.get? b=some o→h'.get? b=some o):Cd h h' :=
 ⟨fun b o vs g1 _ e=>k b o (fun q=>by
  obtain ⟨o',ho',⟨T',hc',hn'⟩,_⟩:=kn b q
  obtain rfl:=sm (e.symm.trans ho')
  exact hn' (Value.type.inj (g1.symm.trans hc')).symm) e,fun b d=>d.kq fun o e=>k b o (fun q=>by
  obtain ⟨o',ho',_,hf⟩:=kn b q
  exact n7 ho' hf d) e⟩
section
variable {prog:Program} {w:World} {A:Around} {c:Cx} {sc:Scope} {target:Expr} {tg:List Nat} {one:Bool} {I:Addr} {xs:List D} {Fp Wr:Addr→Prop} {It:Heap→(Addr→Prop)→Prop} {St:Nat→Heap→Prop}
theorem Turns.frameK (T:Turns prog w A c sc target tg one I xs Fp Wr It St) {i:Nat} {h h':Heap} (st:St i h) (k:∀ b o,Fp b→isTab o=false→h.get? b=some o→h'.get? b=some o):St i h' :=
 T.frame i h h' st fun b o hb e=>k b o hb (Knd.notab (T.kinds _ _ b st hb) e) e
theorem Turns.cdW (T:Turns prog w A c sc target tg one I xs Fp Wr It St) {i:Nat} {h h':Heap} (st:St i h) (k:∀ b o,¬ Wr b→h.get? b=some o→h'.get? b=some o):Cd h h':=nC (fun b q=>T.kinds _ _ b st (T.sub b q)) k
end
noncomputable def badIt:List String:=["enumerate","zip","dict_itemiterator","dict_reverseitemiterator","odict_iterator","itertools.zip_longest","itertools.pairwise"]
theorem iD {prog:Program} {w:World} {A:Around} {E:Value→Shared→Prop} {s:Shared} {target:Expr} {I:Addr} {v:Value} {T:String} {o:Obj} {Q:Unit→Shared→Prop} (ho:s.heap.get? I=some o) (hc:o.cls = .type T) (hT:badIt.contains T=false) (hQ:Q () s) :
  wpAny (model prog w) A (letOwnedTupleGo target (.ref I) v) Q E s:=by
 have go:wpAny (model prog w) A (letOwnedTupleGo (.Tuple [] 0 default) (.ref I) v) Q E s:=by
  unfold letOwnedTupleGo
  cases v with
  |ref a =>
   refine wpAny_bind (wpAny_load ho ?_)
   rw [hc]
   have hT':(["enumerate","zip","dict_itemiterator","dict_reverseitemiterator","odict_iterator","itertools.zip_longest","itertools.pairwise"].contains T)=false:=hT
   cases o.data with
   |fields vs =>
    refine wpAny_ite_split (fun h=> ?_) fun _=>wpAny_pure hQ
    rw [hT',Bool.false_and] at h
    exact nomatch h
   |_=>exact wpAny_pure hQ
  |_=>exact wpAny_pure hQ
 cases target with
 |Tuple _ _ _=>exact go
 |List _ _=>exact go
 |_=>exact wpAny_pure hQ
section
variable {prog:Program} {w:World} {A:Around} {c:Cx} {sc:Scope} {target:Expr} {tg:List Nat} {one:Bool}
theorem oa (hh:A.handled=none) (hT:TgOk c sc target tg one) {s:Shared} {env:Env} {Ex:Addr→Prop} {ow:Nat→Addr} {σ σ':MEnv} {d:D} {v:Value} {Q:Unit→Shared→Prop} {E:Value→Shared→Prop} (hsc:ScEq env sc) (R:RR env c.tbl Ex ow σ s.heap) (hd:Den s.heap Ex d v) (hb:bindT σ tg one d=some σ')
  (h:∀ h' tk,RR env c.tbl Ex ow σ' h'→KS sc env s.heap h'→Q () {s with heap:=h',toks:=tk}):wpAny (model prog w) A (assign target env v) Q E s:=by
 rcases hT with ⟨rfl,x,p,i,rfl,rfl,hs,hi⟩ |⟨rfl,es,k,p,rfl,ht⟩
 ·obtain rfl:=sm hb
  obtain ⟨s1,s2⟩:=bD hsc hs
  exact jr (b:=false) (N:=fun x=>storable sc x=true) hs R s1 hi s2 hd (fun e=>nomatch e) h
 ·refine ae hb fun ds hds hb=> ?_
  revert hd
  refine fq (P:=fun d=>Den s.heap Ex d v→_) hds fun ⟨a,items,e,_,l,r⟩=> ?_
  rw [e]
  exact dg hh hsc ht R (TupAt.isTup l) r hb h
theorem Turns.of_walks {I:Addr} {xs:List D} {fp wr:List Addr} {n:Nat} {P:Nat→Value→Prop} {St:Nat→Heap→Prop} {It:Heap→(Addr→Prop)→Prop} (hh:A.handled=none) (hT:TgOk c sc target tg one)
  (W:Walks prog w A I fp wr n P St) (hn:n=xs.length) (kinds:∀ i h b,St i h→b∈fp→∃ o,h.get? b=some o∧(∃ T,o.cls = .type T∧T≠"code")∧(IsFields o∨(b∉wr∧IsSeq o)))
  (items:∀ h h' X X',It h X→(∀ b o,¬ X b→isTab o=false→h.get? b=some o→h'.get? b=some o)→(∀ b,Al h b→¬ X b→¬ X' b)→It h' X')
  (it:∀ i d h X v,xs[i]? = some d→It h X→P i v→Den h X d v)
  (cls:∀ i h,St i h→∃ T o,h.get? I=some o∧o.cls = .type T∧badIt.contains T=false) :
  Turns prog w A c sc target tg one I xs (· ∈ fp) (· ∈ wr) It St where
 frame:=fun i h h' st hk=>W.frame i h h' st fun b hb o e=>hk b o hb e
 kinds:=fun i h b st hb=>kinds i h b st hb
 sub:=fun b hb=>W.sub b hb
 items:=items
 next:=fun i d s env Ex ow σ σ' Q E E' hsc hx st hit hwx R hb h=>by
  have hi:i<n:=by rw [hn];exact (List.getElem?_eq_some_iff.mp hx).1
  refine W.item i s _ E hi st fun v h1 tk1 hP st1 hk1=>⟨v,rfl,?_⟩
  have kn:=fun b hb=>kinds _ _ b st (W.sub b hb)
  have R1:RR env c.tbl Ex ow σ h1:=R.mutl (Wr:=(· ∈ wr)) hk1 hwx (fun b hb=>Knd.fld (kn b hb) fun q=>q hb) fun b hb=>let ⟨o,ho,_⟩:=kinds _ _ b st1 (W.sub b hb);⟨o,ho⟩
  have it1:It h1 Ex:=items _ _ _ _ hit (fun b o n _ e=>hk1 b o (fun q=>n (hwx b q)) e) (fun _ _ n=>n)
  obtain ⟨T,o,ho,hc,hT'⟩:=cls _ _ st1
  refine iD (s:={s with heap:=h1,toks:=tk1}) ho hc hT' ?_
  refine oa (s:={s with heap:=h1,toks:=tk1}) hh hT hsc R1 (it i d h1 Ex v hx it1 hP) hb fun h2 tk2 R2 kf=> ?_
  refine h h2 tk2 (W.frame _ _ _ st1 fun b hb o e=> ?_) (items _ _ _ _ it1 (kf.notex R1.own) (fun _ _ n=>n)) R2 (fun b o n1 n2 n3 e=>kf.kp b o n2 n3 (hk1 b o n1 e)) ((nC kn hk1).trans kf.cd)
  obtain ⟨o',ho',hf⟩:=Knd.or (kinds _ _ b st1 hb)
  obtain ⟨f1,f2⟩:=R1.frame ho' hf
  exact (kf.kp b o f1 (fun n _=>f2 n) e).ob (Knd.notab (kinds _ _ b st1 hb) e)
 done:=fun s Q E st h=>W.done s _ E (hn▸st) fun h' tk hk=>⟨rfl,h h' tk hk⟩
 self:=fun i s Q E st h=>W.self i s Q E st h
end
end Mine
set_option genSizeOf false
set_option genInjectivity false
namespace Mine
variable [Tabs] [Frk]
section
variable (X:Wd)
noncomputable def FeedPost (A:Around) (s:Shared) (Ex:Addr→Prop) (brw:Bool) (xs:List D) (sc':Scope) (target:Expr) (tg:List Nat) (one:Bool) (Q:Value→Shared→Prop):Prop :=
 ∀ (I:Addr) (Fp Wr:Addr→Prop) (It:Heap→(Addr→Prop)→Prop) (St:Nat→Heap→Prop) (h2:Heap) (tk2:Nat),Turns X.P X.w A X.c sc' target tg one I xs Fp Wr It St→St 0 h2→It h2 (fun b=>Ex b∨Wr b)→Kp s.heap h2→(∀ b,Wr b→s.heap.get? b=none) →
  (∀ b,Fp b→Wr b∨(brw=false→¬ Ex b))→Q (.ref I) {s with heap:=h2,toks:=tk2}
noncomputable def FS (sc:Scope) (k:IK) (it it2:T) (e:Expr):Prop :=
 ∀ (σ:MEnv) (p:At X sc σ) (E:Value→Shared→Prop) (b:Bool) (xs:List D) (sc':Scope) (target:Expr) (tg:List Nat) (one:Bool) (Q:Value→Shared→Prop),TgOk X.c sc' target tg one→enumOk one k=true→evI X.G X.F σ b k it it2=some xs→FeedPost X p.A p.s p.Ex b xs sc' target tg one Q →
  wpAny (model X.P X.w) p.A (eval e p.env) (fun v s₁=>wpAny (model X.P X.w) p.A (pyIter v) Q E s₁) E p.s
noncomputable def RgS (sc:Scope) (ta tb:T) (e:Expr):Prop :=
 ∀ (σ:MEnv) (p:At X sc σ) (E:Value→Shared→Prop) (m m':Int) (Q:Value→Shared→Prop),ev X.G X.F σ true ta=some (.int m)→ev X.G X.F σ true tb=some (.int m') →
  (∀ r h' tk t u v,Kp p.s.heap h'→IsRange h' r m m' 1 t u v→p.s.heap.get? r=none→Q (.ref r) {p.s with heap:=h',toks:=tk})→wpAny (model X.P X.w) p.A (eval e p.env) Q E p.s
end
theorem bI:∀ (k:Nat) (a:Int),(rangeD a k).length=k
 |0,_=>rfl
 |k+1,a=>congrArg (· + 1) (bI k _)
theorem ef:∀ (k:Nat) (a:Int) (i:Nat),i<k→(rangeD a k)[i]? = some (.int (a+i))
 |k+1,a,0,_=>congrArg (fun x=>some (D.int x)) (Int.add_zero a).symm
 |k+1,a,i+1,h=>(ef k (a+1) i (Nat.lt_of_succ_lt_succ h)).trans (congrArg (fun x=>some (D.int x)) (by rw [Int.add_assoc,Int.add_comm 1];rfl))
theorem bp {s:Shared} {h1:Heap} (k1:Kp s.heap h1):s.heap.get? h1.objs.size=none:=k1.none (aJ _)
theorem oG {s:Shared} {h1:Heap} (k1:Kp s.heap h1):s.heap.get? (h1.objs.size+1)=none∧h1.get? (h1.objs.size+1)=none:=by
 have q:h1.get? (h1.objs.size+1)=none:=by
  cases e:h1.get? (h1.objs.size+1) with
  |none=>rfl
  |some o=>exact absurd (Heap.lt_size e) (Nat.not_lt.mpr (Nat.le_succ _))
 exact ⟨k1.none q,q⟩
noncomputable def Itr (h:Heap) (I:Addr) (ty:String):Prop:=∃ o,h.get? I=some o∧o.cls = .type ty∧IsFields o
theorem Itr.knd {h:Heap} {I:Addr} {ty:String} {P:Prop} (x:Itr h I ty) (n:ty≠"code"):Knd h I P:=let ⟨o,ho,hc,hf⟩:=x;⟨o,ho,⟨ty,hc,n⟩,.inl hf⟩
noncomputable def Sqn (h:Heap) (a:Addr) (ty:String):Prop:=∃ o,h.get? a=some o∧o.cls = .type ty∧IsSeq o
theorem Sqn.knd {h:Heap} {a:Addr} {ty:String} {P:Prop} (x:Sqn h a ty) (n:ty≠"code") (p:P):Knd h a P:=let ⟨o,ho,hc,hf⟩:=x;⟨o,ho,⟨ty,hc,n⟩,.inr ⟨p,hf⟩⟩
section
variable {X:Wd} {sc:Scope} {mg mb:Str→Option Value} {A:Around} {E:Value→Shared→Prop} {s:Shared} {Ex:Addr→Prop} {b:Bool} {xs:List D} {sc':Scope} {target:Expr} {tg:List Nat} {one:Bool} {Q:Value→Shared→Prop} {h1:Heap} {tk1:Nat}
theorem il {its:List Value} {ys:List D} {h:Heap} {Y:Addr→Prop} {i:Nat} {d:D} {v:Value} (it:DenL h Y ys its) (hx:ys[i]? = some d) (hv:its[i]? = some v):Den h Y d v:=by
 obtain ⟨v',g,dv⟩:=it.get hx
 rw [← sm (g.symm.trans hv)];exact dv
theorem gg {a:Addr} {items:Array Value} {ys:List D} {o:Obj} {ty sy:String} {n:Nat} {PP:Nat→Value→Prop} {St:Nat→Heap→Prop} (hh:A.handled=none) (hT:TgOk X.c sc' target tg one) (k1:Kp s.heap h1) (ha:a<h1.objs.size) (r:DenL h1 Ex ys items.toList) (nx:b=false→¬ Ex a)
  (P:FeedPost X A s Ex b xs sc' target tg one Q) (W:Walks X.P X.w A h1.objs.size [h1.objs.size,a] [h1.objs.size] n PP St) (hn:n=xs.length) (itv:∀ i d v h Y,xs[i]? = some d→DenL h Y ys items.toList→PP i v→Den h Y d v) (st0:St 0 (h1.push o))
  (kn:∀ i h,St i h→Itr h h1.objs.size ty∧Sqn h a sy) (h1y:badIt.contains ty=false) (h2y:ty≠"code") (h3y:sy≠"code"):Q (.ref h1.objs.size) {s with heap:=h1.push o,toks:=tk1}:=by
 have k2:=Kp.push h1 o
 have hne:a≠h1.objs.size:=Nat.ne_of_lt ha
 refine P h1.objs.size _ _ (fun h X=>DenL h X ys items.toList) _ (h1.push o) tk1
  (Turns.of_walks hh hT W hn (fun i h b st hb=> ?_) (fun h h' X X' x e1 e2=>DenL.mono e1 e2 _ _ x) (fun i d h X v hx it hv=>itv i d v h X hx it hv) fun i h st=>let ⟨o,ho,hc,_⟩:=(kn i h st).1;⟨ty,o,ho,hc,h1y⟩) st0 (r.grow k2 fun b hb=>by rw [List.mem_singleton.mp hb];exact aJ _) (k1.trans k2) (fun b hb=>by rw [List.mem_singleton.mp hb];exact bp k1) fun b hb=> ?_
 ·rcases List.mem_cons.mp hb with rfl |hb
  ·exact (kn i h st).1.knd h2y
  ·rw [List.mem_singleton.mp hb]
   exact (kn i h st).2.knd h3y fun q=>hne (List.mem_singleton.mp q)
 ·rcases List.mem_cons.mp hb with rfl |hb
  ·exact .inl List.mem_cons_self
  ·rw [List.mem_singleton.mp hb];exact .inr nx
theorem jQ {o:Obj} {ty:String} {n:Nat} {PP:Nat→Value→Prop} {St:Nat→Heap→Prop} (hh:A.handled=none) (hT:TgOk X.c sc' target tg one) (k1:Kp s.heap h1)
  (P:FeedPost X A s Ex b xs sc' target tg one Q) (W:Walks X.P X.w A h1.objs.size [h1.objs.size] [h1.objs.size] n PP St) (hn:n=xs.length) (itv:∀ i d v h Y,xs[i]? = some d→PP i v→Den h Y d v) (st0:St 0 (h1.push o))
  (kn:∀ i h,St i h→Itr h h1.objs.size ty) (h1y:badIt.contains ty=false) (h2y:ty≠"code"):Q (.ref h1.objs.size) {s with heap:=h1.push o,toks:=tk1} :=
 P h1.objs.size _ _ (fun _ _=>True) _ (h1.push o) tk1
  (Turns.of_walks hh hT W hn (fun i h b st hb=>by rw [List.mem_singleton.mp hb];exact (kn i h st).knd h2y) (fun _ _ _ _ _ _ _=>trivial) (fun i d h X v hx _ hv=>itv i d v h X hx hv) fun i h st=>let ⟨o,ho,hc,_⟩:=kn i h st;⟨ty,o,ho,hc,h1y⟩) st0 trivial (k1.trans (Kp.push h1 o)) (fun b hb=>by rw [List.mem_singleton.mp hb];exact bp k1) fun b hb=> .inl hb
theorem oj {a:Addr} {items:Array Value} (hh:A.handled=none) (hT:TgOk X.c sc' target tg one) (k1:Kp s.heap h1) (l:h1.PlainList a items) (r:DenL h1 Ex xs items.toList) (nx:b=false→¬ Ex a) (P:FeedPost X A s Ex b xs sc' target tg one Q):wpAny (model X.P X.w) A (pyIter (.ref a)) Q E {s with heap:=h1,toks:=tk1}:=by
 refine wpAny_pyIter_list (PL.isList l) ?_
 have k2:=Kp.push h1 {cls:= .type "list_iterator",data:= .fields #[.ref a,.int 0 0]}
 have ha:=PL.lt l
 exact gg (s:=s) (tk1:=tk1) (ty:="list_iterator") (sy:="list") hh hT k1 ha r nx P (Walks.list hh h1.objs.size a (Nat.ne_of_lt ha) items) (ak r) (fun i d v h Y hx it hv=>il it hx (Array.getElem?_toList.trans hv)) ⟨⟨_,Heap.get?_push_size _ rfl,rfl,rfl⟩,PL.isList (PL.at' l (k2.at a))⟩
  (fun i h st=>⟨let ⟨o,ho,hc,hd⟩:=st.1;⟨o,ho,hc,_,hd⟩,let ⟨o,ho,hc,k,hd⟩:=st.2;⟨o,ho,hc,_,_,hd⟩⟩) (by decide) (by decide) (by decide)
theorem qg {a:Addr} {items:Array Value} (hh:A.handled=none) (hT:TgOk X.c sc' target tg one) (k1:Kp s.heap h1) (l:TupAt h1 a items) (r:DenL h1 Ex xs items.toList) (nx:b=false→¬ Ex a) (P:FeedPost X A s Ex b xs sc' target tg one Q):wpAny (model X.P X.w) A (pyIter (.ref a)) Q E {s with heap:=h1,toks:=tk1}:=by
 refine wpAny_pyIter_tuple (TupAt.isTup l) ?_
 have k2:=Kp.push h1 {cls:= .type "tuple_iterator",data:= .fields #[.ref a,.int 0 0]}
 have ha:=TupAt.lt l
 exact gg (s:=s) (tk1:=tk1) (ty:="tuple_iterator") (sy:="tuple") hh hT k1 ha r nx P (Walks.tuple hh h1.objs.size a (Nat.ne_of_lt ha) items) (ak r) (fun i d v h Y hx it hv=>il it hx (Array.getElem?_toList.trans hv)) ⟨⟨_,Heap.get?_push_size _ rfl,rfl,rfl⟩,TupAt.isTup (TupAt.at' l (k2.at a))⟩
  (fun i h st=>⟨let ⟨o,ho,hc,hd⟩:=st.1;⟨o,ho,hc,_,hd⟩,let ⟨o,ho,hc,k,hd⟩:=st.2;⟨o,ho,hc,_,_,hd⟩⟩) (by decide) (by decide) (by decide)
noncomputable def signs (x:Str):List D:=x.cps.toList.map fun c=> .str ⟨#[c]⟩
theorem j2 {x:Str} {i:Nat} {d:D} {v:Value} {h:Heap} {Y:Addr→Prop} (hx:(signs x)[i]? = some d) (hv:SignAt x i v):Den h Y d v:=by
 obtain ⟨c,u,hc,e⟩:=hv
 rw [signs,List.getElem?_map,Array.getElem?_toList,hc] at hx
 rw [← sm hx];exact ⟨u,e⟩
theorem fz (x:Str):x.cps.size=(signs x).length:=by rw [signs,List.length_map,Array.length_toList]
theorem rD {x:Str} {t:Tok} (hh:A.handled=none) (hT:TgOk X.c sc' target tg one) (k1:Kp s.heap h1) (P:FeedPost X A s Ex b (signs x) sc' target tg one Q):wpAny (model X.P X.w) A (pyIter (.str x t)) Q E {s with heap:=h1,toks:=tk1}:=by
 have key:=fun ty (W:Walks X.P X.w A h1.objs.size [h1.objs.size] [h1.objs.size] x.cps.size (SignAt x) (fun i h=>h.IsStrIter h1.objs.size ty x t i)) h1y h2y =>
  jQ (s:=s) (ty:=ty) (o:={cls:= .type ty,data:= .fields #[.str x t,.int 0 0]}) (tk1:=tk1) hh hT k1 P W (fz x) (fun i d v h Y hx hv=>j2 hx hv) ⟨_,Heap.get?_push_size _ rfl,rfl,rfl⟩ (fun i h st=>let ⟨o,ho,hc,hd⟩:=st;⟨o,ho,hc,_,hd⟩) h1y h2y
 cases ha:x.cps.all (· < 128)
 ·exact wpAny_pyIter_wide ha (key "str_iterator" (Walks.strWide hh _ x t) (by decide) (by decide))
 ·exact wpAny_pyIter_ascii ha (key "str_ascii_iterator" (Walks.strAscii hh _ x t) (by decide) (by decide))
theorem lp {ds:List D} {a:Addr} {h:Heap} (hd:DenR h Ex b (.list ds) (.ref a)) (e:b=false):¬ Ex a:=by
 subst e
 obtain ⟨a',items',e,nx,_⟩:=hd
 rw [Value.ref.inj e];exact nx
theorem rV {d:D} {v:Value} (hh:A.handled=none) (hT:TgOk X.c sc' target tg one) (k1:Kp s.heap h1) (hd:DenR h1 Ex b d v) (hi:iterD d=some xs) (P:FeedPost X A s Ex b xs sc' target tg one Q):wpAny (model X.P X.w) A (pyIter v) Q E {s with heap:=h1,toks:=tk1}:=by
 have top:=hd.top
 cases d with
 |list ds =>
  refine gd hi fun _ hi=> ?_
  obtain rfl:=sm hi
  obtain ⟨a,items,rfl,l,r⟩:=top
  exact oj hh hT k1 l r (lp hd) P
 |tup ds =>
  refine gd hi fun _ hi=> ?_
  obtain rfl:=sm hi
  obtain ⟨a,items,rfl,nx,l,r⟩:=top
  exact qg hh hT k1 l r (fun _=>nx) P
 |str x =>
  refine gd hi fun _ hi=> ?_
  obtain rfl:=sm hi
  obtain ⟨t,rfl⟩:=top
  exact rD hh hT k1 P
 |_=>exact ah hi
theorem evI_b {G:af} {F:FEnv} {σ:MEnv} {b:Bool} {it:T}:ev G F σ (b || false) it=ev G F σ b it:=by rw [Bool.or_false]
theorem sY {t:T} {e:Expr} {t2:T} (h:VS X sc t e):FS X sc .plain t t2 e:=fun σ p E b xs sc' target tg one Q hT he hx P =>
 ae (show (ev X.G X.F σ (b || false) t).bind iterD=some xs from hx) fun d hd hx=>h σ p E b d _ (evI_b.symm.trans hd) fun v h1 tk1 k1 d1 _=>rV p.ar.hd hT k1 d1 hx P
theorem fF {m n:Int} {xs:List D} {P:Prop} (h:rngD m n=some xs) (k:idxOk m=true→idxOk n=true→(n - m).toNat≤1048576→xs=rangeD m (n - m).toNat→P):P :=
 gd h fun h e=>aa h fun h h3=>aa h fun h1 h2=>k h3 h2 (aM h1) (sm e).symm
theorem e9 {m n:Int} (h1:idxOk m=true) (h2:idxOk n=true):(-(2 ^ 62)≤m∧m<2 ^ 62)∧(-(2 ^ 62)≤n∧n<2 ^ 62)∧n - m<9223372036854775808∧Builtin.Range.rangeSize m n 1=((n - m).toNat:Int):=by
 have h1:m.natAbs<_:=of_decide_eq_true h1
 have h2:n.natAbs<_:=of_decide_eq_true h2
 refine ⟨by omega,by omega,by omega,?_⟩
 rw [rangeSize_one];split<;>omega
theorem qM {k:IK} {ta tb it it2:T} {e:Expr} (h:RgS X sc ta tb e) (hk:∀ σ b xs,evI X.G X.F σ b k it it2=some xs→∃ m n,ev X.G X.F σ true ta=some (.int m)∧ev X.G X.F σ true tb=some (.int n)∧rngD m n=some xs):FS X sc k it it2 e:=fun σ p E b xs sc' target tg one Q hT he hx P=>by
 obtain ⟨m,m',hm,hm',hr⟩:=hk σ b xs hx
 refine fF hr fun i1 i2 _ hxs=> ?_
 obtain ⟨b1,b2,b3,hsz⟩:=e9 i1 i2
 refine h σ p E m m' _ hm hm' fun r h' tk t' u v k' hr _=> ?_
 refine wpAny_pyIter_range hr (small_one b1.1 b1.2 b2.1 b2.2) ?_
 rw [hsz]
 refine jQ (s:=p.s) (ty:="range_iterator") (tk1:=tk) p.ar.hd hT k' P (Walks.range p.ar.hd h'.objs.size m 1 (m' - m).toNat) (by rw [hxs,bI]) (fun i d v h Y hx hv=> ?_) ?_ (fun i h st=>⟨_,st,rfl,_,rfl⟩) (by decide) (by decide)
 ·obtain ⟨u,e⟩:=hv
  have hi:=(List.getElem?_eq_some_iff.mp hx).1
  rw [hxs,bI] at hi
  rw [hxs,ef _ _ _ hi] at hx
  rw [← sm hx]
  exact ⟨u,by rw [e,Int.mul_one]⟩
 ·have:=Heap.get?_push_size h' (o:={cls:= .type "range_iterator",data:= .fields #[rawInt m,rawInt ((m' - m).toNat:Int),rawInt 1]}) rfl
  simpa using this
theorem eF:bootBuiltins rangeS=some (.type "range"):=by decide +kernel
theorem qm:bootBuiltins enumS=some (.type "enumerate"):=by decide +kernel
theorem tY:bootBuiltins revS=some (.type "reversed"):=by decide +kernel
theorem j6:bootBuiltins listS=some (.type "list"):=by decide +kernel
theorem dV {α:Type} {f:Int→Option α} {r:α} {o:Option D} {P:Prop} (h:(o.bind fun d=>d.int?.bind f)=some r) (k:∀ i,o=some (.int i)→f i=some r→P):P :=
 ae h fun d hd h=>ae h fun i hi h=>aV (P:=fun d=>o=some d→P) hi (fun hd=>k i hd h) hd
theorem ie {ta:T} {es:List Expr} {np pos:Pos} (B:X.Ok mg mb) (h:AS X sc (.cons ta .nil) es) (hs:isGlob sc rangeS=true):RgS X sc (.cst (.int 0)) ta (.Call (.Name rangeS np) es [] pos):=fun σ p E m m' Q hm hm' P=>by
 obtain rfl:=Av (sm hm)
 refine wpAny_Call_ofName (cR p B hs (by decide) (by decide) eF ?_)
 refine PyProof.Rows.callWith_type (h.1 p.env pos).1 (bw h p (b:=true) (ds:=[.int m']) (ad hm' rfl) fun vs h' tk k' dl=> ?_)
 obtain ⟨v,rfl,t,e⟩:=dl.one
 subst e
 refine call_range_1 ?_
 have k2:=Kp.push h' {cls:= .type "range",data:= .fields #[.int 0 tk,.int m' t,.int 1 (tk+1)]}
 exact P h'.objs.size _ _ _ _ _ (k'.trans k2) (IsRange.new h' 0 m' 1 tk t (tk+1)) (bp k')
theorem hK {ta tb:T} {es:List Expr} {np pos:Pos} (B:X.Ok mg mb) (h:AS X sc (.cons ta (.cons tb .nil)) es) (hs:isGlob sc rangeS=true):RgS X sc ta tb (.Call (.Name rangeS np) es [] pos):=fun σ p E m m' Q hm hm' P=>by
 refine wpAny_Call_ofName (cR p B hs (by decide) (by decide) eF ?_)
 refine PyProof.Rows.callWith_type (h.1 p.env pos).1 (bw h p (b:=true) (ds:=[.int m,.int m']) (ad hm (ad (ad hm' rfl) rfl)) fun vs h' tk k' dl=> ?_)
 obtain ⟨v,u,rfl,⟨t,e⟩,⟨t',e'⟩⟩:=dl.two
 subst e e'
 refine call_range_2 ?_
 have k2:=Kp.push h' {cls:= .type "range",data:= .fields #[.int m t,.int m' t',.int 1 tk]}
 exact P h'.objs.size _ _ _ _ _ (k'.trans k2) (IsRange.new h' m m' 1 t t' tk) (bp k')
theorem rK {ta t2:T} {e:Expr} (h:RgS X sc (.cst (.int 0)) ta e):FS X sc .range1 ta t2 e:=qM h fun σ b xs hx=>by
 rw [evI,show (b || isRange .range1)=true from Bool.or_true b] at hx
 exact dV hx fun n hn hx=>⟨0,n,rfl,hn,hx⟩
theorem rI {ta tb:T} {e:Expr} (h:RgS X sc ta tb e):FS X sc .range2 ta tb e:=qM h fun σ b xs hx=>by
 rw [evI,show (b || isRange .range2)=true from Bool.or_true b] at hx
 exact dV hx fun m hm hx=>dV hx fun n hn hx=>⟨m,n,hm,hn,hx⟩
theorem zi {ta t2:T} {es:List Expr} {np pos:Pos} (B:X.Ok mg mb) (h:AS X sc (.cons ta .nil) es) (hs:isGlob sc revS=true):FS X sc .rev ta t2 (.Call (.Name revS np) es [] pos):=fun σ p E b xs sc' target tg one Q hT he hx P=>by
 refine ae (show (ev X.G X.F σ (b || false) ta).bind _=some xs from hx) fun d hd hx=>ae hx fun ds hds hx=>gd hx fun _ hx=> ?_
 obtain rfl:=sm hx
 refine wpAny_Call_ofName (cR p B hs (by decide) (by decide) tY ?_)
 refine PyProof.Rows.callWith_type (h.1 p.env pos).1 (bw h p (b:=b) (ds:=[d]) (ad (evI_b.symm.trans hd) rfl) fun vs h1 tk k1 dl=> ?_)
 obtain ⟨v,rfl,dv⟩:=dl.one
 revert dv
 refine bL (P:=fun d=>DenR h1 p.Ex b d v→_) hds fun dv=> ?_
 obtain ⟨a,items,rfl,l,r⟩:=dv.top
 refine call_reversed_list (PL.isList l) ?_
 have k2:=Kp.push h1 (revObj a ((items.size:Int) - 1))
 have z:=ak r
 have ha:=PL.lt l
 have hrev:(h1.push (revObj a ((items.size:Int) - 1))).IsRevIter h1.objs.size a ((items.size:Int) - 1):=⟨_,Heap.get?_push_size _ rfl,rfl,rfl⟩
 refine wpAny_pyIter_revIter hrev ?_
 refine gg (s:=p.s) (tk1:=tk) (ty:="list_reverseiterator") (sy:="list") p.ar.hd hT k1 ha r (lp dv) P (Walks.listRev p.ar.hd h1.objs.size a (Nat.ne_of_lt ha) items) (z.trans (List.length_reverse).symm) (fun i d v h Y hx it hv=> ?_) ⟨Nat.zero_le _,by simpa using hrev,PL.isList (PL.at' l (k2.at a))⟩
  (fun i h st=>⟨let ⟨o,ho,hc,hd⟩:=st.2.1;⟨o,ho,hc,_,hd⟩,let ⟨o,ho,hc,k,hd⟩:=st.2.2;⟨o,ho,hc,_,_,hd⟩⟩) (by decide) (by decide) (by decide)
 have hi:=(List.getElem?_eq_some_iff.mp hx).1
 rw [List.length_reverse] at hi
 rw [List.getElem?_reverse hi] at hx
 exact il it hx (by rw [Array.getElem?_toList,← z];exact hv)
end
end Mine
set_option genSizeOf false
set_option genInjectivity false
namespace Mine
variable [Tabs] [Frk]
open AutoSeq1 (wpAny_loadPart')
section
variable {prog:Program} {w:World} {A:Around} {E:Value→Shared→Prop} {s:Shared}
theorem fX {I t:Addr} {i:Nat} {items:Array Value} {x:Value} {Q:Value→Shared→Prop} (st:s.heap.IsTupleIter I t i) (tt:s.heap.IsTuple t items) (hx:items[i]? = some x)
  (hQ:∀ h',h'.IsTupleIter I t (i+1)→Heap.SameBut I s.heap h'→Q x {s with heap:=h'}):wpAny (model prog w) A (Builtin.SmallTypes.nextOf (.ref I)) Q E s:=by
 have hty:=st.typeIs
 obtain ⟨o,ho,hc,hd⟩:=st
 obtain ⟨ot,hot,_,k,hdt⟩:=tt
 unfold Builtin.SmallTypes.nextOf
 refine wpAny_bind (wpAny_callSpecial?_slot (name:=Str.ofString "__next__") hty F.slot_tuple_iterator_next
  (wpAny_call_entry F.slot_tuple_iterator_next hty F.entry_tuple_iterator_next ?_ (F.args_tuple_iterator_next_1 _)))
 show wpAny _ _ (field (.ref I) 0 >>= _) _ _ s
 refine wpAny_bind (wpAny_field ho hd (x:= .ref t) rfl ?_)
 show wpAny _ _ (if (Value.ref t==Value.none)=true then _ else _) _ _ s
 rw [if_neg (show ¬ ((Value.ref t==Value.none)=true) from Bool.false_ne_true)]
 show wpAny _ _ (field (.ref I) 1 >>= _) _ _ s
 refine wpAny_bind (wpAny_field ho hd (x:= .int i 0) rfl ?_)
 show wpAny _ _ (seqItems? (.ref t) >>= _) _ _ s
 refine wpAny_bind (wpAny_seqItems hot hdt ?_)
 simp only [Int.toNat_natCast,hx]
 refine wpAny_bind (wpAny_setField ho hd (by simp) (wpAny_pure ⟨x,rfl,wpAny_pure (hQ _ ⟨_,Heap.get?_update_self _ ho (Obj.isFreed_of_fields (Obj.data_mapFields hd _)),(Obj.cls_mapFields ..).trans hc,?_⟩ (Heap.SameBut.update ..))⟩))
 rw [Obj.data_mapFields hd];simp [rawInt]
theorem gj {I t:Addr} {i:Nat} {items:Array Value} {Q:Value→Shared→Prop} (hh:A.handled=none) (st:s.heap.IsTupleIter I t i) (tt:s.heap.IsTuple t items) (hx:items[i]? = none)
  (hE:∀ h' e,Heap.ExtBut I s.heap h'→(∃ o,h'.get? e=some o∧o.cls = .type "StopIteration")→E (.ref e) {s with heap:=h'}):wpAny (model prog w) A (Builtin.SmallTypes.nextOf (.ref I)) Q E s:=by
 have hty:=st.typeIs
 obtain ⟨o,ho,hc,hd⟩:=st
 obtain ⟨ot,hot,_,k,hdt⟩:=tt
 unfold Builtin.SmallTypes.nextOf
 refine wpAny_bind (wpAny_callSpecial?_slot (name:=Str.ofString "__next__") hty F.slot_tuple_iterator_next
  (wpAny_call_entry F.slot_tuple_iterator_next hty F.entry_tuple_iterator_next ?_ (F.args_tuple_iterator_next_1 _)))
 show wpAny _ _ (field (.ref I) 0 >>= _) _ _ s
 refine wpAny_bind (wpAny_field ho hd (x:= .ref t) rfl ?_)
 show wpAny _ _ (if (Value.ref t==Value.none)=true then _ else _) _ _ s
 rw [if_neg (show ¬ ((Value.ref t==Value.none)=true) from Bool.false_ne_true)]
 show wpAny _ _ (field (.ref I) 1 >>= _) _ _ s
 refine wpAny_bind (wpAny_field ho hd (x:= .int i 0) rfl ?_)
 show wpAny _ _ (seqItems? (.ref t) >>= _) _ _ s
 refine wpAny_bind (wpAny_seqItems hot hdt ?_)
 simp only [Int.toNat_natCast,hx]
 refine wpAny_bind (wpAny_rule (wpAny_bind (wpAny_setField ho hd (by simp) ?_)))
 show wpAny _ _ (newExc (.type "StopIteration") [] >>= _) _ _ _
 refine wpAny_bind ?_
 simp only [newExc,newTuple]
 refine wpAny_bind (wpAny_newObj_type ?_ (by size_fits))
 refine wpAny_bind (m:=firstArgMember _ _) (wpAny_of_eq (a:=Value.none) (by first |rfl |(simp only [firstArgMember];rfl)) ?_)
 refine wpAny_newObj_type ?_ (by size_fits)
 simp only [raiseNew]
 refine wpAny_bind (wpAny_handled ?_)
 first |rw [show A.in1.handled=none from hh] |rw [hh]
 refine wpAny_bind (wpAny_pure (wpAny_throw ?_))
 exact hE _ _ (((Heap.SameBut.update ..).extBut.push _).push _) ⟨_,Heap.get?_push_size _ rfl,rfl⟩
end
theorem Draws.tuple {prog:Program} {w:World} {A:Around} (hh:A.handled=none) (I t:Addr) (hne:t≠I) (items:Array Value) :
  Draws prog w A I [I,t] items.size (fun i v=>items[i]? = some v) (fun i h=>h.IsTupleIter I t i∧h.IsTuple t items) where
 live:=fun _ _ st=>let ⟨o,ho,_⟩:=st.1;⟨o,ho⟩
 frame:=fun _ _ _ st hk=>⟨let ⟨o,ho,r⟩:=st.1;⟨o,hk I (by simp) o ho,r⟩,st.2.at fun o e=>hk t (by simp) o e⟩
 item:=fun i s Q E hi st hQ=>by
  refine fX st.1 st.2 (x:=items[i]) (by simp [hi]) fun h' st' sb=> ?_
  exact hQ _ h' s.toks (by simp [hi]) ⟨st',st.2.extBut sb.extBut hne⟩ sb
 done:=fun s Q E st hE=>gj hh st.1 st.2 (by simp) hE
set_option maxRecDepth 100000 in
set_option maxHeartbeats 1000000 in
theorem gr (t:Addr) (items:Array Value) (n:Nat) :
  Meets (Builtin.«enumerate.__new__» ⟨[.type "enumerate",.ref t],[]⟩) (fun _ R s=>s.heap.get? t=some {cls:= .type "tuple",data:= .seq items n} ∧
   R (.ok (.ret (.ref (s.heap.push {cls:= .type "tuple_iterator",data:= .fields #[.ref t,.int 0 0]}).objs.size)))
    {s with heap:=(s.heap.push {cls:= .type "tuple_iterator",data:= .fields #[.ref t,.int 0 0]}).push {cls:= .type "enumerate",data:= .fields #[.none,.bool false,.ref s.heap.objs.size,rawInt 0,.none,.none]}}) :=
 .of_wp fun prog w A R s h=>by
  obtain ⟨hp,g,d,tk,os⟩:=s;obtain ⟨hl,h⟩:=h
  have hsub:=sub_enumerate
  have hL:Heap.IsTuple (Shared.heap ⟨hp,g,d,tk,os⟩) t items:=⟨_,hl,rfl,n,rfl⟩
  wp_walk using wpAny_loadPart' hl
  refine wpAny_stack_any fun st=>wpAny_pure ?_
  split
  ·rename_i c _ _ _ _ _
   cases (c==Value.type "enumerate")
   ·wp_walk using wpAny_loadPart' hl,wpAny_pyIter_tuple hL
    exact ⟨_,rfl,h⟩
   ·wp_walk using wpAny_loadPart' hl,wpAny_pyIter_tuple hL
    exact ⟨_,rfl,h⟩
  ·wp_walk using wpAny_loadPart' hl,wpAny_pyIter_tuple hL
   exact ⟨_,rfl,h⟩
section
variable {prog:Program} {w:World} {A:Around} {E:Value→Shared→Prop} {s:Shared}
theorem hV {t:Addr} {items:Array Value} {Q:Value→Shared→Prop} (hL:TupAt s.heap t items)
  (h:∀ h',IsEnum h' (s.heap.objs.size+1) s.heap.objs.size 0 .none→h'.IsTupleIter s.heap.objs.size t 0→h'.objs.size=s.heap.objs.size+2→Kp s.heap h'→Q (.ref (s.heap.objs.size+1)) {s with heap:=h'}) :
  wpAny (model prog w) A (call (.type "enumerate") [.ref t]) Q E s:=by
 obtain ⟨n,hl⟩:=hL
 refine callType_new F.called_enumerate (by decide) (F.typeCall_enumerate_1 _) (F.newCall_enumerate_1 _) (fun obj=>F.args_object_init_2 obj _) F.entry_enumerate_new (gr t items n) ⟨hl,?_⟩
 have z:(s.heap.push {cls:= .type "tuple_iterator",data:= .fields #[.ref t,.int 0 0]}).objs.size=s.heap.objs.size+1:=Heap.size_push ..
 show _∧_
 rw [z]
 have he:=Heap.get?_push_size (s.heap.push {cls:= .type "tuple_iterator",data:= .fields #[.ref t,.int 0 0]}) (o:={cls:= .type "enumerate",data:= .fields #[.none,.bool false,.ref s.heap.objs.size,rawInt 0,.none,.none]}) rfl
 rw [z] at he
 refine ⟨⟨_,he,rfl⟩,h _ he ⟨_,Heap.get?_push_of_some _ (Heap.get?_push_size _ rfl),rfl,rfl⟩ (by rw [Heap.size_push,z]) (.of fun b o x=>Heap.get?_push_of_some _ (Heap.get?_push_of_some _ x))⟩
end
theorem iX:∀ {ys:List D} {k i:Nat} {d:D},(enumD k ys)[i]? = some d→∃ y,ys[i]? = some y∧d = .tup [.int ((k+i:Nat):Int),y]
 |y :: ys,k,0,d,h=>⟨y,rfl,(sm h).symm⟩
 |y :: ys,k,i+1,d,h=>by
  obtain ⟨y',h1,h2⟩:=iX (ys:=ys) (k:=k+1) h
  exact ⟨y',h1,by rw [h2,Nat.succ_add_eq_add_succ]⟩
theorem eY:∀ (ys:List D) (k:Nat),(enumD k ys).length=ys.length
 | [],_=>rfl
 |y :: ys,k=>congrArg (· + 1) (eY ys _)
section
variable {prog:Program} {w:World} {A:Around} {c:Cx} {sc:Scope} {target:Expr} {tg:List Nat}
theorem Turns.enum {e it:Addr} {fp:List Addr} {ys:List D} {n:Nat} {P:Nat→Value→Prop} {St:Nat→Heap→Prop} {It:Heap→(Addr→Prop)→Prop} (hh:A.handled=none) (hT:TgOk c sc target tg false)
  (Dr:Draws prog w A.in1 it fp n P St) (hei:e≠it) (hef:e∉fp) (hif:it∈fp) (hn:n=ys.length)
  (kinds:∀ i h b,St i h→b∈fp→Knd h b (b≠it))
  (items:∀ h h' X X',It h X→(∀ b o,¬ X b→isTab o=false→h.get? b=some o→h'.get? b=some o)→(∀ b,Al h b→¬ X b→¬ X' b)→It h' X')
  (itd:∀ i d h X v,ys[i]? = some d→It h X→P i v→Den h X d v) :
  Turns prog w A c sc target tg false e (enumD 0 ys) (· ∈ e :: fp) (· ∈ [e,it]) It (fun i h=>(∃ old,IsEnum h e it (i:Int) old)∧St i h):=by
 have W:=WalksT.enumerateD Dr e hei hef hif
 have kk:∀ (i:Nat) h b,((∃ old,IsEnum h e it (i:Int) old)∧St i h)→b∈e :: fp→Knd h b (¬ b∈[e,it]):=by
  rintro i h b ⟨⟨old,he⟩,st⟩ hb
  by_cases hbe:b=e
  ·rw [hbe];exact ⟨_,he,⟨_,rfl,by decide⟩,.inl ⟨_,rfl⟩⟩
  ·obtain ⟨o,ho,hT',hf⟩:=kinds i h b st ((List.mem_cons.mp hb).resolve_left hbe)
   exact ⟨o,ho,hT',hf.imp id fun q=>⟨fun m=>(List.mem_cons.mp m).elim hbe fun m=>q.1 (List.mem_singleton.mp m),q.2⟩⟩
 refine ⟨fun i h h' st hk=>W.frame i h h' st fun b hb o e=>hk b o hb e,kk,fun b hb=>W.sub b hb,items,?_,fun s Q E st h=> ?_,fun i s Q E st h=>W.self i s Q E st h⟩
 ·intro i d s env Ex ow σ σ' Q E E' hsc hx st hit hwx R hb h
  obtain ⟨y,hy,rfl⟩:=iX hx
  have hi:i<n:=by rw [hn];exact (List.getElem?_eq_some_iff.mp hy).1
  refine W.item i s _ E hi st fun T vals h1 tk1 hP hsz hT1 hM hk1=>⟨_,rfl,?_⟩
  obtain ⟨t,x,hPx,rfl⟩:=hP
  obtain ⟨_,es,k,p,rfl,ht⟩:=hT.resolve_left fun q=>nomatch q.1
  refine W.go es k p i T {s with heap:=h1,toks:=tk1} _ _ hM fun h2 st2 hk2=> ?_
  have kn:=fun b hb=>kk _ _ b st (W.sub b hb)
  have kw:∀ b o,¬ b∈[e,it]→s.heap.get? b=some o→h2.get? b=some o:=fun b o nb q=>hk2 b o nb (hk1 b o nb q)
  have R2:RR env c.tbl Ex ow σ h2:=R.mutl (Wr:=(· ∈ [e,it])) kw hwx (fun b hb=>Knd.fld (kn b hb) fun q=>q hb) fun b hb=>let ⟨o,ho,_⟩:=kk _ _ b st2 (W.sub b hb);⟨o,ho⟩
  have it2:It h2 Ex:=items _ _ _ _ hit (fun b o n _ e=>kw b o (fun q=>n (hwx b q)) e) (fun _ _ n=>n)
  have tup2:h2.IsTuple T #[.int i t,x]:=hT1.at fun o e=>hk2 T o (W.apart i T h1 hM) e
  refine dg (s:={s with heap:=h2,toks:=tk1}) hh hsc ht R2 tup2 (ds:=[.int ((0+i:Nat):Int),y]) ⟨_,_,rfl,⟨t,by rw [Nat.zero_add]⟩,_,_,rfl,itd i y h2 Ex x hy it2 hPx,rfl⟩ hb fun h3 tk3 R3 kf=> ?_
  refine h h3 tk3 (W.frame _ _ _ st2 fun b hb o e=> ?_) (items _ _ _ _ it2 (kf.notex R2.own) (fun _ _ n=>n)) R3 (fun b o n1 n2 n3 e=>kf.kp b o n2 n3 (kw b o n1 e)) ((nC kn kw).trans kf.cd)
  obtain ⟨o',ho',hf⟩:=Knd.or (kk _ _ b st2 hb)
  obtain ⟨f1,f2⟩:=R2.frame ho' hf
  exact (kf.kp b o f1 (fun n _=>f2 n) e).ob (Knd.notab (kk _ _ b st2 hb) e)
 ·rw [eY,← hn] at st
  exact W.done s _ E st fun h' tk hk=>⟨rfl,h h' tk hk⟩
end
section
variable {X:Wd} {sc:Scope} {mg mb:Str→Option Value} {A:Around} {E:Value→Shared→Prop} {s:Shared} {Ex:Addr→Prop} {b:Bool} {ys:List D} {sc':Scope} {target:Expr} {tg:List Nat} {Q:Value→Shared→Prop} {h1 h2:Heap} {tk1:Nat}
theorem iz (k1:Kp s.heap h1):∀ b,b∈[h1.objs.size+1,h1.objs.size]→s.heap.get? b=none∧h1.get? b=none:=fun b hb=>by
 rcases List.mem_cons.mp hb with rfl |hb
 ·exact oG k1
 ·rw [List.mem_singleton.mp hb];exact ⟨bp k1,aJ _⟩
theorem lw {a:Addr} {items:Array Value} {ty sy:String} {St:Nat→Heap→Prop} (hh:A.handled=none) (hT:TgOk X.c sc' target tg false) (k1:Kp s.heap h1) (ha:a<h1.objs.size) (r:DenL h1 Ex ys items.toList) (nx:b=false→¬ Ex a)
  (P:FeedPost X A s Ex b (enumD 0 ys) sc' target tg false Q) (k2:Kp h1 h2) (he2:IsEnum h2 (h1.objs.size+1) h1.objs.size 0 .none) (Dr:Draws X.P X.w A.in1 h1.objs.size [h1.objs.size,a] items.size (fun i v=>items[i]? = some v) St) (st0:St 0 h2)
  (kn:∀ i h,St i h→Itr h h1.objs.size ty∧Sqn h a sy) (h2y:ty≠"code") (h3y:sy≠"code"):wpAny (model X.P X.w) A (pyIter (.ref (h1.objs.size+1))) Q E {s with heap:=h2,toks:=tk1}:=by
 have hna:h1.objs.size+1≠a:=fun e=>absurd (e▸ha) (Nat.not_lt.mpr (Nat.le_succ _))
 refine wpAny_pyIter_enum he2 ?_
 refine P (h1.objs.size+1) _ _ (fun h X=>DenL h X ys items.toList) _ h2 tk1
  (Turns.enum hh hT Dr (Nat.succ_ne_self _) (fun m=>(List.mem_cons.mp m).elim (Nat.succ_ne_self _) fun m=>hna (List.mem_singleton.mp m)) List.mem_cons_self (ak r) (fun i h b st hb=> ?_) (fun h h' X X' x e1 e2=>DenL.mono e1 e2 _ _ x) (fun i d h X v hx it hv=>il it hx (Array.getElem?_toList.trans hv))) ⟨⟨_,he2⟩,st0⟩ (r.grow k2 fun b hb=>(iz k1 b hb).2) (k1.trans k2) (fun b hb=>(iz k1 b hb).1) fun b' hb=> ?_
 ·rcases List.mem_cons.mp hb with rfl |hb
  ·exact (kn i h st).1.knd h2y
  ·rw [List.mem_singleton.mp hb]
   exact (kn i h st).2.knd h3y (Nat.ne_of_lt ha)
 ·rcases List.mem_cons.mp hb with rfl |hb
  ·exact .inl List.mem_cons_self
  ·rcases List.mem_cons.mp hb with rfl |hb
   ·exact .inl (List.mem_cons_of_mem _ List.mem_cons_self)
   ·rw [List.mem_singleton.mp hb];exact .inr nx
theorem vW {ta t2:T} {es:List Expr} {np pos:Pos} (B:X.Ok mg mb) (h:AS X sc (.cons ta .nil) es) (hs:isGlob sc enumS=true):FS X sc .enum ta t2 (.Call (.Name enumS np) es [] pos):=fun σ p E b xs sc' target tg one Q hT he hx P=>by
 cases one with
 |true=>exact nomatch he
 |false =>
 refine ae (show (ev X.G X.F σ (b || false) ta).bind _=some xs from hx) fun d hd hx=>aE hx fun ys hys e0=> ?_
 subst e0
 refine wpAny_Call_ofName (cR p B hs (by decide) (by decide) qm ?_)
 refine PyProof.Rows.callWith_type (h.1 p.env pos).1 (bw h p (b:=b) (ds:=[d]) (ad (evI_b.symm.trans hd) rfl) fun vs h1 tk k1 dl=> ?_)
 obtain ⟨v,rfl,dv⟩:=dl.one
 have top:=dv.top
 cases d with
 |list ds =>
  refine gd hys fun _ hys=> ?_
  obtain rfl:=sm hys
  obtain ⟨a,items,rfl,l,r⟩:=top
  refine call_enumerate_list (PL.isList l) fun h2 he2 hit2 hz2 k2=> ?_
  have ha:=PL.lt l
  have k2:Kp h1 h2:= .of k2
  exact lw (s:=p.s) (ty:="list_iterator") (sy:="list") p.ar.hd hT k1 ha r (lp dv) P k2 he2 (Draws.list (A:=p.A.in1) p.ar.hd h1.objs.size a (Nat.ne_of_lt ha) items) ⟨hit2,PL.isList (PL.at' l (k2.at a))⟩
   (fun i h st=>⟨let ⟨o,ho,hc,hd⟩:=st.1;⟨o,ho,hc,_,hd⟩,let ⟨o,ho,hc,k,hd⟩:=st.2;⟨o,ho,hc,_,_,hd⟩⟩) (by decide) (by decide)
 |tup ds =>
  refine gd hys fun _ hys=> ?_
  obtain rfl:=sm hys
  obtain ⟨a,items,rfl,nx,l,r⟩:=top
  refine hV l fun h2 he2 hit2 hz2 k2=> ?_
  have ha:=TupAt.lt l
  exact lw (s:=p.s) (ty:="tuple_iterator") (sy:="tuple") p.ar.hd hT k1 ha r (fun _=>nx) P k2 he2 (Draws.tuple (A:=p.A.in1) p.ar.hd h1.objs.size a (Nat.ne_of_lt ha) items) ⟨hit2,TupAt.isTup (TupAt.at' l (Kp.at k2 a))⟩
   (fun i h st=>⟨let ⟨o,ho,hc,hd⟩:=st.1;⟨o,ho,hc,_,hd⟩,let ⟨o,ho,hc,k,hd⟩:=st.2;⟨o,ho,hc,_,_,hd⟩⟩) (by decide) (by decide)
 |str x =>
  refine gd hys fun _ hys=> ?_
  obtain rfl:=sm hys
  obtain ⟨t,rfl⟩:=top
  refine call_enumerate_str fun h2 he2 hit2 hz2 k2=> ?_
  have k2:Kp h1 h2:= .of k2
  refine wpAny_pyIter_enum he2 ?_
  have key:=fun ty (hty:ty≠"code") (Dr:Draws X.P X.w p.A.in1 h1.objs.size [h1.objs.size] x.cps.size (SignAt x) (fun i h=>h.IsStrIter h1.objs.size ty x t i)) (st0:h2.IsStrIter h1.objs.size ty x t 0) =>
   P (h1.objs.size+1) _ _ (fun _ _=>True) _ h2 tk
    (Turns.enum p.ar.hd hT Dr (Nat.succ_ne_self _) (fun m=>Nat.succ_ne_self _ (List.mem_singleton.mp m)) List.mem_cons_self (fz x) (fun i h b st hb=>by rw [List.mem_singleton.mp hb];exact (show Itr h h1.objs.size ty from let ⟨o,ho,hc,hd⟩:=st;⟨o,ho,hc,_,hd⟩).knd hty) (fun _ _ _ _ _ _ _=>trivial) (fun i d h X v hx _ hv=>j2 hx hv)) ⟨⟨_,he2⟩,st0⟩ trivial (k1.trans k2) (fun b hb=>(iz k1 b hb).1) (fun b hb=> .inl hb)
  cases hq:x.cps.all (· < 128)
  ·exact key "str_iterator" (by decide) (Draws.strWide (A:=p.A.in1) p.ar.hd _ x t) (by simpa [strIterType,hq] using hit2)
  ·exact key "str_ascii_iterator" (by decide) (Draws.strAscii (A:=p.A.in1) p.ar.hd _ x t) (by simpa [strIterType,hq] using hit2)
 |_=>exact ah hys
end
end Mine
set_option genSizeOf false
set_option genInjectivity false
namespace Mine
variable [Tabs] [Frk]
noncomputable abbrev tests (ifs:List Expr) (env:Env):Sem Bool:=forIn ifs true fun c r=>if r=true then do let ok ← isTrue c env (eval c env);pure (ForInStep.yield ok) else pure (ForInStep.yield r)
noncomputable def CondS (X:Wd) (sc:Scope) (t:T) (ifs:List Expr):Prop:=∀ (σ:MEnv) (p:At X sc σ) (E:Value→Shared→Prop) (d:D) (r:Bool) (Q:Bool→Shared→Prop),ev X.G X.F σ true t=some d→truthy d=some r →
 (∀ h' tk,Kp p.s.heap h'→Q r {p.s with heap:=h',toks:=tk})→wpAny (model X.P X.w) p.A (tests ifs p.env) Q E p.s
theorem gK {f:D→Option (Option D)}:∀ {xs all:List D},compL f xs=some all→∀ {i:Nat} {d:D},xs[i]? = some d→∀ {outs:List D},compL f (xs.take i)=some outs→∃ r,f d=some r∧compL f (xs.take (i+1))=some (outs++r.toList)
 |x :: xs,all,h,0,d,hi,outs,ho=>ae h fun r h1 h2=>by
  obtain rfl:=sm hi
  obtain rfl:=sm ho
  exact ⟨r,h1,ad h1 (by cases r<;>rfl)⟩
 |x :: xs,all,h,i+1,d,hi,outs,ho=>ae h fun r h1 h2=>aE h2 fun ys h2 _=>by
  refine ae ho fun r' h1' ho=>aE ho fun o hq e=> ?_
  obtain rfl:=sm (h1.symm.trans h1')
  obtain ⟨q,e1,e2⟩:=gK h2 (i:=i) hi hq
  refine ⟨q,e1,ad h1 (aX e2 ?_)⟩
  rw [← e]
  cases r<;>rfl
section
variable {prog:Program} {w:World} {A:Around} {R:Result→Shared→Prop} {s:Shared}
theorem oV {elt target iter:Expr} {ifs:List Expr} {scope:Scope} {pos:Pos} {it acc:Value} {env:Env} (I:Nat→Shared→Prop)
  (turn:∀ n s,I n s→wpAny (model prog w) A (pyNext it) (fun r s₁=>(r=none∧R (.ok .next) s₁)∨∃ v,r=some v∧wpAny (model prog w) A (letOwnedTupleGo target it v) (fun _ s₁' =>
    wpAny (model prog w) A (assign target env v) (fun _ s₂ =>
     wpAny (model prog w) A (tests ifs env) (fun ok s₃ =>
      if ok=true then wpAny (model prog w) A (eval elt env) (fun x s₄ =>
       wpAny (model prog w) A (call (.builtin "list.append") [acc,x]) (fun _ s₅=>∃ m,m<n∧I m s₅) (notedBy (model prog w) A env fun e s'=>R (.error e) s') s₄) (notedBy (model prog w) A env fun e s'=>R (.error e) s') s₃
      else ∃ m,m<n∧I m s₃) (notedBy (model prog w) A env fun e s'=>R (.error e) s') s₂) (notedBy (model prog w) A env fun e s'=>R (.error e) s') s₁') (notedBy (model prog w) A env fun e s'=>R (.error e) s') s₁) (notedBy (model prog w) A env fun e s'=>R (.error e) s') s)
  (n:Nat) (h:I n s):codeAny (model prog w) A (.compLoop (.ListComp elt [⟨target,iter,ifs,0⟩] scope pos) 0 it acc env) R s:=by
 refine codeAny_loop rfl I (fun n s hI=> ?_) n h
 show wpAny _ A ((compTurn (.ListComp elt [⟨target,iter,ifs,0⟩] scope pos) 0 it acc env).onRaise (fun x=>do noteFrame x env;theTreesLotGoes x)) _ _ s
 refine wpAny_noted ?_
 rw [compTurn_list]
 refine wpAny_bind (wpAny_standAt (wpAny_bind (wpAny_mono (turn n s hI) (fun r s₁ h₁=> ?_) fun _ _ h'=>h')))
 rcases h₁ with ⟨rfl,h₁⟩ |⟨v,rfl,h₁⟩
 ·exact wpAny_pure h₁
 ·refine wpAny_bind (wpAny_mono h₁ (fun _ s₁' h₁'=> ?_) fun _ _ h'=>h')
  refine wpAny_bind (wpAny_mono h₁' (fun _ s₂ h₂=>wpAny_bind (wpAny_mono h₂ (fun ok s₃ h₃=> ?_) fun _ _ h'=>h')) fun _ _ h'=>h')
  cases ok with
  |false=>exact wpAny_pure ⟨rfl,h₃⟩
  |true =>
   exact wpAny_bind (wpAny_bind (wpAny_mono h₃ (fun x s₄ h₄=>wpAny_bind (wpAny_mono h₄ (fun _ s₅ h₅=>wpAny_pure (wpAny_pure ⟨rfl,h₅⟩)) fun _ _ h'=>h')) fun _ _ h'=>h'))
end
theorem nY {c:Cx} {sc':Scope} {target:Expr} {tg:List Nat} {one:Bool} {σ σ':MEnv} {d:D} (nd:c.tbl.Nodup) (hT:TgOk c sc' target tg one) (hb:bindT (clearE σ (locsOf c sc')) tg one d=some σ') :
  ∀ j e,getE (clearE σ (locsOf c sc')) j=some e→getE σ' j=some e:=by
 have locs:∀ x i,storable sc' x=true→c.tbl[i]? = some x→i∈locsOf c sc':=fun x i hs hi=>gq (gb nd hi) ((bT hs).imp mem_of_lookup mem_of_lookup)
 have one_step:∀ (ρ:MEnv) i d',i∈locsOf c sc'→(∀ j e,getE (clearE σ (locsOf c sc')) j=some e→getE ρ j=some e)→∀ j e,getE (clearE σ (locsOf c sc')) j=some e→getE (setE ρ i d' false) j=some e:=by
  intro ρ i d' hi hρ j e hj
  have hn:=(cN hj).1
  unfold setE
  rw [gF,if_neg (fun (q:i=j∧i<ρ.length)=>hn (q.1▸hi))]
  exact hρ j e hj
 rcases hT with ⟨rfl,x,p,i,rfl,rfl,hs,hi⟩ |⟨rfl,es,k,p,rfl,ht⟩
 ·obtain rfl:=sm hb
  exact one_step _ i d (locs x i hs hi) fun _ _ e=>e
 ·refine ae hb fun ds _ hb=> ?_
  have go:∀ (es:List Expr) (is:List Nat),Tgs c sc' es is→∀ (ds:List D) (ρ:MEnv),setAll ρ is ds=some σ'→(∀ j e,getE (clearE σ (locsOf c sc')) j=some e→getE ρ j=some e)→∀ j e,getE (clearE σ (locsOf c sc')) j=some e→getE σ' j=some e:=by
   intro es is ht
   induction ht with
   |nil =>
    intro ds ρ hs hρ
    cases ds with
    |nil=>exact sm hs▸hρ
    |cons _ _=>exact ah hs
   |cons h1 h2 _ ih =>
    intro ds ρ hs hρ
    cases ds with
    |nil=>exact ah hs
    |cons d ds=>exact ih ds _ hs (one_step ρ _ d (locs _ _ h1 h2) hρ)
  exact go es tg ht ds _ hb fun _ _ e=>e
theorem gV {d:D} {xs:List D} (h:iterD d=some xs):xs.length≤1048576:=by
 cases d with
 |list _=>exact gd h fun hs e=>sm e▸aM hs
 |tup _=>exact gd h fun hs e=>sm e▸aM hs
 |str x=>exact gd h fun hs e=>sm e▸fz x▸aM hs
 |_=>exact ah h
theorem oR {k:IK} {a b:Option D} {xs:List D} (h:feedD k a b=some xs):xs.length≤1048576:=by
 have rg:∀ {m n},rngD m n=some xs→xs.length≤1048576:=fun h=>fF h fun _ _ h e=>by rw [e,bI];exact h
 cases k with
 |plain=>exact ae h fun _ _ h=>gV h
 |range1=>exact ae h fun _ _ h=>ae h fun _ _ h=>rg h
 |range2=>exact ae h fun _ _ h=>ae h fun _ _ h=>ae h fun _ _ h=>ae h fun _ _ h=>rg h
 |enum=>exact ae h fun _ _ h=>aE h fun ys hy e=>by rw [← e,eY];exact gV hy
 |rev=>exact ae h fun _ _ h=>ae h fun ys _ h=>gd h fun hs e=>by rw [← sm e,List.length_reverse];exact aM hs
noncomputable def CompP (X:Wd) (A:Around) (E:Value→Shared→Prop) (s:Shared) (Ex:Addr→Prop) (use:Option (Value→Sem Unit)) (d:D) (Q:Value→Shared→Prop):Prop :=
 ∀ D C h5 tk5 m ys all,d = .list all→s.heap.get? D=none→s.heap.get? C=none→D≠C→Kp s.heap h5→h5.PlainList D ys→DenL h5 (fun b=>(Ex b∨b=C)∨b=D) all ys.toList→h5.Ns C m →
  compPost (model X.P X.w) A E use Q (.ref D) C (.ok .next) {s with heap:=h5,toks:=tk5}
structure Kc (X:Wd) (sc':Scope) where
 A:Around
 s:Shared
 target:Expr
 tg:List Nat
 one:Bool
 I:Addr
 xs:List D
 Fp:Addr→Prop
 Wr:Addr→Prop
 It:Heap→(Addr→Prop)→Prop
 St:Nat→Heap→Prop
 tn:Turns X.P X.w A X.c sc' target tg one I xs Fp Wr It St
 env:Env
 Ex:Addr→Prop
 ow:Nat→Addr
 σ:MEnv
 hT:TgOk X.c sc' target tg one
 hsc:ScEq env sc'
 k:KB X.hB s.heap
 ar:Ar X.n A
 L:Addr
 lt:L<env.locals
 exW:∀ b,Wr b→Ex b
 exD:Ex L
 wnew:∀ b,Wr b→s.heap.get? b=none
 newD:s.heap.get? L=none
 newC:∀ a,env.locals≤a→s.heap.get? a=none
 st:∀ n a,storable sc' n=true→env.cells.lookup n=some a→env.locals≤a
 fpD:¬ Fp L
 how:∀ i x d,X.c.tbl[i]? = some x→seen env.scope x=true→getE (clearE σ (locsOf X.c sc')) i=some (d,true)→ow i≠L
 small:xs.length≤1048576
structure Kc.Inv {X:Wd} {sc':Scope} (K:Kc X sc') (i:Nat) (H:Heap) (outs:List D) (ys:Array Value):Prop where
 st:K.St i H
 it:K.It H K.Ex
 R:RR K.env X.c.tbl K.Ex K.ow (clearE K.σ (locsOf X.c sc')) H
 pl:H.PlainList K.L ys
 den:DenL H K.Ex outs ys.toList
 ks:Kp K.s.heap H
 sz:ys.size≤i
section
variable {X:Wd} {sc sc':Scope}
noncomputable def drawE (X:Wd) (ρ:MEnv) (tg:List Nat) (one:Bool) (elt cond:T) (d:D):Option (Option D) :=
 (bindT ρ tg one d).bind fun σ'=>(ev X.G X.F σ' true cond).bind fun x=>(truthy x).bind fun r=>_root_.cond r ((ev X.G X.F σ' false elt).map some) (some none)
theorem Kc.keep {K:Kc X sc'} {i:Nat} {H H':Heap} {outs:List D} {ys:Array Value} (v:K.Inv i H outs ys) (k:Kp H H'):K.Inv i H' outs ys :=
 ⟨K.tn.frameK v.st fun b o _ t e=>k.ob e t,K.tn.items _ _ _ _ v.it (fun b o _ t e=>k.ob e t) (fun _ _ n=>n),v.R.keep k,PL.at' v.pl (k.at _),v.den.keep k,v.ks.trans k,v.sz⟩
theorem Kc.app {K:Kc X sc'} {i:Nat} {H H':Heap} {outs:List D} {ys:Array Value} {y:D} {v:Value} (iv:K.Inv (i+1) H outs ys) (sz:ys.size≤i) (hy:Den H K.Ex y v) (pl:H'.PlainList K.L (ys.push v)) (sb:Heap.SameBut K.L H H'):K.Inv (i+1) H' (outs++[y]) (ys.push v):=by
 have kx:∀ b o,¬ K.Ex b→isTab o=false→H.get? b=some o→H'.get? b=some o:=fun b o n _ e=>sb.extBut b o (fun q=>n (q▸K.exD)) e
 refine ⟨K.tn.frameK iv.st fun b o hb t e=>sb.extBut b o (fun q=>K.fpD (q▸hb)) e,K.tn.items _ _ _ _ iv.it kx (fun _ _ n=>n),iv.R.other sb K.exD (let ⟨_,l⟩:=iv.pl;⟨_,l,_,_,rfl⟩) (PL.al pl) K.how,pl,?_,iv.ks.sb K.newD (fun b o n e=>sb.extBut b o n e) (PL.nofields iv.pl),by rw [Array.size_push];exact Nat.succ_le_succ sz⟩
 rw [Array.toList_push]
 exact (DenL.mono kx (fun _ _ n=>n) _ _ iv.den).append (.single (Den.mono kx (fun _ _ n=>n) _ _ hy))
theorem Kc.turn (K:Kc X sc') {elt cond:T} {eltE:Expr} {ifs:List Expr} {i:Nat} {H:Heap} {tk:Nat} {outs:List D} {ys:Array Value} {d:D} {r:Option D} {Q:Shared→Prop} {E0 E:Value→Shared→Prop} (helt:VS X sc' elt eltE) (hcond:CondS X sc' cond ifs) (v:K.Inv i H outs ys) (hx:K.xs[i]? = some d)
  (hf:drawE X (clearE K.σ (locsOf X.c sc')) K.tg K.one elt cond d=some r) (P:∀ H' tk' ys',K.Inv (i+1) H' (outs++r.toList) ys'→Q {K.s with heap:=H',toks:=tk'}) :
  wpAny (model X.P X.w) K.A (pyNext (.ref K.I)) (fun r s₁=>∃ v,r=some v∧wpAny (model X.P X.w) K.A (letOwnedTupleGo K.target (.ref K.I) v) (fun _ s₂=>wpAny (model X.P X.w) K.A (assign K.target K.env v) (fun _ s₂ =>
   wpAny (model X.P X.w) K.A (tests ifs K.env) (fun ok s₃=>if ok=true then wpAny (model X.P X.w) K.A (eval eltE K.env) (fun x s₄=>wpAny (model X.P X.w) K.A (call (.builtin "list.append") [.ref K.L,x]) (fun _ s₅=>Q s₅) E s₄) E s₃ else Q s₃) E s₂) E s₂) E s₁) E0 {K.s with heap:=H,toks:=tk}:=by
 refine ae hf fun σ' hb hf=>ae hf fun cv hc hf=>ae hf fun tv ht hf=> ?_
 refine K.tn.next i d {K.s with heap:=H,toks:=tk} K.env K.Ex K.ow (clearE K.σ (locsOf X.c sc')) σ' _ _ E K.hsc hx v.st v.it K.exW v.R hb fun h5 tk5 st5 it5 R5 kp5 cd5=> ?_
 have keep5:∀ b o,(b≠K.L→¬ K.Wr b)→(¬ K.env.locals≤b)→H.get? b=some o→b≠K.L∨¬ K.Wr b→Gw h5 b o:=fun b o n1 n2 e n3=>kp5 b o (fun q=>by
  rcases n3 with n3 |n3
  ·exact n1 n3 q
  ·exact n3 q) (fun q=>n2 (Nat.le_of_eq q.symm)) (fun n' hn' q=>n2 (K.st n' b hn' q)) e
 have nWD:¬ K.Wr K.L:=fun q=>K.fpD (K.tn.sub _ q)
 have plD:h5.PlainList K.L ys:=let ⟨n0,l⟩:=v.pl;⟨n0,(keep5 _ _ (fun q=>absurd rfl q) (Nat.not_le.mpr K.lt) l (.inr nWD)).ob rfl⟩
 have kx5:=fun b o (n:¬ K.Ex b) (t:isTab o=false) (e:H.get? b=some o)=>(kp5 b o (fun q=>n (K.exW b q)) (fun q=>n (q▸v.R.own.1)) (fun n' _ q=>n (v.R.own.2 n' b q)) e).ob t
 have ks5:Kp K.s.heap h5:=fun b o e=>(v.ks b o e).then (fun o2 e2=>kp5 b o2 (fun q=>nomatch (K.wnew b q).symm.trans e) (fun q=>nomatch (K.newC b (Nat.le_of_eq q.symm)).symm.trans e) (fun n' hn' q=>nomatch (K.newC b (K.st n' b hn' q)).symm.trans e) e2) cd5
 have v5:K.Inv (i+1) h5 outs ys:=⟨st5,it5,R5.weaken (nY R5.nd K.hT hb),plD,DenL.mono kx5 (fun _ _ n=>n) _ _ v.den,ks5,Nat.le_succ_of_le v.sz⟩
 let p5:At X sc' σ':={A:=K.A,s:={K.s with heap:=h5,toks:=tk5},env:=K.env,Ex:=K.Ex,ow:=K.ow,hsc:=K.hsc,R:=R5,k:=K.k.trans ks5,ar:=K.ar}
 refine hcond σ' p5 _ cv tv _ hc ht fun h6 tk6 k6=> ?_
 cases tv with
 |false =>
  rw [if_neg (by decide)]
  obtain rfl:=sm hf
  exact P h6 tk6 ys (by rw [Option.toList_none,List.append_nil];exact Kc.keep v5 k6)
 |true =>
  rw [if_pos rfl]
  refine aE hf fun y hy e=> ?_
  subst e
  refine helt σ' (p5.to k6 tk6) _ false y _ hy fun v7 h7 tk7 k7 d7 _=> ?_
  have v57:=Kc.keep v5 (Kp.trans k6 k7)
  exact wpAny_list_append_plain (s:={K.s with heap:=h7,toks:=tk7}) (hsz:=bZ (Nat.le_trans (Nat.le_succ_of_le v.sz) (Nat.le_trans (List.getElem?_eq_some_iff.mp hx).1 K.small))) v57.pl fun h8 pl8 sb8=>P h8 tk7 _ (Kc.app v57 v.sz d7 pl8 sb8)
theorem Kc.done (K:Kc X sc') {H:Heap} {tk:Nat} {all:List D} {ys:Array Value} {E0:Value→Shared→Prop} {Q:Shared→Prop} (v:K.Inv K.xs.length H all ys)
  (P:∀ h5 tk5 m,Kp K.s.heap h5→h5.PlainList K.L ys→DenL h5 K.Ex all ys.toList→h5.Ns K.env.locals m→K.Ex K.env.locals→Q {K.s with heap:=h5,toks:=tk5}):wpAny (model X.P X.w) K.A (pyNext (.ref K.I)) (fun r s₁=>r=none∧Q s₁) E0 {K.s with heap:=H,toks:=tk} :=
 K.tn.done {K.s with heap:=H,toks:=tk} _ E0 v.st fun h5 tk5 kp5=>by
  obtain ⟨m,cm,F,_⟩:=v.R.fr
  have nl:¬ K.Wr K.env.locals:=fun q=>let ⟨_,ho,hf⟩:=Knd.or (K.tn.kinds _ _ _ v.st (K.tn.sub _ q));(lj F ho hf).1 rfl
  exact P h5 tk5 m (fun b o e=>(v.ks b o e).then (fun o2 e2=> .inl (kp5 b o2 (fun q=>nomatch (K.wnew b q).symm.trans e) e2)) (K.tn.cdW v.st kp5)) (let ⟨n0,l⟩:=v.pl;⟨n0,kp5 _ _ (fun q=>K.fpD (K.tn.sub _ q)) l⟩)
   (DenL.mono (fun b o n _ e=>kp5 b o (fun q=>n (K.exW b q)) e) (fun _ _ n=>n) _ _ v.den) (F.ns.at' fun o e=>kp5 _ o nl e) v.R.own.1
theorem pg {P:T→Prop} {t:T} (h:isTrueT t=true) (k:P (.cst (.bool true))):P t:=by
 cases t with
 |cst d =>
  cases d with
  |bool b =>
   cases b with
   |true=>exact k
   |false=>exact nomatch h
  |_=>exact nomatch h
 |_=>exact nomatch h
theorem tH:CondS X sc (.cst (.bool true)) []:=fun σ p E d r Q hd ht P=>by
 obtain rfl:=sm hd
 obtain rfl:=sm ht
 exact wpAny_tests_nil (P p.s.heap p.s.toks (Kp.refl _))
theorem sE {t:T} {e:Expr} (h:IsS X sc t e):CondS X sc t [e]:=fun σ p E d r Q hd ht P=>wpAny_tests_one (h σ p E d r Q hd ht P)
theorem pM {k:IK} {it it2 elt cond:T} {target iter eltE:Expr} {ifs:List Expr} {tg:List Nat} {one:Bool} {pos:Pos} (hit:FS X sc k it it2 iter) (helt:VS X sc' elt eltE) (hcond:CondS X sc' cond ifs) (hT:TgOk X.c sc' target tg one)
  (hok:scOk sc sc'=true) (hfold:∀ env x,foldedSetIterable iter env x=pure x) (use:Option (Value→Sem Unit)) (σ:MEnv) (p:At X sc σ) (E:Value→Shared→Prop) (b:Bool) (d:D) (Q:Value→Shared→Prop)
  (hd:ev X.G X.F σ b (.comp elt tg one k it it2 cond (locsOf X.c sc'))=some d) (P:CompP X p.A E p.s p.Ex use d Q) :
  wpAny (model X.P X.w) p.A (comprehension (.ListComp eltE [⟨target,iter,ifs,0⟩] sc' pos) sc' p.env (firstIterPos [⟨target,iter,ifs,0⟩] pos) (newList []) (firstAsync [⟨target,iter,ifs,0⟩]) (firstIter [⟨target,iter,ifs,0⟩] p.env) use) Q E p.s:=by
 refine fb hd fun hen hd=>ae hd fun xs hxs hd=>aE hd fun all hall e0=> ?_
 have hen:enumOk one k=true:=by rw [Bool.not_eq_true',Bool.not_eq_false] at hen;exact hen
 replace hall:compL (drawE X (clearE σ (locsOf X.c sc')) tg one elt cond) xs=some all:=hall
 obtain ⟨ok1,ok2,ok3⟩:=uF p.hsc hok
 refine wpAny_comprehension_free (use:=use) rfl (hfold p.env) (jD fun n hn=> ?_) ok1 (fun x hx hl=> ?_) ?_
 ·obtain ⟨m,cm,F,_⟩:=p.R.fr
  obtain ⟨a,ha⟩:=F.has n (ok3 n hn)
  rw [ha];rfl
 ·obtain ⟨xn,xk⟩:=x
  have hl:xk = .local:=hl
  subst hl
  exact ba ok2 hx
 refine hit σ p E true xs sc' target tg one _ hT hen hxs fun I Fp Wr It St h2 tk2 T st0 it0' k2 wnew _=> ?_
 refine wpAny_newObj_type ?_
 have kD:=Kp.push h2 {cls:= .type "list",dict:=none,data:= .seq ([]:List Value).toArray}
 have wal2:∀ b,Wr b→Al h2 b:=fun b hb=>let ⟨o,ho,_⟩:=T.kinds _ _ b st0 (T.sub b hb);⟨o,ho⟩
 have z3:(h2.push {cls:= .type "list",dict:=none,data:= .seq ([]:List Value).toArray}).objs.size=h2.objs.size+1:=Heap.size_push ..
 have D3:=Heap.get?_push_size h2 (o:={cls:= .type "list",dict:=none,data:= .seq ([]:List Value).toArray}) rfl
 generalize h2.push {cls:= .type "list",dict:=none,data:= .seq ([]:List Value).toArray}=h3 at *
 have k3:Kp p.s.heap h3:=k2.trans kD
 have newD:=bp k2
 have RG:RR p.env X.c.tbl (fun b=>p.Ex b∨(Wr b∨b=h2.objs.size)) p.ow σ h3:=p.R.grow k3 (fun b hb=>hb.elim (wnew b) fun e=>by rw [e];exact newD) fun b hb=>hb.elim (fun e=>(wal2 b e).keep kD) fun e=>by rw [e];exact ⟨_,D3⟩
 refine tK (s:={p.s with heap:=h3,toks:=tk2}) p.hsc RG hok fun cells h4 hal k4 halc R4 hsq hst hsn=> ?_
 have newC:∀ a,h3.objs.size≤a→p.s.heap.get? a=none:=fun a ha=>k3.none (by
  cases e:h3.get? a with
  |none=>rfl
  |some o=>exact absurd (Heap.lt_size e) (Nat.not_lt.mpr ha))
 let K:Kc X sc':={A:=p.A,s:=p.s,target:=target,tg:=tg,one:=one,I:=I,xs:=xs,Fp:=Fp,Wr:=Wr,It:=It,St:=St,tn:=T,env:=compEnvC sc' cells h3.objs.size p.env,Ex:=fun b=>(p.Ex b∨(Wr b∨b=h2.objs.size))∨(h3.objs.size≤b∧(b=h3.objs.size∨∃ n,cells.lookup n=some b)),ow:=p.ow,σ:=σ,hT:=hT,hsc:=hsq,k:=p.k,ar:=p.ar,L:=h2.objs.size,lt:=Nat.lt_of_lt_of_eq (Nat.lt_succ_self _) z3.symm,exW:=fun b hb=> .inl (.inr (.inl hb)),exD:= .inl (.inr (.inr rfl)),wnew:=wnew,newD:=newD,newC:=newC,st:=hst,fpD:=(fun q=>let ⟨_,ho,_⟩:=T.kinds _ _ _ st0 q;nomatch (aJ _).symm.trans ho),how:=fun i x d h1 hs he=>let ⟨s1,s2⟩:=hsn i x (d,true) h1 hs he;let ⟨_,_,_,l,_⟩:=p.R.own_al h1 s1 s2;Al.ne (PL.al l) newD,small:=oR hxs}
 have v0:K.Inv 0 h4 [] #[]:=⟨T.frameK st0 fun b o _ t e=>(kD.trans k4).ob e t,T.items h2 h4 _ _ it0' (fun b o _ t e=>(kD.trans k4).ob e t) fun b hb n e=>by
   rcases e with (e |e |e) |⟨e,_⟩
   ·exact n (.inl e)
   ·exact n (.inr e)
   ·exact hb.ne (aJ _) e
   ·obtain ⟨o,ho⟩:=hb
    exact absurd (Nat.lt_of_lt_of_le (Heap.lt_size ho) (Nat.le_of_succ_le (Nat.le_trans (Nat.le_of_eq z3.symm) e))) (Nat.lt_irrefl _),R4,⟨0,k4.ob D3 rfl⟩,rfl,k3.trans k4,Nat.le_refl _⟩
 have main:codeAny (model X.P X.w) p.A (.compLoop (.ListComp eltE [⟨target,iter,ifs,0⟩] sc' pos) 0 (.ref I) (.ref h2.objs.size) (compEnvC sc' cells h3.objs.size p.env)) (compPost (model X.P X.w) p.A E use Q (.ref h2.objs.size) h3.objs.size) {p.s with heap:=h4,toks:=tk2}:=by
  refine oV (fun nn s'=>∃ H tk i outs ys,s' = {p.s with heap:=H,toks:=tk}∧i≤xs.length∧nn=xs.length+1 - i∧K.Inv i H outs ys∧compL (drawE X (clearE σ (locsOf X.c sc')) tg one elt cond) (xs.take i)=some outs) ?_ (xs.length+1) ⟨h4,tk2,0,[],#[],rfl,Nat.zero_le _,rfl,v0,rfl⟩
  rintro nn s' ⟨H,tk,i,outs,ys,rfl,hi,rfl,v,hcl⟩
  rcases Nat.lt_or_ge i xs.length with hlt |hge
  ·have hx:xs[i]? = some xs[i]:=List.getElem?_eq_getElem hlt
   obtain ⟨r,hf,hcl'⟩:=gK hall hx hcl
   exact wpAny_mono (K.turn helt hcond v hx hf fun H' tk' ys' v'=>⟨xs.length+1 - (i+1),Nat.sub_lt_sub_left (Nat.lt_succ_of_lt hlt) (Nat.lt_succ_self i),H',tk',i+1,_,ys',rfl,hlt,rfl,v',hcl'⟩) (fun r s₁ hr=> .inr hr) fun _ _ e=>e
  ·obtain rfl:i=K.xs.length:=Nat.le_antisymm hi hge
   obtain rfl:outs=all:=sm ((hcl.symm.trans (congrArg (compL (drawE X (clearE σ (locsOf X.c sc')) tg one elt cond)) (List.take_length (l:=xs)))).trans hall)
   refine wpAny_mono (K.done v fun h5 tk5 m ks5 pl5 den5 ns5 exC=> ?_) (fun r s₁ hr=> .inl hr) fun _ _ e=>e
   refine P _ _ h5 tk5 m ys _ e0.symm newD (newC _ (Nat.le_refl _)) (Nat.ne_of_lt K.lt) ks5 pl5 (DenL.mono (fun _ _ _ _ e=>e) (fun b _ n e=>n ?_) _ _ den5) ns5
   rcases e with (e |e) |e
   ·exact .inl (.inl e)
   ·exact e▸exC
   ·exact e▸K.exD
 exact codeAny_compStart_list main (T.self 0 {p.s with heap:=h4,toks:=tk2} _ _ v0.st main)
theorem wq {k:IK} {it it2 elt cond:T} {target iter eltE:Expr} {ifs:List Expr} {tg:List Nat} {one:Bool} {pos:Pos} (h:∀ (use:Option (Value→Sem Unit)) (σ:MEnv) (p:At X sc σ) (E:Value→Shared→Prop) (b:Bool) (d:D) (Q:Value→Shared→Prop),ev X.G X.F σ b (.comp elt tg one k it it2 cond (locsOf X.c sc'))=some d→CompP X p.A E p.s p.Ex use d Q →
   wpAny (model X.P X.w) p.A (comprehension (.ListComp eltE [⟨target,iter,ifs,0⟩] sc' pos) sc' p.env (firstIterPos [⟨target,iter,ifs,0⟩] pos) (newList []) (firstAsync [⟨target,iter,ifs,0⟩]) (firstIter [⟨target,iter,ifs,0⟩] p.env) use) Q E p.s) :
  VS X sc (.comp elt tg one k it it2 cond (locsOf X.c sc')) (.ListComp eltE [⟨target,iter,ifs,0⟩] sc' pos):=fun σ p E b d Q hd P=>by
 rw [arm_eval_ListComp]
 refine h none σ p E b d Q hd ?_
 rintro D C h5 tk5 m ys all rfl hD hC hDC k5 pl5 den5 hns
 refine ⟨m,hns,fun h6 sb6=> ?_⟩
 have pl6:h6.PlainList D ys:=let ⟨n0,l⟩:=pl5;⟨n0,sb6.extBut _ _ hDC l⟩
 have k6:Kp p.s.heap h6:=k5.sb hC (fun b o n e=>sb6.extBut b o n e) (Ns.nofields hns)
 have den6:DenL h6 (fun b=>(p.Ex b∨b=C)∨b=D) all ys.toList:=DenL.mono (fun b o n _ e=>sb6.extBut b o (fun q=>n (.inl (.inr q))) e) (fun _ _ n=>n) _ _ den5
 exact P (.ref D) h6 tk5 k6 (Den.toR ⟨_,_,rfl,fun e=>(p.R.lt _ e).ne hD rfl,pl6,DenL.mono (fun _ _ _ _ e=>e) (fun b _ n e=>n (.inl (.inl e))) _ _ den6⟩) fun _=>⟨_,_,all,rfl,hD,rfl,pl6,DenL.mono (fun _ _ _ _ e=>e) (fun b _ n e=>n (e.elim (fun e=> .inl (.inl e)) .inr)) _ _ den6⟩
end
end Mine
set_option genSizeOf false
set_option genInjectivity false
namespace Mine
variable [Tabs] [Frk]
section
variable {X:Wd} {sc:Scope} {mg mb:Str→Option Value}
theorem pw {ta tb:T} {e0:Expr} {np pos:Pos} (B:X.Ok mg mb) (h:RgS X sc ta tb e0) (hst:∀ rest env,starEach (e0 :: rest) env=(false,eval e0 env) :: starEach rest env) (hs:isGlob sc listS=true) :
  VS X sc (.lrange ta tb) (.Call (.Name listS np) [e0] [] pos):=fun σ p E b d Q hd P=>by
 refine dV hd fun m hm hd=>dV hd fun m' hm' hd=>aE hd fun xs hx e0=>fF hx fun i1 i2 i3 hxs=> ?_
 subst e0 hxs
 obtain ⟨b1,b2,b3,hsz⟩:=e9 i1 i2
 refine wpAny_Call_ofName (cR p B hs (by decide) (by decide) j6 ?_)
 have e1:backTo pos (starEach [e0] p.env)=[(false,eval e0 p.env)]:=by rw [hst];rfl
 refine PyProof.Rows.callWith_type (by rw [e1];rfl) ?_
 rw [e1]
 refine PySem.Calls.evalArgs_plain (PySem.Calls.spliced_cons (h σ p E m m' _ hm hm' fun r h1 tk1 t u v k1 hr hnew=>PySem.Calls.spliced_nil ?_))
 refine call_list_range (s:={p.s with heap:=h1,toks:=tk1}) p.ar.hd hr (small_one b1.1 b1.2 b2.1 b2.2) hsz (Nat.le_trans i3 (by decide)) fun h2 tk2 acc cc k2 hl hit=> ?_
 have k2:Kp h1 h2:= .of k2
 have dl:∀ X,DenL h2 X (rangeD m (m' - m).toNat) acc.toList:=fun X=>DenL.of_get (by rw [bI,Array.length_toList];exact hit.1) fun i d hi=>by
  have hlt:=(List.getElem?_eq_some_iff.mp hi).1
  rw [bI] at hlt
  rw [ef _ _ _ hlt] at hi
  have hlt':i<acc.size:=by rw [hit.1];exact hlt
  obtain ⟨tk,ht⟩:=hit.2 i acc[i] (Array.getElem?_eq_getElem hlt')
  obtain rfl:=sm hi
  exact ⟨acc[i],by rw [Array.getElem?_toList];exact Array.getElem?_eq_getElem hlt',tk,by rw [ht,Int.mul_one]⟩
 have nf:p.s.heap.get? h1.objs.size=none:=bp k1
 have pl:h2.PlainList h1.objs.size acc:=⟨cc,hl⟩
 exact P _ h2 tk2 (k1.trans k2) (Den.toR ⟨_,_,rfl,fun e=>(p.R.lt _ e).ne nf rfl,pl,dl _⟩) fun _=>⟨_,_,_,rfl,nf,rfl,pl,dl _⟩
noncomputable def UseS (X:Wd) (sc:Scope) (t:T) (e:Expr):Prop :=
 ∀ elt gens sc' pos,e = .ListComp elt gens sc' pos→∀ (use:Option (Value→Sem Unit)) (σ:MEnv) (p:At X sc σ) (E:Value→Shared→Prop) (b:Bool) (d:D) (Q:Value→Shared→Prop),ev X.G X.F σ b t=some d→CompP X p.A E p.s p.Ex use d Q →
  wpAny (model X.P X.w) p.A (comprehension e sc' p.env (firstIterPos gens pos) (newList []) (firstAsync gens) (firstIter gens p.env) use) Q E p.s
structure All (X:Wd) (sc:Scope) (t:T) (e:Expr):Prop where
 vs:VS X sc t e
 is:IsS X sc t e
 st:∀ rest env,starEach (e :: rest) env=(false,eval e env) :: starEach rest env
 us:UseS X sc t e
theorem All.of {t:T} {e:Expr} (v:VS X sc t e) (i:IsS X sc t e) (st:∀ rest env,starEach (e :: rest) env=(false,eval e env) :: starEach rest env) (us:(e.ctorIdx==8)=false):All X sc t e :=
 ⟨v,i,st,fun _ _ _ _ h=>by subst h;exact nomatch us⟩
theorem All.ov {t:T} {e:Expr} (v:VS X sc t e) (he:∀ env whole,isTrue e env whole=(do let v ← whole;standAt e.pos;holding [v] (PySem.truthy v))) (st:∀ rest env,starEach (e :: rest) env=(false,eval e env) :: starEach rest env) (us:(e.ctorIdx==8)=false):All X sc t e :=
 .of v (gC v he) st us
inductive EL (X:Wd) (sc:Scope):T→List Expr→Prop where
 |nil:EL X sc .nil []
 |cons {t r:T} {e:Expr} {es:List Expr}:All X sc t e→EL X sc r es→EL X sc (.cons t r) (e :: es)
theorem EL.as {t:T} {es:List Expr} (h:EL X sc t es):AS X sc t es:=by
 induction h with
 |nil=>exact zd
 |cons h _ ih=>exact vf h.st h.vs ih
theorem EL.one {t:T} {e:Expr} (h:All X sc t e):EL X sc (.cons t .nil) [e]:= .cons h .nil
theorem dW {e:Expr} (h:isSetE e=false) (env:Env) (x:Value):foldedSetIterable e env x=pure x:=by
 cases e<;>first |rfl |exact nomatch h
theorem ft {P:T→Prop} {t:T} (h:isNoneT t=true) (k:P (.cst .none)):P t:=by
 cases t with
 |cst d =>
  cases d with
  |none=>exact k
  |_=>exact nomatch h
 |_=>exact nomatch h
noncomputable def Good (X:Wd) (sc:Scope) (t:T) (m:Option BoolOp) (es l:List Expr):Prop :=
 cond (isLst t) (EL X sc t l) (cond (tailB t m es) (∃ op x y r,m=some op∧l=x :: y :: r∧BS X sc t op l) (∃ e,l=[e]∧All X sc t e))
theorem rE {t:T} {es l:List Expr} {m:Option BoolOp} (hl:isLst t=false) (hm:tailB t m es=false) (h:Good X sc t m es l):∃ e,l=[e]∧All X sc t e:=by
 unfold Good at h;rw [hl,hm] at h;exact h
theorem rx (t:T) (es:List Expr):tailB t none es=false:=by cases t<;>rfl
noncomputable def Un (X:Wd) (t:T):Prop:=∀ sc m es,(un X.c sc t m es).1=true→Good X sc t m es (un X.c sc t m es).2
theorem Un.e {t:T} (h:Un X t) {es:List Expr} (hb:(e1 t (un X.c sc t none es)).1=true):All X sc t (e1 t (un X.c sc t none es)).2:=aa hb fun h1 h2=>by
 obtain ⟨e,h3,h4⟩:=rE (Bool.not_eq_true' _▸h1) (rx t es) (h sc none es h2)
 show All X sc t (hd (un X.c sc t none es).2)
 rw [h3];exact h4
theorem Un.l {t:T} (h:Un X t) {es:List Expr} (hb:(el t (un X.c sc t none es)).1=true):EL X sc t (el t (un X.c sc t none es)).2:=aa hb fun h1 h2=>by
 have:=h sc none es h2
 unfold Good at this
 rw [h1] at this;exact this
theorem Un.b {t:T} {op:BoolOp} (h:Un X t) {es:List Expr} (h1:(!isLst t)=true) (h2:(un X.c sc t (some op) es).1=true):∃ x r,(un X.c sc t (some op) es).2=x :: r∧BS X sc t op (x :: r):=by
 have g:=h sc (some op) es h2
 have h1:isLst t=false:=Bool.not_eq_true' _▸h1
 cases hm:tailB t (some op) es with
 |true =>
  unfold Good at g
  rw [h1,hm] at g
  obtain ⟨op',x,y,r,e1,e2,g⟩:=g
  obtain rfl:=sm e1
  exact ⟨x,y :: r,e2,e2▸g⟩
 |false =>
  obtain ⟨e,h3,h4⟩:=rE h1 hm g
  exact ⟨e,[],h3,yq h4.vs h4.is⟩
theorem kW {t:T} (h:Un X t) {es:List Expr} {o:Option Expr} (hb:(slE t (e1 t (un X.c sc t none es)) o).1=true):OS X sc t (slE t (e1 t (un X.c sc t none es)) o).2:=by
 cases o with
 |none=>exact ft (P:=fun t=>OS X sc t none) hb wL
 |some e=>exact xj (h.e hb).vs
theorem cQ {f:Str} {P:Prop} (h:gl sc f=true) (k:isGlob sc f=true→(f==("__debug__":Str))=false→P):P:=aa h fun h1 h2=>k h1 (Bool.not_eq_true' _▸h2)
theorem uA (B:X.Ok mg mb) {k:IK} {it it2:T} {y:Expr} {z:Bool×Expr} {i:Expr} (hy:All X sc it y) (hz:z.1=true→All X sc it2 z.2) (h:(itE sc k y z i).1=true):FS X sc k it it2 (itE sc k y z i).2∧∀ env x,foldedSetIterable (itE sc k y z i).2 env x=pure x:=by
 cases k with
 |plain=>exact ⟨sY hy.vs,dW (nt h)⟩
 |range1=>exact cQ h fun h1 h2=>⟨rK (ie B (EL.one hy).as h1),dW rfl⟩
 |range2=>exact aa h fun h h3=>cQ h fun h1 h2=>⟨rI (hK B (EL.cons hy (.one (hz h3))).as h1),dW rfl⟩
 |enum=>exact cQ h fun h1 h2=>⟨vW B (EL.one hy).as h1,dW rfl⟩
 |rev=>exact cQ h fun h1 h2=>⟨zi B (EL.one hy).as h1,dW rfl⟩
theorem zK {x:Str} {P:Prop} (h:dbg x=true) (h':dcl x=true) (k:(x==("__debug__":Str))=false→(x==("__classdict__":Str))=false→P):P:=k (nt h) (nt h')
theorem pA (B:X.Ok mg mb) {k:IK} {it it2 elt cnd:T} {target iter eltE:Expr} {w:List Expr} {tg:List Nat} {one:Bool} {pos:Pos} {sc':Scope} (hit:FS X sc k it it2 iter) (hf:∀ env x,foldedSetIterable iter env x=pure x) (helt:All X sc' elt eltE) (hc:CondS X sc' cnd w) (hT:TgOk X.c sc' target tg one) (hok:scOk sc sc'=true) :
  All X sc (.comp elt tg one k it it2 cnd (locsOf X.c sc')) (.ListComp eltE [⟨target,iter,w,0⟩] sc' pos):=by
 have core:=fun use σ p E b d Q=>pM (pos:=pos) hit helt.vs hc hT hok hf use σ p E b d Q
 have v:=wq core
 refine ⟨v,gC v fun _ _=>rfl,fun _ _=>rfl,?_⟩
 intro elt' gens' sc'' pos' he
 cases he
 exact core
theorem tT {op:BoolOp} {a b:T} {m:Option BoolOp} {es es':List Expr} {e:Expr} {pos:Pos} (ha:Un X a) (hb:Un X b) (h:(bopE op b (tailM op m es) (e1 a (un X.c sc a none [hd es])) (un X.c sc b (some op) es.tail) (e1 a (un X.c sc a none [e])) (un X.c sc b (some op) es') pos).1=true) :
  Good X sc (.bop op a b) m es (bopE op b (tailM op m es) (e1 a (un X.c sc a none [hd es])) (un X.c sc b (some op) es.tail) (e1 a (un X.c sc a none [e])) (un X.c sc b (some op) es') pos).2:=by
 have go:∀ es1 es2,((e1 a (un X.c sc a none es1)).1 && !isLst b&&(un X.c sc b (some op) es2).1)=true→∃ x r,(un X.c sc b (some op) es2).2=x :: r∧BS X sc (.bop op a b) op ((e1 a (un X.c sc a none es1)).2 :: x :: r):=fun es1 es2 h=>aa h fun h h3=>aa h fun h1 h2=>by
  obtain ⟨x,r,e,g⟩:=hb.b h2 h3
  have al:=ha.e h1
  exact ⟨x,r,e,vQ al.vs al.is g⟩
 unfold Good
 show cond (tailM op m es) _ _
 unfold bopE at h ⊢
 cases hm:tailM op m es with
 |true =>
  rw [hm] at h
  obtain ⟨x,r,e,g⟩:=go _ _ h
  exact ⟨op,_,x,r,beq_iff_eq.mp (aa hm fun q _=>q),congrArg _ e,show BS X sc _ op (_ :: (un X.c sc b (some op) es.tail).2) from e▸g⟩
 |false =>
  rw [hm] at h
  obtain ⟨x,r,e,g⟩:=go _ _ h
  refine ⟨_,rfl,?_⟩
  show All X sc _ (.BoolOp op (_ :: (un X.c sc b (some op) es').2) _)
  rw [e]
  exact .of (w8 g) (xr g) (fun _ _=>rfl) rfl
theorem cg (B:X.Ok mg mb) (CT:X.Ct mg) (t:T):Un X t:=by
 induction t with
 |var i=>exact fun sc m es h=>aa h fun h h4=>aa h fun h h3=>aa h fun h1 h2=>zK h3 h4 fun h3 h4=>⟨_,rfl,.ov (yg h2 (em (de h1)) h3 h4) (fun _ _=>rfl) (fun _ _=>rfl) rfl⟩
 |glob x=>exact fun sc m es h=>aa h fun h h3=>aa h fun h1 h2=>⟨_,rfl,.ov (vY B h1 (fD h2) (nt h3)) (fun _ _=>rfl) (fun _ _=>rfl) rfl⟩
 |cst d=>exact fun sc m es h=>⟨_,rfl,.ov yc (fun _ _=>rfl) (fun _ _=>rfl) rfl⟩
 |bin op a b h_a h_b=>exact fun sc m es h=>aa h fun h1 h2=>⟨_,rfl,.ov (yx (h_a.e h1).vs (h_b.e h2).vs) (fun _ _=>rfl) (fun _ _=>rfl) rfl⟩
 |un op a h_a =>
  refine fun sc m es h=> ?_
  have al:=h_a.e (sc:=sc) h
  refine ⟨_,rfl,.of (ux al.vs) ?_ (fun _ _=>rfl) rfl⟩
  cases op with
  |Not=>exact yR al.is
  |_=>exact gC (ux al.vs) fun _ _=>rfl
 |cmp op a b h_a h_b=>exact fun sc m es h=>aa h fun h h3=>aa h fun h1 h2=>⟨_,rfl,.of (zl (h_a.e h1).vs (h_b.e h2).vs (nt h3)) (xH (h_a.e h1).vs (h_b.e h2).vs (nt h3)) (fun _ _=>rfl) rfl⟩
 |cmp2 o p a b d h_a h_b h_d=>exact fun sc m es h=>aa h fun h h4=>aa h fun h h3=>aa h fun h1 h2=>⟨_,rfl,.of (vd (h_a.e h1).vs (h_b.e h2).vs (h_d.e h3).vs (nt h4)) (xz (h_a.e h1).vs (h_b.e h2).vs (h_d.e h3).vs (nt h4)) (fun _ _=>rfl) rfl⟩
 |bop op a b h_a h_b=>exact fun sc m es h=>tT (h_a) (h_b) h
 |ite d a b h_d h_a h_b=>exact fun sc m es h=>aa h fun h h3=>aa h fun h1 h2=>⟨_,rfl,.of (zf (h_d.e h1).is (h_a.e h2).vs (h_b.e h3).vs) (yp (h_d.e h1).is (h_a.e h2).is (h_b.e h3).is) (fun _ _=>rfl) rfl⟩
 |nil=>exact fun sc m es h=>EL.nil
 |cons a r h_a h_r=>exact fun sc m es h=>aa h fun h1 h2=>EL.cons (h_a.e h1) (h_r.l h2)
 |list t h_t=>exact fun sc m es h=>⟨_,rfl,.ov (wy (h_t.l h).as) (fun _ _=>rfl) (fun _ _=>rfl) rfl⟩
 |tup t h_t=>exact fun sc m es h=>⟨_,rfl,.ov (pO (h_t.l h).as) (fun _ _=>rfl) (fun _ _=>rfl) rfl⟩
 |idx a i h_a h_i=>exact fun sc m es h=>aa h fun h h3=>aa h fun h1 h2=>⟨_,rfl,.ov (yF (h_a.e h1).vs (h_i.e h2).vs (nt h3)) (fun _ _=>rfl) (fun _ _=>rfl) rfl⟩
 |sli a l u st h_a h_l h_u h_st=>exact fun sc m es h=>aa h fun h h4=>aa h fun h h3=>aa h fun h1 h2=>⟨_,rfl,.ov (y9 (h_a.e h1).vs (kW h_l h2) (kW h_u h3) (kW h_st h4)) (fun _ _=>rfl) (fun _ _=>rfl) rfl⟩
 |comp elt tg one k it it2 cnd locs h_elt h_it h_it2 h_cnd =>
  refine fun sc m es h=>aa h fun h h7=>aa h fun h h6=>aa h fun h h5=>aa h fun h h4=>aa h fun h h3=>aa h fun h1 h2=> ?_
  obtain rfl:=beq_iff_eq.mp h7
  obtain ⟨f1,f2⟩:=uA B (h_it.e h2) (fun hz=>h_it2.e hz) h3
  refine ⟨_,rfl,pA B f1 f2 (h_elt.e h1) ?_ (oY h5) h6⟩
  cases hn:(isTrueT cnd&&(kids (hd es)).tail.tail.tail.isEmpty) with
  |true=>exact aa hn fun q _=>pg (P:=fun t=>CondS X _ t []) q tH
  |false =>
   rw [hn] at h4
   exact sE (h_cnd.e h4).is
 |lrange a b h_a h_b=>exact fun sc m es h=>aa h fun h h4=>aa h fun h h3=>aa h fun h1 h2=>cQ h3 fun h3 _=>cQ h4 fun h4 _=>⟨_,rfl,.ov (pw B (hK B (EL.cons (h_a.e h1) (.one (h_b.e h2))).as h4) (fun _ _=>rfl) h3) (fun _ _=>rfl) (fun _ _=>rfl) rfl⟩
 |call f t h_t=>exact fun sc m es h=>aa h fun h h3=>aa h fun h1 h2=>cQ h2 fun g1 g2=>⟨_,rfl,.ov (xb B CT (h_t.l h1).as g1 g2 (fD h3)) (fun _ _=>rfl) (fun _ _=>rfl) rfl⟩
 |callb f t h_t=>exact fun sc m es h=>aa h fun h h3=>aa h fun h1 h2=>cQ h2 fun g1 g2=>⟨_,rfl,.ov (s5 B CT (h_t.l h1).as g1 g2 (fD h3)) (fun _ _=>rfl) (fun _ _=>rfl) rfl⟩
 |blt f t h_t=>exact fun sc m es h=>aa h fun h1 h2=>cQ h2 fun g1 _=>⟨_,rfl,.ov (x9 B (h_t.l h1).as g1) (fun _ _=>rfl) (fun _ _=>rfl) rfl⟩
 |meth f o t h_o h_t=>exact fun sc m es h=>aa h fun h h5=>aa h fun h h4=>aa h fun h h3=>aa h fun h1 h2=>⟨_,rfl,.ov (vJ (h_o.e h2).vs (h_t.l h1).as (nt h4) h3 (de h5)) (fun _ _=>rfl) (fun _ _=>rfl) rfl⟩
 |inset x a h_a=>exact fun sc m es h=>aa h fun h h3=>aa h fun h1 h2=>have v:=sU B (h_a.e h1).vs h2 (fD h3);⟨_,rfl,.of v.1 v.2 (fun _ _=>rfl) rfl⟩
 |dget x a d h_a h_d =>
  refine fun sc m es h=>aa h fun h h5=>aa h fun h h4=>aa h fun h h3=>aa h fun h1 h2=> ?_
  have al:=h_a.e h1
  refine ⟨_,rfl,.ov (vp B ?_ h3 ?_ h4 (fD h5)) (fun _ _=>rfl) (fun _ _=>rfl) rfl⟩
  ·cases hn:(kids (hd es)).tail.tail.isEmpty with
   |true =>
    rw [hn] at h2
    exact .inl ⟨(EL.one al).as,ft (P:=fun t=>t = .cst .none) h2 rfl⟩
   |false =>
    rw [hn] at h2
    exact .inr (EL.cons al (.one (h_d.e h2))).as
  ·cases (kids (hd es)).tail.tail.isEmpty
   ·exact show 2<30 by decide
   ·exact show 1<30 by decide
end
end Mine
set_option genSizeOf false
set_option genInjectivity false
namespace Mine
variable [Tabs] [Frk]
structure SR (env:Env) (tbl:List Str) (Mu Ex:Addr→Prop) (ow:Nat→Addr) (σ:MEnv) (h:Heap):Prop where
 rr:RR env tbl Ex ow σ h
 mu:∀ b,Mu b→Ex b
 fr:Mu env.locals∧∀ n c,storable env.scope n=true→env.cells.lookup n=some c→Mu c
 own:∀ i x d,tbl[i]? = some x→seen env.scope x=true→getE σ i=some (d,true)→Mu (ow i)
 inj:∀ i j x y d e,tbl[i]? = some x→seen env.scope x=true→tbl[j]? = some y→seen env.scope y=true→getE σ i=some (d,true)→getE σ j=some (e,true)→i≠j→ow i≠ow j
structure Gr (h:Heap) (Mu Ex Mu' Ex':Addr→Prop) (h':Heap):Prop where
 mu:∀ b,Mu' b→Mu b∨h.get? b=none
 ex:∀ b,Ex' b→Ex b∨h.get? b=none
 kp:∀ b,Ex b→¬ Mu b→Ex' b
 keep:∀ b o,¬ Mu b→h.get? b=some o→Gw h' b o
 cd:Cd h h'
theorem Gr.refl (h:Heap) (Mu Ex:Addr→Prop):Gr h Mu Ex Mu Ex h:=⟨fun _ e=> .inl e,fun _ e=> .inl e,fun _ e _=>e,fun _ _ _ e=> .inl e,Cd.refl h⟩
theorem Gr.of_kp {h h':Heap} (k:Kp h h') (Mu Ex:Addr→Prop):Gr h Mu Ex Mu Ex h':=⟨fun _ e=> .inl e,fun _ e=> .inl e,fun _ e _=>e,fun b o _ e=>k b o e,k.cd⟩
theorem Gr.trans {h h1 h2:Heap} {Mu Ex Mu1 Ex1 Mu2 Ex2:Addr→Prop} (lt:∀ b,Ex b→Al h b) (sub:∀ b,Mu b→Ex b) (x:Gr h Mu Ex Mu1 Ex1 h1) (y:Gr h1 Mu1 Ex1 Mu2 Ex2 h2):Gr h Mu Ex Mu2 Ex2 h2:=by
 have none1:∀ b,h1.get? b=none→Mu b∨h.get? b=none:=fun b hb=>by
  by_cases hm:Mu b
  ·exact .inl hm
  ·refine .inr ?_
   cases e:h.get? b with
   |none=>rfl
   |some o=>obtain ⟨o',e'⟩:=(x.keep b o hm e).al;exact nomatch hb.symm.trans e'
 refine ⟨fun b hb=>(y.mu b hb).elim (x.mu b) (none1 b),fun b hb=>(y.ex b hb).elim (x.ex b) fun e=>(none1 b e).imp (sub b) id,fun b hb hn=>y.kp b (x.kp b hb hn) fun hm=>(x.mu b hm).elim hn fun e=>Al.ne (lt b hb) e rfl,fun b o hn e=>(x.keep b o hn e).then (fun o' e'=>y.keep b o' (fun hm=>(x.mu b hm).elim hn fun q=>nomatch e.symm.trans q) e') y.cd,x.cd.trans y.cd⟩
theorem SR.keep {env:Env} {tbl:List Str} {Mu Ex:Addr→Prop} {ow:Nat→Addr} {σ:MEnv} {h h':Heap} (S:SR env tbl Mu Ex ow σ h) (k:Kp h h'):SR env tbl Mu Ex ow σ h' :=
 ⟨S.rr.keep k,S.mu,S.fr,S.own,S.inj⟩
theorem RR.reown {env:Env} {tbl:List Str} {Ex:Addr→Prop} {ow ow':Nat→Addr} {σ:MEnv} {h:Heap} (R:RR env tbl Ex ow σ h) (ho:∀ i d,getE σ i=some (d,true)→ow i=ow' i):RR env tbl Ex ow' σ h:=by
 obtain ⟨ok,nd,lt,own,m,cm,F,hv⟩:=R
 refine ⟨ok,nd,lt,own,m,cm,F,fun i x d b h1 h2 h3=> ?_⟩
 obtain ⟨v,e,dv,hw⟩:=hv i x d b h1 h2 h3
 exact ⟨v,e,dv,fun hb=>(hw hb).trans (congrArg Value.ref (ho i d (hb▸h2)))⟩
noncomputable def SPost (s:Shared) (env:Env) (tbl:List Str) (Mu Ex:Addr→Prop) (σ':MEnv) (o:Out) (Q:Flow→Shared→Prop):Prop :=
 match o with
 | .ret d=>∀ h' tk v Mu' Ex',Gr s.heap Mu Ex Mu' Ex' h'→Den h' Ex' d v→Q (.ret v) {s with heap:=h',toks:=tk}
 | .next=>∀ h' tk Mu' Ex' ow',SR env tbl Mu' Ex' ow' σ' h'→Gr s.heap Mu Ex Mu' Ex' h'→Q .next {s with heap:=h',toks:=tk}
 | .brk=>∀ h' tk Mu' Ex' ow',SR env tbl Mu' Ex' ow' σ' h'→Gr s.heap Mu Ex Mu' Ex' h'→Q .brk {s with heap:=h',toks:=tk}
theorem SPost.from {s:Shared} {env:Env} {tbl:List Str} {Mu Ex Mu1 Ex1:Addr→Prop} {σ':MEnv} {o:Out} {Q:Flow→Shared→Prop} {h1:Heap} {tk1:Nat} (P:SPost s env tbl Mu Ex σ' o Q) (lt:∀ b,Ex b→Al s.heap b) (sub:∀ b,Mu b→Ex b) (g:Gr s.heap Mu Ex Mu1 Ex1 h1) :
  SPost {s with heap:=h1,toks:=tk1} env tbl Mu1 Ex1 σ' o Q:=by
 cases o with
 |ret d=>exact fun h' tk v Mu' Ex' g' hd=>P h' tk v Mu' Ex' (g.trans lt sub g') hd
 |next=>exact fun h' tk Mu' Ex' ow' S' g'=>P h' tk Mu' Ex' ow' S' (g.trans lt sub g')
 |brk=>exact fun h' tk Mu' Ex' ow' S' g'=>P h' tk Mu' Ex' ow' S' (g.trans lt sub g')
structure Ast (X:Wd) (sc:Scope) (σ:MEnv) where
 A:Around
 s:Shared
 env:Env
 Mu:Addr→Prop
 Ex:Addr→Prop
 ow:Nat→Addr
 hsc:env.scope=sc
 S:SR env X.c.tbl Mu Ex ow σ s.heap
 k:KB X.hB s.heap
 hm:∀ b,Mu b→X.hB.get? b=none
 ar:Ar X.n A
theorem ScEq.self {env:Env} {sc:Scope} (h:env.scope=sc):ScEq env sc:=fun x=>by rw [h];exact .inl rfl
noncomputable abbrev Ast.at {X:Wd} {sc:Scope} {σ:MEnv} (p:Ast X sc σ):At X sc σ:=⟨p.A,p.s,p.env,p.Ex,p.ow,.self p.hsc,p.S.rr,p.k,p.ar⟩
noncomputable abbrev Ast.to {X:Wd} {sc:Scope} {σ:MEnv} (p:Ast X sc σ) {h:Heap} (k:Kp p.s.heap h) (tk:Nat):Ast X sc σ:=⟨p.A,{p.s with heap:=h,toks:=tk},p.env,p.Mu,p.Ex,p.ow,p.hsc,p.S.keep k,p.k.trans k,p.hm,p.ar⟩
theorem Ast.lt {X:Wd} {sc:Scope} {σ:MEnv} (p:Ast X sc σ):∀ b,p.Ex b→Al p.s.heap b:=p.S.rr.lt
noncomputable def SS (X:Wd) (sc:Scope) (st:S) (m:Env→Sem Flow):Prop :=
 ∀ (σ:MEnv) (p:Ast X sc σ) (E:Value→Shared→Prop) (σ':MEnv) (o:Out) (Q:Flow→Shared→Prop),ex X.G X.F σ st=some (σ',o)→SPost p.s p.env X.c.tbl p.Mu p.Ex σ' o Q→wpAny (model X.P X.w) p.A (m p.env) Q E p.s
theorem kA {hB h h':Heap} {Mu Ex Mu' Ex':Addr→Prop} (k:KB hB h) (hm:∀ b,Mu b→hB.get? b=none) (g:Gr h Mu Ex Mu' Ex' h'):KB hB h'∧∀ b,Mu' b→hB.get? b=none:=by
 refine ⟨k.cdt (fun b o e=>(k.kp b o e).then (fun o' e'=>g.keep b o' (fun q=>by rw [hm b q] at e;cases e) e') g.cd) g.cd,fun b hb=> ?_⟩
 rcases g.mu b hb with e |e
 ·exact hm b e
 ·exact k.none e
noncomputable abbrev Ast.on {X:Wd} {sc:Scope} {σ:MEnv} (p:Ast X sc σ) {σ':MEnv} {h:Heap} {Mu' Ex':Addr→Prop} {ow':Nat→Addr} (S:SR p.env X.c.tbl Mu' Ex' ow' σ' h) (g:Gr p.s.heap p.Mu p.Ex Mu' Ex' h) (tk:Nat):Ast X sc σ' :=
 ⟨p.A,{p.s with heap:=h,toks:=tk},p.env,Mu',Ex',ow',p.hsc,S,(kA p.k p.hm g).1,(kA p.k p.hm g).2,p.ar⟩
theorem Ast.sto {X:Wd} {sc:Scope} {σ:MEnv} (p:Ast X sc σ):∀ n,storable sc n=true→storable p.env.scope n=true:=fun _ e=>p.hsc.symm▸e
theorem SR.storedN {env:Env} {c:Cx} {Mu Ex:Addr→Prop} {ow:Nat→Addr} {σ σ':MEnv} {h h':Heap} {N:Str→Prop} (S:SR env c.tbl Mu Ex ow σ h) (R':RR env c.tbl Ex ow σ' h') (hN:∀ n,N n→storable env.scope n=true) (kf:KF N env h h') (old:∀ j e,getE σ' j=some (e,true)→getE σ j=some (e,true)) :
  SR env c.tbl Mu Ex ow σ' h'∧Gr h Mu Ex Mu Ex h' :=
 ⟨⟨R',S.mu,S.fr,fun j x e h1 h2 h3=>S.own j x e h1 h2 (old j e h3),fun j k x y e e' h1 h2 h3 h4 h5 h6 h7=>S.inj j k x y e e' h1 h2 h3 h4 (old j e h5) (old k e' h6) h7⟩,
  ⟨fun _ e=> .inl e,fun _ e=> .inl e,fun _ e _=>e,fun b o n e=>kf.kp b o (fun q=>n (q▸S.fr.1)) (fun n' sn q=>n (S.fr.2 n' b (hN n' sn) q)) e,kf.cd⟩⟩
theorem a6 {σ:MEnv} {i:Nat} {d:D} {j:Nat} {e:D} (h:getE (setE σ i d false) j=some (e,true)):getE σ j=some (e,true):=by
 rcases aT h with ⟨_,q⟩ |⟨_,q⟩
 ·exact nomatch (Prod.mk.inj q).2
 ·exact q
theorem kc {σ:MEnv} {i:Nat} {d:D} {x:Bool}:setE (σ.set i none) i d x=setE σ i d x:=by
 unfold setE;rw [List.set_set]
theorem SR.freshW {env:Env} {c:Cx} {Mu Ex W:Addr→Prop} {ow:Nat→Addr} {σ:MEnv} {h h1:Heap} {i:Nat} {d:D} {v:Value} (S:SR env c.tbl Mu Ex ow σ h) (k:Kp h h1) (w1:∀ b,W b→h.get? b=none) (w2:∀ b,W b→Al h1 b) (f:FrV h h1 (fun b=>Ex b∨W b) d v) :
  ∃ a,v = .ref a∧h.get? a=none∧RR env c.tbl (fun b=>(Ex b∨W b)∨b=a) (fun j=>if j=i then a else ow j) (σ.set i none) h1∧DenV h1 (fun b=>(Ex b∨W b)∨b=a) true d v ∧
   (∀ h2 N,RR env c.tbl (fun b=>(Ex b∨W b)∨b=a) (fun j=>if j=i then a else ow j) (setE σ i d true) h2→(∀ n,N n→storable env.scope n=true)→KF N env h1 h2 →
    SR env c.tbl (fun b=>(Mu b∨W b)∨b=a) (fun b=>(Ex b∨W b)∨b=a) (fun j=>if j=i then a else ow j) (setE σ i d true) h2∧Gr h Mu Ex (fun b=>(Mu b∨W b)∨b=a) (fun b=>(Ex b∨W b)∨b=a) h2):=by
 obtain ⟨a,items,ds,rfl,hn,rfl,l,r⟩:=f
 refine ⟨a,rfl,hn,?_,⟨a,items,ds,rfl,rfl,l,r⟩,fun h2 N R2 hN kf=>⟨⟨R2,fun b hb=>hb.elim (fun e=> .inl (e.elim (fun e=> .inl (S.mu b e)) .inr)) .inr,⟨.inl (.inl S.fr.1),fun n c sn e=> .inl (.inl (S.fr.2 n c sn e))⟩,?_,?_⟩,?_⟩⟩
 ·have R1:=(S.rr.grow (W:=fun b=>W b∨b=a) k (fun b hb=>hb.elim (w1 b) fun hb=>by rw [hb];exact hn) (fun b hb=>hb.elim (w2 b) fun hb=>by rw [hb];exact PL.al l))
  rw [show (fun b=>Ex b∨(W b∨b=a))=(fun b=>(Ex b∨W b)∨b=a) from funext fun b=>propext or_assoc.symm] at R1
  have R2:=R1.weaken (σ:=σ.set i none) fun j e hj=>(fx hj).2
  exact R2.reown fun j e hj=>(if_neg (fx hj).1).symm
 ·intro j x e h1 h2 h3
  rcases aT h3 with ⟨q,_⟩ |⟨n,q⟩
  ·rw [if_pos q];exact .inr rfl
  ·rw [if_neg n];exact .inl (.inl (S.own j x e h1 h2 q))
 ·intro j k' x y e e' h1 h2 h3 h4 h5 h6 h7
  have alive:∀ j x e,c.tbl[j]? = some x→seen env.scope x=true→getE σ j=some (e,true)→ow j≠a:=fun j x e h1 h2 h3=>by
   obtain ⟨its,_,_,l',_⟩:=S.rr.own_al h1 h2 h3
   exact Al.ne (PL.al l') hn
  rcases aT h5 with ⟨q,_⟩ |⟨q,g5⟩<;>rcases aT h6 with ⟨q',_⟩ |⟨q',g6⟩
  ·exact absurd (q.trans q'.symm) h7
  ·rw [if_pos q,if_neg q'];exact (alive k' y e' h3 h4 g6).symm
  ·rw [if_neg q,if_pos q'];exact alive j x e h1 h2 g5
  ·rw [if_neg q,if_neg q'];exact S.inj j k' x y e e' h1 h2 h3 h4 g5 g6 h7
 ·refine ⟨fun b hb=>hb.elim (fun e=>e.elim .inl fun e=> .inr (w1 b e)) fun e=> .inr (by rw [e];exact hn),fun b hb=>hb.elim (fun e=>e.elim .inl fun e=> .inr (w1 b e)) fun e=> .inr (by rw [e];exact hn),fun b hb _=> .inl (.inl hb),fun b o n e=>(k b o e).then (fun o' e'=>kf.kp b o' (fun q=>n (q▸S.fr.1)) (fun n' sn q=>n (S.fr.2 n' b (hN n' sn) q)) e') kf.cd,k.cd.trans kf.cd⟩
theorem SR.fresh {env:Env} {c:Cx} {Mu Ex:Addr→Prop} {ow:Nat→Addr} {σ:MEnv} {h h1:Heap} {i:Nat} {d:D} {v:Value} (S:SR env c.tbl Mu Ex ow σ h) (k:Kp h h1) (f:FrV h h1 Ex d v) :
  ∃ a,v = .ref a∧h.get? a=none∧RR env c.tbl (fun b=>(Ex b∨False)∨b=a) (fun j=>if j=i then a else ow j) (σ.set i none) h1∧DenV h1 (fun b=>(Ex b∨False)∨b=a) true d v ∧
   (∀ h2 N,RR env c.tbl (fun b=>(Ex b∨False)∨b=a) (fun j=>if j=i then a else ow j) (setE σ i d true) h2→(∀ n,N n→storable env.scope n=true)→KF N env h1 h2 →
    SR env c.tbl (fun b=>(Mu b∨False)∨b=a) (fun b=>(Ex b∨False)∨b=a) (fun j=>if j=i then a else ow j) (setE σ i d true) h2∧Gr h Mu Ex (fun b=>(Mu b∨False)∨b=a) (fun b=>(Ex b∨False)∨b=a) h2) :=
 S.freshW (W:=fun _=>False) k (fun _ e=>e.elim) (fun _ e=>e.elim) (let ⟨a,items,ds,e1,e2,e3,l,r⟩:=f;⟨a,items,ds,e1,e2,e3,l,DenL.mono (fun _ _ _ _ e=>e) (fun _ _ n e=>n (e.imp (fun e=>e.elim id False.elim) id)) _ _ r⟩)
end Mine
set_option genSizeOf false
set_option genInjectivity false
namespace Mine
variable [Tabs] [Frk]
theorem RR.gone {env:Env} {tbl:List Str} {Ex:Addr→Prop} {ow:Nat→Addr} {σ:MEnv} {h h':Heap} {C:Addr} (R:RR env tbl Ex ow σ h) (hk:Heap.SameBut C h h') (hx:Ex C) (hl:C≠env.locals) (hc:∀ n,env.cells.lookup n≠some C)
  (hn:∀ i x d,tbl[i]? = some x→seen env.scope x=true→getE σ i=some (d,true)→ow i≠C):RR env tbl (fun b=>Ex b∧b≠C) ow σ h' :=
 R.chg (Wr:=(· = C)) (fun b o n e=>hk.extBut b o n e) (fun _ e=>e▸hx) (fun e=>hl e.symm) (fun n c e q=>hc n (q▸e)) hn (fun _ e=>e.1) (fun _ e n=>⟨e,n⟩) fun _ e q=>absurd q e.2
theorem SR.growW {env:Env} {tbl:List Str} {Mu Ex W:Addr→Prop} {ow:Nat→Addr} {σ:MEnv} {h h1:Heap} (S:SR env tbl Mu Ex ow σ h) (k:Kp h h1) (w1:∀ b,W b→h.get? b=none) (w2:∀ b,W b→Al h1 b) :
  SR env tbl (fun b=>Mu b∨W b) (fun b=>Ex b∨W b) ow σ h1∧Gr h Mu Ex (fun b=>Mu b∨W b) (fun b=>Ex b∨W b) h1 :=
 ⟨⟨S.rr.grow k w1 w2,fun b hb=>hb.elim (fun e=> .inl (S.mu b e)) .inr,⟨.inl S.fr.1,fun n c sn e=> .inl (S.fr.2 n c sn e)⟩,fun i x d h1 h2 h3=> .inl (S.own i x d h1 h2 h3),S.inj⟩,
  ⟨fun b hb=>hb.elim .inl fun e=> .inr (w1 b e),fun b hb=>hb.elim .inl fun e=> .inr (w1 b e),fun b hb _=> .inl hb,fun b o _ e=>k b o e,k.cd⟩⟩
section
variable {X:Wd} {sc:Scope}
theorem wU:SS X sc .skip (execs []):=fun σ p E σ' o Q h P=>by
 obtain ⟨rfl,rfl⟩:=Prod.mk.inj (sm h)
 exact wpAny_execs_nil (P p.s.heap p.s.toks p.Mu p.Ex p.ow p.S (Gr.refl _ _ _))
theorem xQ {a b:S} {st:Stmt} {rest:List Stmt} (ha:SS X sc a (exec st)) (hb:SS X sc b (execs rest)):SS X sc (.seq a b) (execs (st :: rest)):=fun σ p E σ' o Q h P=>by
 refine ae h fun q h1 h=>wpAny_execs_cons ?_
 obtain ⟨σ1,o1⟩:=q
 cases o1 with
 |next=>exact ha σ p E σ1 .next _ h1 fun h' tk Mu' Ex' ow' S' g=>hb σ1 (p.on S' g tk) E σ' o Q h (P.from p.lt p.S.mu g)
 |brk =>
  obtain ⟨rfl,rfl⟩:=Prod.mk.inj (sm h)
  exact ha σ p E σ1 .brk _ h1 P
 |ret d =>
  obtain ⟨rfl,rfl⟩:=Prod.mk.inj (sm h)
  exact ha σ p E σ1 (.ret d) _ h1 P
theorem zw {t:T} {test:Expr} {a b:S} {body els:List Stmt} {pos:Pos} (ht:IsS X sc t test) (ha:SS X sc a (execs body)) (hb:SS X sc b (execs els)):SS X sc (.ifs t a b) (exec (.If test body els pos)):=fun σ p E σ' o Q h P=>by
 refine ae h fun x hx h=>ae h fun r htr h=> ?_
 refine wpAny_If (ht σ p.at E x r _ hx htr fun h1 tk1 k1=> ?_)
 have P:=P.from (tk1:=tk1) p.lt p.S.mu (Gr.of_kp k1 _ _)
 cases r with
 |true=>rw [if_pos rfl];exact ha σ (p.to k1 tk1) E σ' o Q h P
 |false=>rw [if_neg (by decide)];exact hb σ (p.to k1 tk1) E σ' o Q h P
theorem qc {t:T} {test:Expr} {pos:Pos} {msg:Option Expr} (ht:IsS X sc t test):SS X sc (.asrt t) (exec (.Assert test msg pos)):=fun σ p E σ' o Q h P=>by
 refine ae h fun x hx h=>ae h fun r htr h=> ?_
 cases r with
 |false=>exact ah h
 |true =>
  obtain ⟨rfl,rfl⟩:=Prod.mk.inj (sm h)
  show wpAny _ p.A (do standAt pos;if ← isTrue test p.env (eval test p.env) then pure .next else assertFails test.pos (evalOpt msg p.env)) Q E p.s
  refine wpAny_bind (wpAny_standAt (wpAny_bind (ht σ p.at E x true _ hx htr fun h1 tk1 k1=> ?_)))
  rw [if_pos rfl]
  exact wpAny_pure (P h1 tk1 p.Mu p.Ex p.ow (p.S.keep k1) (Gr.of_kp k1 _ _))
theorem xU {pos:Pos}:SS X sc .brk (exec (.Break pos)):=fun σ p E σ' o Q h P=>by
 obtain ⟨rfl,rfl⟩:=Prod.mk.inj (sm h)
 exact wpAny_Break (P p.s.heap p.s.toks p.Mu p.Ex p.ow p.S (Gr.refl _ _ _))
noncomputable abbrev Ast.Post {σ:MEnv} (p:Ast X sc σ) (σ':MEnv) (Q:Shared→Prop):Prop:=∀ h' tk Mu' Ex' ow',SR p.env X.c.tbl Mu' Ex' ow' σ' h'→Gr p.s.heap p.Mu p.Ex Mu' Ex' h'→Q {p.s with heap:=h',toks:=tk}
theorem i9 {σ:MEnv} (p:Ast X sc σ) {E:Value→Shared→Prop} {x:Str} {i:Nat} {b:Bool} {d:D} {v:Value} {h1:Heap} {tk1:Nat} {Q:Unit→Shared→Prop} (hs:storable sc x=true) (hi:X.c.tbl[i]? = some x) (k1:Kp p.s.heap h1) (hd:b=false→Den h1 p.Ex d v) (hf:b=true→FrV p.s.heap h1 p.Ex d v)
  (P:p.Post (setE σ i d b) (Q ())):wpAny (model X.P X.w) p.A (storeName p.env x v) Q E {p.s with heap:=h1,toks:=tk1}:=by
 obtain ⟨s1,s2⟩:=bD p.at.hsc hs
 cases b with
 |false =>
  refine bM (s:={p.s with heap:=h1,toks:=tk1}) (N:=fun n=>storable sc n=true) hs (b:=false) (p.S.rr.keep k1) s1 hi s2 (hd rfl) (fun e=>nomatch e) fun h2 tk2 R2 kf=> ?_
  obtain ⟨S2,g2⟩:=(p.S.keep k1).storedN R2 p.sto kf fun _ _=>a6
  exact P h2 tk2 p.Mu p.Ex p.ow S2 ((Gr.of_kp k1 _ _).trans p.lt p.S.mu g2)
 |true =>
  obtain ⟨a,rfl,hn,R1,dv,fin⟩:=p.S.fresh (i:=i) k1 (hf rfl)
  refine bM (s:={p.s with heap:=h1,toks:=tk1}) (N:=fun n=>storable sc n=true) hs (b:=true) R1 s1 hi s2 dv (fun _=>by rw [if_pos rfl]) fun h2 tk2 R2 kf=> ?_
  rw [kc] at R2
  obtain ⟨S2,g2⟩:=fin h2 _ R2 p.sto kf
  exact P h2 tk2 _ _ _ S2 g2
theorem ga {value:Expr} {x:Str} {p:Pos} {line:Nat} {env:Env} (hb:isBadC value=false):swapsWith value (some (.Name x p)) line env=pure false∨(swapsWith value (some (.Name x p)) line env=pure true∧∃ elt gens sc' pos,value = .ListComp elt gens sc' pos):=by
 cases value with
 |ListComp elt gens sc' pos =>
  unfold swapsWith
  dsimp only
  cases (env.blockKind == .function&&env.kindOf x==some .local&&p.line==(Expr.ListComp elt gens sc' pos).pos.line && !(sc'.names.any fun (n,k)=>n==x&&(k == .local || k == .cell))) with
  |false=>exact .inl rfl
  |true=>exact .inr ⟨rfl,_,_,_,_,rfl⟩
 |SetComp elt gens sc' pos=>exact nomatch hb
 |DictComp a b gens sc' pos=>exact nomatch hb
 |_=>exact .inl rfl
theorem uo {t:T} {elt:Expr} {gens:List Comprehension} {sc':Scope} {pos':Pos} {x:Str} {i:Nat} {b:Bool} {p0:Pos} {σ:MEnv} (p:Ast X sc σ) {E:Value→Shared→Prop} {d:D} {Q:Flow→Shared→Prop} (ht:UseS X sc t (.ListComp elt gens sc' pos')) (hs:storable sc x=true) (hi:X.c.tbl[i]? = some x) (hd:ev X.G X.F σ false t=some d)
  (P:p.Post (setE σ i d b) (Q .next)) :
  wpAny (model X.P X.w) p.A (comprehension (.ListComp elt gens sc' pos') sc' p.env (firstIterPos gens pos') (newList []) (firstAsync gens) (firstIter gens p.env) (some (assign (.Name x p0) p.env))) (fun _ s'=>Q .next s') E p.s:=by
 refine ht elt gens sc' pos' rfl (some (assign (.Name x p0) p.env)) σ p.at E false d _ hd ?_
 rintro D C h5 tk5 m ys all rfl hD hC hDC k5 pl5 den5 hns5
 show wpAny _ p.A (assign (.Name x p0) p.env (.ref D)) _ E _
 have alC:Al h5 C:=let ⟨o,_,_,ho,_⟩:=hns5;⟨o,ho⟩
 have Cl:C≠p.env.locals:=fun q=>Al.ne (p.lt _ p.S.rr.own.1) hC q.symm
 have Cc:∀ n',p.env.cells.lookup n'≠some C:=fun n' q=>Al.ne (p.lt _ (p.S.rr.own.2 n' C q)) hC rfl
 have oC:∀ j y e,X.c.tbl[j]? = some y→seen p.env.scope y=true→getE σ j=some (e,true)→p.ow j≠C:=fun j y e h1 h2 h3=>let ⟨_,_,_,l,_⟩:=p.S.rr.own_al h1 h2 h3;Al.ne (PL.al l) hC
 obtain ⟨s1,s2⟩:=bD p.at.hsc hs
 refine wpAny_assign_Name ?_
 have fin:∀ (Mu' Ex':Addr→Prop) (ow':Nat→Addr) (h6:Heap) (tk6:Nat),SR p.env X.c.tbl Mu' Ex' ow' (setE σ i (.list all) b) h6→Gr p.s.heap p.Mu p.Ex Mu' Ex' h6→Ex' C→(∀ j y e,X.c.tbl[j]? = some y→seen p.env.scope y=true→getE (setE σ i (.list all) b) j=some (e,true)→ow' j≠C)→h6.Ns C m →
   (∃ m,h6.Ns C m∧∀ h',Heap.SameBut C h6 h'→Q .next {p.s with heap:=h',toks:=tk6}):=fun Mu' Ex' ow' h6 tk6 S6 g6 exC how hn6 =>
  ⟨m,hn6,fun h7 sb=>P h7 tk6 (fun b=>Mu' b∧b≠C) (fun b=>Ex' b∧b≠C) ow' ⟨S6.rr.gone sb exC Cl Cc how,fun b hb=>⟨S6.mu b hb.1,hb.2⟩,⟨⟨S6.fr.1,Ne.symm Cl⟩,fun n' c' sn e=>⟨S6.fr.2 n' c' sn e,fun q=>Cc n' (q▸e)⟩⟩,
   fun j y e h1 h2 h3=>⟨S6.own j y e h1 h2 h3,how j y e h1 h2 h3⟩,S6.inj⟩ ⟨fun b hb=>g6.mu b hb.1,fun b hb=>g6.ex b hb.1,fun b hb hn=>⟨g6.kp b hb hn,fun q=>Al.ne (p.lt b hb) hC q⟩,fun b o nb e=>(g6.keep b o nb e).thenC (fun o' e'=> .inl (sb.extBut b o' (fun q=>ah ((q▸hC:p.s.heap.get? b=none).symm.trans e)) e')) (Mine.Cc.sb (fun b o n e=>sb.extBut b o n e) (Ns.nofields hn6)),g6.cd.sbn hC (fun b o n e=>sb.extBut b o n e) (Ns.nofields hn6)⟩⟩
 have w1:∀ b,b=C→p.s.heap.get? b=none:=fun b hb=>hb▸hC
 have w2:∀ b,b=C→Al h5 b:=fun b hb=>hb▸alC
 cases b with
 |false =>
  obtain ⟨S5,g5⟩:=p.S.growW (W:=(· = C)) k5 w1 w2
  refine bM (s:={p.s with heap:=h5,toks:=tk5}) (N:=fun n=>storable sc n=true) hs (b:=false) S5.rr s1 hi s2 (d:= .list all) ⟨_,_,rfl,fun e=>e.elim (fun e=>Al.ne (p.lt _ e) hD rfl) (fun e=>hDC e),pl5,DenL.mono (fun _ _ _ _ e=>e) (fun _ _ n e=>n (.inl e)) _ _ den5⟩ (fun e=>nomatch e) fun h6 tk6 R6 kf=> ?_
  obtain ⟨S6,g6⟩:=S5.storedN R6 p.sto kf fun _ _=>a6
  exact fin _ _ p.ow h6 tk6 S6 (g5.trans p.lt p.S.mu g6) (.inr rfl) (fun j y e h1 h2 h3=>oC j y e h1 h2 (a6 h3)) (Ns.gw hns5 fun o e=>kf.kp _ o Cl (fun n' _=>Cc n') e)
 |true =>
  obtain ⟨a,e1,hn,R1,dv,fin2⟩:=p.S.freshW (W:=(· = C)) (i:=i) k5 w1 w2 ⟨D,ys,all,rfl,hD,rfl,pl5,den5⟩
  obtain rfl:=Value.ref.inj e1
  refine bM (s:={p.s with heap:=h5,toks:=tk5}) (N:=fun n=>storable sc n=true) hs (b:=true) R1 s1 hi s2 dv (fun _=>by rw [if_pos rfl]) fun h6 tk6 R6 kf=> ?_
  rw [kc] at R6
  obtain ⟨S6,g6⟩:=fin2 h6 _ R6 p.sto kf
  refine fin _ _ _ h6 tk6 S6 g6 (.inl (.inr rfl)) (fun j y e h1 h2 h3=> ?_) (Ns.gw hns5 fun o e=>kf.kp _ o Cl (fun n' _=>Cc n') e)
  rcases aT h3 with ⟨q,_⟩ |⟨n,q⟩
  ·rw [if_pos q];exact hDC
  ·rw [if_neg n];exact oC j y e h1 h2 q
theorem zj {t:T} {e:Expr} {x:Str} {i:Nat} {b:Bool} {p0 pos:Pos} (ht:All X sc t e) (hs:storable sc x=true) (hi:X.c.tbl[i]? = some x) (hb:isBadC e=false):SS X sc (.asg i b t) (exec (.Assign [.Name x p0] e pos)):=fun σ p E σ' o Q h P=>by
 refine ae h fun d hd h=>fb h fun hfr h=> ?_
 obtain ⟨rfl,rfl⟩:=Prod.mk.inj (sm h)
 rcases ga (x:=x) (p:=p0) (line:=pos.line) (env:=p.env) hb with hsw |⟨hsw,elt,gens,sc',pos',rfl⟩
 ·refine wpAny_Assign_Name (ht.vs σ p.at E false d _ hd fun v h1 tk1 k1 d1 f1=> ?_) hsw
  refine i9 p hs hi k1 (fun _=>d1) (fun hb=>f1 ?_) P
  subst hb
  rwa [Bool.true_and,Bool.not_eq_true',Bool.not_eq_false] at hfr
 ·rw [exec_Assign_Name_used _ _ _ _ hsw]
  refine wpAny_bind (wpAny_standAt (wpAny_bind ?_))
  show wpAny _ p.A (do let _ ← comprehension (.ListComp elt gens sc' pos') sc' p.env (firstIterPos gens pos') (newList []) (firstAsync gens) (firstIter gens p.env) (some (assign (.Name x p0) p.env))) _ _ p.s
  exact wpAny_bind (wpAny_mono (uo (b:=b) (p0:=p0) p ht.us hs hi hd P) (fun _ s' hq=>wpAny_pure (wpAny_pure hq)) fun _ _ e=>e)
end
end Mine
set_option genSizeOf false
set_option genInjectivity false
namespace Mine
variable [Tabs] [Frk]
theorem mU:∀ {is:List Nat} {ds:List D} {σ σ':MEnv},setAll σ is ds=some σ'→∀ j e,getE σ' j=some (e,true)→getE σ j=some (e,true):=by
 intro is
 induction is with
 |nil =>
  intro ds σ σ' h j e hj
  cases ds with
  |nil=>exact sm h▸hj
  |cons _ _=>exact ah h
 |cons i is ih =>
  intro ds σ σ' h j e hj
  cases ds with
  |nil=>exact ah h
  |cons d ds=>exact a6 (ih h j e hj)
theorem ki:∀ {is:List (Nat×Bool)} {ds:List D} {σ:MEnv},is.all (fun p=> !p.2)=true→setMulti σ is ds=setAll σ (is.map (·.1)) ds:=by
 intro is
 induction is with
 |nil =>
  intro ds σ _
  cases ds<;>rfl
 |cons p is ih =>
  intro ds σ hf
  cases ds with
  |nil=>rfl
  |cons d ds =>
   refine aa hf fun h1 h2=> ?_
   show setMulti (setE σ p.1 d p.2) is ds=_
   rw [nt h1];exact ih h2
noncomputable def nameAt (env:Env) (line:Nat):Expr→Option Str
 | .Name id pos=>if env.kindOf id==some .local&&pos.line==line then some id else none
 |_=>none
theorem jF {α:Type} {c:Prop} [i:Decidable c] {a b:α} {R:Prop} (h:¬ c→b=a∨R):(if c then a else b)=a∨R:=by
 cases i with
 |isTrue hc=>exact .inl rfl
 |isFalse hc=>exact h hc
theorem eN {ts vs:List Expr} {p p':Nat} {q q':Pos} {env:Env} (hc:vs.all (constantsAlone 8)=false):swappedStores [.Tuple ts p q] (.Tuple vs p' q') env=pure none ∨
  ∃ names line,swappedStores [.Tuple ts p q] (.Tuple vs p' q') env=pure (some names)∧(ts.length=2∨ts.length=3)∧names=ts.filterMap (nameAt env line)∧names.length=ts.length∧names.eraseDups.length=names.length:=by
 unfold swappedStores
 refine jF fun h1=>jF fun h2=>jF fun h3=>jF fun h4=> .inr ⟨_,(ts.head?.map (·.pos.line)).getD 0,?_,?_,rfl,?_,?_⟩
 ·exact (if_neg h1).trans ((if_neg h2).trans ((if_neg h3).trans ((if_neg h4).trans (if_neg (by rw [hc];exact Bool.false_ne_true)))))
 ·exact jw h1 fun h1 _=>jw (by rw [h1];exact Bool.false_ne_true) fun h1 _=>(Bool.or_eq_true_iff.mp ((Bool.not_eq_false' _).mp h1)).imp beq_iff_eq.mp beq_iff_eq.mp
 ·exact jw h3 fun h _=>bne_eq_false_iff_eq.mp h
 ·exact jw h3 fun _ h=>bne_eq_false_iff_eq.mp h
section
variable {X:Wd} {sc:Scope}
theorem bQ {ts:List Expr} {p:Nat} {q:Pos} {value:Expr} {line:Nat} {env:Env}:swapsWithSole [.Tuple ts p q] value line env=pure false:=by
 cases value<;>rfl
theorem dA {ts:List Expr} {tg:List Nat} {k0:Nat} {q pos:Pos} {e:Expr} {t:T} {ds:List D} {σ σ':MEnv} (p:Ast X sc σ) {E:Value→Shared→Prop} {Q:Flow→Shared→Prop}
  (ht:VS X sc t e) (hT:Tgs X.c sc ts tg) (hw:swappedStores [.Tuple ts k0 q] e p.env=pure none) (hd:ev X.G X.F σ false t=some (.tup ds)) (hset:setAll σ tg ds=some σ') (P:p.Post σ' (Q .next)):wpAny (model X.P X.w) p.A (exec (.Assign [.Tuple ts k0 q] e pos) p.env) Q E p.s:=by
 refine wpAny_Assign_stores (ht σ p.at E false _ _ hd fun v h1 tk1 k1 d1 _=> ?_) bQ hw
 obtain ⟨a,items,rfl,_,l,r⟩:=d1
 show wpAny _ p.A (assign (.Tuple ts k0 q) p.env (.ref a)) _ E _
 refine dg (s:={p.s with heap:=h1,toks:=tk1}) p.ar.hd p.at.hsc hT (p.S.rr.keep k1) (TupAt.isTup l) r hset fun h2 tk2 R2 kf=> ?_
 obtain ⟨S2,g2⟩:=(p.S.keep k1).storedN R2 p.sto kf (mU hset)
 exact P h2 tk2 p.Mu p.Ex p.ow S2 ((Gr.of_kp k1 _ _).trans p.lt p.S.mu g2)
theorem xI {ts:List Expr} {tg:List Nat} {k0:Nat} {q pos:Pos} {e:Expr} {t:T} (ht:VS X sc t e) (hT:Tgs X.c sc ts tg) (hnt:isTupE e=false):SS X sc (.unp tg t) (exec (.Assign [.Tuple ts k0 q] e pos)):=fun σ p E σ' o Q h P=>by
 refine fC h fun ds hd h=>aE h fun σ1 hset e1=> ?_
 obtain ⟨rfl,rfl⟩:=Prod.mk.inj e1
 refine dA p ht hT ?_ hd hset P
 cases e<;>first |rfl |exact nomatch hnt
theorem dj {σ:MEnv} {i j:Nat} {d e:D} {x y:Bool} (h:i≠j):setE (setE σ i d x) j e y=setE (setE σ j e y) i d x:=by
 unfold setE;exact List.set_comm _ _ (fun q=>h q)
theorem ce {A:Around} {E:Value→Shared→Prop} {s:Shared} {env:Env} {Ex:Addr→Prop} {ow:Nat→Addr} {σ:MEnv} {x:Str} {i:Nat} {d:D} {v:Value} {Q:Unit→Shared→Prop} (hsc:env.scope=sc) (R:RR env X.c.tbl Ex ow σ s.heap) (hs:storable sc x=true) (hi:X.c.tbl[i]? = some x) (hd:Den s.heap Ex d v)
  (P:∀ h' tk,RR env X.c.tbl Ex ow (setE σ i d false) h'→KS sc env s.heap h'→Q () {s with heap:=h',toks:=tk}):wpAny (model X.P X.w) A (bindName env x v) Q E s:=by
 obtain ⟨s1,s2⟩:=bD (ScEq.self hsc) hs
 exact wpAny_bindName (bM (N:=fun x=>storable sc x=true) hs (b:=false) R s1 hi s2 hd (fun e=>nomatch e) P)
theorem kh {env:Env} {Ex:Addr→Prop} {h h':Heap} {d:D} {v:Value} (kf:KS sc env h h') (own:Ex env.locals∧∀ n c,env.cells.lookup n=some c→Ex c) (hd:Den h Ex d v):Den h' Ex d v:=Den.mono (kf.notex own) (fun _ _ n=>n) _ _ hd
theorem rG {x y:Str} (h:[x,y].eraseDups.length=2):x≠y:=by
 rintro rfl
 simp [List.eraseDups_cons] at h
theorem mx:∀ (n:Nat) (l:List Str),l.length≤n→l.eraseDups.length≤l.length
 |_,[],_=>by simp
 |0,_ :: _,h=>by simp at h
 |n+1,a :: l,h=>by
  rw [List.eraseDups_cons,List.length_cons,List.length_cons]
  have h1:=List.length_filter_le (fun b=> !b==a) l
  have h2:=mx n (l.filter fun b=> !b==a) (by simp at h;omega)
  omega
theorem vL {x y z:Str} (h:[x,y,z].eraseDups.length=3):x≠y∧x≠z∧y≠z:=by
 rw [List.eraseDups_cons,List.length_cons] at h
 have h2:=mx _ ([y,z].filter fun b=> !b==x) (Nat.le_refl _)
 by_cases hy:y=x
 ·exfalso
  subst hy
  have:([y,z].filter fun b=> !b==y).length≤1:=by
   rw [List.filter_cons];simp only [beq_self_eq_true,Bool.not_true,Bool.false_eq_true,if_false]
   exact List.length_filter_le _ _
  omega
 ·by_cases hz:z=x
  ·exfalso
   subst hz
   have:([y,z].filter fun b=> !b==z).length≤1:=by
    simp [List.filter_cons,hy]
   omega
  ·have e:([y,z].filter fun b=> !b==x)=[y,z]:=by simp [List.filter_cons,hy,hz]
   rw [e] at h
   exact ⟨fun q=>hy q.symm,fun q=>hz q.symm,rG (by omega)⟩
theorem oP {σ:MEnv} {s:Shared} {A:Around} {E:Value→Shared→Prop} {env:Env} {Mu Ex:Addr→Prop} {ow:Nat→Addr} {x y:Str} {i j:Nat} {d e:D} {v u:Value} {Q:Unit→Shared→Prop} (hsc:env.scope=sc) (S:SR env X.c.tbl Mu Ex ow σ s.heap) (hx:storable sc x=true) (hi:X.c.tbl[i]? = some x) (hy:storable sc y=true) (hj:X.c.tbl[j]? = some y) (hne:x≠y)
  (hv:Den s.heap Ex d v) (hu:Den s.heap Ex e u) (P:∀ h' tk,SR env X.c.tbl Mu Ex ow (setE (setE σ i d false) j e false) h'→Gr s.heap Mu Ex Mu Ex h'→Q () {s with heap:=h',toks:=tk}) :
  wpAny (model X.P X.w) A (assignInOrder ([x,y].reverse.map fun n=>bindName env n) [v,u].reverse) Q E s:=by
 have hij:i≠j:=fun q=>hne (sm (hi.symm.trans (q▸hj)))
 show wpAny _ A (do holding [v] (bindName env y u);do holding [] (bindName env x v);pure ()) Q E s
 refine wpAny_bind (wpAny_holding (ce hsc S.rr hy hj hu fun h1 tk1 R1 k1=> ?_))
 refine wpAny_bind (wpAny_holding (ce (s:={s with heap:=h1,toks:=tk1}) hsc R1 hx hi (kh k1 S.rr.own hv) fun h2 tk2 R2 k2=>wpAny_pure ?_))
 rw [dj (Ne.symm hij)] at R2
 obtain ⟨S2,g2⟩:=S.storedN R2 (fun _ e=>hsc.symm▸e) (k1.trans k2) fun j' e' h'=>a6 (a6 h')
 exact P h2 tk2 S2 g2
theorem nF {σ:MEnv} {s:Shared} {A:Around} {E:Value→Shared→Prop} {env:Env} {Mu Ex:Addr→Prop} {ow:Nat→Addr} {x y z:Str} {i j l:Nat} {d e f:D} {v u r:Value} {Q:Unit→Shared→Prop} (hsc:env.scope=sc) (S:SR env X.c.tbl Mu Ex ow σ s.heap) (hx:storable sc x=true) (hi:X.c.tbl[i]? = some x) (hy:storable sc y=true) (hj:X.c.tbl[j]? = some y) (hz:storable sc z=true) (hl:X.c.tbl[l]? = some z) (hxy:x≠y) (hxz:x≠z) (hyz:y≠z)
  (hv:Den s.heap Ex d v) (hu:Den s.heap Ex e u) (hr:Den s.heap Ex f r) (P:∀ h' tk,SR env X.c.tbl Mu Ex ow (setE (setE (setE σ i d false) j e false) l f false) h'→Gr s.heap Mu Ex Mu Ex h'→Q () {s with heap:=h',toks:=tk}) :
  wpAny (model X.P X.w) A (assignInOrder ([x,y,z].reverse.map fun n=>bindName env n) [v,u,r].reverse) Q E s:=by
 have hij:i≠j:=fun q=>hxy (sm (hi.symm.trans (q▸hj)))
 have hil:i≠l:=fun q=>hxz (sm (hi.symm.trans (q▸hl)))
 have hjl:j≠l:=fun q=>hyz (sm (hj.symm.trans (q▸hl)))
 show wpAny _ A (do holding [u,v] (bindName env z r);do holding [v] (bindName env y u);do holding [] (bindName env x v);pure ()) Q E s
 refine wpAny_bind (wpAny_holding (ce hsc S.rr hz hl hr fun h1 tk1 R1 k1=> ?_))
 refine wpAny_bind (wpAny_holding (ce (s:={s with heap:=h1,toks:=tk1}) hsc R1 hy hj (kh k1 S.rr.own hu) fun h2 tk2 R2 k2=> ?_))
 refine wpAny_bind (wpAny_holding (ce (s:={s with heap:=h2,toks:=tk2}) hsc R2 hx hi (kh (k1.trans k2) S.rr.own hv) fun h3 tk3 R3 k3=>wpAny_pure ?_))
 rw [dj (Ne.symm hjl),dj (Ne.symm hil),dj (Ne.symm hij)] at R3
 obtain ⟨S3,g3⟩:=S.storedN R3 (fun _ e=>hsc.symm▸e) ((k1.trans k2).trans k3) fun j' e' h'=>a6 (a6 (a6 h'))
 exact P h3 tk3 S3 g3
inductive uy (c:Cx) (sc:Scope):List Str→List Nat→Prop where
 |nil:uy c sc [] []
 |cons {x:Str} {j:Nat} {xs:List Str} {js:List Nat}:storable sc x=true∧c.tbl[j]? = some x→uy c sc xs js→uy c sc (x :: xs) (j :: js)
theorem sw {c:Cx} {env:Env} {line:Nat} {ts:List Expr} {js:List Nat} (hT:Tgs c sc ts js):(ts.filterMap (nameAt env line)).length≤ts.length∧((ts.filterMap (nameAt env line)).length=ts.length→uy c sc (ts.filterMap (nameAt env line)) js):=by
 induction hT with
 |nil=>exact ⟨Nat.le_refl _,fun _=> .nil⟩
 | @cons x p i es is h1 h2 h3 ih =>
  rw [List.filterMap_cons]
  cases hn:nameAt env line (.Name x p) with
  |none=>exact ⟨Nat.le_succ_of_le ih.1,fun q=>absurd (q▸ih.1) (Nat.not_succ_le_self _)⟩
  |some y =>
   have hy:x=y:=gd hn fun _ q=>sm q
   exact ⟨Nat.succ_le_succ ih.1,fun q=> .cons ⟨hy▸h1,hy▸h2⟩ (ih.2 (Nat.succ.inj q))⟩
theorem nX {σ σ':MEnv} {s:Shared} {A:Around} {E:Value→Shared→Prop} {env:Env} {Mu Ex:Addr→Prop} {ow:Nat→Addr} {ts:List Expr} {js:List Nat} {ds:List D} {its:List Value} {names:List Str} {line:Nat} {Q:Unit→Shared→Prop} (hsc:env.scope=sc) (S:SR env X.c.tbl Mu Ex ow σ s.heap)
  (hT:Tgs X.c sc ts js) (r:DenL s.heap Ex ds its) (hset:setAll σ js ds=some σ') (h23:ts.length=2∨ts.length=3) (hn1:names=ts.filterMap (nameAt env line)) (hn2:names.length=ts.length) (hn3:names.eraseDups.length=names.length)
  (P:∀ h' tk,SR env X.c.tbl Mu Ex ow σ' h'→Gr s.heap Mu Ex Mu Ex h'→Q () {s with heap:=h',toks:=tk}):wpAny (model X.P X.w) A (assignInOrder (names.reverse.map fun n=>bindName env n) its.reverse) Q E s:=by
 have f:=(sw (line:=line) (env:=env) hT).2 (hn1▸hn2)
 rw [← hn1] at f
 have hlen:=ew hset
 have hl2:js.length=2∨js.length=3:=hT.length▸h23
 cases f with
 |nil=>exact nomatch hl2
 |cons a f =>
  cases f with
  |nil=>exact nomatch hl2
  |cons b f =>
   cases f with
   |nil =>
    match ds,hlen with
    | [d,e],_ =>
     obtain ⟨v,r1,rfl,dv,u,r2,rfl,du,e3⟩:=r
     rw [show r2=[] from e3]
     obtain rfl:=sm hset
     exact oP hsc S a.1 a.2 b.1 b.2 (rG hn3) dv du P
   |cons c f =>
    cases f with
    |cons _ _=>exact absurd hl2 (by simp)
    |nil =>
     match ds,hlen with
     | [d,e,f],_ =>
      obtain ⟨v,r1,rfl,dv,u,r2,rfl,du,w',r3,rfl,dw,e3⟩:=r
      rw [show r3=[] from e3]
      obtain rfl:=sm hset
      obtain ⟨n1,n2,n3⟩:=vL hn3
      exact nF hsc S a.1 a.2 b.1 b.2 c.1 c.2 n1 n2 n3 dv du dw P
theorem ud {ts vs:List Expr} {is:List (Nat×Bool)} {k0 k1:Nat} {q q' pos:Pos} {t:T} (ht:VS X sc (.tup t) (.Tuple vs k1 q')) (hT:Tgs X.c sc ts (is.map (·.1))) (hf:is.all (fun p=> !p.2)=true) (hc:vs.all (constantsAlone 8)=false) (hl:is.length<30) :
  SS X sc (.multi is t) (exec (.Assign [.Tuple ts k0 q] (.Tuple vs k1 q') pos)):=fun σ p E σ' o Q h P=>by
 refine fC h fun ds hd h=>gd h fun _ h=>aE h fun σ1 hset e1=> ?_
 obtain ⟨rfl,rfl⟩:=Prod.mk.inj e1
 rw [ki hf] at hset
 have hlen:=ew hset
 have hlt:=hT.length
 have h30:ds.length≤1048576:=by rw [← hlen,List.length_map];exact Nat.le_of_lt (Nat.lt_trans hl (by decide))
 have hd':ev X.G X.F σ false (.tup t)=some (.tup ds):=ad hd (ad rfl (aq (decide_eq_true h30) rfl))
 rcases eN (p:=k0) (q:=q) (p':=k1) (q':=q') (env:=p.env) (ts:=ts) hc with hw |⟨names,line,hw,h23,hn1,hn2,hn3⟩
 ·exact dA p ht hT hw hd' hset P
 ·rw [arm_exec_Assign]
  refine wpAny_bind (wpAny_standAt (wpAny_bind (wpAny_of_eq bQ ?_)))
  rw [if_neg (by decide)]
  refine wpAny_bind (ht σ p.at E false _ _ hd' fun v h1 tk1 k1 d1 _=> ?_)
  refine wpAny_bind (wpAny_of_eq hw ?_)
  obtain ⟨a,items,rfl,_,l,r⟩:=d1
  unfold assignStores
  dsimp only
  refine wpAny_bind (wpAny_rule (wpAny_bind ?_))
  have hnl:names.length=items.size:=by rw [hn2,hlt,hlen,ak r]
  rw [hnl]
  refine wpAny_unpackItems_tuple (s:={p.s with heap:=h1,toks:=tk1}) p.ar.hd (TupAt.isTup l) fun h2 k2=> ?_
  have k12:=k1.trans (lr k2)
  exact wpAny_bind (nX (s:={p.s with heap:=h2,toks:=tk1}) p.hsc (p.S.keep k12) hT (r.keep (lr k2)) hset h23 hn1 hn2 hn3 fun h' tk S' g'=>wpAny_pure (P h' tk p.Mu p.Ex p.ow S' ((Gr.of_kp k12 _ _).trans p.lt p.S.mu g')))
end
end Mine
set_option genSizeOf false
set_option genInjectivity false
namespace Mine
variable [Tabs] [Frk]
theorem SR.mutOwn {env:Env} {c:Cx} {Mu Ex:Addr→Prop} {ow:Nat→Addr} {σ:MEnv} {h h':Heap} {i:Nat} {x:Str} {d0:D} {ds:List D} {items:Array Value} (S:SR env c.tbl Mu Ex ow σ h) (hi:c.tbl[i]? = some x) (hs:seen env.scope x=true) (hg:getE σ i=some (d0,true))
  (kk:∀ b o,b≠ow i→h.get? b=some o→Gw h' b o) (cd:Cd h h') (pl:h'.PlainList (ow i) items) (dl:DenL h Ex ds items.toList):SR env c.tbl Mu Ex ow (setE σ i (.list ds) true) h'∧Gr h Mu Ex Mu Ex h':=by
 obtain ⟨its0,ds0,e0,pl0,_⟩:=S.rr.own_al hi hs hg
 have muD:Mu (ow i):=S.own i x d0 hi hs hg
 have exD:Ex (ow i):=S.mu _ muD
 obtain ⟨⟨ok,nd,lt,own,m,cm,F,hv⟩,mu,fr,hown,inj⟩:=S
 obtain ⟨nl,nc⟩:=gW F pl0
 have kx:∀ b o,¬ Ex b→isTab o=false→h.get? b=some o→h'.get? b=some o:=fun b o n t e=>(kk b o (fun q=>n (q▸exD)) e).ob t
 have any:∀ j e,getE (setE σ i (.list ds) true) j=some (e,true)→∃ e',getE σ j=some (e',true):=fun j e hj=>(aT hj).elim (fun q=>⟨_,q.1▸hg⟩) fun q=>⟨e,q.2⟩
 refine ⟨⟨⟨ok,nd,fun b hb=> ?_,own,m,cm,⟨Ns.gw F.ns fun o e=>kk _ o nl.symm e,fun n c hc=>let ⟨o,ho,hd⟩:=F.cell n c hc;⟨o,(kk c o (fun q=>nc n (q▸hc)) ho).ob (cP hd),hd⟩,F.offL,F.inj,F.has⟩,fun j y e b h1 h2 h3=> ?_⟩,mu,fr,fun j y e h1 h2 h3=>let ⟨e',he'⟩:=any j e h3;hown j y e' h1 h2 he',fun j k y z e e' h1 h2 h3 h4 h5 h6 h7=>let ⟨a1,ha1⟩:=any j e h5;let ⟨a2,ha2⟩:=any k e' h6;inj j k y z a1 a2 h1 h2 h3 h4 ha1 ha2 h7⟩,
  fun _ e=> .inl e,fun _ e=> .inl e,fun _ e _=>e,fun b o n e=>kk b o (fun q=>n (q▸muD)) e,cd⟩
 ·by_cases hbd:b=ow i
  ·rw [hbd];exact PL.al pl
  ·obtain ⟨o,ho⟩:=lt b hb;exact (kk b o hbd ho).al
 ·rcases aT h2 with ⟨rfl,q⟩ |⟨hji,q⟩
  ·obtain ⟨rfl,rfl⟩:=Prod.mk.inj q
   obtain rfl:=sm (hi.symm.trans h1)
   obtain ⟨v,e,dv,hw⟩:=hv j x d0 true hi hg hs
   exact ⟨v,e,⟨ow j,items,ds,hw rfl,rfl,pl,DenL.mono kx (fun _ _ n=>n) _ _ dl⟩,hw⟩
  ·obtain ⟨v,e',dv,hw⟩:=hv j y e b h1 q h3
   refine ⟨v,e',?_,hw⟩
   cases b with
   |false=>exact Den.mono kx (fun _ _ n=>n) _ _ dv
   |true =>
    obtain ⟨a,its,ds',e1,e2,l,r⟩:=dv
    exact ⟨a,its,ds',e1,e2,PL.at' l fun o t e=>(kk _ _ (Value.ref.inj (e1.symm.trans (hw rfl))▸inj j i y x _ d0 h1 h3 hi hs q hg hji) e).ob t,DenL.mono kx (fun _ _ n=>n) _ _ r⟩
theorem mK {env:Env} {c:Cx} {Mu Ex:Addr→Prop} {ow:Nat→Addr} {σ:MEnv} {h:Heap} {i:Nat} {x:Str} {d:D} {v:Value} (S:SR env c.tbl Mu Ex ow σ h) (hi:c.tbl[i]? = some x) (hs:seen env.scope x=true) (hg:getE σ i=some (d,true)) (dv:DenV h Ex true d v) (hw:v = .ref (ow i)) :
  Gr h Mu Ex (fun b=>Mu b∧b≠ow i) (fun b=>Ex b∧b≠ow i) h∧Den h (fun b=>Ex b∧b≠ow i) d v:=by
 obtain ⟨a,items,ds,e1,rfl,l,r⟩:=dv
 obtain rfl:=Value.ref.inj (e1.symm.trans hw)
 exact ⟨⟨fun b hb=> .inl hb.1,fun b hb=> .inl hb.1,fun b hb hn=>⟨hb,fun q=>hn (q▸S.own i x _ hi hs hg)⟩,fun _ _ _ e=> .inl e,Cd.refl h⟩,ow i,items,e1,fun e=>e.2 rfl,l,DenL.mono (fun _ _ _ _ e=>e) (fun _ _ n e=>n e.1) _ _ r⟩
section
variable {X:Wd} {sc:Scope}
theorem zq {t:T} {e:Expr} {pos:Pos} (ht:VS X sc t e):SS X sc (.ret t) (exec (.Return (some e) pos)):=fun σ p E σ' o Q h P=>by
 refine aE h fun d hd e1=> ?_
 obtain ⟨rfl,rfl⟩:=Prod.mk.inj e1
 exact wpAny_Return_some (ht σ p.at E false d _ hd fun v h1 tk1 k1 d1 _=>P h1 tk1 v p.Mu p.Ex (Gr.of_kp k1 _ _) d1)
theorem wV {pos:Pos}:SS X sc (.ret (.cst .none)) (exec (.Return none pos)):=fun σ p E σ' o Q h P=>by
 obtain ⟨rfl,rfl⟩:=Prod.mk.inj (sm h)
 exact wpAny_Return_none (P p.s.heap p.s.toks .none p.Mu p.Ex (Gr.refl _ _ _) rfl)
theorem xh {x:Str} {i:Nat} {p0 pos:Pos} (hs:seen sc x=true) (hi:X.c.tbl[i]? = some x) (hd:(x==("__debug__":Str))=false) (hcd:(x==("__classdict__":Str))=false):SS X sc (.retv i) (exec (.Return (some (.Name x p0)) pos)):=fun σ p E σ' o Q h P=>by
 refine aE h fun q hg e1=> ?_
 obtain ⟨rfl,rfl⟩:=Prod.mk.inj e1
 obtain ⟨d,b⟩:=q
 have hs':seen p.env.scope x=true:=p.hsc.symm▸hs
 refine wpAny_Return_some (wpAny_Name (dC p.S.rr hs' hi hg hcd fun v dv hw=> ?_) hd)
 cases b with
 |false=>exact P p.s.heap p.s.toks v p.Mu p.Ex (Gr.refl _ _ _) dv
 |true =>
  obtain ⟨g,dd⟩:=mK p.S hi hs' hg dv (hw rfl)
  exact P p.s.heap p.s.toks v _ _ g dd
theorem wt {op:Operator} {a b:Int} {t u:Tok} {d:D} {A:Around} {E:Value→Shared→Prop} {s:Shared} {Ex:Addr→Prop} {Q:Value→Shared→Prop} (ho:augOk op=true) (hd:binD op (.int a) (.int b)=some d) (P:Ps s Ex d false Q):wpAny (model X.P X.w) A (inplaceOp op (.int a t) (.int b u)) Q E s:=by
 cases op with
 |Add=>exact PyProof.Rows.iadd_int (P.int hd _ _)
 |Sub=>exact PyProof.Rows.isub_int (P.int hd _ _)
 |BitXor=>exact PyProof.Rows.ixor_int (P.int hd _ _)
 |_=>exact nomatch ho
theorem xT {t:T} {e:Expr} {x:Str} {i:Nat} {op:Operator} {p0 pos:Pos} (ht:VS X sc t e) (hs:storable sc x=true) (hi:X.c.tbl[i]? = some x) (hcd:(x==("__classdict__":Str))=false):SS X sc (.aug i op t) (exec (.AugAssign (.Name x p0) op e pos)):=fun σ p E σ' o Q h P=>by
 refine ae h fun q hg h=>ae h fun a ha h=>ae h fun y hy h=>ae h fun c hc h=>fb h fun ho h=>aE h fun d hd e1=> ?_
 obtain ⟨rfl,rfl⟩:=Prod.mk.inj e1
 obtain ⟨d0,b⟩:=q
 refine jw ho fun hb hq=> ?_
 obtain rfl:b=false:=hb
 refine wpAny_AugAssign_Name (dC p.S.rr (p.hsc.symm▸bv hs) hi hg hcd fun v dv _=> ?_)
 refine aQ ha (Den.top dv) fun tk=> ?_
 refine ht σ p.at E true _ _ hy fun u h1 tk1 k1 d1 _=> ?_
 refine aQ hc d1.top fun tk'=> ?_
 refine wt (by rw [← Bool.not_eq_false',hq]) hd (Ex:=p.Ex) fun r h2 tk2 k2 dr _=> ?_
 exact i9 (h1:=h2) (b:=false) p hs hi (k1.trans k2) (fun _=>dr) (fun e=>nomatch e) P
theorem ci {h:Heap} {l:Addr} {items:Array Value} {n:Nat} (x:h.get? l=some {cls:= .type "list",data:= .seq items n}) (f:Array Value→Array Value) :
  (h.update l (Obj.mapSeq f)).get? l=some {cls:= .type "list",data:= .seq (f items) (if (f items).size==items.size then n else n+1)}:=Heap.get?_update_self _ x rfl
theorem c8 {σ:MEnv} {i:Nat} {xs:List D} {P:Prop} (h:own? σ i=some xs) (k:getE σ i=some (.list xs,true)→xs.length≤1048576→P):P :=
 ae h fun q hg h=>ae h fun ys hy h=>gd h fun hc e=>aa hc fun h1 h2=>by
  obtain ⟨d,b⟩:=q
  obtain rfl:=sm e
  obtain rfl:b=true:=h1
  revert hg
  exact bL (P:=fun d=>getE σ i=some (d,true)→P) hy fun hg=>k hg (aM h2)
theorem cW {σ:MEnv} (p:Ast X sc σ) {E:Value→Shared→Prop} {x:Str} {i:Nat} {xs:List D} {p0:Pos} {Q:Value→Shared→Prop} (hs:storable sc x=true) (hi:X.c.tbl[i]? = some x)
  (hd:(x==("__debug__":Str))=false) (hcd:(x==("__classdict__":Str))=false) (hg:getE σ i=some (.list xs,true)) (P:∀ items,p.s.heap.PlainList (p.ow i) items→DenL p.s.heap p.Ex xs items.toList→Q (.ref (p.ow i)) p.s):wpAny (model X.P X.w) p.A (eval (.Name x p0) p.env) Q E p.s:=by
 refine wpAny_Name (dC p.S.rr (p.hsc.symm▸bv hs) hi hg hcd fun v dv hw=> ?_) hd
 obtain ⟨a,items,ds,e1,e2,l,r⟩:=dv
 obtain rfl:=Value.ref.inj (e1.symm.trans (hw rfl))
 rw [e1]
 exact P items l (uY e2▸r)
theorem eV {σ:MEnv} (p:Ast X sc σ) {E:Value→Shared→Prop} {o:Expr} {m:Str} {ap cp pos:Pos} {args:List Expr} {Q:Flow→Shared→Prop} (h:wpAny (model X.P X.w) p.A (eval (.Call (.Attribute o m ap) args [] cp) p.env) (fun v s'=>v = .none∧Q .next s') E p.s) :
  wpAny (model X.P X.w) p.A (exec (.Expr (.Call (.Attribute o m ap) args [] cp) pos) p.env) Q E p.s :=
 wpAny_Expr (wpAny_mono h (fun v s' hv=>hv.1▸hv.2) fun _ _ e=>e) (by unfold interactive;rw [p.S.rr.ok.kind];rfl) rfl
theorem dQ {σ:MEnv} (p:Ast X sc σ) {x:Str} {i:Nat} {d0:D} {ds:List D} {items:Array Value} {h1 h2:Heap} {tk1:Nat} {Q:Shared→Prop} (hs:storable sc x=true) (hi:X.c.tbl[i]? = some x) (hg:getE σ i=some (d0,true)) (k1:Kp p.s.heap h1) (sb:Heap.SameBut (p.ow i) h1 h2) (pl:h2.PlainList (p.ow i) items) (dl:DenL h1 p.Ex ds items.toList)
  (P:p.Post (setE σ i (.list ds) true) Q):Q {p.s with heap:=h2,toks:=tk1}:=by
 obtain ⟨its0,ds0,e0,pl0,_⟩:=(p.S.keep k1).rr.own_al hi (p.hsc.symm▸bv hs) hg
 have kk:∀ b o,b≠p.ow i→h1.get? b=some o→h2.get? b=some o:=fun b o n e=>sb.extBut b o n e
 obtain ⟨S2,g2⟩:=(p.S.keep k1).mutOwn hi (p.hsc.symm▸bv hs) hg (fun b o n e=> .inl (kk b o n e)) (Cd.sb kk (PL.nofields pl0) fun d=>absurd d (PL.nodt pl0)) pl dl
 exact P h2 tk1 p.Mu p.Ex p.ow S2 ((Gr.of_kp k1 _ _).trans p.lt p.S.mu g2)
theorem kI {e:Expr} {env:Env} {cp:Pos} (hst:∀ rest env,starEach (e :: rest) env=(false,eval e env) :: starEach rest env):backTo cp (starEach [e] env)=[(false,eval e env)]:=by rw [hst];rfl
theorem yk {t:T} {e:Expr} {x:Str} {i:Nat} {p0 ap cp pos:Pos} (al:All X sc t e) (hs:storable sc x=true) (hi:X.c.tbl[i]? = some x) (hd:(x==("__debug__":Str))=false) (hcd:(x==("__classdict__":Str))=false) (hl:(ap.endLine==cp.line)=true) :
  SS X sc (.app i t) (exec (.Expr (.Call (.Attribute (.Name x p0) appendS ap) [e] [] cp) pos)):=fun σ p E σ' o Q h P=>by
 refine ae h fun xs ho h=>aE h fun d he e0=>c8 ho fun hg hsz=> ?_
 obtain ⟨rfl,rfl⟩:=Prod.mk.inj e0
 have e1:=kI (env:=p.env) (cp:=cp) al.st
 refine eV p (wpAny_Call_method_lateS rfl (by rw [e1];rfl) hl (cW p hs hi hd hcd hg fun items l r=> ?_))
 obtain ⟨n0,l0⟩:=l
 refine ⟨"list","list.append",PySem.F.plainAttrs_list,PySem.F.slot_list_append,PySem.F.type_list_append,⟨_,l0,rfl⟩,fun a e=>⟨_,Value.ref.inj e▸l0,rfl⟩,?_⟩
 rw [e1]
 refine PySem.Calls.callWith_builtin rfl (PySem.Calls.evalArgs_plain (PySem.Calls.spliced_cons (al.vs σ p.at E false d _ he fun v h1 tk1 k1 d1 _=>PySem.Calls.spliced_nil ?_)))
 have l1:h1.PlainList (p.ow i) items:=⟨n0,k1.ob l0 rfl⟩
 exact wpAny_list_append_plain (s:={p.s with heap:=h1,toks:=tk1}) (hsz:=ak r▸bZ hsz) l1 fun h2 l2 sb=>⟨rfl,dQ p hs hi hg k1 sb l2 (by rw [Array.toList_push];exact (r.keep k1).append (.single d1)) P⟩
theorem yJ {t:T} {e:Expr} {x:Str} {i:Nat} {p0 ap cp pos:Pos} (al:All X sc t e) (hs:storable sc x=true) (hi:X.c.tbl[i]? = some x) (hd:(x==("__debug__":Str))=false) (hcd:(x==("__classdict__":Str))=false) (hl:(ap.endLine==cp.line)=true) :
  SS X sc (.ext i t) (exec (.Expr (.Call (.Attribute (.Name x p0) extendS ap) [e] [] cp) pos)):=fun σ p E σ' o Q h P=>by
 refine ae h fun xs ho h=>ae h fun y he h=>ae h fun ys hys h=>gd h fun hy e0=>c8 ho fun hg hsz=> ?_
 obtain ⟨rfl,rfl⟩:=Prod.mk.inj (sm e0)
 have e1:=kI (env:=p.env) (cp:=cp) al.st
 refine eV p (wpAny_Call_method_lateS rfl (by rw [e1];rfl) hl (cW p hs hi hd hcd hg fun items l r=> ?_))
 obtain ⟨n0,l0⟩:=l
 refine ⟨"list","list.extend",PySem.F.plainAttrs_list,PySem.F.slot_list_extend,PySem.F.type_list_extend,⟨_,l0,rfl⟩,fun a e=>⟨_,Value.ref.inj e▸l0,rfl⟩,?_⟩
 rw [e1]
 refine PySem.Calls.callWith_builtin rfl (PySem.Calls.evalArgs_plain (PySem.Calls.spliced_cons (al.vs σ p.at E false _ _ he fun v h1 tk1 k1 d1 _=>PySem.Calls.spliced_nil ?_)))
 have dt:=DenR.top d1
 refine eK hys dt fun a its2 l2 r2=> ?_
 obtain ⟨n2,l2⟩:=l2
 have l1:h1.get? (p.ow i)=some {cls:= .type "list",data:= .seq items n0}:=k1.ob l0 rfl
 have z:=l5 hsz (aM hy) (ak r) (ak r2)
 refine call_meets PySem.F.slot_list_extend ⟨_,l1,rfl⟩ PySem.F.entry_list_extend (PySem.F.args_list_extend_2 _ _) (AutoSeq1.list_extend_list_list_0 (p.ow i) items n0 a its2 n2 (by simp [Builtin.List.listTooLong,sizeLine_eq];omega) (by rw [sizeLine_eq];omega) (by rw [sizeLine_eq];omega)) ⟨l1,l2,rfl,?_⟩
 exact dQ p hs hi hg k1 (Heap.SameBut.update ..) ⟨_,ci l1 (fun x=>x++its2)⟩ (by rw [Array.toList_append];exact (r.keep k1).append r2) P
theorem vy {x:Str} {i:Nat} {p0 ap cp pos:Pos} (hs:storable sc x=true) (hi:X.c.tbl[i]? = some x) (hd:(x==("__debug__":Str))=false) (hcd:(x==("__classdict__":Str))=false) (hl:(ap.endLine==cp.line)=true) :
  SS X sc (.revm i) (exec (.Expr (.Call (.Attribute (.Name x p0) reverseS ap) [] [] cp) pos)):=fun σ p E σ' o Q h P=>by
 refine aE h fun xs ho e0=>c8 ho fun hg hsz=> ?_
 obtain ⟨rfl,rfl⟩:=Prod.mk.inj e0
 refine eV p (wpAny_Call_method_lateS rfl rfl hl (cW p hs hi hd hcd hg fun items l r=> ?_))
 obtain ⟨n0,l0⟩:=l
 refine ⟨"list","list.reverse",PySem.F.plainAttrs_list,PySem.F.slot_list_reverse,PySem.F.type_list_reverse,⟨_,l0,rfl⟩,fun a e=>⟨_,Value.ref.inj e▸l0,rfl⟩,?_⟩
 refine PySem.Calls.callWith_builtin rfl (PyProof.Rows.evalArgs_none ?_)
 refine call_meets PySem.F.slot_list_reverse ⟨_,l0,rfl⟩ PySem.F.entry_list_reverse (PySem.F.args_list_reverse_1 _) (AutoListH.list_reverse_list_0 (p.ow i) items n0 (ak r▸bZ hsz)) ⟨l0,rfl,?_⟩
 exact dQ p hs hi hg (Kp.refl _) (Heap.SameBut.update ..) ⟨_,ci l0 (fun x=>x.reverse)⟩ (by rw [Array.toList_reverse];exact r.reverse) P
theorem ub {j:Int} (h : -(2 ^ 63:Int)≤j∧j<2 ^ 63):Builtin.List.listFitsIndex j=true:=by
 unfold Builtin.List.listFitsIndex
 simp only [Bool.and_eq_true,decide_eq_true_eq]
 exact h
theorem yX {t:T} {e:Expr} {x:Str} {i:Nat} {p0 sp pos:Pos} (ht:VS X sc t e) (hs:storable sc x=true) (hi:X.c.tbl[i]? = some x) (hd:(x==("__debug__":Str))=false) (hcd:(x==("__classdict__":Str))=false) :
  SS X sc (.del i t) (exec (.Delete [.Subscript (.Name x p0) e sp] pos)):=fun σ p E σ' o Q h P=>by
 refine ae h fun xs ho h=>ae h fun y he h=>ae h fun j hj h=>c8 ho fun hg hsz=> ?_
 have key:∀ q:Nat,seqIndex? j xs.length=some q→(-(2 ^ 63:Int)≤j∧j<2 ^ 63)→p.Post (setE σ i (.list (xs.eraseIdx q)) true) (Q .next)→wpAny (model X.P X.w) p.A (exec (.Delete [.Subscript (.Name x p0) e sp] pos) p.env) Q E p.s:=fun q hq hb P=>by
  refine wpAny_Delete ?_
  rw [arm_deleteEach_cons,arm_deleteEach_nil]
  refine wpAny_bind ?_
  show wpAny _ p.A (do let ov ← eval (.Name x p0) p.env;let iv ← holding [ov] (eval e p.env);standAt sp;holding [ov,iv] (delItem ov iv);release [ov,iv] []) _ _ p.s
  refine wpAny_bind (cW p hs hi hd hcd hg fun items l r=> ?_)
  refine wpAny_bind (wpAny_holding (ht σ p.at E true _ _ he fun v h1 tk1 k1 d1 _=> ?_))
  have dt:=DenR.top d1
  refine aQ hj dt fun tk=> ?_
  obtain ⟨n0,l0⟩:=l
  have l1:h1.get? (p.ow i)=some {cls:= .type "list",data:= .seq items n0}:=k1.ob l0 rfl
  refine wpAny_bind (wpAny_standAt (wpAny_bind (wpAny_holding ?_)))
  refine PySem.P.delItem_list (s:={p.s with heap:=h1,toks:=tk1}) (n:=n0) l1 (ub hb) (by rw [ak r];exact hq) ?_ (ak r▸bZ hsz)
  refine wpAny_release (wpAny_pure ?_)
  exact dQ p hs hi hg k1 (Heap.SameBut.update ..) ⟨_,ci l1 (fun xs=>xs.eraseIdxIfInBounds q)⟩ (by rw [show (items.eraseIdxIfInBounds q).toList=items.toList.eraseIdx q by simp];exact (r.keep k1).erase) P
 by_cases hc:(decide (0≤j)&&decide (j<xs.length))=true
 ·rw [if_pos hc] at h
  obtain ⟨rfl,rfl⟩:=Prod.mk.inj (sm h)
  exact aa hc fun h1 h2=>key j.toNat (m8 (de h1) ((Int.toNat_lt (de h1)).mpr (de h2))) (jo (de h1) (de h2) hsz) P
 ·rw [if_neg hc] at h
  refine gd h fun hc h=>aa hc fun h1 h2=> ?_
  obtain ⟨rfl,rfl⟩:=Prod.mk.inj (sm h)
  obtain rfl:=de h1
  have h2:=de h2
  refine key (xs.length - 1) ?_ (by decide) P
  rw [md (by decide) (by omega)]
  congr 1;omega
end
end Mine
set_option genSizeOf false
set_option genInjectivity false
namespace Mine
variable [Tabs] [Frk]
section
variable {prog:Program} {w:World} {A:Around} {E:Value→Shared→Prop} {s:Shared}
theorem eP {l:Addr} {items:Array Value} {n:Nat} {q:Int} {t:Tok} {v:Value} {Q:Unit→Shared→Prop} (ho:s.heap.get? l=some {cls:= .type "list",data:= .seq items n}) (h0:0≤q) (hn:q<items.size) (hfit:q<2 ^ 63)
  (hQ:Q () {s with heap:=s.heap.update l (Obj.mapSeq fun x=>x.setIfInBounds q.toNat v)}):wpAny (model prog w) A (setItem (.ref l) (.int q t) v) Q E s:=by
 have hl:s.heap.IsList l items:=⟨_,ho,rfl,n,rfl⟩
 unfold setItem
 try with_reducible refine wpAny_holding ?_
 first |refine wpAny_bind (wpAny_pure ?_) |skip
 refine wpAny_bind (wpAny_sequenceKey hl.typeIs (by decide) ?_)
 refine wpAny_bind (wpAny_callSpecial?_slot (name:=Str.ofString "__setitem__") hl.typeIs slot_list_setitem
  (wpAny_call_entry slot_list_setitem hl.typeIs entry_list_setitem ?_ (args_list_setitem _ _ _)))
 show wpAny _ _ (Builtin.List.listSubscript? (.int q t) >>= _) _ _ s
 refine wpAny_bind (wpAny_listSubscript_int (fitsIndex_of h0 hfit) ?_)
 clear hfit
 obtain ⟨k,rfl⟩:=Int.eq_ofNat_of_zero_le h0
 have hj:k<items.size:=Int.ofNat_lt.mp hn
 have hx:items[k]? = some items[k]:=Array.getElem?_eq_getElem hj
 rw [Int.toNat_natCast] at hQ
 show wpAny _ _ ((seqItemAt l k >>= fun r=>pure (r.map (k,·))) >>= _) _ _ s
 refine wpAny_bind (wpAny_bind (wpAny_seqItemAt ho rfl (wpAny_pure ?_)))
 rw [hx]
 show wpAny _ _ (setSeqItemAt l k v >>= _) _ _ s
 refine wpAny_bind (wpAny_setSeqItemAt ho rfl ?_)
 first
  |exact wpAny_bind (wpAny_pure (wpAny_pure ⟨.none,rfl,wpAny_pure hQ⟩))
  |exact wpAny_pure ⟨.none,rfl,wpAny_pure hQ⟩
end
section
variable {X:Wd} {sc:Scope}
theorem xu {tk tv:T} {ek e:Expr} {x:Str} {i:Nat} {p0 sp pos:Pos} (hk:VS X sc tk ek) (hv:VS X sc tv e) (hs:storable sc x=true) (hi:X.c.tbl[i]? = some x) (hd:(x==("__debug__":Str))=false) (hcd:(x==("__classdict__":Str))=false) :
  SS X sc (.seti i tk tv) (exec (.Assign [.Subscript (.Name x p0) ek sp] e pos)):=fun σ p E σ' o Q h P=>by
 refine ae h fun xs ho h=>ae h fun y hy h=>ae h fun j hj h=>ae h fun d hdv h=>gd h fun hc h=>c8 ho fun hg hsz=>aa hc fun c1 c2=> ?_
 obtain ⟨rfl,rfl⟩:=Prod.mk.inj (sm h)
 have hsw:swapsWith e (some (.Subscript (.Name x p0) ek sp)) pos.line p.env=pure false:=by cases e<;>rfl
 refine wpAny_Assign_Subscript (hv σ p.at E false d _ hdv fun v h1 tk1 k1 d1 _=>cW (p.to k1 tk1) hs hi hd hcd hg fun items l r=>hk σ (p.to k1 tk1).at E true _ _ hy fun u h2 tk2 k2 d2 _=> ?_) hsw
 have dt:=DenR.top d2
 refine aQ hj dt fun tu=> ?_
 obtain ⟨n0,l0⟩:=l
 have l1:h2.get? (p.ow i)=some {cls:= .type "list",data:= .seq items n0}:=k2.ob l0 rfl
 refine eP (s:={p.s with heap:=h2,toks:=tk2}) l1 (de c1) (ak r▸de c2) (jo (de c1) (de c2) hsz).2 ?_
 exact dQ p hs hi hg (k1.trans k2) (Heap.SameBut.update ..) ⟨_,ci l1 (fun xs=>xs.setIfInBounds j.toNat v)⟩ (by rw [show (items.setIfInBounds j.toNat v).toList=items.toList.set j.toNat v by simp];exact (r.keep k2).set (Den.keep k2 d1)) P
end
theorem SR.vis {env:Env} {c:Cx} {Mu Ex:Addr→Prop} {ow:Nat→Addr} {σ σ':MEnv} {h:Heap} (S:SR env c.tbl Mu Ex ow σ h) (hw:∀ j x e,c.tbl[j]? = some x→seen env.scope x=true→getE σ' j=some e→getE σ j=some e):SR env c.tbl Mu Ex ow σ' h:=by
 obtain ⟨⟨ok,nd,lt,own,m,cm,F,hv⟩,mu,fr,hown,inj⟩:=S
 exact ⟨⟨ok,nd,lt,own,m,cm,F,fun i x d b h1 h2 h3=>hv i x d b h1 (hw i x _ h1 h3 h2) h3⟩,mu,fr,fun i x d h1 h2 h3=>hown i x d h1 h2 (hw i x _ h1 h2 h3),fun i j x y d e h1 h2 h3 h4 h5 h6=>inj i j x y d e h1 h2 h3 h4 (hw i x _ h1 h2 h5) (hw j y _ h3 h4 h6)⟩
theorem SR.freeze {env:Env} {c:Cx} {Mu Ex:Addr→Prop} {ow:Nat→Addr} {σ:MEnv} {h:Heap} (S:SR env c.tbl Mu Ex ow σ h) (t:T):∃ Mu1 Ex1,SR env c.tbl Mu1 Ex1 ow (Mine.freeze σ t) h∧Gr h Mu Ex Mu1 Ex1 h:=by
 have same:∀ {σ'},SR env c.tbl Mu Ex ow σ' h→∃ Mu1 Ex1,SR env c.tbl Mu1 Ex1 ow σ' h∧Gr h Mu Ex Mu1 Ex1 h:=fun S=>⟨Mu,Ex,S,Gr.refl _ _ _⟩
 cases t with
 |var i =>
  show ∃ Mu1 Ex1,SR env c.tbl Mu1 Ex1 ow ((getE σ i).elim σ fun p=>setE σ i p.1 false) h∧Gr h Mu Ex Mu1 Ex1 h
  cases hg:getE σ i with
  |none=>exact same S
  |some p =>
   obtain ⟨d,b⟩:=p
   show ∃ Mu1 Ex1,SR env c.tbl Mu1 Ex1 ow (setE σ i d false) h∧Gr h Mu Ex Mu1 Ex1 h
   by_cases hx:b=true∧∃ x,c.tbl[i]? = some x∧seen env.scope x=true
   ·obtain ⟨rfl,x,hi,hs⟩:=hx
    obtain ⟨its0,ds0,e0,pl0,_⟩:=S.rr.own_al hi hs hg
    obtain ⟨⟨ok,nd,lt,own,m,cm,F,hv⟩,mu,fr,hown,inj⟩:=id S
    obtain ⟨v,e,dv,hw⟩:=hv i x d true hi hg hs
    obtain ⟨g,dd⟩:=mK S hi hs hg dv (hw rfl)
    obtain ⟨nl,nc⟩:=gW F pl0
    have ne:∀ j y e',c.tbl[j]? = some y→seen env.scope y=true→getE (setE σ i d false) j=some (e',true)→ow j≠ow i:=fun j y e' h1 h2 h3=>by
     rcases aT h3 with ⟨_,q⟩ |⟨hji,q⟩
     ·exact nomatch (Prod.mk.inj q).2
     ·exact inj j i y x e' d h1 h2 hi hs q hg hji
    refine ⟨_,_,⟨⟨ok,nd,fun b hb=>lt b hb.1,⟨⟨own.1,nl.symm⟩,fun n c e=>⟨own.2 n c e,fun q=>nc n (q▸e)⟩⟩,m,cm,F,fun j y e' b' h1 h2 h3=> ?_⟩,fun b hb=>⟨mu b hb.1,hb.2⟩,⟨⟨fr.1,nl.symm⟩,fun n c sn e=>⟨fr.2 n c sn e,fun q=>nc n (q▸e)⟩⟩,fun j y e' h1 h2 h3=>⟨hown j y e' h1 h2 (a6 h3),ne j y e' h1 h2 h3⟩,fun j k y z e1 e2 h1 h2 h3 h4 h5 h6 h7=>inj j k y z e1 e2 h1 h2 h3 h4 (a6 h5) (a6 h6) h7⟩,g⟩
    rcases aT h2 with ⟨rfl,q⟩ |⟨_,q⟩
    ·obtain ⟨rfl,rfl⟩:=Prod.mk.inj q
     obtain rfl:=sm (hi.symm.trans h1)
     exact ⟨v,e,dd,fun q=>nomatch q⟩
    ·obtain ⟨u,e1,du,hu⟩:=hv j y e' b' h1 q h3
     refine ⟨u,e1,?_,hu⟩
     cases b' with
     |false=>exact Den.mono (fun _ _ _ _ e=>e) (fun _ _ n e=>n e.1) _ _ du
     |true =>
      obtain ⟨a,items,ds,e1,e2,l,r⟩:=du
      exact ⟨a,items,ds,e1,e2,l,DenL.mono (fun _ _ _ _ e=>e) (fun _ _ n e=>n e.1) _ _ r⟩
   ·refine same (S.vis fun j x e h1 h2 h3=> ?_)
    rcases aT h3 with ⟨rfl,q⟩ |⟨_,q⟩
    ·cases b with
     |false=>exact q▸hg
     |true=>exact absurd ⟨rfl,x,h1,h2⟩ hx
    ·exact q
 |_=>exact same S
end Mine
set_option genSizeOf false
set_option genInjectivity false
namespace Mine
variable [Tabs] [Frk]
theorem gf {σ σ':MEnv} {tg:List Nat} {one:Bool} {d:D} (h:bindT σ tg one d=some σ'):∀ j e,getE σ' j=some (e,true)→getE σ j=some (e,true):=by
 cases one with
 |true=>exact aE (show (one? tg).map (fun i=>setE σ i d false)=some σ' from h) fun i _ e j _ hj=>a6 (e▸hj)
 |false=>exact ae (show d.tup?.bind (fun ds=>setAll σ tg ds)=some σ' from h) fun ds _ h=>mU h
structure Lp (X:Wd) (sc:Scope) (σ:MEnv) where
 p:Ast X sc σ
 target:Expr
 tg:List Nat
 one:Bool
 I:Addr
 xs:List D
 Fp:Addr→Prop
 Wr:Addr→Prop
 It:Heap→(Addr→Prop)→Prop
 St:Nat→Heap→Prop
 tn:Turns X.P X.w p.A X.c sc target tg one I xs Fp Wr It St
 wnew:∀ b,Wr b→p.s.heap.get? b=none
structure Lp.Inv {X:Wd} {sc:Scope} {σ:MEnv} (L:Lp X sc σ) (i:Nat) (H:Heap) (Mu Ex:Addr→Prop) (ow:Nat→Addr) (ρ:MEnv):Prop where
 st:L.St i H
 it:L.It H Ex
 S:SR L.p.env X.c.tbl Mu Ex ow ρ H
 g:Gr L.p.s.heap L.p.Mu L.p.Ex Mu Ex H
 wx:∀ b,L.Wr b→Ex b
 fm:∀ b,L.Fp b→¬ Mu b
section
variable {X:Wd} {sc:Scope} {σ:MEnv}
theorem Lp.Inv.later {L:Lp X sc σ} {i:Nat} {h h':Heap} {Mu Ex Mu' Ex':Addr→Prop} {ow ow':Nat→Addr} {ρ ρ':MEnv} (v:L.Inv i h Mu Ex ow ρ) (S:SR L.p.env X.c.tbl Mu' Ex' ow' ρ' h') (g:Gr h Mu Ex Mu' Ex' h'):L.Inv i h' Mu' Ex' ow' ρ' :=
 ⟨L.tn.frameK v.st fun b o hb t e=>(g.keep b o (v.fm b hb) e).ob t,L.tn.items _ _ _ _ v.it (fun b o n t e=>(g.keep b o (fun q=>n (v.S.mu b q)) e).ob t) (fun b hb n e=>(g.ex b e).elim n fun q=>Al.ne hb q rfl),S,v.g.trans L.p.lt L.p.S.mu g,fun b hb=>g.kp b (v.wx b hb) (v.fm b (L.tn.sub b hb)),
  fun b hb hm=>(g.mu b hm).elim (v.fm b hb) fun q=>let ⟨o,ho,_⟩:=L.tn.kinds _ _ b v.st hb;nomatch ho.symm.trans q⟩
theorem Lp.next (L:Lp X sc σ) {i:Nat} {H:Heap} {tk:Nat} {Mu Ex:Addr→Prop} {ow:Nat→Addr} {ρ ρ':MEnv} {d:D} {Q:Unit→Shared→Prop} {E E':Value→Shared→Prop} (v:L.Inv i H Mu Ex ow ρ) (hx:L.xs[i]? = some d) (hb:bindT ρ L.tg L.one d=some ρ')
  (P:∀ h' tk',L.Inv (i+1) h' Mu Ex ow ρ'→Q () {L.p.s with heap:=h',toks:=tk'}) :
  wpAny (model X.P X.w) L.p.A (pyNext (.ref L.I)) (fun r s₁=>∃ v,r=some v∧wpAny (model X.P X.w) L.p.A (letOwnedTupleGo L.target (.ref L.I) v) (fun _ s₂=>wpAny (model X.P X.w) L.p.A (assign L.target L.p.env v) Q E' s₂) E' s₁) E {L.p.s with heap:=H,toks:=tk} :=
 L.tn.next i d {L.p.s with heap:=H,toks:=tk} L.p.env Ex ow ρ ρ' Q E E' L.p.at.hsc hx v.st v.it v.wx v.S.rr hb fun h3 tk3 st3 it3 R3 kp3 cd3=>P h3 tk3
  ⟨st3,it3,⟨R3,v.S.mu,v.S.fr,fun j y e h1 h2 h3=>v.S.own j y e h1 h2 (gf hb j e h3),fun j k y z e e' h1 h2 h3 h4 h5 h6 h7=>v.S.inj j k y z e e' h1 h2 h3 h4 (gf hb j e h5) (gf hb k e' h6) h7⟩,
   ⟨v.g.mu,v.g.ex,v.g.kp,fun b o nb e=>(v.g.keep b o nb e).then (fun o' e'=>kp3 b o' (fun q=>ah ((L.wnew b q).symm.trans e)) (fun q=>nb (q▸L.p.S.fr.1)) (fun n' sn q=>nb (L.p.S.fr.2 n' b (L.p.sto n' sn) q)) e') cd3,v.g.cd.trans cd3⟩,v.wx,v.fm⟩
theorem Lp.done (L:Lp X sc σ) {H:Heap} {tk:Nat} {Mu Ex:Addr→Prop} {ow:Nat→Addr} {ρ:MEnv} {Q:Shared→Prop} {E:Value→Shared→Prop} (v:L.Inv L.xs.length H Mu Ex ow ρ) (P:L.p.Post ρ Q) :
  wpAny (model X.P X.w) L.p.A (pyNext (.ref L.I)) (fun r s₁=>r=none∧Q s₁) E {L.p.s with heap:=H,toks:=tk} :=
 L.tn.done {L.p.s with heap:=H,toks:=tk} Q E v.st fun h3 tk3 kp3=>by
  have wk:∀ b,L.Wr b→∃ o,H.get? b=some o∧IsFields o:=fun b hb=>Knd.fld (L.tn.kinds _ _ b v.st (L.tn.sub b hb)) fun q=>q hb
  exact P h3 tk3 Mu (fun b=>Ex b∧¬ L.Wr b) ow ⟨v.S.rr.drop kp3 v.wx wk,fun b hb=>⟨v.S.mu b hb,fun q=>v.fm b (L.tn.sub b q) hb⟩,v.S.fr,v.S.own,v.S.inj⟩
   ⟨v.g.mu,fun b hb=>v.g.ex b hb.1,fun b hb hn=>⟨v.g.kp b hb hn,fun q=>Al.ne (L.p.lt b hb) (L.wnew b q) rfl⟩,fun b o nb e=>(v.g.keep b o nb e).then (fun o' e'=> .inl (kp3 b o' (fun q=>ah ((L.wnew b q).symm.trans e)) e')) (L.tn.cdW v.st kp3),v.g.cd.trans (L.tn.cdW v.st kp3)⟩
noncomputable def flowP (R:Result→Shared→Prop) (N:Shared→Prop):Flow→Shared→Prop
 | .next,s=>N s
 | .cont,s=>N s
 | .brk,s=>R (.ok .next) s
 | .ret v,s=>R (.ok (.ret v)) s
noncomputable def aftP (L:Lp X sc σ) (R:Result→Shared→Prop) (W:Shared→Prop) (ρ:MEnv):Out→Prop
 | .next=>L.p.Post ρ W
 | .brk=>L.p.Post ρ (R (.ok .next))
 | .ret d=>∀ h' tk v Mu' Ex',Gr L.p.s.heap L.p.Mu L.p.Ex Mu' Ex' h'→Den h' Ex' d v→R (.ok (.ret v)) {L.p.s with heap:=h',toks:=tk}
noncomputable def lpf (X:Wd) (sb:S) (tg:List Nat) (one:Bool):MEnv→D→Option (MEnv×Out):=fun σ d=>(bindT σ tg one d).bind fun σ'=>ex X.G X.F σ' sb
noncomputable def Lp.Go (L:Lp X sc σ) (sb:S) (r:MEnv×Out) (nn:Nat) (s':Shared):Prop:=∃ H tk i Mui Exi owi σi,s' = {L.p.s with heap:=H,toks:=tk}∧i≤L.xs.length∧nn=L.xs.length+1 - i∧L.Inv i H Mui Exi owi σi∧loopL (lpf X sb L.tg L.one) σi (L.xs.drop i)=some r
noncomputable def Lp.Er (L:Lp X sc σ) (R:Result→Shared→Prop):Value→Shared→Prop:=notedBy (model X.P X.w) L.p.A L.p.env fun e s'=>R (.error e) s'
theorem Lp.end (L:Lp X sc σ) {R:Result→Shared→Prop} {W:Shared→Prop} {sb:S} {r:MEnv×Out} (aft:aftP L R W r.1 r.2) {i:Nat} {h3:Heap} {tk3:Nat} {Mu3 Ex3:Addr→Prop} {ow3:Nat→Addr} {σ3 σ4:MEnv} {o4:Out} (hlt:i<L.xs.length) (v3:L.Inv (i+1) h3 Mu3 Ex3 ow3 σ3)
  (hli:cond o4.isNext (loopL (lpf X sb L.tg L.one) σ4 (L.xs.drop (i+1))) (some (σ4,o4))=some r):SPost {L.p.s with heap:=h3,toks:=tk3} L.p.env X.c.tbl Mu3 Ex3 σ4 o4 (flowP R fun s₃=>∃ m,m<L.xs.length+1 - i∧L.Go sb r m s₃):=by
 cases o4 with
 |next=>exact fun h4 tk4 Mu4 Ex4 ow4 S4 g4=>⟨L.xs.length+1 - (i+1),Nat.sub_lt_sub_left (Nat.lt_succ_of_lt hlt) (Nat.lt_succ_self i),h4,tk4,i+1,Mu4,Ex4,ow4,σ4,rfl,hlt,rfl,v3.later S4 g4,hli⟩
 |brk =>
  obtain rfl:=sm hli
  exact fun h4 tk4 Mu4 Ex4 ow4 S4 g4=>aft h4 tk4 Mu4 Ex4 ow4 S4 (v3.g.trans L.p.lt L.p.S.mu g4)
 |ret d =>
  obtain rfl:=sm hli
  exact fun h4 tk4 v Mu4 Ex4 g4 hd=>aft h4 tk4 v Mu4 Ex4 (v3.g.trans L.p.lt L.p.S.mu g4) hd
theorem Lp.run {R:Result→Shared→Prop} (L:Lp X sc σ) {sb:S} {body els:List Stmt} {r:MEnv×Out} (hb:SS X sc sb (execs body))
  (aft:aftP L R (fun s₁=>wpAny (model X.P X.w) L.p.A (execs els L.p.env) (fun f s₃=>R (.ok f) s₃) (notedBy (model X.P X.w) L.p.A L.p.env fun e s'=>R (.error e) s') s₁) r.1 r.2) {H:Heap} {tk:Nat} {Mu Ex:Addr→Prop} {ow:Nat→Addr} {ρ:MEnv} (v0:L.Inv 0 H Mu Ex ow ρ)
  (hl:loopL (lpf X sb L.tg L.one) ρ L.xs=some r):codeAny (model X.P X.w) L.p.A (.forLoop L.target (.ref L.I) body els L.p.env) R {L.p.s with heap:=H,toks:=tk}:=by
 refine codeAny_forLoop_any (L.Go sb r) ?_ (L.xs.length+1) ⟨H,tk,0,Mu,Ex,ow,ρ,rfl,Nat.zero_le _,rfl,v0,hl⟩
 rintro nn s' ⟨H,tk,i,Mui,Exi,owi,σi,rfl,hi,rfl,v,hli⟩
 rcases Nat.lt_or_ge i L.xs.length with hlt |hge
 ·rw [List.drop_eq_getElem_cons hlt] at hli
  refine ae hli fun w hw hli=>ae hw fun σ2 hbd hw=> ?_
  refine wpAny_mono (L.next (Q:=fun _ s₂=>wpAny (model X.P X.w) L.p.A (execs body L.p.env) (flowP R fun s₃=>∃ m,m<L.xs.length+1 - i∧L.Go sb r m s₃) (L.Er R) s₂) (E':=L.Er R) v (List.getElem?_eq_getElem hlt) hbd fun h3 tk3 v3 =>
   hb σ2 (L.p.on v3.S v3.g tk3) _ w.1 w.2 _ hw (L.end aft hlt v3 hli)) (fun r s₁ hr=> ?_) fun _ _ e=>e
  obtain ⟨v,rfl,hr⟩:=hr
  exact wpAny_mono hr (fun _ _ hr=>wpAny_mono hr (fun _ _ hr=>wpAny_mono hr (fun f s₃ h=>by cases f<;>exact h) fun _ _ e=>e) fun _ _ e=>e) fun _ _ e=>e
 ·obtain rfl:=Nat.le_antisymm hi hge
  rw [List.drop_length] at hli
  obtain rfl:=sm hli
  refine wpAny_mono (L.done v aft) (fun r s₁ hr=> ?_) fun _ _ e=>e
  obtain ⟨rfl,hr⟩:=hr
  exact hr
theorem yI {k:IK} {it it2:T} {target iter:Expr} {tg:List Nat} {one:Bool} {body els:List Stmt} {sb se:S} {pos:Pos} (hit:FS X sc k it it2 iter) (hb:SS X sc sb (execs body)) (he:SS X sc se (execs els)) (hT:TgOk X.c sc target tg one)
  (hfold:∀ env x,foldedSetIterable iter env x=pure x):SS X sc (.fors tg one k it it2 sb se) (exec (.For target iter body els pos)):=fun σ p E σ' o Q h P=>by
 refine fb h fun hen h=>ae h fun xs hxs h=>ae h fun r hl hr=> ?_
 have hen:enumOk one k=true:=by rw [Bool.not_eq_true',Bool.not_eq_false] at hen;exact hen
 obtain ⟨Mu1,Ex1,S1,g1⟩:=p.S.freeze it
 refine wpAny_For (hit _ (p.on (h:=p.s.heap) S1 g1 p.s.toks).at E false xs sc target tg one _ hT hen hxs fun I Fp Wr It St h2 tk2 T st0 it0' k2 wnew fpw=> ?_) (hfold p.env)
 have wal2:∀ b,Wr b→Al h2 b:=fun b hb=>let ⟨o,ho,_⟩:=T.kinds _ _ b st0 (T.sub b hb);⟨o,ho⟩
 refine Lp.run {p:=p,target:=target,tg:=tg,one:=one,I:=I,xs:=xs,Fp:=Fp,Wr:=Wr,It:=It,St:=St,tn:=T,wnew:=wnew} hb (r:=r) ?_ (Mu:=Mu1) (Ex:=fun b=>Ex1 b∨Wr b) (ow:=p.ow) (ρ:=Mine.freeze σ it)
  ⟨st0,it0',⟨S1.rr.grow k2 wnew wal2,fun b hb=> .inl (S1.mu b hb),S1.fr,S1.own,S1.inj⟩,
  ⟨g1.mu,fun b hb=>hb.elim (g1.ex b) fun e=> .inr (wnew b e),fun b hb hn=> .inl (g1.kp b hb hn),fun b o _ e=>k2 b o e,k2.cd⟩,fun b hb=> .inr hb,fun b hb hmu=>(fpw b hb).elim (fun hw=>Al.ne (S1.rr.lt b (S1.mu b hmu)) (wnew b hw) rfl) fun hn=>hn rfl (S1.mu b hmu)⟩ hl
 obtain ⟨ρ,o'⟩:=r
 cases o' with
 |next=>exact fun h3 tk3 Mu3 Ex3 ow3 S3 g3=>he _ (p.on S3 g3 tk3) _ σ' o _ hr (P.from p.lt p.S.mu g3)
 |brk =>
  obtain ⟨rfl,rfl⟩:=Prod.mk.inj (sm hr)
  exact P
 |ret d =>
  obtain ⟨rfl,rfl⟩:=Prod.mk.inj (sm hr)
  exact P
end
end Mine
set_option genSizeOf false
set_option genInjectivity false
namespace Mine
variable [Tabs] [Frk]
noncomputable def CxOk (c:Cx):Prop:=c.tbl.all (fun x=>dbg x&&dcl x)=true
section
variable {X:Wd} {sc:Scope} {mg mb:Str→Option Value}
theorem dN (ok:CxOk X.c) {i:Nat} (h:stoI X.c sc i=true) {P:Prop} (k:storable sc (X.c.tbl.getD i Str.empty)=true→X.c.tbl[i]? = some (X.c.tbl.getD i Str.empty)→((X.c.tbl.getD i Str.empty)==("__debug__":Str))=false→((X.c.tbl.getD i Str.empty)==("__classdict__":Str))=false→P):P:=by
 obtain ⟨h1,h2⟩:=cX h
 exact aa (List.all_eq_true.mp ok _ (List.mem_of_getElem? h2)) fun h3 h4=>k h1 h2 (nt h3) (nt h4)
noncomputable def GoodS (X:Wd) (sc:Scope) (s:S) (l:List Stmt):Prop:=cond (isSeq s) (SS X sc s (execs l)) (∃ st,l=[st]∧SS X sc s (exec st))
noncomputable def UnS (X:Wd) (sc:Scope) (s:S):Prop:=∀ ss,(unS X.c sc s ss).1=true→GoodS X sc s (unS X.c sc s ss).2
theorem UnS.l {s:S} {ss:List Stmt} (h:UnS X sc s) (h1:isSeq s=true) (h2:(unS X.c sc s ss).1=true):SS X sc s (execs (unS X.c sc s ss).2):=by
 have:=h ss h2
 unfold GoodS at this
 rw [h1] at this;exact this
theorem UnS.s {s:S} {ss:List Stmt} (h:UnS X sc s) (h1:(!isSeq s)=true) (h2:(unS X.c sc s ss).1=true):SS X sc s (exec (hs (unS X.c sc s ss).2)):=by
 have:=h ss h2
 unfold GoodS at this
 rw [nt h1] at this
 obtain ⟨st,e,g⟩:=this
 rw [e];exact g
theorem mH {is:List Nat} {e:Expr} (h:varsB X.c sc is e=true):Tgs X.c sc (List.zipWith (nameE X.c) is (kids e)) is:=aa h fun h1 h2=>mM (beq_iff_eq.mp h1) h2
theorem fG (B:X.Ok mg mb) (CT:X.Ct mg) (ok:CxOk X.c) (s:S):UnS X sc s:=by
 have me:=fun {t:T} {e:Expr} (h:(unE X.c sc t e).1=true)=>(cg B CT t).e h
 induction s with
 |skip=>exact fun ss h=>wU
 |seq a b ha hb=>exact fun ss h=>aa h fun h h4=>aa h fun h h3=>aa h fun h1 h2=>xQ (ha.s h1 h3) (hb.l h2 h4)
 |asg i x e=>exact fun ss h=>aa h fun h h3=>aa h fun h1 h2=>⟨_,rfl,zj (me h1) (cX h2).1 (cX h2).2 (nt h3)⟩
 |unp is e=>exact fun ss h=>aa h fun h h3=>aa h fun h1 h2=>⟨_,rfl,xI (me h1).vs (mH h2) (nt h3)⟩
 |multi is es=>exact fun ss h=>aa h fun h h5=>aa h fun h h4=>aa h fun h h3=>aa h fun h1 h2=>⟨_,rfl,ud (pO ((cg B CT es).l h1).as) (mH h2) h3 (nt h4) (de h5)⟩
 |aug i op e=>exact fun ss h=>aa h fun h1 h2=>dN ok h2 fun q1 q2 q3 q4=>⟨_,rfl,xT (me h1).vs q1 q2 q4⟩
 |app i e=>exact fun ss h=>aa h fun h h3=>aa h fun h1 h2=>dN ok h2 fun q1 q2 q3 q4=>⟨_,rfl,yk (me h1) q1 q2 q3 q4 h3⟩
 |ext i e=>exact fun ss h=>aa h fun h h3=>aa h fun h1 h2=>dN ok h2 fun q1 q2 q3 q4=>⟨_,rfl,yJ (me h1) q1 q2 q3 q4 h3⟩
 |revm i=>exact fun ss h=>aa h fun h1 h2=>dN ok h1 fun q1 q2 q3 q4=>⟨_,rfl,vy q1 q2 q3 q4 h2⟩
 |del i e=>exact fun ss h=>aa h fun h1 h2=>dN ok h2 fun q1 q2 q3 q4=>⟨_,rfl,yX (me h1).vs q1 q2 q3 q4⟩
 |seti i k v=>exact fun ss h=>aa h fun h h3=>aa h fun h1 h2=>dN ok h3 fun q1 q2 q3 q4=>⟨_,rfl,xu (me h1).vs (me h2).vs q1 q2 q3 q4⟩
 |ifs t a b ha hb=>exact fun ss h=>aa h fun h h5=>aa h fun h h4=>aa h fun h h3=>aa h fun h1 h2=>⟨_,rfl,zw (me h1).is (ha.l h2 h3) (hb.l h4 h5)⟩
 |fors tg one k it it2 a b ha hb =>
  refine fun ss h=>aa h fun h h7=>aa h fun h h6=>aa h fun h h5=>aa h fun h h4=>aa h fun h h3=>aa h fun h1 h2=> ?_
  obtain ⟨f1,f2⟩:=uA B (me h1) (fun hz=>me hz) h2
  exact ⟨_,rfl,yI f1 (ha.l h4 h5) (hb.l h6 h7) (oY h3) f2⟩
 |ret e =>
  refine fun ss h=>⟨_,rfl,?_⟩
  revert h
  show cond (skids (hs ss)).isEmpty _ _=true→SS X sc _ (exec (.Return (cond (skids (hs ss)).isEmpty none _) _))
  cases (skids (hs ss)).isEmpty with
  |true=>exact fun h=>ft (P:=fun t=>SS X sc (.ret t) _) h wV
  |false=>exact fun h=>zq (me h).vs
 |retv i=>exact fun ss h=>aa h fun h1 h2=>aa (List.all_eq_true.mp ok _ (List.mem_of_getElem? (em (de h1)))) fun h3 h4=>⟨_,rfl,xh h2 (em (de h1)) (nt h3) (nt h4)⟩
 |brk=>exact fun ss h=>⟨_,rfl,xU⟩
 |asrt e=>exact fun ss h=>⟨_,rfl,qc (me h).is⟩
 |bad=>exact fun ss h=>⟨_,rfl,fun σ p E σ' o Q h P=>ah h⟩
theorem ng (B:X.Ok mg mb) (CT:X.Ct mg) (ok:CxOk X.c) {code:S} {body:List Stmt} (h:codeB X.c sc code body=true) (he:(unS X.c sc code body).2=body):SS X sc code (execs body):=aa h fun h1 h2=>by
 have:=(fG (sc:=sc) B CT ok code).l h1 h2
 rw [he] at this;exact this
end
end Mine
set_option genSizeOf false
set_option genInjectivity false
namespace Mine
variable [Tabs] [Frk]
theorem jv (names:List (Str×NameKind)) (n:Nat) (x:Str) (h:(x,NameKind.cell)∈names):∃ c,(cellsFrom n names []).lookup x=some c:=Option.isSome_iff_exists.mp (cK h)
theorem jh {ko:Str→Option NameKind}:∀ {bs:List (Str×Value)} {m:Str→Option Value} {x:Str},(∀ v,(x,v)∉bs)→PySem.bindL ko bs m x=m x
 | [],m,x,h=>rfl
 |(y,v) :: r,m,x,h=>by
  unfold PySem.bindL
  rw [jh fun v' hm=>h v' (List.mem_cons_of_mem _ hm)]
  split
  ·have:x≠y:=fun e=>h v (by rw [e];exact List.mem_cons_self)
   simp [this]
  ·rfl
theorem iW {ko:Str→Option NameKind}:∀ {bs:List (Str×Value)} {m:Str→Option Value} {x:Str},(∀ v,(x,v)∉bs)→PySem.bindC ko bs m x=m x
 | [],m,x,h=>rfl
 |(y,v) :: r,m,x,h=>by
  unfold PySem.bindC
  rw [iW fun v' hm=>h v' (List.mem_cons_of_mem _ hm)]
  split
  ·rfl
  ·have:x≠y:=fun e=>h v (by rw [e];exact List.mem_cons_self)
   simp [this]
theorem mv {x:Str}:∀ {ns:List Str} {vs:List Value},x∉ns→∀ v,(x,v)∉ns.zip vs:=fun h v hm=>h (List.of_mem_zip hm).1
theorem jx {ko:Str→Option NameKind}:∀ {ns:List Str} {vs:List Value} {m:Str→Option Value} {i:Nat} {x:Str} {v:Value},ns.Nodup→ns[i]? = some x→vs[i]? = some v→ko x=some .local→PySem.bindL ko (ns.zip vs) m x=some v
 |n :: ns,u :: vs,m,0,x,v,nd,h1,h2,hk=>by
  cases h1;cases h2
  rw [List.zip_cons_cons]
  unfold PySem.bindL
  rw [jh (mv (List.nodup_cons.mp nd).1),if_pos hk]
  simp
 |n :: ns,u :: vs,m,i+1,x,v,nd,h1,h2,hk=>by
  rw [List.zip_cons_cons]
  unfold PySem.bindL
  exact jx (List.nodup_cons.mp nd).2 (by simpa using h1) (by simpa using h2) hk
 | [],_,_,_,_,_,_,h,_,_=>by simp at h
 |_ :: _,[],_,_,_,_,_,_,h,_=>by simp at h
theorem iT {ko:Str→Option NameKind}:∀ {ns:List Str} {vs:List Value} {m:Str→Option Value} {i:Nat} {x:Str} {v:Value},ns.Nodup→ns[i]? = some x→vs[i]? = some v→ko x≠some .local→PySem.bindC ko (ns.zip vs) m x=some v
 |n :: ns,u :: vs,m,0,x,v,nd,h1,h2,hk=>by
  cases h1;cases h2
  rw [List.zip_cons_cons]
  unfold PySem.bindC
  rw [iW (mv (List.nodup_cons.mp nd).1),if_neg hk]
  simp
 |n :: ns,u :: vs,m,i+1,x,v,nd,h1,h2,hk=>by
  rw [List.zip_cons_cons]
  unfold PySem.bindC
  exact iT (List.nodup_cons.mp nd).2 (by simpa using h1) (by simpa using h2) hk
 | [],_,_,_,_,_,_,h,_,_=>by simp at h
 |_ :: _,[],_,_,_,_,_,_,h,_=>by simp at h
theorem iB {n:Nat} {ds:List D} {i:Nat} {d:D} {b:Bool} (h:getE (ds.map (fun d=>some (d,false))++List.replicate n none) i=some (d,b)):ds[i]? = some d∧b=false:=by
 unfold getE at h
 rw [List.getElem?_append] at h
 split at h
 ·rw [List.getElem?_map] at h
  cases hd:ds[i]? with
  |none=>rw [hd] at h;exact ah h
  |some e =>
   rw [hd] at h
   obtain ⟨rfl,rfl⟩:=Prod.mk.inj (sm h)
   exact ⟨rfl,rfl⟩
 ·rw [List.getElem?_replicate] at h
  split at h<;>exact ah h
structure DefAt (hB:Heap) (a:Addr) (name:Str) (params:Arguments) (body:List Stmt) (scope:Scope):Prop where
 at':∃ o pm cd doc P oc vs t,hB.get? a=some o∧o.data = .func (Calls.docDef name params body scope pm (.ref cd) doc)∧hB.get? cd=some oc∧oc.cls = .type "code"∧oc.data = .fields vs∧vs[1]? = some (.str name t)∧hB.IsCode cd P #[]∧hB.TableAt cd P #[]
structure eM (c:Cx) (ps:List Str) (name:Str) (params:Arguments) (body:List Stmt) (sc:Scope):Prop where
 kind:sc.kind = .function
 gen:sc.isGenerator=false
 co:sc.isCoroutine=false
 pre:c.tbl.take ps.length=ps
 sto:∀ x∈ps,storable sc x=true
 nd:c.tbl.Nodup
 free:∀ x,sc.names.lookup x≠some .free
 names:CxOk c
 bind:∀ pm cd doc (vs:List Value),vs.length=ps.length→bindArgs (Calls.docDef name params body sc pm cd doc) ⟨vs,[]⟩=pure (ps.zip vs)
theorem vB {c:Cx} {ps:List Str} (h:c.tbl.take ps.length=ps) {i:Nat} {x:Str} (hi:i<ps.length) (hx:c.tbl[i]? = some x):ps[i]? = some x:=by
 rw [← h,List.getElem?_take]
 simp [hi,hx]
theorem uU {h:Heap} {b:Addr} (x:h.objs.size≤b):h.get? b=none:=by
 cases e:h.get? b with
 |none=>rfl
 |some o=>exact absurd (Heap.lt_size e) (Nat.not_lt.mpr x)
theorem iZ {c:Cx} {ps:List Str} {name:Str} {params:Arguments} {body:List Stmt} {sc:Scope} (ok:eM c ps name params body sc):ps.Nodup:=by
 rw [← ok.pre];exact (List.take_sublist _ _).nodup ok.nd
theorem uc {c:Cx} {ps:List Str} {name:Str} {params:Arguments} {body:List Stmt} {sc:Scope} (ok:eM c ps name params body sc) {X:Addr→Prop} {h h₁:Heap} {a:Addr} {cd:Value} {ds:List D} {vs:List Value} (hlen:ds.length=ps.length) (hX:∀ b,X b→Al h b) (hden:DenL h X ds vs)
  (keep:∀ b o,h.get? b=some o→h₁.get? b=some o) (ns:h₁.Ns h.objs.size (PySem.bindL (fun x=>(envOfC name sc h.objs.size a cd).kindOf x) (ps.zip vs) fun _=>none)) (cl:∀ x b,(cellsFrom (h.objs.size+1) sc.names []).lookup x=some b→h₁.IsCell b (PySem.bindC (fun x=>(envOfC name sc h.objs.size a cd).kindOf x) (ps.zip vs) (fun _=>none) x))
  (above:∀ x b,(cellsFrom (h.objs.size+1) sc.names []).lookup x=some b→h.objs.size+1≤b) (apart:∀ x y b,(cellsFrom (h.objs.size+1) sc.names []).lookup x=some b→(cellsFrom (h.objs.size+1) sc.names []).lookup y=some b→x=y) :
  SR (envOfC name sc h.objs.size a cd) c.tbl (fun b=>b=h.objs.size∨∃ x,(cellsFrom (h.objs.size+1) sc.names []).lookup x=some b) (fun b=>X b∨(b=h.objs.size∨∃ x,(cellsFrom (h.objs.size+1) sc.names []).lookup x=some b)) (fun _=>0) (ds.map (fun d=>some (d,false))++List.replicate (c.tbl.length - ds.length) none) h₁:=by
 have muNone:∀ b,(b=h.objs.size∨∃ x,(cellsFrom (h.objs.size+1) sc.names []).lookup x=some b)→h.get? b=none:=fun b hb=>uU (hb.elim (fun e=>Nat.le_of_eq e.symm) fun ⟨x,hx⟩=>Nat.le_of_succ_le (above x b hx))
 refine ⟨⟨⟨ok.kind,rfl,rfl⟩,ok.nd,?_,⟨.inr (.inl rfl),fun x b hb=> .inr (.inr ⟨x,hb⟩)⟩,?_⟩,fun b hb=> .inr hb,⟨.inl rfl,fun x b _ hb=> .inr ⟨x,hb⟩⟩,?_,?_⟩
 ·rintro b (hb |rfl |⟨x,hx⟩)
  ·exact (hX b hb).keep (.of keep)
  ·obtain ⟨o,es,ep,e,_⟩:=ns;exact ⟨o,e⟩
  ·obtain ⟨o,e,_⟩:=cl x b hx;exact ⟨o,e⟩
 ·refine ⟨_,_,⟨ns,cl,fun x b hb=>Nat.ne_of_gt (above x b hb),apart,fun x hx=> ?_⟩,?_⟩
  ·rcases hx with hx |hx
   ·exact jv sc.names _ x (PySem.mem_of_lookup hx)
   ·exact absurd hx (ok.free x)
  ·intro i x d b hx hg hs
   obtain ⟨hd,rfl⟩:=iB hg
   obtain ⟨v,hv,dv⟩:=hden.get hd
   have hp:=vB ok.pre (by rw [← hlen];exact (List.getElem?_eq_some_iff.mp hd).1) hx
   refine ⟨v,?_,Den.mono (fun b o _ _ e=>keep b o e) (fun b hb hn e=>e.elim hn fun e=>hb.ne (muNone b e) rfl) _ _ dv,fun e=>nomatch e⟩
   unfold valOf
   rcases bT (ok.sto x (List.mem_of_getElem? hp)) with e |e
   ·have hk:(envOfC name sc h.objs.size a cd).kindOf x=some .local:=e
    rw [hk]
    exact jx (iZ ok) hp hv hk
   ·have hk:(envOfC name sc h.objs.size a cd).kindOf x=some .cell:=e
    rw [hk]
    exact iT (iZ ok) hp hv (by rw [hk];decide)
 ·exact fun i x d hx hs hg=>nomatch (iB hg).2
 ·exact fun i j x y d e hx hs hy hs' hg=>nomatch (iB hg).2
theorem dz (off:Frk.fs=none) {X:Wd} (lim:X.hB.NoLimit) {ps:List Str} {name:Str} {params:Arguments} {body:List Stmt} {sc:Scope} (ok:eM X.c ps name params body sc) {a:Addr} (da:DefAt X.hB a name params body sc)
  {A:Around} {E:Value→Shared→Prop} {s:Shared} {Y:Addr→Prop} {ds:List D} {vs:List Value} {r:D} {Q:Value→Shared→Prop} (ar:Ar (X.n+1) A) (kp:KB X.hB s.heap) (hX:∀ b,Y b→Al s.heap b) (hden:DenL s.heap Y ds vs) (hlen:ds.length=ps.length)
  (ret:∀ v h' tk,Kp s.heap h'→Den h' Y r v→Q v {s with heap:=h',toks:=tk})
  (P:∀ (p:Ast X sc (ds.map (fun d=>some (d,false))++List.replicate (X.c.tbl.length - ds.length) none)) (cd T:Addr),p.env=envOfC name sc s.heap.objs.size a (.ref cd)→p.A=A.deeper p.env→X.hB.IsCode cd T #[]→X.hB.TableAt cd T #[]→(∀ b,p.Mu b→s.heap.get? b=none)→Kp s.heap p.s.heap →
   (∀ h' tk v Mu' Ex',Gr p.s.heap p.Mu p.Ex Mu' Ex' h'→Den h' Ex' r v→Q v {p.s with heap:=h',toks:=tk}) →
   wpAny (model X.P X.w) p.A (execs body p.env) (fun f s'=>Q (match f with | .ret v=>v |_=> .none) s') (fun _ _=>False) p.s):wpAny (model X.P X.w) A (call (.ref a) vs) Q E s:=by
 obtain ⟨o,pm,cd,doc,tb,oc,vc,tc,h1,h2,h3,h4,h5,h6,h7,h8⟩:=da.at'
 refine wpAny_call ?_
 have hvl:vs.length=ps.length:=hden.length.trans hlen
 have nolim:s.heap.NoLimit:=let ⟨mc,x,y⟩:=lim;⟨mc,kp.ns x,y⟩
 have cr:s.heap.CodeRec (.ref cd) name:=⟨cd,oc,vc,tc,rfl,kp.ob h3 (br h4 h5),h5,h6⟩
 refine call_cells_ret (Nat.lt_of_le_of_lt (Nat.le_trans (Nat.le_add_right _ _) ar.depth) (by decide)) (kp.ob h1 (bj h2)) h2 nolim cr (ok.bind pm (.ref cd) doc vs hvl) (fun x hx=> ?_) ?_ ok.co ok.gen ok.kind
 ·rcases bT (ok.sto x.1 (List.of_mem_zip (a:=x.1) (b:=x.2) hx).1) with e |e
  ·exact .inl e
  ·refine .inr ⟨e,?_⟩
   obtain ⟨q,hq⟩:=jv sc.names (s.heap.objs.size+1) x.1 (PySem.mem_of_lookup e)
   rw [hq];rfl
 ·intro h₁ tk fr cl
  have above:=fun x b hx=>cl.above x b (PySem.mem_of_lookup hx)
  have muNone:∀ b,(b=s.heap.objs.size∨∃ x,(cellsFrom (s.heap.objs.size+1) sc.names []).lookup x=some b)→s.heap.get? b=none:=fun b hb=>uU (hb.elim (fun e=>Nat.le_of_eq e.symm) fun ⟨x,hx⟩=>Nat.le_of_lt (above x b hx))
  exact P {A:=A.deeper (envOfC name sc s.heap.objs.size a (.ref cd)),s:={s with heap:=h₁,toks:=tk},env:=envOfC name sc s.heap.objs.size a (.ref cd),Mu:=_,Ex:=_,ow:=_,hsc:=rfl,S:=uc ok hlen hX hden fr.keep fr.ns cl.cell above (fun x y b hx hy=>PySem.name_of_addr cl.apart (PySem.mem_of_lookup hx) (PySem.mem_of_lookup hy)),k:=kp.trans (.of fr.keep),hm:=fun b hb=>kp.none (muNone b hb),ar:=ar.deep off _} cd tb rfl rfl h7 h8 muNone (.of fr.keep) fun h' tk' v Mu' Ex' g dv=>ret v h' tk' (fun b o e=>g.keep b o (fun hm=>ah ((muNone b hm).symm.trans e)) (fr.keep _ _ e))
        (Den.mono (fun b o _ _ e=>e) (fun b hb n hx=>n (g.kp b (.inl hx) fun hm=>(hX b hx).ne (muNone b hm) rfl)) _ _ dv)
theorem we (off:Frk.fs=none) {prog:Program} {w:World} {c:Cx} {G:af} {F F':FEnv} {hB:Heap} {n:Nat} {mg mb:Str→Option Value} (B:Base prog w c G hB mg mb)
  (CT:∀ f a,f∈c.fns→mg f=some (.ref a)→Ctr prog w hB n F f a) (lim:hB.NoLimit) {ps:List Str} {name:Str} {params:Arguments} {body:List Stmt} {sc:Scope} {code:S} (ok:eM c ps name params body sc)
  {a:Addr} (da:DefAt hB a name params body sc) (hc:codeB c sc code body=true) (hu:(unS c sc code body).2=body)
  (hF:∀ ds r,F' name ds=some r→ds.length=ps.length∧run G F c.tbl.length code ds=some r):Ctr prog w hB (n+1) F' name a:=by
 intro A E s Y ds vs r Q ar kp hX hden hr ret
 obtain ⟨hlen,hr⟩:=hF _ _ hr
 refine dz off (X:=⟨prog,w,c,G,F,hB,n⟩) lim ok da ar kp hX hden hlen ret fun p cd tb _ _ _ _ _ _ fin=> ?_
 refine ae hr fun q he hr=> ?_
 obtain ⟨σ',o'⟩:=q
 have ss:=ng (X:=⟨prog,w,c,G,F,hB,n⟩) B CT ok.names hc hu
 cases o' with
 |next =>
  obtain rfl:=sm hr
  exact ss _ p _ σ' .next _ he fun h' tk' Mu' Ex' ow' S' g=>fin h' tk' .none Mu' Ex' g rfl
 |brk=>exact ah hr
 |ret d =>
  obtain rfl:=sm hr
  exact ss _ p _ σ' (.ret d) _ he fun h' tk' v Mu' Ex' g dv=>fin h' tk' v Mu' Ex' g dv
end Mine
set_option genSizeOf false
set_option genInjectivity false
namespace Mine
structure Fn where
 name:Str
 ps:List Str
 tbl:List Str
 code:S
noncomputable def cxw (c:Cx) (f:Fn):Cx:={c with tbl:=f.tbl}
noncomputable def SPL:Nat:=60
noncomputable def FF (G:af) (fns:List Fn) (spn:List Str) (sp:Str→List D→Option D):Nat→FEnv
 |0=>fun _ _=>none
 |k+1=>fun f ds=>cond (spn.contains f) (if SPL≤k then sp f ds else none) ((fns.find? (fun x=>x.name==f)).bind fun x=>if ds.length=x.ps.length then run G (FF G fns spn sp k) x.tbl.length x.code ds else none)
theorem FF_s {G:af} {fns:List Fn} {spn:List Str} {sp:Str→List D→Option D} {k:Nat} {f:Str} {ds:List D}:FF G fns spn sp (k+1) f ds=cond (spn.contains f) (if SPL≤k then sp f ds else none) ((fns.find? (fun x=>x.name==f)).bind fun x=>if ds.length=x.ps.length then run G (FF G fns spn sp k) x.tbl.length x.code ds else none):=rfl
variable [Tabs] [Frk]
theorem Base.cxw {prog:Program} {w:World} {c:Cx} {G:af} {hB:Heap} {mg mb:Str→Option Value} (B:Base prog w c G hB mg mb) (f:Fn):Base prog w (cxw c f) G hB mg mb :=
 ⟨B.ns,B.bn,B.blt,B.cst,B.iset,B.idict,B.ndb,B.fn⟩
noncomputable def FnOk (c:Cx) (hB:Heap) (mg:Str→Option Value) (f:Fn):Prop:=∃ params body sc,eM (cxw c f) f.ps f.name params body sc∧(∀ a,mg f.name=some (.ref a)→DefAt hB a f.name params body sc)∧codeB (cxw c f) sc f.code body=true∧(unS (cxw c f) sc f.code body).2=body
theorem yw (off:Frk.fs=none) {prog:Program} {w:World} {c:Cx} {G:af} {hB:Heap} {mg mb:Str→Option Value} (B:Base prog w c G hB mg mb) (lim:hB.NoLimit) {fns:List Fn} {spn:List Str} {sp:Str→List D→Option D}
  (ok:∀ f∈fns,FnOk c hB mg f) (spc:∀ f a k,f∈spn→mg f=some (.ref a)→SPL≤k→Ctr prog w hB k (fun f ds=>sp f ds) f a) (k:Nat):∀ (f:Str) (a:Addr),mg f=some (.ref a)→Ctr prog w hB k (FF G fns spn sp k) f a:=by
 induction k with
 |zero=>exact fun f a ha A E s X ds vs r Q ar kp hX hd hr=>ah hr
 |succ k ih =>
  intro f a ha
  cases hc:spn.contains f with
  |true =>
   intro A E s X ds vs r Q ar kp hX hd hr P
   rw [FF_s,hc] at hr
   exact gd hr fun hk hr=>spc f a (k+1) (List.contains_iff_mem.mp hc) ha (Nat.le_succ_of_le hk) A E s X ds vs r Q ar kp hX hd hr P
  |false =>
   cases hf:fns.find? (fun x=>x.name==f) with
   |none =>
    intro A E s X ds vs r Q ar kp hX hd hr P
    rw [FF_s,hc,hf] at hr
    exact ah hr
   |some x =>
    obtain ⟨params,body,sc,dk,da,h1,h2⟩:=ok x (List.mem_of_find?_eq_some hf)
    have hn:=List.find?_some hf
    obtain rfl:x.name=f:=beq_iff_eq.mp hn
    refine we off (F:=FF G fns spn sp k) (B.cxw x) (fun g b _ hb=>ih g b hb) lim dk (da a ha) h1 h2 fun ds r hr=> ?_
    rw [FF_s,hc,hf] at hr
    exact gd hr fun hl hr=>⟨hl,hr⟩
end Mine
namespace Mine
section
variable {den:Code→Sem Fin} {prog:Program} {w:World}
theorem jZ:∀ {n:Nat} {s:Shared} {t:Thread} {s':Shared} {t':Thread},runN den prog w n s t = .running s' t'→s'.heap.life=s.heap.life
 |0,s,t,s',t',h=>by simp only [runN,Run.running.injEq] at h;rw [h.1]
 |n+1,s,t,s',t',h=>by
  simp only [runN] at h
  cases hs:step den prog w s t with
  |go s₁ t₁=>rw [hs] at h;exact (jZ h).trans (step_life den prog w s s₁ t t₁ hs)
  |halt o s₁=>rw [hs] at h;cases h
theorem lh:∀ {k:Nat} {s:Shared} {t:Thread} {s':Shared} {t':Thread} {o:Outcome} {s'':Shared},runN den prog w k s t = .running s' t'→step den prog w s' t' = .halt o s''→runN den prog w (k+1) s t = .halted o s''
 |0,s,t,s',t',o,s'',h,hs=>by
  simp only [runN,Run.running.injEq] at h
  obtain ⟨rfl,rfl⟩:=h
  simp only [runN,hs]
 |k+1,s,t,s',t',o,s'',h,hs=>by
  simp only [runN] at h
  cases e:step den prog w s t with
  |go s₁ t₁ =>
   rw [e] at h
   have:=lh h hs
   rw [runN];simp only [e];exact this
  |halt o s₁=>rw [e] at h;cases h
theorem uf {n:Nat} {s:Shared} {t:Thread} {s':Shared} {t':Thread} (hr:s.asleep) (h:runN den prog w n s t = .running s' t') (hc:∀ k s₁ t₁,runN den prog w k s t = .running s₁ t₁→t₁.calm=true) :
  schedN den prog w n (.single s t) = .running (.single s' t'):=by
 rw [schedN_prefix den prog w n s t hr fun k s₁ t₁ hk hrun=>⟨hc k s₁ t₁ hrun,fun hs=> ?_⟩,h]
 ·rfl
 ·have h1:=lh hrun hs
  have h2:=runN_mono den prog w (k+1) (n - (k+1)) s t _ _ h1
  rw [show k+1+(n - (k+1))=n by omega,h] at h2
  cases h2
end
structure Aw (n:Nat) (A:Around):Prop where
 hd:A.handled=none
 depth:A.depth+n≤900
 units:A.units+4 * n≤9000
noncomputable def Walked (p:Program) (w:World) (defs:List DefItem) (consts:List (Str×PyData)) (objs:List (Str×(Obj→Prop))) (names:List Str):Prop :=
 ∀ (s:Shared) (mg mb:Str→Option Value) (c Pl F:Addr) (A:Around) (Q:Flow→Shared→Prop),Aw 500 A→Mod s.heap mg c Pl s.heap mg #[] [] [] [] [] →
  s.heap.Ns builtinsNs mb→(∀ x:Str,x≠"__name__"→mb x=bootBuiltins x)→(∀ x,x∉bootMainNames→mg x=none) →
  (∀ h' mgN mg' ps' tk,(∀ x:Str,x≠"__name__"→mgN x=mg x)→Mod s.heap mgN c Pl h' mg' ps' defs consts objs names→Q .next {s with heap:=h',toks:=tk}) →
  wpAny (model p w) A (execs p.main.body (mainEnv p c F)) Q (fun _ _=>False) s
structure kJ (h:Heap) (mg mb:Str→Option Value):Prop where
 g:h.Ns mainGlobals mg
 b:h.Ns builtinsNs mb
 blt:∀ x:Str,x≠"__name__"→mb x=bootBuiltins x
 oth:∀ x,x∉bootMainNames→mg x=none
 bm:∃ bm o,mg "__builtins__"=some (.ref bm)∧bm≠builtinsNs∧bm≠mainGlobals∧h.get? bm=some o∧o.cls = .type "module"∧o.dict=some builtinsNs∧o.data = .plain
structure mw (p:Program) (w:World) (defs:List DefItem) (consts:List (Str×PyData)) (objs:List (Str×(Obj→Prop))) (names:List Str) (mg₀:Str→Option Value) (s₀ s₁:Shared):Prop where
 ran:∃ n t,schedN (denote table) p w n (.single s₀ (topStub p)) = .running (.single s₁ t)∧through t=true
 life:s₁.heap.life=s₀.heap.life
 os:s₁.os=s₀.os
 gens:s₁.gens = #[]
 mod:∃ h₀ mgN c Pl mg ps,(∀ x:Str,x≠"__name__"→mgN x=mg₀ x)∧Kq s₀.heap h₀∧s₀.heap.objs.size≤Pl∧Mod h₀ mgN c Pl s₁.heap mg ps defs consts objs names
theorem yC {p:Program} {w:World} {defs:List DefItem} {consts:List (Str×PyData)} {objs:List (Str×(Obj→Prop))} {names:List Str} {mg mb:Str→Option Value} {s₀:Shared}
  (hann:hasAnns p.main.body=false) (hdoc:docOf p.main.body=none) (hbeh:behindTheImports p=p.main.body) (walk:Walked p w defs consts objs names) (B:kJ s₀.heap mg mb) (hg:s₀.gens = #[])
  (Q:Fin→Shared→Prop) (hQ:∀ s₁,s₁.os=s₀.os→s₁.gens = #[]→(∃ h₀ mgN c Pl mg' ps,(∀ x:Str,x≠"__name__"→mgN x=mg x)∧Kq s₀.heap h₀∧s₀.heap.objs.size≤Pl∧Mod h₀ mgN c Pl s₁.heap mg' ps defs consts objs names)→Q (.done (.ret .none)) s₁) :
  wpAny (model p w) callerA (topStub p).cur Q (fun _ _=>False) s₀:=by
 unfold topStub
 refine wpAny_bind (wpAny_moduleCode fun c Pl h₁ tk₁ hk₁ hc hPl hcode=> ?_)
 unfold newBodyFrame
 refine wpAny_bind (wpAny_bind (wpAny_nsGet (B.g.keeps hk₁) (wpAny_alloc ?_)))
 rw [hbeh]
 have k₂:∀ o,Kq h₁ (h₁.push o):=fun o=>Kq.push h₁ o
 refine wpAny_bind (wpAny_run (codeAny_body hann hdoc (wpAny_mono (E:=fun _ _=>False) (walk _ mg mb c Pl _ _ _ ?_ ?_ ?_ B.blt B.oth fun h' mgN mg' ps' tk hN X=> ?_) (fun _ _ x=>x) fun _ _ x=>x.elim)) (by decide))
 ·exact ⟨rfl,by show 1+claimMargin+1+500≤900;decide,by show 4+3+4 * 500≤9000;decide⟩
 ·obtain ⟨bm,o,e1,e2,e3,e4,e5,e6,e7⟩:=B.bm
  have lt:=B.g.lt
  have hbl:=Heap.lt_size e4
  have code:=hcode.push {cls:= .type "frame",slots:= #[some (.ref c),some (.ref mainNs),some (.ref mainNs),none,some ((mg "__name__").getD .none),none,some (.ref builtinsNs)]}
  refine ⟨⟨(B.g.keeps hk₁).keeps (k₂ _),code,⟨Nat.lt_of_lt_of_le lt hc,Nat.lt_of_lt_of_le lt hPl⟩,⟨bm,o,e1,e2,e3,Nat.ne_of_lt (Nat.lt_of_lt_of_le hbl hPl),k₂ _ _ _ (hk₁ _ _ e4),e5,e6,e7⟩⟩,
   fun _ _ _ _ e=>e,(fun _ hd=>nomatch hd),(fun _ hp=>nomatch hp),fun _ _=>rfl,(fun _ hd=>nomatch hd),(fun _ hp=>nomatch hp),(fun _ hp=>nomatch hp),(fun _ hp=>nomatch hp),Nat.le_refl _,code.lt.2,((B.g.keeps hk₁).keeps (k₂ _)).lt,(fun _ hd=>nomatch hd)⟩
 ·exact (B.b.keeps hk₁).keeps (k₂ _)
 ·refine wpAny_pure (hQ _ rfl hg ⟨_,mgN,c,Pl,mg',ps',hN,Kq.trans hk₁ (k₂ _),hPl,X⟩)
theorem sB {p:Program} {w:World} {defs:List DefItem} {consts:List (Str×PyData)} {objs:List (Str×(Obj→Prop))} {names:List Str} {mg mb:Str→Option Value} {s₀:Shared}
  (hann:hasAnns p.main.body=false) (hdoc:docOf p.main.body=none) (hbeh:behindTheImports p=p.main.body) (walk:Walked p w defs consts objs names) (B:kJ s₀.heap mg mb) (hg:s₀.gens = #[]) (hz:s₀.asleep) :
  ∃ s₁,mw p w defs consts objs names mg s₀ s₁:=by
 have W:=yC (p:=p) (w:=w) hann hdoc hbeh walk B hg (fun fin s'=>fin = .done (.ret .none)∧s'.os=s₀.os∧s'.gens = #[]∧∃ h₀ mgN c Pl mg' ps,(∀ x:Str,x≠"__name__"→mgN x=mg x)∧Kq s₀.heap h₀∧s₀.heap.objs.size≤Pl∧Mod h₀ mgN c Pl s'.heap mg' ps defs consts objs names) fun s₁ h1 h2 h3=>⟨rfl,h1,h2,h3⟩
 have W1:=W (Ctx.of (.builtin "claim.caller" {}) []) default caller_in
 obtain ⟨n,s',σ,p',leaf,hrun,hfo,hl,_⟩:=wp_reaches_first (M:=model p w) W1
 have calm:∀ k s₁ t₁,runN (denote table) p w k s₀ (topStub p) = .running s₁ t₁→t₁.calm=true:=by
  have W2:=wp_of_wpAny_done (M:=model p w) (R:=fun r s'=>True∧leftWithCleanup s'.gens=false) caller_in (wpAny_mono W (by
   rintro fin s' ⟨h1,h2,h3,h4⟩
   exact ⟨_,h1,trivial,by rw [h3];simp [leftWithCleanup]⟩) fun _ _ x=>x.elim) default
  obtain ⟨N,r,s',hn,hR⟩:=(wp_iff_halts (M:=model p w) _ _ _ _).mp W2
  obtain ⟨s'',hr,hf,hc⟩:=runNI_real (denote table) p w hn (outcomeOf_ends r)
  exact hc
 obtain ⟨eh,ed,et,eo,eg⟩:=Shared.forget_eq hfo
 rcases hl with ⟨a,rfl,h1,h2,h3,h4⟩ |⟨e,_,x⟩
 ·refine ⟨σ,⟨⟨n,_,uf hz hrun calm,?_⟩,jZ hrun,eo.trans h2,?_,?_⟩⟩
  ·rw [h1];rfl
  ·rw [h3] at eg
   have:(σ.gens.map GenState.forget).size=0:=by rw [eg];simp
   rw [Array.size_map] at this
   exact Array.eq_empty_of_size_eq_zero this
  ·rw [eh];exact h4
 ·exact x.elim
end Mine
namespace Mine
section
set_option maxRecDepth 100000
theorem gD (P:Params):(boot_heap P).isNs mainGlobals=true:=by with_unfolding_all rfl
theorem gt (P:Params):(boot_heap P).isNs builtinsNs=true:=by with_unfolding_all rfl
theorem sd (P:Params):(boot_heap P).isNs cStatics=true:=by with_unfolding_all rfl
theorem jR (P:Params):(boot_heap P).bltView=bltViewBooted:=by with_unfolding_all rfl
theorem tO (P:Params):(boot_heap P).accountedOkI []=true:=by with_unfolding_all rfl
theorem wh (P:Params):(boot_heap P).bmainOk=true:=by with_unfolding_all rfl
theorem q9 (P:Params):((boot_heap P).nsKeys mainGlobals).all (fun x=>bootMainNames.contains x)=true:=by with_unfolding_all rfl
theorem nB (P:Params):(boot_heap P).nsMap cStatics "sys.recursionlimit"=none:=by with_unfolding_all rfl
end
theorem mh (P:Params):kJ (boot_heap P) ((boot_heap P).nsMap mainGlobals) ((boot_heap P).nsMap builtinsNs):=by
 refine ⟨.of_isNs (gD P),.of_isNs (gt P),fun x hx=>Heap.of_bltView (gt P) (jR P) x hx,fun x hx=>Heap.nsMap_none fun hk=>hx ?_,?_⟩
 ·have:=List.all_eq_true.mp (q9 P) x hk
  simpa using this
 ·obtain ⟨bm,ob,b1,b2,b3,b4,b5,b6⟩:=Heap.bmainOk_spec (wh P)
  refine ⟨bm,ob,b1,b2,?_,b3,b4,b5,b6⟩
  rintro rfl
  obtain ⟨o,es,ep,h1,h2,_⟩:=Heap.Ns.of_isNs (gD P)
  rw [h1] at b3;cases b3
  rw [h2] at b6;cases b6
theorem ig {p:Program} (hop:opening p=plainProg p.main.scope.names):∀ w,(∃ s,AfterRun (opening p) w s)∧∀ s,AfterRun (opening p) w s→s.heap=boot_heap w.params∧s.gens = #[]∧s.asleep:=by
 intro w
 have h:=boot_plain w p.main.scope.names
 rw [← hop,← table_eq_tree] at h
 obtain ⟨s,h1,h2⟩:=Option.map_eq_some_iff.mp h
 have A:=AfterImport.of_importEnds h1
 refine ⟨⟨s,A⟩,fun s' hs'=> ?_⟩
 obtain rfl:s'=s:=AfterImport.unique hs' A
 injection h2 with h2 h3
 injection h3 with h3 h4
 exact ⟨h2,h3,A.life⟩
structure TopAt (defs:List DefItem) (consts:List (Str×PyData)) (objs:List (Str×(Obj→Prop))) (names:List Str) (mg mb:Str→Option Value) (h:Heap):Prop where
 g:h.Ns mainGlobals mg
 b:h.Ns builtinsNs mb
 blt:∀ x:Str,x≠"__name__"→mb x=bootBuiltins x
 lim:h.NoLimit
 oth:∀ x,x∉names→x∉bootMainNames→mg x=none
 bm:∃ bm o,mg "__builtins__"=some (.ref bm)∧bm≠builtinsNs∧bm≠mainGlobals∧h.get? bm=some o∧o.cls = .type "module"∧o.dict=some builtinsNs∧o.data = .plain
 made:∀ d∈defs,∃ a,mg d.name=some (.ref a)∧DefAt h a d.name d.params d.body d.scope
 bound:∀ p∈consts,∃ v,mg p.1=some v∧IsDatum v p.2
 held:∀ p∈objs,∃ a o,mainGlobals<a∧mg p.1=some (.ref a)∧h.get? a=some o∧p.2 o
theorem DefAt.keep {h h':Heap} {a:Addr} {name:Str} {params:Arguments} {body:List Stmt} {scope:Scope} (k:Kq h h') (d:DefAt h a name params body scope):DefAt h' a name params body scope:=by
 obtain ⟨o,pm,cd,doc,P,oc,vs,t,h1,h2,h3,h4,h5,h6,h7,h8⟩:=d.at'
 exact ⟨o,pm,cd,doc,P,oc,vs,t,k _ _ h1,h2,k _ _ h3,h4,h5,h6,h7.keeps k,h8.keeps k⟩
theorem TopAt.keep {defs:List DefItem} {consts:List (Str×PyData)} {objs:List (Str×(Obj→Prop))} {names:List Str} {mg mb:Str→Option Value} {h h':Heap} (k:Kq h h') (T:TopAt defs consts objs names mg mb h):TopAt defs consts objs names mg mb h':=by
 refine ⟨T.g.keeps k,T.b.keeps k,T.blt,?_,T.oth,(let ⟨bm,o,h1,h2,h3,h4,h5⟩:=T.bm;⟨bm,o,h1,h2,h3,k _ _ h4,h5⟩),fun d hd=> ?_,T.bound,fun p hp=> ?_⟩
 ·obtain ⟨mc,x,y⟩:=T.lim;exact ⟨mc,x.keeps k,y⟩
 ·obtain ⟨a,h1,h2⟩:=T.made d hd;exact ⟨a,h1,h2.keep k⟩
 ·obtain ⟨a,o,h0,h1,h2,h3⟩:=T.held p hp;exact ⟨a,o,h0,h1,k _ _ h2,h3⟩
theorem wF {p:Program} {w:World} {defs:List DefItem} {consts:List (Str×PyData)} {objs:List (Str×(Obj→Prop))} {names:List Str} {s₀:Shared}
  (himp:importedModules p.main.body=[]) (hn:∀ x∈names,x∈p.boundNames) (hl:∀ x∈laidNames,x∉names) (hd:∀ d∈defs,d.params.defaults=[])
  (hh:s₀.heap=boot_heap w.params) {s₁:Shared} (T:mw p w defs consts objs names (s₀.heap.nsMap mainGlobals) s₀ s₁) :
  TopRan p w s₀ s₁∧∃ mg mb,TopAt defs consts objs names mg mb s₁.heap∧globalOf s₁.heap=mg:=by
 obtain ⟨ran,life,os,gens,h₀,mgN,c,Pl,mg,ps,hN,k₀,hP,X⟩:=T
 have BG:=gD w.params
 have BB:=gt w.params
 have BS:=sd w.params
 have bt:=jR w.params
 have ac:=tO w.params
 have bl:=nB w.params
 have bo:=mh w.params
 rw [← hh] at BG BB BS bt ac bl bo
 have keep:∀ b o,b≠mainGlobals→s₀.heap.get? b=some o→s₁.heap.get? b=some o:=fun b o hb e =>
  X.keep b o (Nat.ne_of_lt (Nat.lt_of_lt_of_le (Heap.lt_size e) hP)) hb (k₀ _ _ e)
 have gl:∀ x,globalOf s₁.heap x=mg x:=fun x=>Claim2Try.globalOf_of_ns X.main.g x
 have gl0:∀ x,globalOf s₀.heap x=s₀.heap.nsMap mainGlobals x:=fun x=>Pin.globalOf_eq BG x
 have stat:∀ k,staticOf s₁.heap k=staticOf s₀.heap k:=fun k=>by
  obtain ⟨o,es,ep,e,_⟩:=Heap.Ns.of_isNs BS
  unfold staticOf
  rw [keep _ _ (by decide) e,e]
 have NB:s₁.heap.Ns builtinsNs (s₀.heap.nsMap builtinsNs):=(Heap.Ns.of_isNs BB).at fun o=>keep _ o (by decide)
 refine ⟨⟨ran,life,Shared.rest_eq os,fun b o e ht=>keep b o (fun q=>ht (.inl q)) e,?_,?_,?_,?_,?_,?_,?_,?_⟩,mg,s₀.heap.nsMap builtinsNs,⟨X.main.g,NB,bo.blt,?_,?_,(let ⟨bm,o,h1,h2,h3,_,h4,h5⟩:=X.main.bmod;⟨bm,o,h1,h2,h3,h4,h5⟩),?_,X.bound,?_⟩,funext gl⟩
 ·rw [himp]
  have A:=Heap.accountedI_of_ok ac
  unfold staticsAccountedI at A ⊢
  simp only [stat]
  exact A
 ·intro key;exact .inl (stat key)
 ·obtain ⟨o,es,ep,e1,e2,e3,_⟩:=X.main.g
  exact ⟨o,es,ep,e1,e2,e3⟩
 ·intro x hx
  have:builtinOf s₁.heap x=builtinOf s₀.heap x:=by
   obtain ⟨o,es,ep,e,_⟩:=Heap.Ns.of_isNs BB
   unfold builtinOf
   rw [keep _ _ (by decide) e,e]
  rw [this]
  exact (Pin.builtinOf_eq BB x).trans (Heap.of_bltView BB bt x hx)
 ·obtain ⟨bm,o,h1,_,_,_,h2,h3,h4,_⟩:=X.main.bmod
  exact ⟨bm,o,(gl _).trans h1,h2,h3,h4⟩
 ·rw [gens];intro g hg;cases hg with |mk h=>cases h
 ·intro x v hv
  rw [gl] at hv
  by_cases hx:x∈names
  ·exact .inr (hn x hx)
  ·by_cases hb:x∈bootMainNames
   ·exact .inl hb
   ·rw [X.others x hx,hN x fun q=>hb (q▸by decide),bo.oth x hb] at hv;cases hv
 ·intro x hx
  rw [gl,gl0,X.others x (hl x hx),hN x fun q=>absurd (q▸hx) (by decide)]
 ·exact ⟨_,(Heap.Ns.of_isNs BS).at fun o=>keep _ o (by decide),bl⟩
 ·intro x hx hb
  rw [X.others x hx,hN x fun q=>hb (q▸by decide),bo.oth x hb]
 ·intro d hd'
  obtain ⟨a,c',o,pm,doc,_,_,h1,h2,h3,h4⟩:=(X.made d hd').plain (hd d hd')
  obtain ⟨a',o',fd,c2,P,g1,g2,g3,g4,_,_,_,g5,g6⟩:=X.tabs d hd'
  rw [h1] at g1;cases g1
  rw [h2] at g2;cases g2
  rw [h3] at g3;cases g3
  cases g4
  obtain ⟨q,oc,vs,t,e1,e2,e3,e4⟩:=h4
  cases e1
  obtain ⟨⟨oc',vs',f1,f2,f3,f4⟩,f5⟩:=id g6
  rw [e2] at f1;cases f1
  exact ⟨a,h1,⟨o,pm,c',doc,P,oc,vs,t,h2,h3,e2,f2,e3,e4,g5,g6⟩⟩
 ·intro q hq
  obtain ⟨a,o,h0,h1,h2,h3⟩:=X.held q hq
  exact ⟨a,o,Nat.lt_of_lt_of_le X.lowG h0,h1,h2,h3⟩
end Mine
set_option genSizeOf false
set_option genInjectivity false
namespace Mine
theorem j4 {R:WRecords} {cl:Str→Option Addr} {P:Params} {ord:List DictEntry→List DictEntry}:∀ (ns:List Int) (s:Shared),∃ vs tk,layAllW R cl P ord (ns.map WData.int) s=some (vs,{s with toks:=tk})∧∀ h X,DenL h X (ns.map D.int) vs
 | [],s=>⟨[],s.toks,rfl,fun h X=>rfl⟩
 |n :: ns,s=>by
  obtain ⟨vs,tk,h1,h2⟩:=j4 (R:=R) (cl:=cl) (P:=P) (ord:=ord) ns {s with toks:=s.toks+1}
  exact ⟨.int n s.toks :: vs,tk,(congrArg (fun o:Option (List Value×Shared)=>match o with |some r=>some (Value.int n s.toks :: r.1,r.2) |none=>none) h1 :),fun h X=>⟨_,_,rfl,⟨_,rfl⟩,h2 h X⟩⟩
theorem um {R:WRecords} {cl:Str→Option Addr} {P:Params} {ord:List DictEntry→List DictEntry} (ns:List Int) (s:Shared):∃ a s',layAllW R cl P ord [.list (ns.map WData.int)] s=some ([.ref a],s')∧DenL s'.heap (fun _=>False) [.list (ns.map D.int)] [.ref a]:=by
 obtain ⟨vs,tk,e1,e2⟩:=j4 (R:=R) (cl:=cl) (P:=P) (ord:=ord) ns s
 refine ⟨s.heap.objs.size,{s with heap:=s.heap.push {cls:= .type "list",data:= .seq vs.toArray},toks:=tk},?_,_,_,rfl,⟨_,vs.toArray,rfl,fun e=>e,⟨0,Heap.get?_push_size _ rfl⟩,e2 _ _⟩,rfl⟩
 unfold layAllW layW
 rw [e1];rfl
theorem u7 {R:WRecords} {x:WData} (h:WShape.has R x .int=true):∃ i,x = .int i:=by
 cases x with
 |int i=>exact ⟨i,rfl⟩
 |_=>exact (Bool.false_ne_true h).elim
theorem rQ {R:WRecords} {x:WData} (h:WShape.has R x (.list .int)=true):∃ xs,x = .list xs∧WShape.hasItems R xs .int=true:=by
 cases x with
 |list xs=>exact ⟨xs,rfl,(Bool.or_false _).symm.trans h⟩
 |_=>exact (Bool.false_ne_true h).elim
theorem f9 {R:WRecords}:∀ (xs:List WData),WShape.hasItems R xs .int=true→∃ ns:List Int,xs=ns.map WData.int
 | [],_=>⟨[],rfl⟩
 |x :: xs,h=>aa (a:=WShape.has R x .int) h fun h1 h2 =>
  let ⟨i,e1⟩:=u7 h1
  let ⟨ns,e2⟩:=f9 xs h2
  ⟨i :: ns,by rw [e1,e2];rfl⟩
theorem xw {R:WRecords} {l:OpenLaw} (hmost:l.most=some 63) (hbound:l.bound=none) {n:Nat} {xs:List WData} (hn:xs.length=n) (h:l.pre.holds R {args:=[.list xs]}=true):n≤63:=by
 unfold OpenLaw.pre at h
 rw [hmost,hbound] at h
 have h:WTm.holds R (.and (.not (.lit (.bool (decide ((63:Int)<((xs.length:Nat):Int)))))) (.lit (.bool true))) {args:=[.list xs]}=true:=h
 rw [hn] at h
 cases hb:decide ((63:Int)<(n:Int)) with
 |true=>rw [hb] at h;exact (Bool.false_ne_true h).elim
 |false=>exact Nat.not_lt.mp fun q=>of_decide_eq_false hb (Int.ofNat_lt.mpr q)
theorem wm {l:OpenLaw} (hmost:l.most=some 63) (hbound:l.bound=none) {args:List WData} (h:l.row.toRowW.claim.pre args=true):∃ ns:List Int,args=[.list (ns.map WData.int)]∧ns.length≤63:=by
 obtain ⟨h1,h2⟩:=pre_splitW h
 have h1:WShape.hasAll l.row.toRowW.records args [.list .int]=true:=h1
 revert h1 h2
 exact match args with
 | [x]=>fun h2 h1=>aa (a:=WShape.has l.row.toRowW.records x (.list .int)) h1 fun h1 _ =>
  let ⟨xs,e,hi⟩:=rQ h1
  let ⟨ns,e2⟩:=f9 xs hi
  ⟨ns,by rw [e,e2],xw (xs:=xs) hmost hbound (by rw [e2,List.length_map]) (by rw [e] at h2;exact h2)⟩
 | []=>fun _ h1=>(Bool.false_ne_true h1).elim
 |x :: y :: r=>fun _ h1=>aa (a:=WShape.has l.row.toRowW.records x (.list .int)) h1 fun _ h2=>(Bool.false_ne_true h2).elim
theorem qH {l:OpenLaw} {defs:List DefItem} {consts:List (Str×PyData)} {objs:World→List (Str×(Obj→Prop))} {names:List Str}
  (said:l.row.wellSaid=true) (wit:l.row.toRowW.promised) (hop:opening l.prog=plainProg l.prog.main.scope.names) (hfence:∀ s,fenceModules? l.prog s=some s)
  (himp:importedModules l.prog.main.body=[]) (hann:hasAnns l.prog.main.body=false) (hdoc:docOf l.prog.main.body=none) (hbeh:behindTheImports l.prog=l.prog.main.body)
  (how:opensWell l.prog=true) (hb:l.prog.bare) (hwr:l.writes=false) (hmost:l.most=some 63) (hbound:l.bound=none)
  (hn:∀ x∈names,x∈l.prog.boundNames) (hl:∀ x∈laidNames,x∉names) (hd:∀ d∈defs,d.params.defaults=[])
  (hdef:∃ d∈defs,d.name=l.name∧l.prog.theDef l.name=some (d.params,d.body,d.scope)∧d.params.kwonlyargs=[]∧d.params.kw_defaults=[])
  (walk:∀ w,Walked l.prog w defs consts (objs w) names)
  (call:∀ (w:World) (s:Shared) (mg mb:Str→Option Value) (a:Addr) (ns:List Int) (vs:List Value),TopAt defs consts (objs w) names mg mb s.heap→mg l.name=some (.ref a)→ns.length≤63→DenL s.heap (fun _=>False) [.list (ns.map D.int)] vs→s.gens = #[] →
   wpAny (model l.prog w) callerA (PySem.call (.ref a) vs) (fun v s'=>∃ h' tk,OldK s.heap h'∧v = .bool true∧s' = {s with heap:=h',toks:=tk}) (fun _ _=>False) s):l.row.Holds:=by
 refine ⟨said,wit,⟨hb,how,rfl⟩,wit.witness,fun w=>⟨(ig hop w).1,fun s₀ hs=> ?_⟩⟩
 obtain ⟨hh,hg,hz⟩:=(ig hop w).2 s₀ hs
 have BO:=mh w.params
 rw [← hh] at BO
 obtain ⟨s,T⟩:=sB hann hdoc hbeh (walk w) BO hg hz
 obtain ⟨TR,mg,mb,TA,gl⟩:=wF himp hn hl hd hh T
 have hz1:s.asleep:=Shared.asleep_of_life T.life hz
 obtain ⟨d,hdm,hdn,hdt,hk1,hk2⟩:=hdef
 obtain ⟨a,ha,da⟩:=TA.made d hdm
 refine ⟨s₀,hfence s₀,hg,s,TR,?_,(fun x hx=>nomatch hx),(fun x hx=>nomatch hx),?_⟩
 ·intro n hn'
  obtain rfl:n=l.name:=by
   have:n∈(if l.row.pinned=true then [l.row.name] else []):=hn'
   have hp:l.row.pinned=true:=rfl
   rw [if_pos hp] at this
   exact List.mem_singleton.mp this
  obtain ⟨o,pm,cd,doc,P,oc,vs,t,h1,h2,_⟩:=da.at'
  refine ⟨a,o,_,d.params,d.body,d.scope,?_,h1,h2,hdt,hdn,hdn,rfl,rfl,rfl,rfl,rfl,rfl,.inl ⟨hd d hdm,rfl⟩,[],?_,.inl ⟨rfl,rfl⟩⟩
  ·rw [gl,← hdn];exact ha
  ·rw [hk1,hk2];rfl
 ·refine ClaimW.callFrom_of_specG (c:=l.row.toRowW.claim) hz1 T.gens fun args hpre hlay ord hord=> ?_
  obtain ⟨ns,rfl,hlen⟩:=wm hmost hbound hpre
  obtain ⟨al,s2,hlaid,den⟩:=um (R:=l.row.toRowW.claim.records) (cl:=classAt s.heap) (P:=w.params) (ord:=ord) ns s
  have keeps:=layAllW_keeps _ _ _ hlaid
  have hal:=layAllW_rest _ _ _ hlaid
  obtain ⟨as,hrd,hin,hold⟩:=reads_layAllW hord _ _ _ hlaid hlay _ (fun _ _ e=>e)
  refine ⟨_,_,hlaid,?_⟩
  have L:Laid l.row.toRowW.claim.records w s s2 [.list (ns.map WData.int)] [.ref al] as:=⟨⟨ord,hord,hlaid⟩,hrd,hin,hold,keeps,hal.1.trans T.gens,hal.2.2.1⟩
  have C:=call w s2 mg mb a ns [.ref al] (TA.keep keeps) (hdn▸ha) hlen den (hal.1.trans T.gens)
  have hi:=ident_freeW (r:=l.row.toRowW) rfl rfl rfl
  refine wpAny_bind (wpAny_nsGet (TA.g.keeps keeps) ?_)
  show wpAny _ _ (match mg l.name with |some f=>_ |none=>_) _ _ _
  rw [← hdn,ha]
  refine wpAny_bind (wpAny_mono C ?_ fun _ _ x=>x.elim)
  rintro v s' ⟨h',tk',kp,rfl,rfl⟩
  refine wpAny_pure ⟨_,rfl,?_⟩
  have g:GoodWG l.row.toRowW.claim (classAt s.heap) (ExcName.means s.heap) [.list (ns.map WData.int)] s2 (.ok (.ret (.bool true)))
    {s2 with heap:=h',toks:=tk'}:=by
   refine ⟨.inl ⟨_,.bool true,[],rfl,fun _=>rfl,.bool true,?_,fun _=>⟨List.nodup_nil,fun _ h=>nomatch h⟩⟩,kp,rfl,?_⟩
   ·show (WShape.has l.row.toRowW.records (.bool true) .bool&&WTm.holds l.row.toRowW.records (.eq .res (.lit (.bool true))) {args:=[.list (ns.map WData.int)],res:=some (.bool true),after:=[.list (ns.map WData.int)]})=true
    kernel_rfl!
   ·intro y hy;rw [show ({s2 with heap:=h',toks:=tk'}:Shared).gens = #[] from hal.1.trans T.gens] at hy;cases hy with |mk h=>cases h
  have z:=g.laid (c:=l.row.toRowW.claim) rfl rfl hi L
  refine ⟨z.1,z.2.1,z.2.2,fun q=> ?_⟩
  rw [show l.row.writes=l.writes from rfl,hwr] at q
  cases q
end Mine
set_option genSizeOf false
set_option genInjectivity false
namespace Mine
inductive Trip (n:Int):List Value→Prop
 |nil:Trip n []
 |cons {l:Int} {t:Tok} {v w:Value} {r:List Value}:l<n→Trip n r→Trip n (.int l t :: v :: w :: r)
theorem Trip.mono {n m:Int} (h:n≤m):∀ {l:List Value},Trip n l→Trip m l
 |_,.nil=> .nil
 |_,.cons a b=> .cons (by omega) (b.mono h)
theorem Trip.add {n:Int} {l:Int} {t:Tok} {v w:Value} (h:l<n):∀ {r:List Value},Trip n r→Trip n (r++[.int l t,v,w])
 |_,.nil=> .cons h .nil
 |_,.cons a b=> .cons a (Trip.add h b)
theorem Trip.among {n:Int} {pos:Pos} (h:n≤pos.line) {r:List Value} (t:Trip n r):codeAmong pos r=none:=by
 induction t with
 |nil=>rfl
 | @cons l t v w r a b ih =>
  have e:(l==(pos.line:Int))=false:=beq_eq_false_iff_ne.mpr (Int.ne_of_lt (Int.lt_of_lt_of_le a h))
  cases v with
  |int col t' =>
   show (if (l==(pos.line:Int))&&_ then _ else codeAmong pos r)=none
   rw [e];exact ih
  |_=>rfl
noncomputable def plainPar (a:Arguments):Arguments:=⟨[],a.args,none,[],[],none,[]⟩
noncomputable def itemOf:Stmt→DefItem
 | .FunctionDef name params body _ _ _ scope _ _ pos=>⟨name,plainPar params,body,scope,pos⟩
 |_=>⟨"",⟨[],[],none,[],[],none,[]⟩,[],default,default⟩
noncomputable def mkDef (d:DefItem):Stmt:= .FunctionDef d.name (plainPar d.params) d.body [] none [] d.scope none d.name d.pos
noncomputable def isPlain (main:Scope) (names:List Str) (line:Nat) (d:DefItem):Bool:=d.params.args.all (·.annotation.isNone)&&d.scope.names.all (fun x=> !(x.2 == .free))&&(docOf d.body).isNone&&main.names.lookup d.name==some .local && !names.contains d.name && !(d.name==("__builtins__":Str)) && !(d.name==("__name__":Str))&&decide (line≤d.pos.line)
theorem ly (e:Env):∀ (as:List Arg),as.all (·.annotation.isNone)=true→annotationsOf as e=[]
 | [],_=>rfl
 |⟨arg,ann,pos⟩ :: r,h=>aa h fun h1 h2=>by
  cases ann with
  |some _=>exact nomatch h1
  |none=>exact ly e r h2
theorem nH {name:Str} {as:List Arg} {body:List Stmt} {scope:Scope} {pos:Pos} (h:as.all (·.annotation.isNone)=true):PlainDefTree name ⟨[],as,none,[],[],none,[]⟩ body scope pos:=by
 intro env
 have e:annTrees ⟨[],as,none,[],[],none,[]⟩ none env=[]:=by
  have:as++[]++Option.toList none++[]++Option.toList none=as:=by simp
  show annotationsOf (as++[]++Option.toList none++[]++Option.toList none) env++_=_
  rw [this,ly env as h];rfl
 rw [exec_def,e]
 rfl
section
variable {p:Program} {w:World} {A:Around} {E:Value→Shared→Prop} {c Pl F:Addr} {h₀:Heap} {consts:List (Str×PyData)} {objs:List (Str×(Obj→Prop))} {Q:Flow→Shared→Prop} {rest:List Stmt}
theorem gJ (x:Str):("":Str)++x=x:=by
 show Str.append _ _=_
 cases x
 simp [Str.append]
 rfl
theorem tz (hmod:p.main.scope.kind = .module) {d:DefItem} {s:Shared} {mg₀ mg:Str→Option Value} {ps:Array Value} {defs:List DefItem} {names:List Str} {line:Nat} (X:Mod h₀ mg₀ c Pl s.heap mg ps defs consts objs names) (T:Trip line ps.toList) (hN:("__name__":Str)∉names) (hp:isPlain p.main.scope names line d=true)
  (k:∀ h' mg' ps' tk,Mod h₀ mg₀ c Pl h' mg' ps' (⟨d.name,plainPar d.params,d.body,d.scope,d.pos⟩ :: defs) consts objs (d.name :: names)→Trip ((d.pos.line+1:Nat):Int) ps'.toList→("__name__":Str)∉d.name :: names→wpAny (model p w) A (execs rest (mainEnv p c F)) Q E {s with heap:=h',toks:=tk}) :
  wpAny (model p w) A (execs (mkDef d :: rest) (mainEnv p c F)) Q E s:=by
 unfold isPlain at hp
 refine aa hp fun hp g9=>aa hp fun hp g8=>aa hp fun hp g7=>aa hp fun hp g6=>aa hp fun hp g5=>aa hp fun hp g4=>aa hp fun g2 g3=> ?_
 have g5:=beq_iff_eq.mp g5
 have g9:(line:Int)≤d.pos.line:=Int.ofNat_le.mpr (of_decide_eq_true g9)
 have no:∀ {b:Bool},(!b)=true→b=false:=fun h=>by rwa [Bool.not_eq_true'] at h
 refine wpAny_execs_cons (X.def_plain (prog:=p) (F:=F) (nH g2) (fun x hx q=> ?_) (Option.isNone_iff_eq_none.mp g4) g5 ?_ ?_ ?_ ?_ hmod ?_ rfl)
 ·have:=List.all_eq_true.mp g3 x hx;rw [q] at this;exact nomatch this
 ·unfold qualnameIn
  rw [show Env.kindOf {scope:=p.main.scope,locals:=mainGlobals,globals:=mainGlobals,cells:=[]} d.name=some .local from g5]
  exact gJ _
 ·intro hm;exact nomatch (List.contains_iff_mem.mpr hm).symm.trans (no g6)
 ·intro h' mg' c' tk X'
  refine k _ _ _ _ X' ?_ fun hm=> ?_
  ·rw [Array.toList_append]
   exact Trip.add (Int.ofNat_lt.mpr (Nat.lt_succ_self _)) (T.mono (Int.le_trans g9 (Int.ofNat_le.mpr (Nat.le_succ _))))
  ·rcases List.mem_cons.mp hm with e |e
   ·exact beq_eq_false_iff_ne.mp (no g8) e.symm
   ·exact hN e
 ·intro q;exact beq_eq_false_iff_ne.mp (no g7) q
 ·exact T.among g9
end
end Mine
set_option genSizeOf false
set_option genInjectivity false
namespace Mine
theorem sH:isSubtype (.type "dict") (.type "dict")=pure true:=by rw [isSubtype_type];kernel_rfl
theorem ph:typeLookup (.type "dict") ("__iter__":Str)=pure (some (.builtin "dict.__iter__")):=by rw [typeLookup_type,builtinLookup_eq_fast];kernel_rfl
theorem iP {h:Heap} {b:Addr} (x:h.objs.size≤b):h.get? b=none:=by
 cases e:h.get? b with
 |none=>rfl
 |some o=>exact absurd (Heap.lt_size e) (Nat.not_lt.mpr x)
inductive Sts:List (Int×Value)→List (Int×Str)→Prop
 |nil:Sts [] []
 |cons {k:Int} {x:Str} {t:Tok} {r:List (Int×Value)} {r':List (Int×Str)}:Sts r r'→Sts ((k,.str x t) :: r) ((k,x) :: r')
section
variable {kvs more:List (Int×Value)} {l m:List (Int×Str)}
theorem Sts.keys (h:Sts kvs l):kvs.map (·.1)=l.map (·.1):=by
 induction h with
 |nil=>rfl
 |cons _ ih=>exact congrArg (List.cons _) ih
theorem Sts.length (h:Sts kvs l):kvs.length=l.length:=(List.length_map _).symm.trans ((congrArg List.length h.keys).trans (List.length_map _))
theorem Sts.append (h:Sts kvs l) (g:Sts more m):Sts (kvs++more) (l++m):=by
 induction h with
 |nil=>exact g
 |cons _ ih=>exact .cons ih
theorem Sts.look (i:Int) (h:Sts kvs l):(l.lookup i=none∧valueAt kvs i=none)∨∃ x t,l.lookup i=some x∧valueAt kvs i=some (.str x t):=by
 induction h with
 |nil=>exact .inl ⟨rfl,rfl⟩
 | @cons k x t r r' _ ih =>
  unfold valueAt at ih ⊢
  rw [List.lookup_cons,List.find?_cons]
  by_cases hk:i=k
  ·rw [beq_iff_eq.mpr hk,decide_eq_true hk.symm];exact .inr ⟨x,t,rfl,rfl⟩
  ·rw [beq_eq_false_iff_ne.mpr hk,decide_eq_false (Ne.symm hk)];exact ih
end
section
variable {prog:Program} {w:World} {A:Around} {E:Value→Shared→Prop} {s:Shared}
structure Ae (prog:Program) (w:World) (A:Around) (E:Value→Shared→Prop) (kx:Int×Str) (it:Sem Value×Sem Value):Prop where
 k:∀ {s:Shared} {Q:Value→Shared→Prop},(∀ t tk,Q (.int kx.1 t) {s with toks:=tk})→wpAny (model prog w) A it.1 Q E s
 v:∀ {s:Shared} {Q:Value→Shared→Prop},(∀ t tk,Q (.str kx.2 t) {s with toks:=tk})→wpAny (model prog w) A it.2 Q E s
inductive Itms (prog:Program) (w:World) (A:Around) (E:Value→Shared→Prop):List (Int×Str)→List (Sem Value×Sem Value)→Prop
 |nil:Itms prog w A E [] []
 |cons {kx:Int×Str} {it:Sem Value×Sem Value} {l:List (Int×Str)} {its:List (Sem Value×Sem Value)}:Ae prog w A E kx it→Itms prog w A E l its→Itms prog w A E (kx :: l) (it :: its)
theorem Itms.ne {l:List (Int×Str)} {its:List (Sem Value×Sem Value)} (h:Itms prog w A E l its):its.isEmpty=l.isEmpty:=by
 cases h with
 |nil=>rfl
 |cons _ _=>rfl
theorem Itms.snoc {kx:Int×Str} {it:Sem Value×Sem Value} (a:Ae prog w A E kx it) {l:List (Int×Str)} {its:List (Sem Value×Sem Value)} (h:Itms prog w A E l its):Itms prog w A E (l++[kx]) (its++[it]):=by
 induction h with
 |nil=>exact .cons a .nil
 |cons b _ ih=>exact .cons b ih
theorem gZ {i:Int} {t:Tok}:(intKind prog w).is i (.int i t)=true:=by simp [intKind,Value.isInt]
theorem rA {d:Addr} {kvs:List (Int×Value)} {k:Int} {key v:Value} {Q:Unit→Shared→Prop} (hkey:(intKind prog w).is k key=true) (hm:s.heap.DictOf (intKind prog w) d kvs) (hnot:k∉kvs.map (·.1))
  (hQ:∀ h',h'.DictOf (intKind prog w) d (kvs++[(k,v)])→Heap.SameBut d s.heap h'→Q () {s with heap:=h'}) (hsz:kvs.length≤sizeLine) :
  wpAny (model prog w) A (dictPut d ((intKind prog w).hash k) key v) Q E s:=by
 obtain ⟨o,es,ep,ho,hc,hd,hk,hp,hn⟩:=hm
 have hi:(es.findIdx? fun e=>(intKind prog w).is k e.key)=none:=by
  obtain ⟨es⟩:=es
  rw [List.findIdx?_toArray]
  refine (hp.findIdx k).trans (List.findIdx?_eq_none_iff.mpr fun x hx=>decide_eq_false fun e=>hnot (List.mem_map.mpr ⟨x,hx,e⟩))
 unfold dictPut
 refine wpAny_bind (wpAny_dictFind_of hkey ho hd hk ?_)
 rw [hi]
 refine wpAny_updateDictKeys (hz:=by rw [← Array.length_toList,hp.length];exact hsz) ho hd (hQ _ ⟨_,_,ep+1,Heap.get?_update_self _ ho (Obj.isFreed_of_dict (Obj.data_mapDictKeys hd _)),
   hc.mapDictKeys _,Obj.data_mapDictKeys hd _,hk.push hkey _,?_,?_⟩ (Heap.SameBut.update ..))
 ·rw [Array.toList_push];exact hp.append hkey _ v
 ·rw [List.map_append,List.nodup_append]
  exact ⟨hn,List.nodup_cons.mpr ⟨List.not_mem_nil,List.nodup_nil⟩,fun a ha b hb e=>hnot ((e.trans (List.mem_singleton.mp hb:b=k))▸ha)⟩
theorem qt {d:Addr} {kvs:List (Int×Value)} {k:Int} {key v:Value} {Q:Unit→Shared→Prop} (hkey:(intKind prog w).is k key=true) (hm:s.heap.DictOf (intKind prog w) d kvs) (hnot:k∉kvs.map (·.1))
  (hQ:∀ h',h'.DictOf (intKind prog w) d (kvs++[(k,v)])→Heap.SameBut d s.heap h'→Q () {s with heap:=h',toks:=s.toks+1}) (hsz:kvs.length≤sizeLine) :
  wpAny (model prog w) A (dictSet d key v) Q E s:=by
 refine wpAny_dictSet_pairs (hsz:=hsz) hkey hm fun h' h1 h2=>hQ h' ?_ h2
 unfold stored at h1
 rw [if_neg fun q=>let ⟨x,hx,he⟩:=List.any_eq_true.mp q;hnot (List.mem_map.mpr ⟨x,hx,of_decide_eq_true he⟩)] at h1
 exact h1
theorem jC {l:List (Int×Str)} {its:List (Sem Value×Sem Value)} (h:Itms prog w A E l its):∀ {s:Shared} {Q:List (Value×Value)→Shared→Prop},
  (∀ vs kvs tk,Carries (intKind prog w) vs kvs→Sts kvs l→Q vs {s with toks:=tk})→wpAny (model prog w) A (evalPairs its) Q E s:=by
 induction h with
 |nil=>exact fun {s Q} hq=>evalPairs_nil (hq [] [] s.toks trivial .nil)
 | @cons kx it l its a r ih=>exact fun {s Q} hq=>wpAny_bind (a.k fun t tk=>wpAny_bind (wpAny_holding (a.v fun t' tk'=>wpAny_bind (wpAny_holding (ih fun vs kvs tk'' hc hs=>wpAny_pure (hq _ ((kx.1,.str kx.2 t') :: kvs) _ ⟨gZ,rfl,hc⟩ (.cons hs)))))))
end
end Mine
set_option genSizeOf false
set_option genInjectivity false
namespace Mine
section
variable {prog:Program} {w:World} {A:Around} {E:Value→Shared→Prop} {s:Shared}
theorem uw {d:Addr} {h0 h h':Heap} (hd:h0.objs.size≤d) (k:Kq h0 h) (sb:Heap.SameBut d h h'):Kq h0 h':=fun b o e =>
 (sb.2 b fun q=>absurd (Heap.lt_size e) (Nat.not_lt.mpr (q▸hd))).trans (k b o e)
theorem lu (h:Heap):(h.push {cls:= .type "dict",data:= .dict #[]}).DictOf (intKind prog w) h.objs.size [] :=
 ⟨_,#[],0,Heap.get?_push_size _ rfl,⟨rfl,rfl,rfl⟩,rfl,fun e he=>absurd he (Array.not_mem_empty e),.nil,List.nodup_nil⟩
theorem vt {h h':Heap} {d:Addr} {kvs:List (Int×Value)} (k:Kq h h') (x:h.DictOf (intKind prog w) d kvs):h'.DictOf (intKind prog w) d kvs:=let ⟨o,es,ep,e1,e2⟩:=x;⟨o,es,ep,k _ _ e1,e2⟩
theorem vo {h:Heap} {d:Addr} {kvs:List (Int×Value)} (x:h.DictOf (intKind prog w) d kvs):d<h.objs.size:=let ⟨_,_,_,e1,_⟩:=x;Heap.lt_size e1
theorem jj {α β:Type} {la l:List (α×β)} {kx:α×β} (h:((la++[kx]++l).map (·.1)).Nodup):kx.1∉la.map (·.1):=fun hin=>by
 rw [List.map_append,List.map_append] at h
 exact (List.nodup_append.mp (List.nodup_append.mp h).1).2.2 _ hin _ (List.mem_singleton.mpr rfl) rfl
theorem wz {d:Addr} {l:List (Int×Str)} {its:List (Sem Value×Sem Value)} (h:Itms prog w A E l its):∀ {acc:List (Int×Value)} {la:List (Int×Str)} {s:Shared} {Q:PUnit→Shared→Prop},s.heap.DictOf (intKind prog w) d acc→Sts acc la→((la++l).map (·.1)).Nodup→(la++l).length≤sizeLine →
  (∀ h' tk kvs,h'.DictOf (intKind prog w) d kvs→Sts kvs (la++l)→Heap.SameBut d s.heap h'→Q PUnit.unit {s with heap:=h',toks:=tk}) →
  wpAny (model prog w) A (forIn its PUnit.unit fun (x:Sem Value×Sem Value) (_:PUnit)=>(do let kv ← x.1;let vv ← holding [kv] x.2;holding [kv,vv] (dictSet d kv vv);pure (ForInStep.yield PUnit.unit):Sem (ForInStep PUnit))) Q E s:=by
 induction h with
 |nil =>
  intro acc la s Q hm hs hn hz hQ
  rw [List.forIn_nil]
  rw [List.append_nil] at hQ
  exact wpAny_pure (hQ s.heap s.toks acc hm hs (Heap.SameBut.refl _ _))
 | @cons kx it l its a r ih =>
  intro acc la s Q hm hs hn hz hQ
  rw [List.append_cons] at hn hz hQ
  rw [List.forIn_cons]
  refine wpAny_bind (wpAny_bind (a.k fun t tk=>wpAny_bind (wpAny_holding (a.v fun t' tk'=>wpAny_bind (wpAny_holding (qt gZ hm (by rw [hs.keys];exact jj hn) (fun h1 hm1 sb1=>wpAny_pure ?_) ?_))))))
  ·exact ih hm1 (hs.append (.cons .nil)) hn hz fun h' tk kvs g1 g2 g3=>hQ h' tk kvs g1 g2 (sb1.trans g3)
  ·rw [hs.length]
   exact Nat.le_trans (by rw [List.length_append,List.length_append,Nat.add_assoc];exact Nat.le_add_right _ _) hz
theorem na {l:List (Int×Str)} {its:List (Sem Value×Sem Value)} {Q:Addr→Shared→Prop} (h:Itms prog w A E l its) (hn:(l.map (·.1)).Nodup) (hz:l.length≤sizeLine)
  (hQ:∀ d h' tk kvs,s.heap.objs.size≤d→Kq s.heap h'→h'.DictOf (intKind prog w) d kvs→Sts kvs l→Q d {s with heap:=h',toks:=tk}):wpAny (model prog w) A (subDict its) Q E s:=by
 have fin:∀ {h':Heap},Heap.SameBut s.heap.objs.size (s.heap.push {cls:= .type "dict",data:= .dict #[]}) h'→Kq s.heap h':=fun sb=>uw (Nat.le_refl _) (Kq.push _ _) sb
 unfold subDict
 refine wpAny_bind (wpAny_alloc (wpAny_bind (wpAny_holding ?_)))
 by_cases hc:its.length≤15
 ·rw [if_pos hc]
  refine wpAny_bind (jC h fun vs kvs tk hc hs=>wpAny_holding (wpAny_bind (wpAny_storeAll (knd:=intKind prog w) vs kvs [] _ _ hc (lu _) (by rw [List.length_nil,Nat.zero_add,hs.length];exact hz) fun h' hm sb=>wpAny_pure (wpAny_pure (hQ _ h' _ kvs (Nat.le_refl _) (fin sb) ?_ hs)))))
  rw [merged_append_of_fresh [] kvs (by rw [List.nil_append,hs.keys];exact hn)] at hm
  exact hm
 ·rw [if_neg hc]
  exact wpAny_bind (wpAny_rule (wpAny_bind (wz (la:=[]) h (lu _) .nil hn hz fun h' tk' kvs hm hs sb=>wpAny_pure (wpAny_pure (hQ _ h' tk' kvs (Nat.le_refl _) (fin sb) hm hs)))))
theorem nE {m i x:Nat} {rest:List Nat} (h:x :: rest=List.range' i (m - i)):x=i∧i<m∧rest=List.range' (i+1) (m - (i+1)):=by
 cases e:m - i with
 |zero=>rw [e] at h;exact nomatch h
 |succ k =>
  rw [e,List.range'_succ] at h
  injection h with h1 h2
  exact ⟨h1,Nat.lt_of_sub_eq_succ e,by rw [h2,← Nat.sub_sub,e];rfl⟩
structure Az (prog:Program) (w:World) (d o:Addr) (oo:Obj) (kvs more:List (Int×Value)) (h0:Heap) (rest:List Nat) (i:Nat) (h:Heap):Prop where
 r:rest=List.range' i (more.length - i)
 dd:h.DictOf (intKind prog w) d (kvs++more.take i)
 oo:h.get? o=some oo
 sb:Heap.SameBut d h0 h
theorem rM {d o:Addr} {kvs more:List (Int×Value)} {Q:Unit→Shared→Prop} (hdo:d≠o) (hoS:(o==sysModules)=false) (hd:s.heap.DictOf (intKind prog w) d kvs) (ho:s.heap.DictOf (intKind prog w) o more)
  (hne:kvs≠[]) (hn:((kvs++more).map (·.1)).Nodup) (hz:(kvs++more).length≤sizeLine)
  (hQ:∀ h',h'.DictOf (intKind prog w) d (kvs++more)→Heap.SameBut d s.heap h'→Q () {s with heap:=h'}):wpAny (model prog w) A (mergeMapping d (.ref o) false) Q E s:=by
 obtain ⟨oo,eso,epo,hoo,hco,hdo',hko,hpo,hno⟩:=ho
 have hlen:eso.size=more.length:=Array.length_toList.symm.trans hpo.length
 obtain ⟨od,esd,epd,hod,hcd,hdd,hkd,hpd,hnd⟩:=id hd
 have he:¬ esd.isEmpty=true:=fun e=>hne (List.length_eq_zero_iff.mp (hpd.length.symm.trans (by rw [Array.isEmpty_iff.mp e];rfl)))
 unfold mergeMapping
 refine wpAny_bind (wpAny_isInstance ⟨oo,hoo,hco.1⟩ sH ?_)
 rw [if_pos rfl]
 refine wpAny_bind (wpAny_specialOf ⟨oo,hoo,hco.1⟩ ph (wpAny_bind (wpAny_pure ?_)))
 rw [show ((some (Value.builtin "dict.__iter__"):Option Value)==some (.builtin "dict.__iter__"))=true from by decide]
 show wpAny _ _ (if (o==sysModules)=true then _ else _) _ _ _
 rw [if_neg (by rw [hoS];exact Bool.false_ne_true)]
 refine wpAny_bind (wpAny_dictEntries hod hdd ?_)
 rw [if_neg he]
 refine wpAny_bind (wpAny_dictEntries hoo hdo' (wpAny_bind (wpAny_dictEpoch hoo hdo' ?_)))
 rw [hlen,List.range_eq_range']
 refine wpAny_bind (wpAny_forIn_list _ (fun rest _ s'=>∃ h' i,s' = {s with heap:=h'}∧Az prog w d o oo kvs more s.heap rest i h') _ (fun x rest b s' hI=> ?_) (fun b s' hI=> ?_) _ _ ⟨s.heap,0,rfl,rfl,by rw [List.take_zero,List.append_nil];exact hd,hoo,Heap.SameBut.refl _ _⟩)
 ·obtain ⟨h',i,rfl,hI⟩:=hI
  obtain ⟨rfl,hlt,hrest⟩:=nE hI.r
  have hlt':x<eso.size:=hlen▸hlt
  obtain ⟨hkey,hval⟩:=hpo.get? (e:=eso[x]) (by rw [Array.getElem?_toList,Array.getElem?_eq_getElem hlt']) (List.getElem?_eq_getElem hlt)
  obtain ⟨k',hkey',hhash⟩:=hko eso[x] (Array.getElem_mem hlt')
  obtain rfl:k'=more[x].1:=(intKind prog w).inj _ _ _ hkey' hkey
  have htk:more.take (x+1)=more.take x++[more[x]]:=by rw [List.take_add_one,List.getElem?_eq_getElem hlt];rfl
  have e:kvs++more.take x++[more[x]]++more.drop (x+1)=kvs++more:=by rw [List.append_assoc kvs,← htk,List.append_assoc,List.take_append_drop]
  refine wpAny_bind (wpAny_dictEntries hI.oo hdo' ?_)
  rw [Array.getElem?_eq_getElem hlt']
  show wpAny _ _ (holding _ (if false=true then _ else _) >>= _) _ _ _
  rw [if_neg Bool.false_ne_true,hhash,hval]
  refine wpAny_bind (wpAny_holding (rA hkey hI.dd (jj (e.symm▸hn)) (fun h2 hd2 hs2=> ?_) ?_))
  ·have ho2:h2.get? o=some oo:=(hs2.2 o (Ne.symm hdo)).trans hI.oo
   refine wpAny_bind (wpAny_dictEpoch ho2 hdo' ?_)
   rw [if_neg (by rw [bne_self_eq_false];exact Bool.false_ne_true)]
   exact wpAny_pure ⟨h2,x+1,rfl,hrest,by rw [htk,← List.append_assoc];exact hd2,ho2,hI.sb.trans hs2⟩
  ·exact Nat.le_trans (by rw [List.length_append,List.length_append];exact Nat.add_le_add_left (List.length_take_le' _ _) _) hz
 ·obtain ⟨h',i,rfl,hI⟩:=hI
  have hi:more.take i=more:=List.take_of_length_le (by
   rcases Nat.lt_or_ge i more.length with h |h
   ·have:=hI.r
    rw [← Nat.succ_sub_one (more.length - i),Nat.sub_one,Nat.pred_succ,← Nat.sub_add_cancel (Nat.sub_pos_of_lt h)] at this
    exact nomatch this
   ·exact h)
  exact wpAny_pure (hQ h' (by have:=hI.dd;rw [hi] at this;exact this) hI.sb)
end
end Mine
set_option genSizeOf false
set_option genInjectivity false
namespace Mine
section
variable {prog:Program} {w:World} {A:Around} {E:Value→Shared→Prop} {s:Shared}
inductive oX (prog:Program) (w:World) (h0:Heap):Heap→List (Int×Str)→Option Addr→Prop
 |none:oX prog w h0 h0 [] none
 |some {d:Addr} {h:Heap} {done:List (Int×Str)} {kvs:List (Int×Value)}:h0.objs.size≤d→Kq h0 h→done≠[]→h.DictOf (intKind prog w) d kvs→Sts kvs done→oX prog w h0 h done (some d)
noncomputable def flushS (run:List (Sem Value×Sem Value)) (main:Option Addr):Sem (Option Addr):=do
 if run.isEmpty then return main
 match main with
 |none=>return some (← subDict run)
 |some d =>
  let sub ← holding [.ref d] (subDict run)
  (holding [.ref d,.ref sub] (mergeMapping d (.ref sub) false)).onRaise fun x=>do let _ ← holding [.ref d,x] (runValue (.builtin "proto.let_go" {}))
  return some d
theorem ym {d:Addr} (h:2≤d):(d==sysModules)=false:=beq_eq_false_iff_ne.mpr fun q=>absurd (q▸h:2≤sysModules) (by decide)
theorem lI {h0:Heap} {done run:List (Int×Str)} {runI:List (Sem Value×Sem Value)} {main:Option Addr} {Q:Option Addr→Shared→Prop} (hbig:2≤h0.objs.size) (a:oX prog w h0 s.heap done main) (hr:Itms prog w A E run runI) (hn:((done++run).map (·.1)).Nodup) (hz:(done++run).length≤sizeLine)
  (hQ:∀ m h' tk,oX prog w h0 h' (done++run) m→Q m {s with heap:=h',toks:=tk}):wpAny (model prog w) A (flushS runI main) Q E s:=by
 cases hru:run with
 |nil =>
  rw [hru] at hr hQ
  cases hr with
  |nil =>
   rw [List.append_nil] at hQ
   exact wpAny_pure (hQ _ _ _ a)
 |cons k r =>
  have hne:¬ runI.isEmpty=true:=by rw [hr.ne,hru];exact Bool.false_ne_true
  have hnr:(run.map (·.1)).Nodup:=by rw [List.map_append] at hn;exact (List.nodup_append.mp hn).2.1
  have hzr:run.length≤sizeLine:=Nat.le_trans (by rw [List.length_append];exact Nat.le_add_left _ _) hz
  have hdn:done++run≠[]:=by rw [hru];exact List.append_ne_nil_of_right_ne_nil _ (List.cons_ne_nil _ _)
  unfold flushS
  rw [if_neg hne]
  cases a with
  |none=>exact wpAny_bind (na hr hnr hzr fun d h1 tk1 kvs g1 g2 g3 g4=>wpAny_pure (hQ _ _ _ (.some g1 g2 hdn g3 g4)))
  | @some d _ _ kvs a1 a2 a3 a4 a5 =>
   have lt:=vo a4
   refine wpAny_bind (wpAny_holding (na hr hnr hzr fun d1 h1 tk1 kvs1 g1 g2 g3 g4=> ?_))
   refine wpAny_bind (wpAny_onRaise (wpAny_holding (rM (kvs:=kvs) (more:=kvs1) (Nat.ne_of_lt (Nat.lt_of_lt_of_le lt g1)) (ym (Nat.le_trans hbig (Nat.le_trans a1 (Nat.le_trans (Nat.le_of_lt lt) g1)))) (vt g2 a4) g3 ?_ ?_ ?_ fun h2 q1 q2=>wpAny_pure (hQ _ _ _ (.some a1 (uw a1 (a2.trans g2) q2) hdn q1 (a5.append g4))))))
   ·exact fun q=>a3 (List.length_eq_zero_iff.mp (a5.length.symm.trans (by rw [q];rfl)))
   ·rw [(a5.append g4).keys];exact hn
   ·rw [(a5.append g4).length];exact hz
noncomputable def itP (p:Sem Value×Sem Value):Option (Sem Value)×Sem Value:=(some p.1,p.2)
inductive DI (prog:Program) (w:World) (A:Around) (E:Value→Shared→Prop) (s:Shared) (l:List (Int×Str)):List (Option (Sem Value)×Sem Value)→Option Addr×List (Sem Value×Sem Value)→Shared→Prop
 |mk {h':Heap} {tk:Nat} {main:Option Addr} {done run more:List (Int×Str)} {runI moreI:List (Sem Value×Sem Value)} {rest:List (Option (Sem Value)×Sem Value)}:l=done++run++more→Itms prog w A E run runI→Itms prog w A E more moreI→rest=moreI.map itP→oX prog w s.heap h' done main →
   DI prog w A E s l rest (main,runI) {s with heap:=h',toks:=tk}
variable {l:List (Int×Str)} (hn:(l.map (·.1)).Nodup) (hz:l.length≤sizeLine) (hbig:2≤s.heap.objs.size)
theorem pe {done run more:List (Int×Str)} (hl:l=done++run++more) (hn:(l.map (·.1)).Nodup):((done++run).map (·.1)).Nodup:=by
 rw [hl,List.map_append] at hn
 exact (List.nodup_append.mp hn).1
theorem sT {done run more:List (Int×Str)} (hl:l=done++run++more) (hz:l.length≤sizeLine):(done++run).length≤sizeLine:=Nat.le_trans (by rw [hl,List.length_append (bs:=more)];exact Nat.le_add_right _ _) hz
noncomputable def gatherS (x:Option (Sem Value)×Sem Value) (b:Option Addr×List (Sem Value×Sem Value)) (k:Sem Value):Sem (ForInStep (Option Addr×List (Sem Value×Sem Value))) :=
 if (b.2++[(k,x.2)]).length==17 then (do let main ← flushS (b.2++[(k,x.2)]) b.1;pure (.yield (main,[]))) else pure (.yield (b.1,b.2++[(k,x.2)]))
include hn hz hbig in
theorem vZ {k v:Sem Value} {rest:List (Option (Sem Value)×Sem Value)} {b:Option Addr×List (Sem Value×Sem Value)} {s':Shared} (h:DI prog w A E s l ((some k,v) :: rest) b s') :
  wpAny (model prog w) A (gatherS (some k,v) b k) (fun r s'=>match r with | .yield b'=>DI prog w A E s l rest b' s' | .done b'=>False) E s':=by
 cases h with
 |mk hl hr hm hrest ha =>
  rename_i h' tk main done run more runI moreI
  cases hm with
  |nil=>cases hrest
  |cons a r =>
   rename_i kx it more moreI
   injection hrest with e1 e2
   cases e1
   have hl':=hl.trans (List.append_cons _ _ _)
   rw [List.append_assoc done] at hl'
   have hrun:=hr.snoc a
   unfold gatherS
   by_cases hc:((runI++[(it.1,it.2)]).length==17)=true
   ·rw [if_pos hc]
    refine wpAny_bind (lI hbig ha hrun (pe hl' hn) (sT hl' hz) fun m h2 tk2 a2=>wpAny_pure (.mk (done:=done++(run++[kx])) (run:=[]) ?_ .nil r e2 a2))
    rw [List.append_nil];exact hl'
   ·rw [if_neg hc]
    exact wpAny_pure (.mk hl' hrun r e2 ha)
include hn hz hbig in
theorem oQ {its:List (Sem Value×Sem Value)} {Q:Value→Shared→Prop} (h:Itms prog w A E l its) (h0:l≠[])
  (hQ:∀ d h' tk kvs,s.heap.objs.size≤d→Kq s.heap h'→h'.DictOf (intKind prog w) d kvs→Sts kvs l→Q (.ref d) {s with heap:=h',toks:=tk}) :
  wpAny (model prog w) A (dictDisplay (its.map itP)) Q E s:=by
 unfold dictDisplay
 refine wpAny_bind (wpAny_forIn_list _ (DI prog w A E s l) _ (fun x rest b s' hI=> ?_) (fun b s' hI=> ?_) _ _ (.mk (done:=[]) (run:=[]) rfl .nil h rfl .none))
 ·obtain ⟨k,v⟩:=x
  cases k with
  |some k=>exact wpAny_mono (vZ hn hz hbig hI) (fun r s' hr=>by
    cases r with
    |yield b'=>exact hr
    |done b'=>exact hr.elim) fun _ _ e=>e
  |none =>
   cases hI with
   |mk hl hr hm hrest ha =>
    cases hm with
    |nil=>cases hrest
    |cons a r=>cases hrest
 ·cases hI with
  |mk hl hr hm hrest ha =>
   cases hm with
   |cons a r=>cases hrest
   |nil =>
    rw [List.append_nil] at hl
    refine wpAny_bind (show wpAny _ _ (flushS _ _) _ _ _ from lI hbig ha hr (hl▸hn) (hl▸hz) fun m h2 tk2 a2=> ?_)
    rw [← hl] at a2
    cases a2 with
    |none=>exact absurd rfl h0
    |some g1 g2 g3 g4 g5=>exact wpAny_pure (hQ _ _ _ _ g1 g2 g4 g5)
noncomputable def cOf:Expr→Const
 | .Constant c _ _=>c
 |_=> .none
noncomputable def intC:Const→Int
 | .int i=>i
 |_=>0
noncomputable def strC:Const→Str
 | .str x=>x
 |_=>Str.empty
noncomputable def cI (e:Expr):Int:=intC (cOf e)
noncomputable def cS (e:Expr):Str:=strC (cOf e)
noncomputable def intE (e:Expr):Expr:= .Constant (.int (cI e)) (numE e) e.pos
noncomputable def strE (e:Expr):Expr:= .Constant (.str (cS e)) (numE e) e.pos
noncomputable def dictLit (ks vs:List Expr):List (Int×Str):=List.zipWith (fun k v=>(cI k,cS v)) ks vs
theorem qv {env:Env} {pos:Pos}:∀ ks vs:List Expr,
  ∃ its,(evalEachOpt (ks.map fun k=>some (intE k)) env).zip ((evalEach (vs.map strE) env).map fun v=>do let x ← v;standAt pos;pure x)=its.map itP∧Itms prog w A E (dictLit ks vs) its:=by
 intro ks
 induction ks with
 |nil=>exact fun _=>⟨[],rfl,.nil⟩
 |cons k ks ih =>
  intro vs
  cases vs with
  |nil=>exact ⟨[],rfl,.nil⟩
  |cons v vs =>
   obtain ⟨its,e,hi⟩:=ih vs
   exact ⟨(eval (intE k) env,do let x ← eval (strE v) env;standAt pos;pure x) :: its,congrArg (List.cons _) e,.cons ⟨fun hq=>wpAny_Constant_int (env:=env) (k:=numE k) (pos:=k.pos) (hq _ _),fun hq=>wpAny_bind (wpAny_Constant_str (env:=env) (k:=numE v) (pos:=v.pos) (wpAny_bind (wpAny_standAt (wpAny_pure (hq _ _)))))⟩ hi⟩
noncomputable def below:List (Int×Str)→Int→Bool
 | [],_=>true
 |q :: _,a=>decide (a<q.1)
noncomputable def ascend:List (Int×Str)→Bool
 | []=>true
 |p :: r=>below r p.1&&ascend r
theorem rz {r:List (Int×Str)}:∀ {a:Int},below r a=true→ascend r=true→∀ p∈r,a<p.1:=by
 induction r with
 |nil=>exact fun _ _ _ hp=>nomatch hp
 |cons q r ih=>exact fun hb h p hp=>aa h fun h1 h2=>(List.mem_cons.mp hp).elim (fun e=>e▸de hb) fun hp=>Int.lt_trans (de hb) (ih h1 h2 p hp)
theorem lD {l:List (Int×Str)}:ascend l=true→(l.map (·.1)).Nodup:=by
 induction l with
 |nil=>exact fun _=>List.nodup_nil
 |cons p r ih=>exact fun h=>aa h fun h1 h2=>List.nodup_cons.mpr ⟨fun hm=>let ⟨q,hq,e⟩:=List.mem_map.mp hm;absurd e (Int.ne_of_gt (rz h1 h2 q hq)),ih h2⟩
theorem wc {env:Env} {ks vs:List Expr} {pos:Pos} {Q:Value→Shared→Prop} (ha:ascend (dictLit ks vs)=true) (hz:(dictLit ks vs).length≤sizeLine) (h0:dictLit ks vs≠[]) (hbig:2≤s.heap.objs.size)
  (hQ:∀ d h' tk kvs,s.heap.objs.size≤d→Kq s.heap h'→h'.DictOf (intKind prog w) d kvs→Sts kvs (dictLit ks vs)→Q (.ref d) {s with heap:=h',toks:=tk}) :
  wpAny (model prog w) A (eval (.Dict (ks.map fun k=>some (intE k)) (vs.map strE) pos) env) Q E s:=by
 obtain ⟨its,e,hi⟩:=qv (prog:=prog) (w:=w) (A:=A) (E:=E) (env:=env) (pos:=pos) ks vs
 rw [arm_eval_Dict,e]
 exact wpAny_bind (wpAny_standAt (oQ (lD ha) hz hbig hi h0 hQ))
end
end Mine
set_option genSizeOf false
set_option genInjectivity false
namespace Mine
variable [Tabs] [Frk]
noncomputable def DictObj (prog:Program) (w:World) (l:List (Int×Str)) (o:Obj):Prop :=
 ∃ es ep kvs,o.ExactDict∧o.data = .dict es ep∧KeysOf (intKind prog w) es∧Pairs (intKind prog w) es.toList kvs∧(kvs.map (·.1)).Nodup∧Sts kvs l
noncomputable def SetObj (prog:Program) (w:World) (l:List Int) (o:Obj):Prop :=
 ∀ (h:Heap) (a:Addr),h.get? a=some o→∃ n,h.SetOf (intKind prog w) a (fun k=>l.contains k) n
section
variable {p:Program} {w:World} {A:Around} {E:Value→Shared→Prop} {c Pl F:Addr} {h₀:Heap} {consts:List (Str×PyData)} {objs:List (Str×(Obj→Prop))} {Q:Flow→Shared→Prop} {rest:List Stmt}
 {s:Shared} {mg₀ mg:Str→Option Value} {ps:Array Value} {defs:List DefItem} {names:List Str} {line:Nat}
theorem pP {x:Str} {k:Nat} {p1 p2 pos:Pos} (hmod:p.main.scope.kind = .module) (hloc:p.main.scope.names.lookup ("__name__":Str)=some .local) (X:Mod h₀ mg₀ c Pl s.heap mg ps defs consts objs names) (hN:("__name__":Str)∉names)
  (kk:∀ h' mgN mg' tk,(∀ x:Str,x≠"__name__"→mgN x=mg₀ x)→Mod h₀ mgN c Pl h' mg' ps defs consts objs names→wpAny (model p w) A (execs rest (mainEnv p c F)) Q E {s with heap:=h',toks:=tk}) :
  wpAny (model p w) A (execs (.Assign [.Name ("__name__":Str) p1] (.Constant (.str x) k p2) pos :: rest) (mainEnv p c F)) Q E s:=by
 refine wpAny_execs_cons (wpAny_Assign_Name (wpAny_Constant_str ?_) rfl)
 refine wpAny_storeName_local (env:=mainEnv p c F) hloc X.main.g (fun h' hg' hs'=> ?_)
  (by show (p.main.scope.kind == .class || (p.main.scope.kind == .module&&mainGlobals != mainGlobals))=false;rw [hmod];rfl)
 obtain ⟨bm,o,hbm,hne0,hneG,hneP,hbo,hrest⟩:=X.main.bmod
 have keep:∀ b o,b≠Pl→b≠mainGlobals→s.heap.get? b=some o→h'.get? b=some o:=fun b o _ hG e=>(hs'.2 _ hG).trans e
 have up:∀ {b:Addr},h₀.objs.size≤b→b≠Pl∧b≠mainGlobals:=fun hb=>⟨Nat.ne_of_gt (Nat.lt_of_lt_of_le X.lowP hb),Nat.ne_of_gt (Nat.lt_of_lt_of_le X.lowG hb)⟩
 have nm:∀ y∈names,y≠("__name__":Str):=fun y hy q=>hN (q▸hy)
 refine kk h' (fun y=>if y=("__name__":Str) then some (.str x s.toks) else mg₀ y) (fun y=>if y=("__name__":Str) then some (.str x s.toks) else mg y) _ (fun y hy=>if_neg hy) ?_
 refine ⟨⟨hg',X.main.code.sameBut hs' (Nat.ne_of_gt X.main.low.1) (Nat.ne_of_gt X.main.low.2),X.main.low,
   ⟨bm,o,(if_neg (by decide)).trans hbm,hne0,hneG,hneP,(hs'.2 _ hneG).trans hbo,hrest⟩⟩,fun b o hP hG e=>keep b o hP hG (X.keep b o hP hG e),?_,?_,?_,X.dnames,X.cnames,?_,X.onames,Nat.le_trans X.grows (Nat.le_of_eq hs'.1.symm),X.lowP,X.lowG,?_⟩
 ·intro e he
  obtain ⟨a₁,c₁,o₁,pm₁,doc₁,dV₁,h1,h2,h3,h4,h5,h6,h7⟩:=X.made e he
  refine ⟨a₁,c₁,o₁,pm₁,doc₁,dV₁,h1,h2,?_,keep _ _ (up h1).1 (up h1).2 h4,h5,
   h6.at fun o=>keep _ o (up h2).1 (up h2).2,h7.above fun b o hb=>keep b o (up hb).1 (up hb).2⟩
  show (if e.name=_ then _ else mg e.name)=_
  rw [if_neg (nm _ (X.dnames e he))];exact h3
 ·intro q hq
  obtain ⟨v,hv,hd⟩:=X.bound q hq
  refine ⟨v,?_,hd⟩
  show (if q.1=_ then _ else mg q.1)=_
  rw [if_neg (nm _ (X.cnames q hq))];exact hv
 ·intro y hy
  show (if y=_ then _ else mg y)=(if y=_ then _ else mg₀ y)
  split
  ·rfl
  ·exact X.others y hy
 ·intro q hq
  obtain ⟨a,o,hN',hb,ho,hqo⟩:=X.held q hq
  refine ⟨a,o,hN',?_,keep _ _ (up hN').1 (up hN').2 ho,hqo⟩
  show (if q.1=_ then _ else mg q.1)=_
  rw [if_neg (nm _ (X.onames q hq))];exact hb
 ·intro e he
  obtain ⟨a₁,o₁,fd₁,c₁,P₁,h1,r⟩:=(X.tabs e he).above (h':=h') fun b o hb=>keep b o (up hb).1 (up hb).2
  refine ⟨a₁,o₁,fd₁,c₁,P₁,?_,r⟩
  show (if e.name=_ then _ else mg e.name)=_
  rw [if_neg (nm _ (X.dnames e he))];exact h1
theorem rT {x:Str} {i:Int} {k:Nat} {p1 p2 pos:Pos} (hmod:p.main.scope.kind = .module) (hloc:p.main.scope.names.lookup x=some .local) (X:Mod h₀ mg₀ c Pl s.heap mg ps defs consts objs names) (hx:x∉names) (hb:x≠"__builtins__")
  (kk:∀ h' mg' tk,Mod h₀ mg₀ c Pl h' mg' ps defs ((x,.int i) :: consts) objs (x :: names)→wpAny (model p w) A (execs rest (mainEnv p c F)) Q E {s with heap:=h',toks:=tk}) :
  wpAny (model p w) A (execs (.Assign [.Name x p1] (.Constant (.int i) k p2) pos :: rest) (mainEnv p c F)) Q E s :=
 wpAny_execs_cons (X.assign hloc hx (fun Q' hq=>wpAny_Constant_int (hq _ _ fun h=> .int i _)) (fun h' mg' tk Y=>kk h' mg' tk Y) hb hmod rfl)
theorem tX {x y:Str} {k:Nat} {p1 p2 pos:Pos} (hmod:p.main.scope.kind = .module) (hloc:p.main.scope.names.lookup x=some .local) (X:Mod h₀ mg₀ c Pl s.heap mg ps defs consts objs names) (hx:x∉names) (hb:x≠"__builtins__")
  (kk:∀ h' mg' tk,Mod h₀ mg₀ c Pl h' mg' ps defs ((x,.str y) :: consts) objs (x :: names)→wpAny (model p w) A (execs rest (mainEnv p c F)) Q E {s with heap:=h',toks:=tk}) :
  wpAny (model p w) A (execs (.Assign [.Name x p1] (.Constant (.str y) k p2) pos :: rest) (mainEnv p c F)) Q E s :=
 wpAny_execs_cons (X.assign hloc hx (fun Q' hq=>wpAny_Constant_str (hq _ _ fun h=> .str y _)) (fun h' mg' tk Y=>kk h' mg' tk Y) hb hmod rfl)
theorem qe {x:Str} {ks vs:List Expr} {p1 p2 pos:Pos} (hmod:p.main.scope.kind = .module) (hloc:p.main.scope.names.lookup x=some .local) (X:Mod h₀ mg₀ c Pl s.heap mg ps defs consts objs names) (hx:x∉names) (hb:x≠"__builtins__")
  (ha:ascend (dictLit ks vs)=true) (hz:(dictLit ks vs).length≤sizeLine) (h0:dictLit ks vs≠[])
  (kk:∀ h' mg' tk,Mod h₀ mg₀ c Pl h' mg' ps defs consts ((x,DictObj p w (dictLit ks vs)) :: objs) (x :: names)→wpAny (model p w) A (execs rest (mainEnv p c F)) Q E {s with heap:=h',toks:=tk}) :
  wpAny (model p w) A (execs (.Assign [.Name x p1] (.Dict (ks.map fun k=>some (intE k)) (vs.map strE) p2) pos :: rest) (mainEnv p c F)) Q E s:=by
 refine wpAny_execs_cons (X.assign_obj hloc hx (fun Q' hq=> ?_) (fun h' mg' tk Y=>kk h' mg' tk Y) hb hmod rfl)
 refine wc ha hz h0 (Nat.le_trans (by decide) (Nat.succ_le_of_lt X.main.g.lt)) fun d h' tk kvs hn k hm hs=> ?_
 obtain ⟨o,es,ep,e1,e2,e3,e4,e5,e6⟩:=hm
 exact hq d o h' tk hn e1 ⟨es,ep,kvs,e2,e3,e4,e5,e6,hs⟩ k
theorem lq:∀ ns:List Int,ints? (ns.map D.int)=some ns
 | []=>rfl
 |n :: ns=>ad rfl (aX (lq ns) rfl)
theorem sf {vs:List Value} {ns:List Int} (h:∀ h X,DenL h X (ns.map .int) vs):IntsAre vs ns:=(gI (h:={}) (X:=fun _=>False) (lq ns) (h _ _)).1
theorem tV {env:Env} {pos:Pos} (es:List Expr):∀ {s:Shared} {Q:List Value→Shared→Prop},(∀ vs tk,(∀ h X,DenL h X ((es.map cI).map .int) vs)→Q vs {s with toks:=tk})→wpAny (model p w) A (spliced (backTo pos (starEach (es.map intE) env))) Q E s:=by
 induction es with
 |nil =>
  intro s Q hq
  exact PySem.Calls.spliced_nil (hq [] s.toks fun _ _=>rfl)
 |cons e r ih =>
  intro s Q hq
  exact PySem.Calls.spliced_cons (wpAny_Constant_int (k:=numE e) (pos:=e.pos) (ih fun vs tk hv=>hq _ _ fun h X=>⟨_,_,rfl,⟨_,rfl⟩,hv h X⟩))
theorem uk:bootBuiltins ("set":Str)=some (.type "set"):=by decide +kernel
theorem dF {x:Str} {pos:Pos} {mb:Str→Option Value} {T:String} {R:Value→Shared→Prop} (hmod:p.main.scope.kind = .module) (hg:s.heap.Ns mainGlobals mg) (hb:s.heap.Ns builtinsNs mb) (hx:mg x=none) (hv:mb x=some (.type T)) (h:R (.type T) s)
  (hd:(x==("__debug__":Str))=false):wpAny (model p w) A (eval (.Name x pos) (mainEnv p c F)) R E s :=
 PySem.Calls.Name_module hmod rfl (PySem.Calls.loadGlobal_builtin hg hx hb hv h) hd
theorem tS {x:Str} {es:List Expr} {a b:Int} {ka kb:Nat} {p1 p2 p3 p4 p5 p6 p7 p8 p9 p10 p11 pos:Pos} {l:List Int} {mb:Str→Option Value} (hmod:p.main.scope.kind = .module) (hloc:p.main.scope.names.lookup x=some .local) (X:Mod h₀ mg₀ c Pl s.heap mg ps defs consts objs names) (hx:x∉names) (hb:x≠"__builtins__")
  (hB:s.heap.Ns builtinsNs mb) (blt:∀ x:Str,x≠"__name__"→mb x=bootBuiltins x) (m1:mg ("set":Str)=none) (m2:mg ("list":Str)=none) (m3:mg ("range":Str)=none) (hh:A.handled=none)
  (hab : -1000000000<a∧a<1000000000∧ -1000000000<b∧b<1000000000∧(b - a).toNat<1000) (hl:l=es.map cI++(List.range (b - a).toNat).map (fun (i:Nat)=>a+(i:Int))) (hlen:l.length<1000) (hfm:firstMet (fun i=>l.getD i 0) l.length=l)
  (kk:∀ h' mg' tk,Mod h₀ mg₀ c Pl h' mg' ps defs consts ((x,SetObj p w l) :: objs) (x :: names)→wpAny (model p w) A (execs rest (mainEnv p c F)) Q E {s with heap:=h',toks:=tk}) :
  wpAny (model p w) A (execs (.Assign [.Name x p1] (.Call (.Name ("set":Str) p2) [.BinOp (.List (es.map intE) p3) .Add (.Call (.Name ("list":Str) p4) [.Call (.Name ("range":Str) p5) [.Constant (.int a) ka p6,.Constant (.int b) kb p7] [] p8] [] p9) p10] [] pos) p11 :: rest) (mainEnv p c F)) Q E s:=by
 refine wpAny_execs_cons (X.assign_obj hloc hx (fun Q' hq=> ?_) (fun h' mg' tk Y=>kk h' mg' tk Y) hb hmod rfl)
 refine wpAny_Call_ofName (dF hmod X.main.g hB m1 ((blt _ (by decide)).trans uk) ?_ (by decide))
 refine PyProof.Rows.callWith_type rfl (PySem.Calls.evalArgs_plain (PySem.Calls.spliced_cons (wpAny_BinOp (wpAny_List (tV _ fun vs tk hv=>⟨?_,?_⟩)))))
 ·have:=(hv s.heap fun _=>False).length
  rw [this,sizeLine_eq]
  have e:=congrArg List.length hl
  simp at e
  simp;omega
 ·let hp:=s.heap.push {cls:= .type "list",data:= .seq vs.toArray}
  have k1:Kq s.heap hp:=Kq.push _ _
  have sz1:hp.objs.size=s.heap.objs.size+1:=Heap.size_push ..
  have L1:hp.PlainList s.heap.objs.size vs.toArray:=⟨0,Heap.get?_push_size _ rfl⟩
  refine wpAny_Call_ofName (dF (s:={s with heap:=hp,toks:=tk}) hmod (X.main.g.keeps k1) (hB.keeps k1) m2 ((blt _ (by decide)).trans j6) ?_ (by decide))
  refine PyProof.Rows.callWith_type rfl (PySem.Calls.evalArgs_plain (PySem.Calls.spliced_cons ?_))
  refine wpAny_Call_ofName (dF (s:={s with heap:=hp,toks:=tk}) hmod (X.main.g.keeps k1) (hB.keeps k1) m3 ((blt _ (by decide)).trans eF) ?_ (by decide))
  refine PyProof.Rows.callWith_type rfl (PySem.Calls.evalArgs_plain (PySem.Calls.spliced_cons (wpAny_Constant_int (k:=ka) (pos:=p6) (PySem.Calls.spliced_cons (wpAny_Constant_int (k:=kb) (pos:=p7) (PySem.Calls.spliced_nil (call_range_2 ?_)))))))
  refine PySem.Calls.spliced_nil ?_
  have hsz:Builtin.Range.rangeSize a b 1=((b - a).toNat:Int):=by rw [rangeSize_one];split<;>omega
  refine call_list_range hh (IsRange.new _ a b 1 _ _ _) (small_one (by omega) (by omega) (by omega) (by omega)) hsz (by omega) fun h2 tk2 acc cc k2 hl2 hit=> ?_
  have sz2:hp.objs.size+1<h2.objs.size:=by
   have:=Heap.lt_size hl2
   rw [Heap.size_push] at this;exact this
  have k2':Kq hp h2:=Kq.trans (Kq.push _ _) k2
  have dl:∀ h X,DenL h X (((List.range (b - a).toNat).map (fun (i:Nat)=>a+(i:Int))).map .int) acc.toList:=fun h X=>DenL.of_get (by simpa using hit.1) fun i d hi=>by
   have hlt:=(List.getElem?_eq_some_iff.mp hi).1
   simp at hlt
   rw [List.getElem?_map,List.getElem?_map,List.getElem?_range (by omega)] at hi
   cases hi
   have hlt':i<acc.size:=by rw [hit.1];omega
   obtain ⟨tk,ht⟩:=hit.2 i acc[i] (Array.getElem?_eq_getElem hlt')
   refine ⟨acc[i],by rw [Array.getElem?_toList];exact Array.getElem?_eq_getElem hlt',tk,?_⟩
   rw [ht,Int.mul_one]
  have L2:h2.PlainList s.heap.objs.size vs.toArray:=PL.at' L1 fun o _=>k2' _ o
  have all:∀ h X,DenL h X (l.map .int) (vs++acc.toList):=fun h X=>by
   rw [hl,List.map_append]
   exact (hv h X).append (dl h X)
  have ll:(vs++acc.toList).length=l.length:=by have:=(all s.heap fun _=>False).length;rw [this,List.length_map]
  obtain ⟨c2,L2⟩:=L2
  refine PySem.P.add_list L2 hl2 ?_ (by rw [sizeLine_eq];simp at ll ⊢;omega)
  refine PySem.Calls.spliced_nil ?_
  refine call_set_list hh (items:=vs.toArray++acc) (ns:=l) ⟨_,Heap.get?_push_size _ rfl,rfl,_,rfl⟩ (sf (by simpa using all)) ?_ ?_
  ·simp at ll ⊢
   have:scanBound=2 ^ 24∨True:= .inr trivial
   have h2:2000<scanBound:=by decide
   omega
  ·intro h3 tk3 hset hk3
   obtain ⟨o,es,ep,t,e1,e2,e3,e4,e5,e6,e7,e8⟩:=hset
   have k3:Kq h2 h3:=fun bb o e=>hk3 bb o (by
    have:=Heap.lt_size e
    show bb<(h2.push _).objs.size
    rw [Heap.size_push];exact Nat.lt_succ_of_lt this) (Heap.get?_push_of_some _ e)
   refine hq _ o h3 tk3 ?_ e1 (fun h a' ha=>⟨_,o,es,ep,t,ha,e2,e3,e4,fun k=> ?_,e6,e7,e8⟩) ((k1.trans k2').trans k3)
   ·show s.heap.objs.size≤(h2.push _).objs.size
    rw [Heap.size_push];omega
   ·rw [← e5 k]
    have hs':(vs.toArray++acc).size=l.length:=by simpa using ll
    rw [hs',hfm]
    constructor
    ·intro h;rw [List.contains_iff_mem] at h
     exact List.any_eq_true.mpr ⟨k,h,by simp⟩
    ·intro h
     obtain ⟨x,hx,e⟩:=List.any_eq_true.mp h
     rw [List.contains_iff_mem,← beq_iff_eq.mp e];exact hx
end
end Mine
set_option genSizeOf false
set_option genInjectivity false
namespace Mine
section
variable {prog:Program} {w:World} {hB:Heap} {a:Addr} {o:Obj}
theorem xc {l:List Int} (s:Shared) (ho:s.heap.get? a=some o) (P:SetObj prog w l o) (A:Around) (E:Value→Shared→Prop) (i:Int) (t:Tok) (Q:Value→Shared→Prop) (hQ:∀ tk,Q (.bool (l.contains i)) {s with toks:=tk}) :
  wpAny (model prog w) A (compareOp .In (.int i t) (.ref a)) Q E s:=by
 obtain ⟨n,hs⟩:=P s.heap a ho
 exact wpAny_inSet_of (knd:=intKind prog w) (k:=i) gZ rfl hs (hQ _)
theorem sS {l:List (Int×Str)} (s:Shared) (ho':s.heap.get? a=some o) (ha:mainGlobals<a) (P:DictObj prog w l o):s.TypeIs (.ref a) "dict"∧(∃ ob,s.heap.get? a=some ob∧ob.dict=none) ∧
  ∀ (A:Around) (E:Value→Shared→Prop) (i:Int) (t:Tok) (Q:Value→Shared→Prop) (dv:Value),(∀ tk,match l.lookup i with |some v=>∀ t',Q (.str v t') {s with toks:=tk} |none=>Q dv {s with toks:=tk}) →
   wpAny (model prog w) A (call (.builtin "dict.get") [.ref a,.int i t,dv]) Q E s∧(dv = .none→wpAny (model prog w) A (call (.builtin "dict.get") [.ref a,.int i t]) Q E s):=by
 obtain ⟨es,ep,kvs,e1,e2,e3,e4,e5,e6⟩:=P
 have hT:s.TypeIs (.ref a) "dict":=⟨o,ho',e1.1⟩
 refine ⟨hT,⟨o,ho',e1.2.1⟩,fun A E i t Q dv hQ=> ?_⟩
 have hm:s.heap.DictOf (intKind prog w) a kvs:=⟨o,es,ep,ho',e1,e2,e3,e4,e5⟩
 have hmap:=hm.mapOf
 have hne:(a==sysModules)=false:=by
  rw [beq_eq_false_iff_ne];intro q;rw [q] at ha;exact absurd ha (by decide)
 have hk:(intKind prog w).is i (.int i t)=true:=gZ
 have hl:=e6.look i
 have fin:∀ tk,Q ((valueAt kvs i).getD dv) {s with toks:=tk}:=fun tk=>by
  have hq:=hQ tk
  rcases hl with ⟨e1,e2⟩ |⟨x,t,e1,e2⟩
  ·rw [e1] at hq;rw [e2];exact hq
  ·rw [e1] at hq;rw [e2];exact hq t
 refine ⟨call_meetsIn F.slot_dict_get hT F.entry_dict_get (F.args_dict_get_3 _ _ _) (meets_dict_get_default (intKind prog w) a hk hne dv) ⟨_,hmap,fin _⟩,fun q=> ?_⟩
 subst q
 exact call_meetsIn F.slot_dict_get hT F.entry_dict_get (F.args_dict_get_2 _ _) (meets_dict_get (intKind prog w) a hk hne) ⟨_,hmap,fin _⟩
end
theorem oW {prog:Program} {w:World} {h:Heap} {a:Addr} {o:Obj} {l:List Int} (ho:h.get? a=some o) (P:SetObj prog w l o):isTab o=false:=by
 obtain ⟨n,o',es,ep,t,e1,e2,e3,_⟩:=P h a ho
 obtain rfl:=sm (ho.symm.trans e1)
 exact dy e2.1 (by rw [e3];rfl)
end Mine
set_option genSizeOf false
set_option genInjectivity false
namespace Mine
variable [Tabs] [Frk]
inductive OD where
 |dict (l:List (Int×Str))
 |set (l:List Int)
noncomputable def OD.P (p:Program) (w:World):OD→Obj→Prop
 | .dict l=>DictObj p w l
 | .set l=>SetObj p w l
structure TS where
 defs:List DefItem
 consts:List (Str×PyData)
 objs:List (Str×OD)
 names:List Str
 line:Nat
noncomputable def TS.os (p:Program) (w:World) (t:TS):List (Str×(Obj→Prop)):=t.objs.map fun x=>(x.1,x.2.P p w)
noncomputable def isStrC:Const→Bool
 | .str _=>true
 |_=>false
noncomputable def kindV (v:Expr):Nat:=cond (v.ctorIdx==19) (cond (isStrC (cOf v)) 1 0) (cond (v.ctorIdx==6) 2 3)
noncomputable def keysE (v:Expr):List Expr:=(kids v).take (numE v)
noncomputable def valsE (v:Expr):List Expr:=(kids v).drop (numE v)
noncomputable def setS:Str:="set"
noncomputable def sumE (v:Expr):Expr:=kid 1 v
noncomputable def lstE (v:Expr):Expr:=kid 0 (sumE v)
noncomputable def lcE (v:Expr):Expr:=kid 1 (sumE v)
noncomputable def rngE (v:Expr):Expr:=kid 1 (lcE v)
noncomputable def setE' (v:Expr):Expr:= .Call (.Name setS (kid 0 v).pos) [.BinOp (.List ((kids (lstE v)).map intE) (lstE v).pos) .Add (.Call (.Name listS (kid 0 (lcE v)).pos) [.Call (.Name rangeS (kid 0 (rngE v)).pos) [intE (kid 1 (rngE v)),intE (kid 2 (rngE v))] [] (rngE v).pos] [] (lcE v).pos) (sumE v).pos] [] v.pos
noncomputable def setL (v:Expr):List Int:=(kids (lstE v)).map cI++(List.range (cI (kid 2 (rngE v)) - cI (kid 1 (rngE v))).toNat).map (fun (i:Nat)=>cI (kid 1 (rngE v))+(i:Int))
noncomputable def rebV (v:Expr):Expr:=match kindV v with
 |0=>intE v
 |1=>strE v
 |2=> .Dict ((keysE v).map fun k=>some (intE k)) ((valsE v).map strE) v.pos
 |_=>setE' v
noncomputable def nmOf:Expr→Str
 | .Name x _=>x
 |_=>Str.empty
noncomputable def rebS (st:Stmt):Stmt:=cond (st.ctorIdx==0) (mkDef (itemOf st)) (.Assign [.Name (nmOf (skid 1 st)) (skid 1 st).pos] (rebV (skid 0 st)) st.pos)
noncomputable def dictOk (l:List (Int×Str)):Bool:=ascend l&&decide (l.length≤sizeLine) && !l.isEmpty
noncomputable def mid (a:Int):Bool:=decide (-1000000000<a)&&decide (a<1000000000)
noncomputable def setOk (names:List Str) (a b:Int) (l:List Int):Bool:= !names.contains setS && !names.contains listS && !names.contains rangeS&&mid a&&mid b&&decide ((b - a).toNat<1000)&&decide (l.length<1000)&&decide (firstMet (fun i=>l.getD i 0) l.length=l)
noncomputable def TS.obj (t:TS) (x:Str) (o:OD):TS:={t with objs:=(x,o) :: t.objs,names:=x :: t.names}
noncomputable def TS.cst (t:TS) (x:Str) (d:PyData):TS:={t with consts:=(x,d) :: t.consts,names:=x :: t.names}
noncomputable def stepV (t:TS) (x:Str) (v:Expr):Option TS:=match kindV v with
 |0=>some (t.cst x (.int (cI v)))
 |1=>some (t.cst x (.str (cS v)))
 |2=>if dictOk (dictLit (keysE v) (valsE v)) then some (t.obj x (.dict (dictLit (keysE v) (valsE v)))) else none
 |_=>if setOk t.names (cI (kid 1 (rngE v))) (cI (kid 2 (rngE v))) (setL v) then some (t.obj x (.set (setL v))) else none
noncomputable def stepA (t:TS) (x:Str) (v:Expr):Option TS :=
 if x==("__name__":Str) then (if kindV v=1 then some t else none)
 else if t.names.contains x || x==("__builtins__":Str) then none else stepV t x v
noncomputable def TS.def (t:TS) (d:DefItem):TS:={t with defs:=⟨d.name,plainPar d.params,d.body,d.scope,d.pos⟩ :: t.defs,names:=d.name :: t.names,line:=d.pos.line+1}
noncomputable def stepT (main:Scope) (t:TS) (st:Stmt):Option TS:=cond (st.ctorIdx==0) (if isPlain main t.names t.line (itemOf st) then some (t.def (itemOf st)) else none)
 (if main.names.lookup (nmOf (skid 1 st))==some .local then stepA t (nmOf (skid 1 st)) (skid 0 st) else none)
noncomputable def runT (main:Scope):TS→List Stmt→Option TS
 |t,[]=>some t
 |t,s :: r=>(stepT main t s).bind fun t'=>runT main t' r
section
variable {p:Program} {w:World} {A:Around} {c Pl F:Addr} {h₀:Heap} {Q:Flow→Shared→Prop} {mb:Str→Option Value}
structure Tp (p:Program) (w:World) (c Pl:Addr) (h₀:Heap) (mg0:Str→Option Value) (s:Shared) (t:TS) (mg₀ mg:Str→Option Value) (ps:Array Value):Prop where
 X:Mod h₀ mg₀ c Pl s.heap mg ps t.defs t.consts (t.os p w) t.names
 T:Trip t.line ps.toList
 N:("__name__":Str)∉t.names
 m:∀ x:Str,x≠"__name__"→mg₀ x=mg0 x
theorem tZ (hmod:p.main.scope.kind = .module) (hh:A.handled=none) (hB:h₀.Ns builtinsNs mb) (blt:∀ x:Str,x≠"__name__"→mb x=bootBuiltins x) {mg0:Str→Option Value} (oth:∀ x,x∉bootMainNames→mg0 x=none) {s:Shared} {mg₀ mg:Str→Option Value} {ps:Array Value} {t t1:TS} {x:Str} {v:Expr} {p1 pos:Pos} {rest:List Stmt}
  (K:Tp p w c Pl h₀ mg0 s t mg₀ mg ps) (hloc:p.main.scope.names.lookup x=some .local) (hnm:x≠"__name__") (hnew:x∉t.names) (hb:x≠"__builtins__") (hv:stepV t x v=some t1)
  (k:∀ h' mg' tk,Tp p w c Pl h₀ mg0 {s with heap:=h',toks:=tk} t1 mg₀ mg' ps→wpAny (model p w) A (execs rest (mainEnv p c F)) Q (fun _ _=>False) {s with heap:=h',toks:=tk}) :
  wpAny (model p w) A (execs (.Assign [.Name x p1] (rebV v) pos :: rest) (mainEnv p c F)) Q (fun _ _=>False) s:=by
 have hN':("__name__":Str)∉x :: t.names:=fun q=>(List.mem_cons.mp q).elim (fun e=>hnm e.symm) K.N
 unfold stepV at hv
 unfold rebV
 generalize kindV v=kd at *
 match kd with
 |0 =>
  obtain rfl:=sm hv
  exact rT hmod hloc K.X hnew hb fun h' mg' tk X'=>k h' mg' tk ⟨X',K.T,hN',K.m⟩
 |1 =>
  obtain rfl:=sm hv
  exact tX hmod hloc K.X hnew hb fun h' mg' tk X'=>k h' mg' tk ⟨X',K.T,hN',K.m⟩
 |2 =>
  refine gd hv fun hc hv=>aa hc fun hc c3=>aa hc fun c1 c2=> ?_
  obtain rfl:=sm hv
  exact qe hmod hloc K.X hnew hb c1 (of_decide_eq_true c2) (fun q=>by rw [q] at c3;exact nomatch c3) fun h' mg' tk X'=>k h' mg' tk ⟨X',K.T,hN',K.m⟩
 |n+3 =>
  refine gd hv fun hc hv=>aa hc fun hc c7=>aa hc fun hc c6=>aa hc fun hc c5=>aa hc fun hc c4=>aa hc fun hc c3=>aa hc fun hc n3=>aa hc fun n1 n2=>aa c3 fun a1 a2=>aa c4 fun b1 b2=> ?_
  obtain rfl:=sm hv
  have n0:∀ {y:Str},(!t.names.contains y)=true→y∉bootMainNames→mg y=none:=fun {y} h1 h2=>by
   rw [K.X.others y (l9 h1),K.m y fun q=>h2 (q▸by decide)];exact oth y h2
  have hBs:s.heap.Ns builtinsNs mb:=hB.at fun o=>K.X.keep _ o (Nat.ne_of_lt (Nat.lt_trans (by decide) K.X.main.low.2)) (by decide)
  exact tS hmod hloc K.X hnew hb hBs blt (n0 n1 (by decide)) (n0 n2 (by decide)) (n0 n3 (by decide)) hh ⟨of_decide_eq_true a1,of_decide_eq_true a2,of_decide_eq_true b1,of_decide_eq_true b2,of_decide_eq_true c5⟩ rfl (of_decide_eq_true c6) (of_decide_eq_true c7) fun h' mg' tk X'=>k h' mg' tk ⟨X',K.T,hN',K.m⟩
theorem sK (hmod:p.main.scope.kind = .module) (hh:A.handled=none) (hB:h₀.Ns builtinsNs mb) (blt:∀ x:Str,x≠"__name__"→mb x=bootBuiltins x) {mg0:Str→Option Value} (oth:∀ x,x∉bootMainNames→mg0 x=none) (sts:List Stmt) :
  ∀ {s:Shared} {mg₀ mg:Str→Option Value} {ps:Array Value} {t t':TS},sts.map rebS=sts→runT p.main.scope t sts=some t'→Tp p w c Pl h₀ mg0 s t mg₀ mg ps →
  (∀ h' mgN mg' ps' tk,(∀ x:Str,x≠"__name__"→mgN x=mg0 x)→Mod h₀ mgN c Pl h' mg' ps' t'.defs t'.consts (t'.os p w) t'.names→Q .next {s with heap:=h',toks:=tk}) →
  wpAny (model p w) A (execs sts (mainEnv p c F)) Q (fun _ _=>False) s:=by
 induction sts with
 |nil =>
  intro s mg₀ mg ps t t' _ h K k
  obtain rfl:=sm h
  exact wpAny_pure (k _ mg₀ mg ps s.toks K.m K.X)
 |cons st sts ih =>
  intro s mg₀ mg ps t t' hr h K k
  obtain ⟨r1,r2⟩:=List.cons.inj hr
  refine ae h fun t1 hs h=> ?_
  rw [← r1]
  unfold stepT at hs
  unfold rebS
  cases hst:st.ctorIdx==0 with
  |true =>
   rw [hst] at hs
   refine gd hs fun hp hs=> ?_
   obtain rfl:=sm hs
   exact tz hmod K.X K.T K.N hp fun h' mg' ps' tk X' T' hN'=>ih (s:={s with heap:=h',toks:=tk}) r2 h ⟨X',T',hN',K.m⟩ k
  |false =>
   rw [hst] at hs
   refine gd hs fun hloc hs=> ?_
   have hloc:=beq_iff_eq.mp hloc
   show wpAny _ A (execs (.Assign [.Name (nmOf (skid 1 st)) _] (rebV (skid 0 st)) _ :: sts) _) _ _ _
   generalize nmOf (skid 1 st)=x at *
   generalize skid 0 st=v at *
   unfold stepA at hs
   by_cases hx:(x==("__name__":Str))=true
   ·rw [if_pos hx] at hs
    refine gd hs fun hk hs=> ?_
    obtain rfl:=sm hs
    obtain rfl:=beq_iff_eq.mp hx
    unfold rebV
    rw [hk]
    exact pP hmod hloc K.X K.N fun h' mgN mg' tk hn X'=>ih (s:={s with heap:=h',toks:=tk}) r2 h ⟨X',K.T,K.N,fun y hy=>(hn y hy).trans (K.m y hy)⟩ k
   ·rw [if_neg hx] at hs
    refine fb hs fun hf hs=>jw hf fun f1 f2=> ?_
    exact tZ hmod hh hB blt oth K hloc (fun q=>hx (beq_iff_eq.mpr q)) (fun q=>nomatch (List.contains_iff_mem.mpr q).symm.trans f1) (beq_eq_false_iff_ne.mp f2) hs fun h' mg' tk K'=>ih (s:={s with heap:=h',toks:=tk}) r2 h K' k
theorem ro (hmod:p.main.scope.kind = .module) {t:TS} (hr:p.main.body.map rebS=p.main.body) (h:runT p.main.scope ⟨[],[],[],[],0⟩ p.main.body=some t):Walked p w t.defs t.consts (t.os p w) t.names:=by
 intro s mg mb c Pl F A Q ar X hb blt oth k
 exact sK hmod ar.hd hb blt oth p.main.body hr h ⟨X,.nil,List.not_mem_nil,fun _ _=>rfl⟩ k
end
end Mine
set_option genSizeOf false
set_option genInjectivity false
namespace Mine
noncomputable def OD.set? : OD→Option (List Int)
 | .set l=>some l
 | .dict _=>none
noncomputable def OD.dict? : OD→Option (List (Int×Str))
 | .dict l=>some l
 | .set _=>none
noncomputable def pyD:PyData→Option D
 | .int i=>some (.int i)
 | .str y=>some (.str y)
 |_=>none
noncomputable def gOf (t:TS):af where
 const:=fun x=>(t.consts.lookup x).bind pyD
 iset:=fun x=>(t.objs.lookup x).bind OD.set?
 idict:=fun x=>(t.objs.lookup x).bind OD.dict?
structure fE where
 name:Str
 tbl:List Str
 code:S
noncomputable def parsOf (a:Arguments):List Str:=a.args.map (·.arg)
noncomputable def findD (t:TS) (x:Str):Option DefItem:=t.defs.find? (fun d=>d.name==x)
noncomputable def atT (c:Cx) (tb:List Str):Cx:={c with tbl:=tb}
noncomputable def mkFn (t:TS) (s:fE):Fn:={name:=s.name,ps:=(findD t s.name).elim [] fun d=>parsOf d.params,tbl:=s.tbl,code:=s.code}
noncomputable def nodupB:List Str→Bool
 | []=>true
 |x :: r=> !r.contains x&&nodupB r
theorem bC:∀ {l:List Str},nodupB l=true→l.Nodup
 | [],_=>List.nodup_nil
 |x :: r,h=>aa h fun h1 h2=>List.nodup_cons.mpr ⟨l9 h1,bC h2⟩
noncomputable def defB (c:Cx) (tb:List Str) (d:DefItem):Bool:=d.scope.kind == .function && !d.scope.isGenerator && !d.scope.isCoroutine&&tb.take (parsOf d.params).length==parsOf d.params&&(parsOf d.params).all (fun x=>storable d.scope x)&&nodupB tb &&
  d.scope.names.all (fun x=> !(x.2 == .free))&&tb.all (fun x=>dbg x&&dcl x)
noncomputable def sigB (c:Cx) (s:fE) (d:DefItem):Bool:=defB c s.tbl d&&codeB (atT c s.tbl) d.scope s.code d.body
noncomputable def sigOk (c:Cx) (t:TS) (s:fE):Bool:=(findD t s.name).elim false (sigB c s)
noncomputable def bodyOf (t:TS) (s:fE):List Stmt:=(findD t s.name).elim [] fun d=>d.body
noncomputable def bodyU (c:Cx) (t:TS) (s:fE):List Stmt:=(findD t s.name).elim [] fun d=>(unS (atT c s.tbl) d.scope s.code d.body).2
theorem gL {x:Str}:∀ {ns:List Str} {vs:List Value},ns.length=vs.length→x∈ns→∃ v,(ns.zip vs).lookup x=some v
 |n :: ns,v :: vs,hl,hx=>by
  rw [List.zip_cons_cons,List.lookup_cons]
  by_cases h:x=n
  ·subst h;exact ⟨v,by simp⟩
  ·have:(x==n)=false:=by simpa using h
   rw [this]
   rcases List.mem_cons.mp hx with e |e
   ·exact absurd e h
   ·exact gL (by simpa using hl) e
 | [],_,_,hx=>by cases hx
 |_ :: _,[],hl,_=>by simp at hl
theorem kS {f g:Str→Option (Str×Value)}:∀ {l:List Str},(∀ x∈l,f x=g x)→l.filterMap f=l.filterMap g
 | [],_=>rfl
 |x :: r,h=>by
  rw [List.filterMap_cons,List.filterMap_cons,h x List.mem_cons_self,kS fun y hy=>h y (List.mem_cons_of_mem _ hy)]
theorem eO:∀ {ns:List Str} {vs:List Value},ns.Nodup→ns.length=vs.length→ns.filterMap (fun n=>((ns.zip vs).lookup n).map (n,·))=ns.zip vs
 | [],vs,_,_=>by simp
 |n :: ns,v :: vs,nd,hl=>by
  obtain ⟨h1,h2⟩:=List.nodup_cons.mp nd
  have ih:=eO (vs:=vs) h2 (by simpa using hl)
  rw [List.zip_cons_cons,List.filterMap_cons]
  have e:(List.lookup n ((n,v) :: ns.zip vs))=some v:=by rw [List.lookup_cons];simp
  rw [e]
  simp only [Option.map_some]
  congr 1
  refine Eq.trans (kS fun x hx=> ?_) ih
  have hne:(x==n)=false:=by
   rw [beq_eq_false_iff_ne];rintro rfl;exact h1 hx
  rw [List.lookup_cons,hne]
 |_ :: _,[],_,hl=>by simp at hl
theorem f0 {fd:FuncData} {as:List Arg} (hp:fd.params=⟨[],as,none,[],[],none,[]⟩) (hd:fd.defaults = .none) (nd:(as.map (·.arg)).Nodup) (vs:List Value) (hl:vs.length=(as.map (·.arg)).length) :
  bindArgs fd ⟨vs,[]⟩=pure ((as.map (·.arg)).zip vs):=by
 unfold bindArgs
 simp only [hp,hd,List.map_nil,List.nil_append,List.append_nil,List.forIn_nil]
 generalize as.map (·.arg)=ns at nd hl ⊢
 have hs:seqItems? Value.none=pure none:=rfl
 have hmiss:(List.filter (fun n=>(List.lookup n (ns.zip vs)).isNone) ns)=[]:=by
  rw [List.filter_eq_nil_iff]
  intro x hx
  obtain ⟨v,hv⟩:=gL hl.symm hx
  rw [hv];simp
 rw [pure_bind,hs,pure_bind]
 rw [if_neg (by simp [hl])]
 simp only [Option.getD_none,List.drop_nil,List.length_nil,Nat.sub_zero,List.take_length,hmiss,List.isEmpty_nil,Bool.not_true,Bool.false_eq_true,if_false,List.zip_nil_right,List.forIn_nil,pure_bind,eO nd hl.symm]
theorem iJ {name:Str} {as:List Arg} {body:List Stmt} {sc:Scope} (nd:(as.map (·.arg)).Nodup) (pm cd doc:Value) (vs:List Value) (hl:vs.length=(as.map (·.arg)).length) :
  bindArgs (Calls.docDef name ⟨[],as,none,[],[],none,[]⟩ body sc pm cd doc) ⟨vs,[]⟩=pure ((as.map (·.arg)).zip vs):=f0 rfl rfl nd vs hl
variable [Tabs] [Frk]
theorem bJ {t:TS} {consts:List (Str×PyData)} {objs:List (Str×(Obj→Prop))} {names:List Str} {mg mb:Str→Option Value} {h:Heap} (T:TopAt t.defs consts objs names mg mb h) {x:Str} {d:DefItem} (hd:findD t x=some d) {a:Addr} (ha:mg x=some (.ref a)):DefAt h a x d.params d.body d.scope:=by
 have hm:=List.mem_of_find?_eq_some hd
 have hn:=List.find?_some hd
 obtain rfl:d.name=x:=beq_iff_eq.mp hn
 obtain ⟨a',h1,h2⟩:=T.made d hm
 rw [Value.ref.inj (sm (ha.symm.trans h1))];exact h2
theorem fS {c:Cx} {tb:List Str} {d:DefItem} (hs:defB c tb d=true) {name:Str} (hp:d.params=plainPar d.params):eM (atT c tb) (parsOf d.params) name d.params d.body d.scope :=
 aa hs fun hs g8=>aa hs fun hs g7=>aa hs fun hs g6=>aa hs fun hs g5=>aa hs fun hs g4=>aa hs fun hs g3=>aa hs fun g1 g2=>⟨beq_iff_eq.mp g1,nt g2,nt g3,beq_iff_eq.mp g4,fun x hx=>List.all_eq_true.mp g5 x hx,bC g6,fun x q=>(by have:=List.all_eq_true.mp g7 _ (PySem.mem_of_lookup q);exact nomatch this),g8,fun pm cd doc vs hl=>by
  rw [hp] at hl g4 ⊢
  exact iJ (show (parsOf (plainPar d.params)).Nodup by rw [← beq_iff_eq.mp g4];exact (List.take_sublist _ _).nodup (bC g6)) pm cd doc vs hl⟩
theorem zT {p:Program} {w:World} {t:TS} {names:List Str} {mg mb:Str→Option Value} {h:Heap} (T:TopAt t.defs t.consts (t.os p w) names mg mb h) (c:Cx) {s:fE} (hs:sigOk c t s=true) (hu:bodyU c t s=bodyOf t s) (hp:∀ d∈t.defs,d.params=plainPar d.params):FnOk c h mg (mkFn t s):=by
 unfold sigOk at hs
 unfold bodyU bodyOf at hu
 unfold mkFn
 cases hd:findD t s.name with
 |none=>rw [hd] at hs;exact nomatch hs
 |some d =>
  rw [hd] at hs hu
  exact aa hs fun q1 q2=>⟨d.params,d.body,d.scope,fS q1 (hp d (List.mem_of_find?_eq_some hd)),fun a ha=>bJ T hd ha,q2,hu⟩
theorem wS {d:PyData} {e:D} {v:Value} {h:Heap} {X:Addr→Prop} (hd:pyD d=some e) (iv:IsDatum v d):e.scalar=true∧Den h X e v:=by
 cases iv {} with
 |int i t=>exact sm hd▸⟨rfl,_,rfl⟩
 |str y t=>exact sm hd▸⟨rfl,_,rfl⟩
 |_=>exact ah hd
theorem xo {p:Program} {w:World} {t:TS} {mg mb:Str→Option Value} {h:Heap} (hfa:∀ b,Al h b→¬ Tabs.fa b) (T:TopAt t.defs t.consts (t.os p w) t.names mg mb h) (c:Cx) (hb:bnames.all (fun x=> !t.names.contains x)=true) (hf:c.fns.all (fun x=>(findD t x).isSome)=true) (hnd:(c.sets++c.dicts).all (fun x=> !(x==("__debug__":Str)))=true) :
  Base p w c (gOf t) h mg mb:=by
 have held:∀ {x:Str} {o:OD},t.objs.lookup x=some o→∃ a ob,mainGlobals<a∧mg x=some (.ref a)∧h.get? a=some ob∧o.P p w ob:=fun {x o} hl=>T.held (x,o.P p w) (List.mem_map.mpr ⟨_,PySem.mem_of_lookup hl,rfl⟩)
 have nb:∀ x∈bnames,x∉bootMainNames∧x≠"__name__":=by decide
 refine ⟨T.g,T.b,fun x hx=>⟨T.oth x (l9 (List.all_eq_true.mp hb x hx)) (nb x hx).1,T.blt x (nb x hx).2⟩,fun x d hx hd=> ?_,fun x l hx hl=> ?_,fun x l hx hl=> ?_,fun x hx=>nt (List.all_eq_true.mp hnd x (List.mem_append.mpr hx)),fun x hx=> ?_⟩
 ·refine ae hd fun q hq hd=> ?_
  obtain ⟨v,hv,di⟩:=T.bound _ (PySem.mem_of_lookup hq)
  have:=wS (h:=h) (X:=fun _=>False) hd di
  exact ⟨this.1,v,hv,this.2⟩
 ·refine ae hl fun o ho hl=> ?_
  obtain ⟨a,ob,h0,h1,h2,h3⟩:=held ho
  cases o with
  |dict _=>exact ah hl
  |set l' =>
   obtain rfl:=sm hl
   exact ⟨a,h1,fun A E s i tk Q k hu hq=>xc s (k.ob h2 (oW h2 h3)) h3 A E i tk Q hq⟩
 ·refine ae hl fun o ho hl=> ?_
  obtain ⟨a,ob,h0,h1,h2,h3⟩:=held ho
  cases o with
  |set _=>exact ah hl
  |dict l' =>
   obtain rfl:=sm hl
   refine ⟨a,h1,fun s k=> ?_⟩
   obtain ⟨es,ep,kvs,e1,e2,_⟩:=id h3
   obtain ⟨g1,g2,g3⟩:=sS s ((k.kp a ob h2).obF e2 (hfa a ⟨ob,h2⟩)) h0 h3
   exact ⟨g1,g2,fun A E i tk Q dv _ hq=>g3 A E i tk Q dv hq⟩
 ·obtain ⟨d,hd⟩:=Option.isSome_iff_exists.mp (List.all_eq_true.mp hf x hx)
  have hn:=List.find?_some hd
  obtain rfl:d.name=x:=beq_iff_eq.mp hn
  obtain ⟨a,h1,h2⟩:=T.made d (List.mem_of_find?_eq_some hd)
  obtain ⟨o,pm,cd,doc,P,oc,vs,tt,e1,e2,_⟩:=h2.at'
  exact ⟨a,o,_,h1,e1,e2⟩
end Mine
set_option genSizeOf false
set_option genInjectivity false
namespace Mine
variable [Tabs] [Frk]
structure KD (D:Addr) (h h':Heap):Prop where
 kp:∀ b o,b≠D→h.get? b=some o→Gw h' b o
 cd:Cd h h'
theorem KD.trans {D:Addr} {a b c:Heap} (x:KD D a b) (y:KD D b c):KD D a c:=⟨fun i o n e=>(x.kp i o n e).then (fun o' e'=>y.kp i o' n e') y.cd,x.cd.trans y.cd⟩
theorem Kp.kd {a b:Heap} (k:Kp a b) (D:Addr):KD D a b:=⟨fun i o _ e=>k i o e,k.cd⟩
theorem KD.ns {D a:Addr} {h h':Heap} {m:Str→Option Value} (k:KD D h h') (n:h.Ns a m) (hn:a≠D):h'.Ns a m:=Ns.gw n fun o e=>k.kp a o hn e
theorem KD.cell {D a:Addr} {h h':Heap} {v:Option Value} (k:KD D h h') (n:h.IsCell a v) (hn:a≠D):h'.IsCell a v :=
 let ⟨o,e1,e2⟩:=n;⟨o,(k.kp a o hn e1).ob (cP e2),e2⟩
theorem KD.kpB {D:Addr} {hB h h':Heap} (k0:KB hB h) (hD:hB.get? D=none) (k:KD D h h'):KB hB h':=k0.cdt (fun b o e=>(k0.kp b o e).then (fun o' e'=>k.kp b o' (fun q=>ah (hD.symm.trans (q▸e))) e') k.cd) k.cd
theorem KD.atD {D:Addr} {h h':Heap} {items:Array Value} (pl:h.PlainList D items) (sb:Heap.SameBut D h h'):KD D h h' :=
 ⟨fun b o n e=> .inl (sb.extBut b o n e),Cd.sb (fun b o n e=>sb.extBut b o n e) (PL.nofields pl) fun d=>absurd d (PL.nodt pl)⟩
theorem Gr.kd {h h':Heap} {Mu Ex Mu' Ex':Addr→Prop} (g:Gr h Mu Ex Mu' Ex' h') (D:Addr) {h0:Heap} (k:KD D h0 h) (hn:∀ b,Mu b→h0.get? b=none):KD D h0 h' :=
 ⟨fun b o n e=>(k.kp b o n e).then (fun o' e'=>g.keep b o' (fun q=>ah ((hn b q).symm.trans e)) e') g.cd,k.cd.trans g.cd⟩
theorem Gr.kp0 {h h':Heap} {Mu Ex Mu' Ex':Addr→Prop} (g:Gr h Mu Ex Mu' Ex' h') {h0:Heap} (k:Kp h0 h) (hn:∀ b,Mu b→h0.get? b=none):Kp h0 h' :=
 fun b o e=>(k b o e).then (fun o' e'=>g.keep b o' (fun q=>ah ((hn b q).symm.trans e)) e') g.cd
structure Clo (h:Heap) (f:Addr) (qual:Str) (params:Arguments) (body:List Stmt) (sc:Scope) (cl:List (Str×Addr)) (cm:Str→Option Value):Prop where
 fo:∃ o doc pm cd ct oc vs t,h.get? f=some o∧o.data = .func (fnX "inner" qual params body sc cl .none .none doc pm none (.ref cd) ct)∧h.get? cd=some oc∧oc.cls = .type "code"∧oc.data = .fields vs∧vs[1]? = some (.str qual t)
 cell:∀ x c,cl.lookup x=some c→h.IsCell c (cm x)
 inj:∀ x y c,cl.lookup x=some c→cl.lookup y=some c→x=y
 has:∀ x,sc.names.lookup x=some .free→∃ c,cl.lookup x=some c
 fr:∀ x c,cl.lookup x=some c→sc.names.lookup x=some .free
section
variable {h h':Heap} {f D:Addr} {qual:Str} {params:Arguments} {body:List Stmt} {sc:Scope} {cl:List (Str×Addr)} {cm:Str→Option Value}
theorem Clo.to (C:Clo h f qual params body sc cl cm) (k:∀ b o,isTab o=false→h.get? b=some o→(∀ is n,o.data ≠ .seq is n)→h'.get? b=some o):Clo h' f qual params body sc cl cm:=by
 refine ⟨?_,fun x c e=> ?_,C.inj,C.has,C.fr⟩
 ·obtain ⟨o,doc,pm,cd,ct,oc,vs,t,e1,e2,e3,e4,e5,e6⟩:=C.fo
  exact ⟨o,doc,pm,cd,ct,oc,vs,t,k f o (bj e2) e1 (fun is n q=>nomatch e2.symm.trans q),e2,k cd oc (br e4 e5) e3 (fun is n q=>nomatch e5.symm.trans q),e4,e5,e6⟩
 ·obtain ⟨o,e1,e2⟩:=C.cell x c e
  exact ⟨o,k c o (cP e2) e1 (fun is n q=>nomatch e2.symm.trans q),e2⟩
theorem Clo.keep (C:Clo h f qual params body sc cl cm) (k:Kp h h'):Clo h' f qual params body sc cl cm:=C.to fun b o t e _=>k.ob e t
theorem Clo.kd (C:Clo h f qual params body sc cl cm) (k:KD D h h') {items:Array Value} (pl:h.PlainList D items):Clo h' f qual params body sc cl cm :=
 C.to fun b o t e n=>(k.kp b o (fun q=>let ⟨n0,l0⟩:=pl;n _ _ (congrArg Obj.data (sm (e.symm.trans (q▸l0))))) e).ob t
theorem Clo.nseq (C:Clo h f qual params body sc cl cm) {x:Str} {c:Addr} (e:cl.lookup x=some c) {items:Array Value} (pl:h.PlainList D items):c≠D:=fun q=>by
 obtain ⟨o,e1,e2⟩:=C.cell x c e
 obtain ⟨n0,l0⟩:=pl
 have e:Data.cell _=Data.seq _ _:=e2.symm.trans (congrArg Obj.data (sm (e1.symm.trans (q▸l0))))
 exact nomatch e
end
inductive FV (val:Str→Option Value) (h:Heap) (Ex:Addr→Prop):List Str→MEnv→Prop where
 |nil:FV val h Ex [] []
 |no {x:Str} {t:List Str} {σ:MEnv}:FV val h Ex t σ→FV val h Ex (x :: t) (none :: σ)
 |has {x:Str} {t:List Str} {σ:MEnv} {v:Value} {d:D}:val x=some v→Den h Ex d v→FV val h Ex t σ→FV val h Ex (x :: t) (some (d,false) :: σ)
theorem FV.get {val:Str→Option Value} {h:Heap} {Ex:Addr→Prop} {t:List Str} {σ:MEnv} (V:FV val h Ex t σ):∀ {i:Nat} {x:Str} {d:D} {b:Bool},t[i]? = some x→getE σ i=some (d,b)→∃ v,val x=some v∧DenV h Ex b d v∧b=false:=by
 induction V with
 |nil=>exact fun h1 _=>ah h1
 |no V ih =>
  intro i x d b h1 h2
  cases i with
  |zero=>exact ah h2
  |succ i=>exact ih h1 h2
 |has hv hd V ih =>
  intro i x d b h1 h2
  cases i with
  |zero =>
   obtain ⟨rfl,rfl⟩:=Prod.mk.inj (sm h2)
   exact ⟨_,sm h1▸hv,hd,rfl⟩
  |succ i=>exact ih h1 h2
noncomputable def hEx (env:Env):Addr→Prop:=fun b=>b=env.locals∨∃ x,env.cells.lookup x=some b
theorem FV.rr {env:Env} {m cm:Str→Option Value} {h:Heap} {tbl:List Str} {σ:MEnv} (ok:jI env) (F:FrM env h m cm) (nd:tbl.Nodup) (V:FV (valOf env m cm) h (hEx env) tbl σ):RR env tbl (hEx env) (fun _=>0) σ h:=by
 refine ⟨ok,nd,?_,⟨.inl rfl,fun x c hc=> .inr ⟨x,hc⟩⟩,m,cm,F,fun i x d b h1 h2 h3=> ?_⟩
 ·rintro b (e |⟨x,hx⟩)
  ·obtain ⟨o,_,_,ho,_⟩:=F.ns;exact ⟨o,e▸ho⟩
  ·obtain ⟨o,ho,_⟩:=F.cell x b hx;exact ⟨o,ho⟩
 ·obtain ⟨v,e1,e2,e3⟩:=V.get h1 h2
  exact ⟨v,e1,e2,fun q=>nomatch e3.symm.trans q⟩
noncomputable def onlyL (env:Env):Addr→Prop:=fun b=>b=env.locals
theorem FV.sr {env:Env} {m cm:Str→Option Value} {h:Heap} {tbl:List Str} {σ:MEnv} (ok:jI env) (F:FrM env h m cm) (nd:tbl.Nodup) (nc:∀ x c,env.cells.lookup x=some c→env.scope.names.lookup x=some .free) (V:FV (valOf env m cm) h (hEx env) tbl σ):SR env tbl (onlyL env) (hEx env) (fun _=>0) σ h:=by
 have no:∀ {i:Nat} {x:Str} {d:D} {P:Prop},tbl[i]? = some x→getE σ i=some (d,true)→P:=fun h1 h2=>let ⟨_,_,_,e⟩:=V.get h1 h2;nomatch e
 refine ⟨V.rr ok F nd,fun b e=> .inl e,⟨rfl,fun n c sn hc=> ?_⟩,fun i x d h1 _ h2=>no h1 h2,fun i j x y d e h1 _ _ _ h2 _ _=>no h1 h2⟩
 unfold storable at sn
 rw [nc n c hc] at sn
 exact nomatch sn
noncomputable def innB (sc:Scope) (tbl ps:List Str):Bool:=sc.kind == .function && !sc.isGenerator && !sc.isCoroutine&&sc.names.all (fun x=> !(x.2 == .cell))&&ps.all (fun x=>sc.names.lookup x==some .local)&&nodupB tbl&&nodupB ps
noncomputable def valS (sc:Scope) (m cm:Str→Option Value) (x:Str):Option Value:=valK (m x) (cm x) (sc.names.lookup x)
noncomputable def parM (ps:List Str) (vs:List Value):Str→Option Value:=fun x=>(ps.zip vs).reverse.lookup x
theorem lm (off:Frk.fs=none) {prog:Program} {w:World} {hB:Heap} {n:Nat} (lim:hB.NoLimit) {sc:Scope} {tbl ps:List Str} (I:innB sc tbl ps=true) {as:List Arg} (hps:as.map (·.arg)=ps) {A:Around} {s:Shared} {f:Addr} {fd:FuncData} {body:List Stmt} {cm:Str→Option Value} {vs:List Value} {o:Obj}
  (e1:s.heap.get? f=some o) (e2:o.data = .func fd) (hp:fd.params=⟨[],as,none,[],[],none,[]⟩) (hd:fd.defaults = .none) (hb:fd.body = .stmts body) (hsc:fd.scope=sc) (hgl:(callEnv fd s.heap.objs.size f).globals=mainGlobals) (hbl:(callEnv fd s.heap.objs.size f).builtins=builtinsNs) (hcr:s.heap.CodeRec fd.code fd.qualname)
  (cell:∀ x c,(callEnv fd s.heap.objs.size f).cells.lookup x=some c→s.heap.IsCell c (cm x)) (inj:∀ x y c,(callEnv fd s.heap.objs.size f).cells.lookup x=some c→(callEnv fd s.heap.objs.size f).cells.lookup y=some c→x=y)
  (has:∀ x,sc.names.lookup x=some .free→∃ c,(callEnv fd s.heap.objs.size f).cells.lookup x=some c) (fr:∀ x c,(callEnv fd s.heap.objs.size f).cells.lookup x=some c→sc.names.lookup x=some .free)
  (kp:KB hB s.heap) (ar:Ar (n+1) A) (hl:vs.length=ps.length) {σ:MEnv} (V:∀ h Ex,Kp s.heap h→(∀ b,Ex b→s.heap.get? b=none∨∃ x,(callEnv fd s.heap.objs.size f).cells.lookup x=some b)→FV (valS sc (parM ps vs) cm) h Ex tbl σ)
  {E:Value→Shared→Prop} {Q:Value→Shared→Prop}
  (P:∀ env h tk,env=callEnv fd s.heap.objs.size f→SR env tbl (onlyL env) (hEx env) (fun _=>0) σ h→h.Ns env.locals (parM ps vs)→Kp s.heap h→s.heap.get? env.locals=none→Ar n (A.deeper env) →
   wpAny (model prog w) (A.deeper env) (execs body env) (fun f s'=>Q (match f with | .ret v=>v |_=> .none) s') (fun e s'=>wpAny (model prog w) (A.deeper env) (leaving env e) (fun _ s''=>E e s'') (fun e' s''=>E e' s'') s') {s with heap:=h,toks:=tk}) :
  wpAny (model prog w) A (call (.ref f) vs) Q E s:=by
 refine aa I fun I g7=>aa I fun I g6=>aa I fun I g5=>aa I fun I g4=>aa I fun I g3=>aa I fun g1 g2=> ?_
 subst hsc
 refine wpAny_call (codeAny_call_plain (fd:=fd) (binds:=ps.zip vs) (Nat.lt_of_le_of_lt (Nat.le_trans (Nat.le_add_right _ _) ar.depth) (by decide)) e1 e2 (let ⟨mc,y,z⟩:=lim;⟨mc,kp.ns y,z⟩) hcr hb ?_ ?_ ?_ ?_ (nt g3) (nt g2) (beq_iff_eq.mp g1))
 ·rw [← hps];exact f0 hp hd (hps▸bC g7) vs (hl.trans (congrArg _ hps.symm))
 ·intro x hx q
  have:=nt (List.all_eq_true.mp g4 x hx)
  rw [q] at this
  exact nomatch this
 ·exact fun y hy=>beq_iff_eq.mp (List.all_eq_true.mp g5 _ (List.of_mem_zip (a:=y.1) (b:=y.2) hy).1)
 ·intro h₀ hns0 hk0
  have k:Kp s.heap h₀:= .of hk0
  have hn:s.heap.get? (callEnv fd s.heap.objs.size f).locals=none:=aJ _
  have cell0:=fun x c e=>k.cell (cell x c e)
  have hF:FrM (callEnv fd s.heap.objs.size f) h₀ (parM ps vs) cm:=⟨hns0,cell0,fun x c e q=>let ⟨o,g1,_⟩:=cell x c e;ah (hn.symm.trans (q▸g1)),inj,fun x hx=>hx.elim (fun q=>by
   have:=nt (List.all_eq_true.mp g4 _ (PySem.mem_of_lookup q))
   exact nomatch this) (has x)⟩
  have VV:FV (valOf (callEnv fd s.heap.objs.size f) (parM ps vs) cm) h₀ (hEx (callEnv fd s.heap.objs.size f)) tbl σ:=V h₀ _ k fun b e=>e.elim (fun e=> .inl (e▸hn)) .inr
  exact P _ h₀ _ rfl (VV.sr ⟨beq_iff_eq.mp g1,hgl,hbl⟩ hF (bC g6) fr) hns0 k hn (ar.deep off _)
theorem Clo.call (off:Frk.fs=none) {prog:Program} {w:World} {hB:Heap} {n:Nat} (lim:hB.NoLimit) {sc:Scope} {tbl ps:List Str} (I:innB sc tbl ps=true) {as:List Arg} (hps:as.map (·.arg)=ps) {A:Around} {s:Shared} {f:Addr} {qual:Str} {body:List Stmt} {cl:List (Str×Addr)} {cm:Str→Option Value} {vs:List Value}
  (C:Clo s.heap f qual ⟨[],as,none,[],[],none,[]⟩ body sc cl cm) (kp:KB hB s.heap) (ar:Ar (n+1) A) (hl:vs.length=ps.length) {σ:MEnv} (V:∀ h Ex,Kp s.heap h→(∀ b,Ex b→s.heap.get? b=none∨∃ x,cl.lookup x=some b)→FV (valS sc (parM ps vs) cm) h Ex tbl σ)
  {E:Value→Shared→Prop} {Q:Value→Shared→Prop}
  (P:∀ env h tk E',env.cells=cl→env.scope=sc→SR env tbl (onlyL env) (hEx env) (fun _=>0) σ h→Kp s.heap h→s.heap.get? env.locals=none→Ar n (A.deeper env) →
   wpAny (model prog w) (A.deeper env) (execs body env) (fun f s'=>Q (match f with | .ret v=>v |_=> .none) s') E' {s with heap:=h,toks:=tk}) :
  wpAny (model prog w) A (PySem.call (.ref f) vs) Q E s:=by
 obtain ⟨o,doc,pm,cd,ct,oc,vc,t,e1,e2,e3,e4,e5,e6⟩:=C.fo
 exact lm off lim I hps e1 e2 rfl rfl rfl rfl rfl rfl ⟨cd,oc,vc,t,rfl,e3,e5,e6⟩ C.cell C.inj C.has C.fr kp ar hl V fun env h tk he S _ k hn ar'=>P env h tk _ (he▸rfl) (he▸rfl) S k hn ar'
end Mine
set_option genSizeOf false
set_option genInjectivity false
namespace Mine
theorem vw (x k:Nat):x &&& (x / 2 ^ k * 2 ^ k)=x / 2 ^ k * 2 ^ k:=by
 apply Nat.eq_of_testBit_eq
 intro i
 rw [Nat.testBit_and,← Nat.shiftRight_eq_div_pow,← Nat.shiftLeft_eq,Nat.testBit_shiftLeft,Nat.testBit_shiftRight]
 by_cases h:k≤i
 ·rw [show k+(i - k)=i by omega];simp [h]
 ·simp [h]
theorem vV {x:Int} (k:Nat) (h:0≤x):Builtin.bitXor x (x.fdiv (2 ^ k) * 2 ^ k)=x.fmod (2 ^ k):=by
 obtain ⟨a,rfl⟩:=Int.eq_ofNat_of_zero_le h
 have hp:(0:Int)≤2 ^ k:=Int.le_of_lt (Int.pow_pos (by decide))
 have e1:(a:Int).fdiv (2 ^ k)=((a / 2 ^ k:Nat):Int):=by
  rw [Int.fdiv_eq_ediv_of_nonneg _ hp];simp
 have e2:(a:Int).fmod (2 ^ k)=((a % 2 ^ k:Nat):Int):=by
  rw [Int.fmod_eq_emod_of_nonneg _ hp];simp
 have e3:((a / 2 ^ k:Nat):Int) * 2 ^ k=((a / 2 ^ k * 2 ^ k:Nat):Int):=by simp
 rw [e1,e2,e3,bitXor_and]
 have e4:Builtin.bitAnd (a:Int) ((a / 2 ^ k * 2 ^ k:Nat):Int)=((a / 2 ^ k * 2 ^ k:Nat):Int):=by
  unfold Builtin.bitAnd
  rw [decide_eq_true (Int.natCast_nonneg _),decide_eq_true (Int.natCast_nonneg _)]
  simp only [Int.toNat_natCast,vw]
 rw [e4]
 have:=Nat.div_add_mod a (2 ^ k)
 rw [Nat.mul_comm] at this
 omega
end Mine
set_option genSizeOf false
set_option genInjectivity false
namespace Mine
theorem ao {G:af} {F:FEnv} {σ σ1:MEnv} {a b:S} {r:Option (MEnv×Out)} (h:ex G F σ a=some (σ1,.next)) (k:ex G F σ1 b=r):ex G F σ (.seq a b)=r:=ad h k
theorem cY {G:af} {F:FEnv} {σ:MEnv} {i:Nat} {e:T} {d:D} (h:ev G F σ false e=some d):ex G F σ (.asg i false e)=some (setE σ i d false,.next):=ad h rfl
theorem mT {G:af} {F:FEnv} {σ:MEnv} {i:Nat} {e:T} {d:D} (h:ev G F σ false e=some d) (hf:freshT e d=true):ex G F σ (.asg i true e)=some (setE σ i d true,.next):=ad h (by rw [hf];rfl)
theorem ag {G:af} {F:FEnv} {σ:MEnv} {b:Bool} {op:Operator} {a c:T} {x y d:D} (h1:ev G F σ true a=some x) (h2:ev G F σ true c=some y) (h:binD op x y=some d):ev G F σ b (.bin op a c)=some d:=ad h1 (ad h2 h)
theorem aD {G:af} {F:FEnv} {σ:MEnv} {b:Bool} {a r:T} {x:D} {xs:List D} (h1:ev G F σ b a=some x) (h2:ev G F σ b r=some (.tup xs)):ev G F σ b (.cons a r)=some (.tup (x :: xs)):=ad h1 (ad h2 rfl)
theorem eA {a:Int} (h:a.natAbs<2 ^ 64):small a=true:=by
 unfold small BIG
 exact decide_eq_true (Nat.lt_trans h (Nat.pow_lt_pow_right (by decide) (by decide)))
theorem m7 {a b:Int} (h0:0≤a) (hab:a≤b):a.natAbs≤b.natAbs:=by omega
theorem cn {a b:Int} (h:small b=true) (h0:0≤a) (hab:a≤b):small a=true:=by
 unfold small at h ⊢
 exact decide_eq_true (Nat.lt_of_le_of_lt (m7 h0 hab) (of_decide_eq_true h))
theorem bg {n:Nat} (h:n≤1000000):small (n:Int)=true:=eA (Nat.lt_of_le_of_lt h (by decide))
theorem gz {n:Nat} (h:n≤4000):sizeOk n=true:=decide_eq_true (Nat.le_trans h (by decide))
theorem ix {n:Nat} (h:n≤1000000):idxOk (n:Int)=true:=decide_eq_true (Nat.lt_of_le_of_lt h (by decide))
theorem dM {x:Int} {k:Nat} (h:0≤x):0≤x.fdiv (2 ^ k)∧x.fdiv (2 ^ k)≤x:=by
 have hp:(0:Int)<2 ^ k:=Int.pow_pos (by decide)
 rw [Int.fdiv_eq_ediv_of_nonneg _ (Int.le_of_lt hp)]
 exact ⟨Int.ediv_nonneg h (Int.le_of_lt hp),Int.ediv_le_self _ h⟩
theorem iL {x:Int} {k:Nat} (h:0≤x):0≤x.fmod (2 ^ k)∧x.fmod (2 ^ k)≤x:=by
 have hp:(0:Int)<2 ^ k:=Int.pow_pos (by decide)
 rw [Int.fmod_eq_emod_of_nonneg _ (Int.le_of_lt hp)]
 refine ⟨Int.emod_nonneg _ (Int.ne_of_gt hp),?_⟩
 have h1:=Int.mul_ediv_add_emod x (2 ^ k)
 have h2:0≤2 ^ k * (x / 2 ^ k):=Int.mul_nonneg (Int.le_of_lt hp) (Int.ediv_nonneg h (Int.le_of_lt hp))
 exact Int.le_trans (Int.le_add_of_nonneg_left h2) (Int.le_of_eq h1)
theorem wY (L len:Nat):((L:Int)+((L+len:Nat):Int)).fdiv (2 ^ (1:Int).toNat)=((L+len / 2:Nat):Int):=by
 rw [Int.fdiv_eq_ediv_of_nonneg _ (by decide)]
 have:((2:Int) ^ (1:Int).toNat)=2:=by decide
 rw [this];omega
theorem pR {G:af} {F:FEnv} {σ:MEnv} {b:Bool} {i j:Nat} {L len:Nat} (h1:ev G F σ true (.var i)=some (.int (L:Int))) (h2:ev G F σ true (.var j)=some (.int ((L+len:Nat):Int))):ev G F σ b (.bin .RShift (.bin .Add (.var i) (.var j)) (.cst (.int 1)))=some (.int ((L+len / 2:Nat):Int)) :=
 ag (ag h1 h2 rfl) rfl (congrArg (some ∘ D.int) (wY L len))
theorem qy {L a nn:Nat} (h1:a≤1000000) (h2:nn≤1000000):binD .Mult (.int (((L+a:Nat):Int) - (L:Int))) (.int (nn:Int))=some (.int ((a * nn:Nat):Int)):=by
 have e:((L+a:Nat):Int) - (L:Int)=(a:Int):=by rw [Int.natCast_add,Int.add_comm,Int.add_sub_cancel]
 rw [e,Int.natCast_mul]
 exact aq (by rw [bg h1,bg h2];rfl) rfl
theorem kO {G:af} {F:FEnv} {σ:MEnv} {b:Bool} {i j k:Nat} {L a nn:Nat} (h0:ev G F σ true (.var i)=some (.int ((L+a:Nat):Int))) (h1:ev G F σ true (.var j)=some (.int (L:Int))) (h2:ev G F σ true (.var k)=some (.int (nn:Int))) (ha:a≤1000000) (hn:nn≤1000000):ev G F σ b (.bin .Mult (.bin .Sub (.var i) (.var j)) (.var k))=some (.int ((a * nn:Nat):Int)) :=
 ag (ag h0 h1 rfl) h2 (qy ha hn)
theorem pW {G:af} {F:FEnv} {σ:MEnv} {b:Bool} {i j:Nat} {L R:Int} (h1:ev G F σ true (.var i)=some (.int L)) (h2:ev G F σ true (.var j)=some (.int R)):ev G F σ b (.cmp .Eq (.bin .Add (.var i) (.cst (.int 1))) (.var j))=some (.bool (L+1==R)) :=
 ad (ag h1 rfl rfl) (ad h2 rfl)
theorem rc (L:Nat):(((L:Nat):Int)+1==((L+1:Nat):Int))=true:=beq_iff_eq.mpr rfl
theorem mr {L len:Nat} (h:2≤len):(((L:Nat):Int)+1==((L+len:Nat):Int))=false:=beq_eq_false_iff_ne.mpr fun e=>by
 have:L+1=L+len:=Int.ofNat.inj e
 rw [← Nat.add_left_cancel this] at h
 exact absurd h (by decide)
theorem cu {len:Nat} (h:2≤len):1≤len / 2∧1≤len - len / 2:=by omega
theorem cq {len k:Nat} (h:len≤2 ^ (k+1)):len / 2≤2 ^ k∧len - len / 2≤2 ^ k:=by
 rw [Nat.pow_succ] at h
 omega
theorem gG (L len:Nat):L+len / 2+(len - len / 2)=L+len:=by omega
variable [Tabs] [Frk]
theorem iV {env:Env} {r:List Stmt}:∀ (l:List Stmt),execs (l++r) env=execs l env >>= fun f=>match f with | .next=>execs r env |f=>pure f
 | []=>rfl
 |st :: l=>by
  rw [List.cons_append,arm_execs_cons,arm_execs_cons,bind_assoc]
  refine congrArg (exec st env >>= ·) (funext fun f=> ?_)
  cases f with
  |next=>exact iV l
  |_=>rfl
theorem qi {M:Model} {A:Around} {E:Value→Shared→Prop} {env:Env} {l r:List Stmt} {Q:Flow→Shared→Prop} {s:Shared} (h:wpAny M A (execs l env) (fun f s'=>match f with | .next=>wpAny M A (execs r env) Q E s' |f=>Q f s') E s):wpAny M A (execs (l++r) env) Q E s:=by
 rw [iV]
 refine wpAny_bind (wpAny_mono h (fun f s' h'=> ?_) fun _ _ e=>e)
 cases f with
 |next=>exact h'
 |_=>exact wpAny_pure h'
theorem fj {prog:Program} {w:World} {A:Around} {E:Value→Shared→Prop} {s:Shared} {env:Env} {g:Str} {gp cp pos:Pos} {args:List Expr} {Q:Flow→Shared→Prop} (hk:env.scope.kind = .function) (h:wpAny (model prog w) A (eval (.Call (.Name g gp) args [] cp) env) (fun v s'=>v = .none∧Q .next s') E s) :
  wpAny (model prog w) A (exec (.Expr (.Call (.Name g gp) args [] cp) pos) env) Q E s:=by
 refine wpAny_Expr (wpAny_mono h (fun v s' hv=> ?_) fun _ _ e=>e) (by unfold interactive;rw [hk];rfl) rfl
 rw [hv.1];exact hv.2
section
variable {X:Wd} {sc:Scope} {mg mb:Str→Option Value} {σ:MEnv}
theorem mC {M:Model} {A:Around} {E:Value→Shared→Prop} {s:Shared} {env:Env} {cm:Str→Option Value} {x:Str} {c:Addr} {v:Value} {pos:Pos} {Q:Value→Shared→Prop} (hk:env.scope.kind = .function) (hv:s.heap.IsCell c (cm x)) (hl:celK (env.scope.names.lookup x)=true) (hc:env.cells.lookup x=some c) (hx:cm x=some v) (h1:(x==("__debug__":Str))=false) (h2:(x==("__classdict__":Str))=false) (hQ:Q v s) :
  wpAny M A (eval (.Name x pos) env) Q E s:=by
 rw [hx] at hv
 have e:env.kindOf x=some .cell∨env.kindOf x=some .free:=by
  show env.scope.names.lookup x=some .cell∨env.scope.names.lookup x=some .free
  cases hk:env.scope.names.lookup x with
  |none=>rw [hk] at hl;exact nomatch hl
  |some k =>
   rw [hk] at hl
   cases k with
   |cell=>exact .inl rfl
   |free=>exact .inr rfl
   |_=>exact nomatch hl
 exact e.elim (fun e=>wpAny_Name (wpAny_loadName_cell hk e hc hv hQ) h1) fun e=>wpAny_Name (wpAny_loadName_free hk e hc hv hQ h2) h1
theorem cU {t:T} {es:List Expr} (ha:AS X sc t es) (p:At X sc σ) {cm:Str→Option Value} {c f:Addr} (hv:p.s.heap.IsCell c (cm ("inner":Str))) {q pos:Pos} {E:Value→Shared→Prop} {ds:List D} {Q:Value→Shared→Prop} (hl:celK (p.env.scope.names.lookup ("inner":Str))=true) (hc:p.env.cells.lookup ("inner":Str)=some c) (hx:cm ("inner":Str)=some (.ref f))
  {o:Obj} {fd:FuncData} (ho:p.s.heap.get? f=some o) (hfd:o.data = .func fd) (hd:ev X.G X.F σ true t=some (.tup ds)) (hs:ds.all (·.scalar)=true)
  (hQ:∀ h' vs tk,Kp p.s.heap h'→DenL h' (fun _=>False) ds vs→wpAny (model X.P X.w) p.A (call (.ref f) vs) Q E {p.s with heap:=h',toks:=tk}):wpAny (model X.P X.w) p.A (eval (.Call (.Name ("inner":Str) q) es [] pos) p.env) Q E p.s:=by
 refine wpAny_Call_ofName (mC p.R.ok.kind hv hl hc hx (by decide) (by decide) ?_)
 exact PySem.Calls.callWith_function (o:=o) (fd:=fd) (bw ha p hd fun vs h' tk k' dl=>⟨⟨k'.ob ho (bj hfd),hfd⟩,hQ h' vs tk k' (DenRL.free dl)⟩)
end
theorem SR.far {env:Env} {tbl:List Str} {Mu Ex:Addr→Prop} {ow:Nat→Addr} {σ:MEnv} {h h':Heap} {D:Addr} (S:SR env tbl Mu Ex ow σ h) (k:KD D h h') {items items':Array Value} (pl:h.PlainList D items) (pl':h'.PlainList D items')
  (hs:∀ i d b,getE σ i=some (d,b)→d.scalar=true∧b=false):SR env tbl Mu Ex ow σ h':=by
 obtain ⟨⟨ok,nd,lt,own,m,cm,F,hv⟩,mu,fr,ho,hi⟩:=S
 obtain ⟨n1,n2⟩:=gW F pl
 refine ⟨⟨ok,nd,fun b hb=> ?_,own,m,cm,⟨k.ns F.ns n1.symm,fun x c e=>k.cell (F.cell x c e) fun q=>n2 x (q▸e),F.offL,F.inj,F.has⟩,fun i x d b h1 h2 h3=> ?_⟩,mu,fr,ho,hi⟩
 ·by_cases q:b=D
  ·exact q▸PL.al pl'
  ·obtain ⟨o,e⟩:=lt b hb;exact (k.kp b o q e).al
 ·obtain ⟨v,e1,e2,e3⟩:=hv i x d b h1 h2 h3
  obtain ⟨q1,q2⟩:=hs i d b h2
  subst q2
  exact ⟨v,e1,Den.scal q1 e2,e3⟩
end Mine
set_option genSizeOf false
set_option genInjectivity false
namespace Mine
theorem cx {σ:MEnv} {i:Nat} {d:D} {x:Bool} (h:i<σ.length):getE (setE σ i d x) i=some (d,x):=by
 unfold getE setE
 rw [List.getElem?_set_self h];rfl
theorem bU {σ:MEnv} {i j:Nat} {d:D} {x:Bool} (h:i≠j):getE (setE σ i d x) j=getE σ j:=by
 unfold getE setE
 rw [List.getElem?_set_ne h]
theorem setE_len {σ:MEnv} {i:Nat} {d:D} {x:Bool}:(setE σ i d x).length=σ.length:=List.length_set
theorem az {σ:MEnv} {i:Nat}:(clearE σ [i]).length=σ.length:=List.length_set
theorem fg {σ:MEnv} {i j:Nat} (h:j≠i):getE (clearE σ [i]) j=getE σ j:=by
 show getE (σ.set i none) j=_
 unfold getE
 rw [List.getElem?_set_ne (Ne.symm h)]
section
variable {G:af} {F:FEnv} {σ:MEnv} {b:Bool} {x y z d:D} {a c e t u:T}
theorem ab {i:Nat} (h:getE σ i=some (d,false)):ev G F σ b (.var i)=some d:=ad h rfl
theorem ra {i:Nat} {x:Bool} (h:getE σ i=some (d,x)):ev G F σ true (.var i)=some d:=ad h (by
 cases x with
 |true=>rfl
 |false=>rfl)
theorem gP (h:d.scalar=true):ev G F σ b (.cst d)=some d:=aq h rfl
theorem ai {i:Int}:ev G F σ b (.cst (.int i))=some (.int i):=rfl
theorem dB {i:Str}:ev G F σ b (.cst (.str i))=some (.str i):=rfl
theorem aP:ev G F σ b (.cst .none)=some .none:=rfl
theorem om {op:UnaryOp} (h:ev G F σ true a=some x) (k:unD op x=some d):ev G F σ b (.un op a)=some d:=ad h k
theorem an {op:CmpOp} {r:Bool} (h1:ev G F σ true a=some x) (h2:ev G F σ true c=some y) (h:cmpD op x y=some r):ev G F σ b (.cmp op a c)=some (.bool r):=ad h1 (ad h2 (aX h rfl))
theorem eD {r:Bool} (h:ev G F σ true c=some x) (ht:truthy x=some r) (h1:r=true→ev G F σ b t=some d) (h2:r=false→ev G F σ b u=some d):ev G F σ b (.ite c t u)=some d:=ad h (ad ht (by
 cases r with
 |true=>exact h1 rfl
 |false=>exact h2 rfl))
theorem yf {r s:Bool} (h1:ev G F σ b a=some (.bool r)) (h2:r=false→ev G F σ b c=some (.bool s)):ev G F σ b (.bop .Or a c)=some (.bool (r || s)):=ad h1 (by
 cases r with
 |true=>rfl
 |false=>exact h2 rfl)
theorem jL {r s:Bool} (h1:ev G F σ b a=some (.bool r)) (h2:r=true→ev G F σ b c=some (.bool s)):ev G F σ b (.bop .And a c)=some (.bool (r&&s)):=ad h1 (by
 cases r with
 |true=>exact h2 rfl
 |false=>rfl)
theorem oD:ev G F σ b .nil=some (.tup []):=rfl
theorem aC (h1:ev G F σ b a=some x):ev G F σ b (.cons a .nil)=some (.tup [x]):=aD h1 rfl
theorem aR (h1:ev G F σ b a=some x) (h2:ev G F σ b c=some y):ev G F σ b (.cons a (.cons c .nil))=some (.tup [x,y]):=aD h1 (aC h2)
theorem dY (h1:ev G F σ b a=some x) (h2:ev G F σ b c=some y) (h3:ev G F σ b e=some z):ev G F σ b (.cons a (.cons c (.cons e .nil)))=some (.tup [x,y,z]):=aD h1 (aR h2 h3)
theorem am {n:Nat} (h:n≤1048576):sizeOk n=true:=decide_eq_true h
theorem bE {es:T} {xs:List D} (h:ev G F σ false es=some (.tup xs)) (hl:sizeOk xs.length=true:=by rfl):ev G F σ b (.list es)=some (.list xs):=ad h (aq hl rfl)
theorem bH {es:T} {xs:List D} (h:ev G F σ false es=some (.tup xs)) (hl:sizeOk xs.length=true:=by rfl):ev G F σ b (.tup es)=some (.tup xs):=ad h (aq hl rfl)
theorem ay {i:T} (h1:ev G F σ true a=some x) (h2:ev G F σ true i=some y) (h:idxD x y=some d):ev G F σ b (.idx a i)=some d:=ad h1 (ad h2 h)
theorem bz {l s:T} {l' u' s':D} (h1:ev G F σ true a=some x) (h2:ev G F σ true l=some l') (h3:ev G F σ true u=some u') (h4:ev G F σ true s=some s') (h:sliD x l' u' s'=some d):ev G F σ b (.sli a l u s)=some d:=ad h1 (ad h2 (ad h3 (ad h4 h)))
theorem aj {f:Str} {ds:List D} (h:ev G F σ false t=some (.tup ds)) (k:F f ds=some d):ev G F σ b (.call f t)=some d:=ad h k
theorem wW {f:Str} {ds:List D} (h:ev G F σ true t=some (.tup ds)) (k:F f ds=some d) (hs:d.scalar=true):ev G F σ b (.callb f t)=some d:=ad h (ad (a:=ds) rfl (ad k (aq hs rfl)))
theorem aU {f:BF} {ds:List D} (h:ev G F σ true t=some (.tup ds)) (k:bltD f ds=some d):ev G F σ b (.blt f t)=some d:=ad h k
theorem bi {m:MF} {ds:List D} (h1:ev G F σ true a=some x) (h:ev G F σ true t=some (.tup ds)) (k:methD m x ds=some d):ev G F σ b (.meth m a t)=some d:=ad h1 (ad h k)
theorem kX {n:Str} {i:Int} {l:List (Int×Str)} (h:ev G F σ true t=some (.int i)) (k:ev G F σ true u=some x) (hl:G.idict n=some l) (hx:x.scalar=true):ev G F σ b (.dget n t u)=some ((l.lookup i).elim x .str):=ad h (ad (a:=i) rfl (ad k (ad hl (aq hx rfl))))
theorem vz {n:Str} {i:Int} {l:List Int} (h:ev G F σ true t=some (.int i)) (hl:G.iset n=some l):ev G F σ b (.inset n t)=some (.bool (l.contains i)):=ad h (ad (a:=i) rfl (aX hl rfl))
end
section
variable {G:af} {F:FEnv} {σ σ':MEnv} {a b e rest:S} {d x y z:D} {r:Option (MEnv×Out)}
theorem aw (h:ex G F σ a=some (σ',.ret d)):ex G F σ (.seq a b)=some (σ',.ret d):=ad h rfl
theorem wu (h:ex G F σ a=some (σ',.brk)):ex G F σ (.seq a b)=some (σ',.brk):=ad h rfl
theorem aA {t:T} (h:ev G F σ false t=some d):ex G F σ (.seq (.ret t) b)=some (σ,.ret d):=ad (aX h rfl) rfl
theorem aL {c:T} (h:ev G F σ true c=some x) (ht:truthy x=some true) (k:ex G F σ a=r):ex G F σ (.ifs c a e)=r:=ad h (ad ht k)
theorem bP {c:T} (h:ev G F σ true c=some x) (ht:truthy x=some false) (k:ex G F σ e=r):ex G F σ (.ifs c a e)=r:=ad h (ad ht k)
theorem qn {is:List Nat} {t:T} {ds:List D} (h:ev G F σ false t=some (.tup ds)) (k:setAll σ is ds=some σ'):ex G F σ (.unp is t)=some (σ',.next):=ad h (aX k rfl)
theorem gx {is:List (Nat×Bool)} {t:T} {ds:List D} (h:ev G F σ false t=some (.tup ds)) (hf:freshAll is t ds=true) (k:setMulti σ is ds=some σ'):ex G F σ (.multi is t)=some (σ',.next):=ad h (aq hf (aX k rfl))
theorem yo {i:Nat} {t:T} {xs:List D} (h:own? σ i=some xs) (k:ev G F σ false t=some d):ex G F σ (.app i t)=some (setE σ i (.list (xs++[d])) true,.next):=ad h (aX k rfl)
theorem lx {i:Nat} {op:Operator} {t:T} {m n:Int} (h:getE σ i=some (.int m,false)) (k:ev G F σ true t=some (.int n)) (ho:augOk op=true) (hd:binD op (.int m) (.int n)=some d):ex G F σ (.aug i op t)=some (setE σ i d false,.next):=ad h (ad (a:=m) rfl (ad k (ad (a:=n) rfl (gs (c:=(false || !augOk op)=true) (by rw [ho];decide) (aX hd rfl)))))
theorem au {n:Nat} {ds:List D} (σ:MEnv) (hs:ds.map (fun d=>some (d,false))++List.replicate (n - ds.length) none=σ) (h:ex G F σ a=some (σ',.ret d)):run G F n a ds=some d:=by
 unfold run
 rw [hs];exact ad h rfl
theorem eW {i:Nat} {xs:List D} (h:getE σ i=some (.list xs,true)) (hs:sizeOk xs.length=true):own? σ i=some xs:=ad h (ad (a:=xs) rfl (aq (c:=(true&&sizeOk xs.length)=true) hs rfl))
theorem jE {i:Nat} {t:T} {xs:List D} (h:getE σ i=some (.list xs,true)) (hs:sizeOk xs.length=true) (hv:ev G F σ false t=some d) (k:ex G F (setE σ i (.list (xs++[d])) true) rest=r):ex G F σ (.seq (.app i t) rest)=r:=ao (yo (eW h hs) hv) k
theorem zg {i:Nat} {xs:List D} (h:getE σ i=some (.list xs,true)) (hs:sizeOk xs.length=true) (k:ex G F (setE σ i (.list xs.reverse) true) rest=r):ex G F σ (.seq (.revm i) rest)=r:=ao (aX (eW h hs) rfl) k
theorem zv {i:Nat} {t:T} {xs ys:List D} (h:getE σ i=some (.list xs,true)) (hs:sizeOk xs.length=true) (hv:ev G F σ false t=some (.list ys)) (hy:sizeOk ys.length=true) (k:ex G F (setE σ i (.list (xs++ys)) true) rest=r):ex G F σ (.seq (.ext i t) rest)=r:=ao (ad (eW h hs) (ad hv (ad (a:=ys) rfl (aq hy rfl)))) k
theorem aG {i:Nat} {e:T} (h:ev G F σ false e=some d) (k:ex G F (setE σ i d false) rest=r):ex G F σ (.seq (.asg i false e) rest)=r:=ao (cY h) k
theorem eU {i:Nat} {e:T} (h:ev G F σ false e=some d) (hf:freshT e d=true) (k:ex G F (setE σ i d true) rest=r):ex G F σ (.seq (.asg i true e) rest)=r:=ao (mT h hf) k
theorem aS (k:ex G F σ rest=r):ex G F σ (.seq .skip rest)=r:=ao rfl k
theorem be {c:T} (h:ev G F σ true c=some x) (ht:truthy x=some false) (k:ex G F σ (.seq e rest)=r):ex G F σ (.seq (.ifs c a e) rest)=r:=(congrArg (fun o:Option (MEnv×Out)=>o.bind fun p=>cond p.2.isNext (ex G F p.1 rest) (some p)) (bP h ht rfl)).trans k
theorem x_ifT {c:T} (h:ev G F σ true c=some x) (ht:truthy x=some true) (k:ex G F σ (.seq a rest)=r):ex G F σ (.seq (.ifs c a e) rest)=r:=(congrArg (fun o:Option (MEnv×Out)=>o.bind fun p=>cond p.2.isNext (ex G F p.1 rest) (some p)) (aL h ht rfl)).trans k
theorem fh {i j:Nat} {t:T} (h:ev G F σ false t=some (.tup [x,y])) (k:ex G F (setE (setE σ i x false) j y false) rest=r):ex G F σ (.seq (.unp [i,j] t) rest)=r:=ao (qn h rfl) k
theorem ey {i j:Nat} {es:T} (h:ev G F σ false es=some (.tup [x,y])) (hf:freshAll [(i,false),(j,false)] es [x,y]=true) (k:ex G F (setE (setE σ i x false) j y false) rest=r):ex G F σ (.seq (.multi [(i,false),(j,false)] es) rest)=r:=ao (gx h hf rfl) k
theorem sD {i j l:Nat} {es:T} (h:ev G F σ false es=some (.tup [x,y,z])) (hf:freshAll [(i,false),(j,false),(l,false)] es [x,y,z]=true) (k:ex G F (setE (setE (setE σ i x false) j y false) l z false) rest=r):ex G F σ (.seq (.multi [(i,false),(j,false),(l,false)] es) rest)=r:=ao (gx h hf rfl) k
theorem uq {i j l m:Nat} {es:T} {u:D} (h:ev G F σ false es=some (.tup [x,y,z,u])) (hf:freshAll [(i,false),(j,false),(l,false),(m,false)] es [x,y,z,u]=true) (k:ex G F (setE (setE (setE (setE σ i x false) j y false) l z false) m u false) rest=r):ex G F σ (.seq (.multi [(i,false),(j,false),(l,false),(m,false)] es) rest)=r:=ao (gx h hf rfl) k
end
noncomputable def bodyT (G:af) (F:FEnv) (tg:List Nat) (one:Bool) (b:S):MEnv→D→Option (MEnv×Out):=fun σ d=>(bindT σ tg one d).bind fun σ'=>ex G F σ' b
theorem gM {G:af} {F:FEnv} {σ σ':MEnv} {tg:List Nat} {one:Bool} {k:IK} {it it2:T} {body els:S} {xs:List D} {o:Out} (he:enumOk one k=true) (hi:evI G F (freeze σ it) false k it it2=some xs) (hl:loopL (bodyT G F tg one body) (freeze σ it) xs=some (σ',o)) :
  ex G F σ (.fors tg one k it it2 body els)=o.aft (ex G F σ' els) σ':=gs (by rw [he];decide) (ad hi (ad hl rfl))
section
variable {G:af} {F:FEnv} {σ σ':MEnv} {tg:List Nat} {one:Bool} {k:IK} {it it2:T} {body els rest:S} {xs:List D} {d:D} {r:Option (MEnv×Out)}
theorem fQ (he:enumOk one k=true) (hi:evI G F (freeze σ it) false k it it2=some xs) (hl:loopL (bodyT G F tg one body) (freeze σ it) xs=some (σ',.next)) (kk:ex G F σ' rest=r):ex G F σ (.seq (.fors tg one k it it2 body .skip) rest)=r:=ao ((gM he hi hl).trans rfl) kk
theorem yG {σ2:MEnv} (he:enumOk one k=true) (hi:evI G F (freeze σ it) false k it it2=some xs) (hl:loopL (bodyT G F tg one body) (freeze σ it) xs=some (σ',.next)) (ke:ex G F σ' els=some (σ2,.next)) (kk:ex G F σ2 rest=r):ex G F σ (.seq (.fors tg one k it it2 body els) rest)=r:=ao ((gM he hi hl).trans ke) kk
theorem xV (he:enumOk one k=true) (hi:evI G F (freeze σ it) false k it it2=some xs) (hl:loopL (bodyT G F tg one body) (freeze σ it) xs=some (σ',.brk)) (kk:ex G F σ' rest=r):ex G F σ (.seq (.fors tg one k it it2 body els) rest)=r:=ao ((gM he hi hl).trans rfl) kk
theorem yA (he:enumOk one k=true) (hi:evI G F (freeze σ it) false k it it2=some xs) (hl:loopL (bodyT G F tg one body) (freeze σ it) xs=some (σ',.ret d)):ex G F σ (.seq (.fors tg one k it it2 body els) rest)=some (σ',.ret d):=aw ((gM he hi hl).trans rfl)
end
section
variable {f:MEnv→D→Option (MEnv×Out)} {σ σ':MEnv} {x d:D} {xs:List D}
theorem aW {r:Option (MEnv×Out)} (h:f σ x=some (σ',.next)) (k:loopL f σ' xs=r):loopL f σ (x :: xs)=r:=ad h k
theorem qp (h:f σ x=some (σ',.brk)):loopL f σ (x :: xs)=some (σ',.brk):=ad h rfl
theorem pK (h:f σ x=some (σ',.ret d)):loopL f σ (x :: xs)=some (σ',.ret d):=ad h rfl
end
theorem jz {α:Type} {f:D→Option (Option D)} {inj:α→D} {c:α→Bool} {y:α→D}:∀ {l:List α},(∀ a∈l,f (inj a)=some (cond (c a) (some (y a)) none))→compL f (l.map inj)=some ((l.filter c).map y)
 | [],_=>rfl
 |a :: l,h=>ad (h a List.mem_cons_self) (aX (jz fun b hb=>h b (List.mem_cons_of_mem _ hb)) (by
  rw [List.filter_cons]
  cases c a
  ·rfl
  ·rfl))
section
variable {G:af} {F:FEnv} {σ:MEnv} {elt it it2 cnd:T} {k:IK} {b:Bool} {α:Type} {inj:α→D} {l:List α}
theorem lQ {tg locs:List Nat} {one:Bool} {τ:α→MEnv} {c:α→Bool} {y:α→D} (he:enumOk one k=true) (hf:feedD k (ev G F σ true it) (ev G F σ true it2)=some (l.map inj)) (hb:∀ a∈l,bindT (clearE σ locs) tg one (inj a)=some (τ a))
  (hc:∀ a∈l,∃ x,ev G F (τ a) true cnd=some x∧truthy x=some (c a)) (hy:∀ a∈l,c a=true→ev G F (τ a) false elt=some (y a)):ev G F σ b (.comp elt tg one k it it2 cnd locs)=some (.list ((l.filter c).map y)) :=
 gs (by rw [he];decide) (ad hf (aX (jz fun a ha=>by
  obtain ⟨x,hx,htx⟩:=hc a ha
  refine ad (hb a ha) (ad hx (ad htx ?_))
  cases e:c a with
  |false=>rfl
  |true=>exact aX (hy a ha e) rfl) rfl))
theorem jY (l:List α):(l.filter fun _=>true)=l:=List.filter_eq_self.mpr fun _ _=>rfl
theorem ky {tg locs:List Nat} {one:Bool} {τ:α→MEnv} {y:α→D} (he:enumOk one k=true) (hf:feedD k (ev G F σ true it) (ev G F σ true it2)=some (l.map inj)) (hb:∀ a∈l,bindT (clearE σ locs) tg one (inj a)=some (τ a))
  (hy:∀ a∈l,ev G F (τ a) false elt=some (y a)):ev G F σ b (.comp elt tg one k it it2 (.cst (.bool true)) locs)=some (.list (l.map y)) :=
 (lQ (c:=fun _=>true) (y:=y) he hf hb (fun a _=>⟨_,rfl,rfl⟩) (fun a ha _=>hy a ha)).trans (by rw [jY])
theorem jq {i:Nat} {c:α→Bool} {y:α→D} (he:enumOk true k=true) (hf:feedD k (ev G F σ true it) (ev G F σ true it2)=some (l.map inj)) (hi:i<σ.length)
  (hc:∀ a∈l,∀ σ',getE σ' i=some (inj a,false)→(∀ j,j≠i→getE σ' j=getE σ j)→σ'.length=σ.length→(∃ x,ev G F σ' true cnd=some x∧truthy x=some (c a))∧(c a=true→ev G F σ' false elt=some (y a))) :
  ev G F σ b (.comp elt [i] true k it it2 cnd [i])=some (.list ((l.filter c).map y)):=by
 have hs:∀ a∈l,_:=fun a ha=>hc a ha (setE (clearE σ [i]) i (inj a) false) (cx (by rw [az];exact hi)) (fun j hj=>(bU (Ne.symm hj)).trans (fg hj)) (setE_len.trans az)
 exact lQ (τ:=fun a=>setE (clearE σ [i]) i (inj a) false) he hf (fun a _=>rfl) (fun a ha=>(hs a ha).1) (fun a ha=>(hs a ha).2)
theorem eI {i:Nat} {c:α→Bool} {y:α→D} (he:enumOk true k=true) (hf:feedD k (ev G F σ true it) (ev G F σ true it2)=some (l.map inj)) (hi:i<σ.length)
  (hc:∀ a∈l,∀ σ',getE σ' i=some (inj a,false)→(∀ j,j≠i→getE σ' j=getE σ j)→σ'.length=σ.length→ev G F σ' true cnd=some (.bool (c a))∧(c a=true→ev G F σ' false elt=some (y a))) :
  ev G F σ b (.comp elt [i] true k it it2 cnd [i])=some (.list ((l.filter c).map y)) :=
 jq he hf hi fun a ha σ' h1 h2 h3=>⟨⟨_,(hc a ha σ' h1 h2 h3).1,rfl⟩,(hc a ha σ' h1 h2 h3).2⟩
theorem aZ {i:Nat} {y:α→D} (he:enumOk true k=true) (hf:feedD k (ev G F σ true it) (ev G F σ true it2)=some (l.map inj)) (hi:i<σ.length)
  (hy:∀ a∈l,∀ σ',getE σ' i=some (inj a,false)→(∀ j,j≠i→getE σ' j=getE σ j)→σ'.length=σ.length→ev G F σ' false elt=some (y a)) :
  ev G F σ b (.comp elt [i] true k it it2 (.cst (.bool true)) [i])=some (.list (l.map y)) :=
 (eI (c:=fun _=>true) (y:=y) he hf hi (fun a ha σ' h1 h2 h3=>⟨rfl,fun _=>hy a ha σ' h1 h2 h3⟩)).trans (by rw [jY])
end
theorem fZ:∀ (n a:Nat),rangeD (a:Int) n=(List.range' a n).map fun i:Nat=>D.int (i:Int)
 |0,a=>rfl
 |n+1,a=>congrArg (D.int a :: ·) (fZ n (a+1))
theorem oL (n:Nat):rangeD 0 n=(List.range n).map fun i:Nat=>D.int (i:Int):=by
 rw [List.range_eq_range']
 exact fZ n 0
theorem gR {n:Nat} (h:n≤1048576):idxOk (n:Int)=true:=decide_eq_true (Nat.lt_of_le_of_lt h (by decide))
theorem ei {xs:List D} {i:Nat} {d:D} (h:xs[i]? = some d) (hl:xs.length≤1048576):idxL xs (i:Int)=some d :=
 aq (gR (Nat.le_trans (Nat.le_of_lt (List.getElem?_eq_some_iff.mp h).1) hl)) ((if_pos (Int.natCast_nonneg i)).trans h)
theorem wI (a b:Int):eqD (.int a) (.int b)=some (a==b):=rfl
theorem jA {α:Type} [BEq α] {f:D→D→Option Bool} {inj:α→D} (h:∀ a b,f (inj a) (inj b)=some (a==b)):∀ {xs ys:List α},xs.length=ys.length→allEq f (xs.map inj) (ys.map inj)=some (xs==ys)
 | [],[],_=>rfl
 |x :: xs,y :: ys,hl=>ad (h x y) (aX (jA h (Nat.succ.inj hl)) rfl)
 | [],_ :: _,hl=>nomatch hl
 |_ :: _,[],hl=>nomatch hl
theorem j1 {α:Type} [BEq α] [LawfulBEq α] {inj:α→D} (h:∀ a b,eqN 3 (inj a) (inj b)=some (a==b)) (xs ys:List α):eqD (.list (xs.map inj)) (.list (ys.map inj))=some (xs==ys):=by
 show (if (xs.map inj).length=(ys.map inj).length then allEq (eqN 3) (xs.map inj) (ys.map inj) else some false)=_
 rw [List.length_map,List.length_map]
 by_cases hl:xs.length=ys.length
 ·rw [if_pos hl];exact jA h hl
 ·rw [if_neg hl,beq_eq_false_iff_ne.mpr fun (q:xs=ys)=>hl (congrArg List.length q)]
theorem kC (xs ys:List Int):eqD (.list (xs.map .int)) (.list (ys.map .int))=some (xs==ys):=j1 (fun _ _=>rfl) xs ys
theorem qh (xs ys:List Bool):eqD (.list (xs.map .bool)) (.list (ys.map .bool))=some (xs==ys):=j1 (fun _ _=>rfl) xs ys
theorem tw (d:Int):∀ (xs:List Int),memD (.int d) (xs.map .int)=some (xs.contains d)
 | []=>rfl
 |x :: xs=>by
  rw [List.contains_cons,show (d==x)=(x==d) from BEq.comm]
  exact ad (wI x d) (aX (tw d xs) rfl)
theorem pp {xs ys:List D} (h1:xs.length≤1048576) (h2:ys.length≤1048576):binD .Add (.list xs) (.list ys)=some (.list (xs++ys)):=aq (c:=(sizeOk xs.length&&sizeOk ys.length)=true) (by rw [am h1,am h2];rfl) rfl
theorem uM {a b:Int} (h:b≠0):binD .Mod (.int a) (.int b)=some (.int (a.fmod b)):=gs (fun q=>h (beq_iff_eq.mp q)) rfl
theorem Ac {a b:Int} (h:b≠0) (hs:small b=true):binD .FloorDiv (.int a) (.int b)=some (.int (a.fdiv b)):=gs (c:=(b==0 || !small b)=true) (by rw [beq_eq_false_iff_ne.mpr h,hs];decide) rfl
theorem nG {a b:Int} (h1:small a=true) (h2:small b=true):binD .Mult (.int a) (.int b)=some (.int (a * b)):=aq (c:=(small a&&small b)=true) (by rw [h1,h2];rfl) rfl
theorem u0 {a:Int} {n:Nat} (h1:small a=true) (h2:n≤1000000):binD .LShift (.int a) (.int (n:Int))=some (.int (a * 2 ^ n)):=aq (c:=(decide (0≤(n:Int))&&decide ((n:Int).toNat≤1000000)&&small a)=true) (by rw [decide_eq_true (Int.natCast_nonneg n),h1,decide_eq_true (show (n:Int).toNat≤1000000 from h2)];rfl) rfl
theorem uv {a b:Int} (h:0≤b):binD .RShift (.int a) (.int b)=some (.int (a.fdiv (2 ^ b.toNat))):=aq (decide_eq_true h) rfl
theorem zY {a b:Int} (h:0≤b) (h2:b.toNat≤1000000) (h3:a.natAbs<18446744073709551616):binD .Pow (.int a) (.int b)=some (.int (a ^ b.toNat)):=aq (c:=(decide (0≤b)&&decide (b.toNat≤1000000)&&decide (a.natAbs<18446744073709551616))=true) (by rw [decide_eq_true h,decide_eq_true h2,decide_eq_true h3];rfl) rfl
theorem uR {xs:List D} (h:xs.length≤1048576):bltD .len [.list xs]=some (.int xs.length):=aq (am h) rfl
theorem qw {x:Str} (h:x.length≤1048576):bltD .len [.str x]=some (.int x.length):=aq (am h) rfl
theorem tM {a b:Int} (h:b≠0) (hs:small b=true):bltD .divmod [.int a,.int b]=some (.tup [.int (a.fdiv b),.int (a.fmod b)]):=gs (c:=(b==0 || !small b)=true) (by rw [beq_eq_false_iff_ne.mpr h,hs];decide) rfl
theorem bu {xs:List D} (h:xs.length≤1048576):iterD (.list xs)=some xs:=aq (am h) rfl
theorem i_tup {xs:List D} (h:xs.length≤1048576):iterD (.tup xs)=some xs:=aq (am h) rfl
theorem bK {G:af} {F:FEnv} {σ:MEnv} {e it2:T} {d:D} {xs:List D} (h:ev G F σ true e=some d) (hi:iterD d=some xs):feedD .plain (ev G F σ true e) (ev G F σ true it2)=some xs:=ad h hi
theorem db {G:af} {F:FEnv} {σ:MEnv} {e it2:T} {d:D} {xs:List D} (h:ev G F σ false e=some d) (hi:iterD d=some xs):evI G F σ false .plain e it2=some xs:=ad h hi
theorem my {n:Nat} (hn:n≤1048576):rngD 0 (n:Int)=some ((List.range n).map fun i:Nat=>D.int (i:Int)):=by
 rw [← oL]
 have e:((n:Int) - 0).toNat=n:=by rw [Int.sub_zero];rfl
 unfold rngD
 rw [e]
 exact aq (c:=(sizeOk n&&idxOk (n:Int)&&idxOk 0)=true) (by rw [am hn,gR hn];rfl) rfl
theorem cV {G:af} {F:FEnv} {σ:MEnv} {e it2:T} {n:Nat} (h:ev G F σ true e=some (.int (n:Int))) (hn:n≤1048576):feedD .range1 (ev G F σ true e) (ev G F σ true it2)=some ((List.range n).map fun i:Nat=>D.int (i:Int)):=ad h (my hn)
theorem xO {G:af} {F:FEnv} {σ:MEnv} {e it2:T} {xs:List D} (h:ev G F σ false e=some (.list xs)) (hs:sizeOk xs.length=true):evI G F σ false .rev e it2=some xs.reverse:=ad h (ad (a:=xs) rfl (aq hs rfl))
theorem sG {G:af} {F:FEnv} {σ:MEnv} {b:Bool} {e it2:T} {n:Nat} (h:ev G F σ true e=some (.int (n:Int))) (hn:n≤1048576):evI G F σ false .range1 e it2=some ((List.range n).map fun i:Nat=>D.int (i:Int)):=ad h (my hn)
theorem wX (n:Nat):(-1+((n+1:Nat):Int)).toNat=n:=by omega
theorem xK {xs:List D} {d:D} (h:xs.length≤1048575):idxL (xs++[d]) (-1)=some d:=by
 refine aq (show idxOk (-1)=true from rfl) ((if_neg (by decide)).trans ?_)
 rw [List.length_append]
 show (if 0 ≤ -1+((xs.length+1:Nat):Int) then (xs++[d])[(-1+((xs.length+1:Nat):Int)).toNat]? else none)=_
 rw [wX,if_pos (by omega),List.getElem?_append_right (Nat.le_refl _),Nat.sub_self];rfl
theorem gy:∀ {ds:List Int},ints? (ds.map .int)=some ds
 | []=>rfl
 |d :: ds=>ad (a:=d) rfl (aX gy rfl)
theorem iU:∀ {ts:List Str},strs? (ts.map .str)=some ts
 | []=>rfl
 |d :: ds=>ad (a:=d) rfl (aX iU rfl)
theorem uL {i:Int} (h:i.natAbs<18446744073709551616):bltD .hex [.int i]=some (.str (hexS i)):=aq (decide_eq_true h) rfl
theorem qS {x:Str} {ts:List Str} (h:sizeOk (x.length * ts.length+(ts.map (·.length)).sum)=true):methD .join (.str x) [.list (ts.map .str)]=some (.str (Txt.join x ts)):=ad (a:=ts) iU (aq h rfl)
end Mine
set_option genSizeOf false
set_option genInjectivity false
namespace Mine
variable [Tabs] [Frk]
theorem yj {a b:Array Value} (h:Data.fields a=Data.fields b):a=b:=sm (congrArg (fun d:Data=>match d with | .fields v=>some v |_=>none) h)
theorem TabV.triples {h:Heap} {b:Addr} {l:List Value} (T:TabV h b l):TriplesOk l:=by
 induction T with
 |nil=>trivial
 |cons _ _ _ _ _ ih=>exact ih
theorem TabV.among {h:Heap} {b:Addr} {pos:Pos} {cv:Value} {l:List Value} (T:TabV h b l) (e:codeAmong pos l=some cv):∃ a o vs t,cv = .ref a∧h.get? a=some o∧o.cls = .type "code"∧o.data = .fields vs∧vs[1]? = some (.str (Tabs.q pos.line pos.col) t):=by
 induction T with
 |nil=>exact ah e
 | @cons l c t u a o vs tq r e1 e2 e3 e4 T ih =>
  have e:(if (l==(pos.line:Int)&&c==pos.col)=true then some (Value.ref a) else codeAmong pos r)=some cv:=e
  cases hq:(l==(pos.line:Int)&&c==pos.col) with
  |true =>
   rw [hq] at e
   rw [← sm e]
   exact aa hq fun q1 q2=>⟨a,_,_,_,rfl,e1,e2,e3,by rw [← beq_iff_eq.mp q1,← beq_iff_eq.mp q2];exact e4⟩
  |false =>
   rw [hq] at e
   exact ih e
theorem o9 {hB h:Heap} {P:Addr} (k:KB hB h) (e:hB.get? P=some (tabObj #[])):∃ ps:Array Value,h.get? P=some (tabObj ps)∧TabV h P ps.toList:=by
 rcases k.kp P _ e with g |⟨_,vs,more,_,e2,g,T⟩ |⟨_,es,n,sl,e2,_⟩
 ·exact ⟨#[],g,.nil⟩
 ·have e2:Data.fields #[]=Data.fields vs:=e2
  obtain rfl : #[]=vs:=yj e2
  exact ⟨#[]++more,g,by rw [Array.toList_append];exact T⟩
 ·exact nomatch (e2:Data.fields #[]=Data.dict es n)
theorem og {hB h:Heap} {cd P:Addr} (k:KB hB h) (C:CodeHd hB cd P):CodeHd h cd P:=by
 obtain ⟨o,vs,file,tf,flags,tg,inF,text,tt,e,hc,r⟩:=C
 exact ⟨o,vs,file,tf,flags,tg,inF,text,tt,k.ob e (br hc r.1),hc,r⟩
section
variable {M:Model} {A:Around} {E:Value→Shared→Prop} {s:Shared} {name qual:Str} {params:Arguments} {body:List Stmt} {scope:Scope} {env:Env} {cd P:Addr} {ps:Array Value} {pos:Pos} {firstLine:Nat} {mg:Str→Option Value}
 {q:Str×Addr} {r:List (Str×Addr)} {Q:Value→Shared→Prop}
theorem pB (hcl:closureFor scope env=pure (q :: r)) (hge:env.globals=mainGlobals) (hg:s.heap.Ns mainGlobals mg) (hcode:env.code = .ref cd) (C:CodeHd s.heap cd P) (hP:s.heap.get? P=some (tabObj ps)) (T:TabV s.heap P ps.toList) (htb:Tabs.tb P) (hq:Tabs.q pos.line pos.col=qual)
  (hgP:mainGlobals≠P) (hb:s.heap.BuiltinsAt mg P) (hdoc:docOf body=none)
  (h:∀ f h' tk doc pm c' ct o oc vs t,Kp s.heap h'→s.heap.get? f=none→h'.get? f=some o→o.data = .func (fnX name qual params body scope (q :: r) .none .none doc pm none (.ref c') ct)→h'.get? c'=some oc→oc.cls = .type "code"→oc.data = .fields vs→vs[1]? = some (.str qual t) →
   Q (.ref f) {s with heap:=h',toks:=tk}):wpAny M A (makeFunction name qual params (.stmts body) scope env [] [] [] pos firstLine) Q E s:=by
 cases ha:codeAmong pos ps.toList with
 |some cv =>
  obtain ⟨a,o,vs,t,rfl,e1,e2,e3,e4⟩:=T.among ha
  refine makeFunction_hit hcl hge hg hcode C hP T.triples ha hb fun ctv doc h' tk k sz=> ?_
  rw [hq] at e4
  refine h _ _ tk doc _ a ctv _ o vs t (Kp.trans (.of k) (Kp.push h' _)) (iP sz) (Heap.get?_push_size _ rfl) rfl (Heap.get?_push_of_some _ (k _ _ e1)) e2 e3 e4
 |none =>
  obtain ⟨bm,ob,hbm,hne0,_,hneP,hbo,hcls,hdict,hdata⟩:=hb
  rw [makeFunction_eq]
  simp only [List.zip_nil_right,List.filterMap_nil,List.isEmpty_nil,if_true,pure_bind]
  unfold makeTail
  rw [hcl,hge]
  refine wpAny_bind (wpAny_pure ?_)
  simp only [List.isEmpty_cons,Bool.false_eq_true,if_false]
  refine wpAny_bind (wpAny_newTextTuple ?_)
  have kk:∀ (o:Obj) b o',s.heap.get? b=some o'→(s.heap.push o).get? b=some o':=fun o b o' e=>Heap.get?_push_of_some _ e
  refine wpAny_bind (wpAny_functionCodeX hcode ((C.keeps (kk _)).code (kk _ _ _ hP) T.triples) ((C.keeps (kk _)).tab (kk _ _ _ hP)) ha fun c' h' tk hx hge' hlt _ hrec htab hnew=> ?_)
  obtain ⟨P',_,_,⟨oc,vs',f1,f2,f3,_⟩,_⟩:=hnew
  obtain ⟨c2,oc2,vs2,t2,g1,g2,g3,g4⟩:=hrec
  obtain rfl:=Value.ref.inj g1
  obtain rfl:=sm (f1.symm.trans g2)
  obtain rfl:=yj (f3.symm.trans g3)
  have hx':Heap.ExtBut P s.heap h':=fun b o hb' e=>hx b o hb' (kk _ _ _ e)
  have hg':=(hg.push _).extBut hx hgP
  refine wpAny_bind (wpAny_builtinsFor hg' hbm hne0 (hx' _ _ hneP hbo) hcls hdict hdata ?_)
  refine wpAny_bind (wpAny_nsGet hg' ?_)
  rw [hdoc]
  refine wpAny_bind (wpAny_pure (wpAny_newObj_type ?_ (by size_fits)))
  have sz:s.heap.objs.size≤h'.objs.size:=by
   have h1:(s.heap.push {cls:= .type "tuple",data:= .seq _}).objs.size≤c':=hge'
   rw [Heap.size_push] at h1
   have h2:c'<h'.objs.size:=hlt
   exact Nat.le_of_lt (Nat.lt_of_lt_of_le (Nat.lt_of_lt_of_le (Nat.lt_succ_self _) h1) (Nat.le_of_lt h2))
  have kp:Kp s.heap h':=fun b o e=>by
   by_cases hbP:b=P
   ·subst hbP
    obtain rfl:=sm (hP.symm.trans e)
    refine .inr (.inl ⟨htb,ps,_,rfl,rfl,htab.2,?_⟩)
    exact .cons f1 f2 f3 (by rw [hq];exact g4) .nil
   ·exact .inl (hx' b o hbP e)
  exact h _ _ tk _ _ c' _ _ oc _ t2 (kp.trans (Kp.push h' _)) (iP sz) (Heap.get?_push_size _ rfl) rfl (Heap.get?_push_of_some _ f1) f2 f3 g4
end
end Mine
set_option genSizeOf false
set_option genInjectivity false
namespace Mine
variable [Tabs] [Frk]
noncomputable abbrev inS:Str:="inner"
noncomputable def RV (env:Env) (tbl:List Str) (Ex:Addr→Prop) (ow:Nat→Addr) (σ:MEnv) (h:Heap) (m cm:Str→Option Value):Prop :=
 ∀ i x d b,tbl[i]? = some x→getE σ i=some (d,b)→seen env.scope x=true→∃ v,valOf env m cm x=some v∧DenV h Ex b d v∧(b=true→v = .ref (ow i))
theorem RV.keep {env:Env} {tbl:List Str} {Ex:Addr→Prop} {ow:Nat→Addr} {σ:MEnv} {h h':Heap} {m cm:Str→Option Value} (V:RV env tbl Ex ow σ h m cm) (k:Kp h h'):RV env tbl Ex ow σ h' m cm:=fun i x d b h1 h2 h3 =>
 let ⟨v,e,dv,hw⟩:=V i x d b h1 h2 h3;⟨v,e,dv.keep k,hw⟩
theorem RV.cell {env:Env} {tbl:List Str} {Ex:Addr→Prop} {ow:Nat→Addr} {σ:MEnv} {h:Heap} {m cm:Str→Option Value} (V:RV env tbl Ex ow σ h m cm) {i:Nat} {x:Str} {d:D} {b:Bool} (h1:tbl[i]? = some x) (h2:getE σ i=some (d,b)) (hk:env.scope.names.lookup x=some .cell):∃ v,cm x=some v∧DenV h Ex b d v∧(b=true→v = .ref (ow i)):=by
 obtain ⟨v,e,r⟩:=V i x d b h1 h2 (by unfold seen;rw [hk];rfl)
 unfold valOf Env.kindOf at e
 rw [hk] at e
 exact ⟨v,e,r⟩
theorem SR.re {env:Env} {tbl:List Str} {Mu Ex:Addr→Prop} {ow:Nat→Addr} {σ:MEnv} {h h':Heap} {m cm:Str→Option Value} (S:SR env tbl Mu Ex ow σ h) (lt:∀ b,Ex b→Al h' b) (F:FrM env h' m cm) (V:RV env tbl Ex ow σ h' m cm):SR env tbl Mu Ex ow σ h' :=
 ⟨⟨S.rr.ok,S.rr.nd,lt,S.rr.own,m,cm,F,V⟩,S.mu,S.fr,S.own,S.inj⟩
theorem qE {prog:Program} {w:World} {A:Around} {E:Value→Shared→Prop} {s:Shared} {env:Env} {tbl:List Str} {Mu Ex:Addr→Prop} {ow:Nat→Addr} {σ:MEnv} {x:Str} {c:Addr} {v:Value} {Q:Unit→Shared→Prop} (S:SR env tbl Mu Ex ow σ s.heap) (hx:x∉tbl) (hk:env.scope.names.lookup x=some .cell) (hc:env.cells.lookup x=some c)
  (P:∀ h' m cm,SR env tbl Mu Ex ow σ h'→FrM env h' m cm→RV env tbl Ex ow σ h' m cm→cm x=some v→Heap.SameBut c s.heap h'→Q () {s with heap:=h'}):wpAny (model prog w) A (storeName env x v) Q E s:=by
 obtain ⟨m,cm,F,V⟩:=S.rr.fr
 refine wpAny_storeName_cell S.rr.ok.kind hk hc (F.cell x c hc) fun h' hc' sb=> ?_
 have kk:∀ b o,b≠c→s.heap.get? b=some o→h'.get? b=some o:=fun b o n e=>sb.extBut b o n e
 have F':FrM env h' m (fun y=>if y=x then some v else cm y):=⟨F.ns.at' fun o e=>kk _ o (F.offL x c hc).symm e,fun y cy hy=>by
  by_cases q:y=x
  ·rw [if_pos q]
   obtain rfl:=sm ((q▸hc).symm.trans hy)
   exact hc'
  ·rw [if_neg q]
   obtain ⟨o,e1,e2⟩:=F.cell y cy hy
   exact ⟨o,kk cy o (fun e=>q (F.inj y x cy hy (e▸hc))) e1,e2⟩,F.offL,F.inj,F.has⟩
 have kf:KF (· = x) env s.heap h':=⟨fun b o _ n e=> .inl (kk b o (fun q=>n x rfl (q▸hc)) e),Cd.sb kk (fun o e vs q=>let ⟨o',e1,e2⟩:=F.cell x c hc;nomatch e2.symm.trans ((congrArg Obj.data (sm (e1.symm.trans e))).trans q)) fun ⟨o,es,n,e1,e2⟩=>let ⟨o',e3,e4⟩:=F.cell x c hc;nomatch e4.symm.trans ((congrArg Obj.data (sm (e3.symm.trans e1))).trans e2)⟩
 have V':RV env tbl Ex ow σ h' m (fun y=>if y=x then some v else cm y):=fun i y d b h1 h2 h3=>by
  obtain ⟨u,e1,e2,e3⟩:=V i y d b h1 h2 h3
  refine ⟨u,?_,iH F S.rr.own kf e2,e3⟩
  unfold valOf at e1 ⊢
  show valK (m y) (if y=x then some v else cm y) _=_
  rw [if_neg fun (q:y=x)=>hx (q▸List.mem_of_getElem? h1)]
  exact e1
 refine P h' m _ (S.re (fun b hb=> ?_) F' V') F' V' (if_pos rfl) sb
 by_cases q:b=c
 ·obtain ⟨o,e,_⟩:=hc';exact ⟨o,q▸e⟩
 ·obtain ⟨o,e⟩:=S.rr.lt b hb;exact ⟨o,kk b o q e⟩
section
variable {X:Wd} {sc isc:Scope} {σ:MEnv} {mg mb:Str→Option Value}
noncomputable def HasB (mg:Str→Option Value) (h:Heap):Prop:=∃ bm o,mg "__builtins__"=some (.ref bm)∧bm≠builtinsNs∧bm≠mainGlobals∧h.get? bm=some o∧o.cls = .type "module"∧o.dict=some builtinsNs∧o.data = .plain
theorem HasB.at {h hB:Heap} (k:KB hB h) {P:Addr} (hP:hB.get? P=some (tabObj #[])) (x:HasB mg hB):h.BuiltinsAt mg P:=by
 obtain ⟨bm,o,b1,b2,b3,b4,b5,b6,b7⟩:=x
 refine ⟨bm,o,b1,b2,b3,fun q=> ?_,k.ob b4 (qz b5 b7),b5,b6,b7⟩
 have e:Data.plain=Data.fields #[]:=b7.symm.trans (congrArg Obj.data (sm (b4.symm.trans (q▸hP))))
 exact nomatch e
theorem pE (p:Ast X sc σ) (B:X.Ok mg mb) (hbm:HasB mg X.hB) {cd T:Addr} (hcode:p.env.code = .ref cd) (h7:X.hB.IsCode cd T #[]) (h8:X.hB.TableAt cd T #[]) (htb:Tabs.tb T) {as:List Arg} {ib:List Stmt} {pd:Pos} {qual:Str} {q:Str×Addr} {r:List (Str×Addr)} (hann:as.all (·.annotation.isNone)=true) (hdoc:docOf ib=none)
  (hqn:qualnameIn p.env inS inS=qual) (hq:Tabs.q pd.line pd.col=qual) (hl:sc.names.lookup inS=some .cell) (hx:inS∉X.c.tbl) {cI:Addr} (hc:p.env.cells.lookup inS=some cI) (hcl:closureFor isc p.env=pure (q :: r))
  (hsub:∀ z∈q :: r,p.env.cells.lookup z.1=some z.2∧isc.names.lookup z.1=some .free) (hfs:isc.names.all (fun z=> !(z.2 == .free) || ((q :: r).lookup z.1).isSome)=true) {E:Value→Shared→Prop} {Q:Flow→Shared→Prop}
  (P:∀ h tk m cm f,SR p.env X.c.tbl p.Mu p.Ex p.ow σ h→Gr p.s.heap p.Mu p.Ex p.Mu p.Ex h→FrM p.env h m cm→RV p.env X.c.tbl p.Ex p.ow σ h m cm→cm inS=some (.ref f)→Clo h f qual ⟨[],as,none,[],[],none,[]⟩ ib isc (q :: r) cm→Q .next {p.s with heap:=h,toks:=tk}) :
  wpAny (model X.P X.w) p.A (exec (.FunctionDef inS ⟨[],as,none,[],[],none,[]⟩ ib [] none [] isc none inS pd) p.env) Q E p.s:=by
 obtain ⟨ps,hP,TV⟩:=o9 p.k h8.2
 have hk:p.env.scope.names.lookup inS=some .cell:=p.hsc.symm▸hl
 refine nestDef_K rfl rfl ?_ ?_
 ·have:as++[]++Option.toList none++[]++Option.toList none=as:=by rw [List.append_nil];exact (List.append_nil _).trans ((List.append_nil _).trans (List.append_nil _))
  show annotationsOf (as++[]++Option.toList none++[]++Option.toList none) p.env++_=_
  rw [this,ly p.env as hann];rfl
 rw [hqn]
 refine pB hcl p.S.rr.ok.glob (p.k.ns B.ns) hcode (og p.k (CodeHd.of h7 h8)) hP TV htb hq (fun e=> ?_) (hbm.at p.k h8.2) hdoc fun f h1 tk1 doc pm c' ct o oc vs t k1 hfN f1 f2 f3 f4 f5 f6=> ?_
 ·obtain ⟨o',es,ep,e1,e2,_⟩:=B.ns
  have e:Data.dict es ep=Data.fields #[]:=e2.symm.trans (congrArg Obj.data (sm (e1.symm.trans (e▸h8.2))))
  exact nomatch e
 refine qE (s:={p.s with heap:=h1,toks:=tk1}) (p.S.keep k1) hx hk hc fun h2 m cm S2 F2 V2 hf sb=> ?_
 have kk:∀ b o,b≠cI→h1.get? b=some o→h2.get? b=some o:=fun b o n e=>sb.extBut b o n e
 have muI:p.Mu cI:=p.S.fr.2 inS cI (by unfold storable;rw [hk];rfl) hc
 obtain ⟨m0,cm0,F0,_⟩:=(p.S.keep k1).rr.fr
 obtain ⟨oI,g1,g2⟩:=F0.cell _ cI hc
 have cd2:Cd h1 h2:=Cd.sb kk (fun o e vs q=>nomatch g2.symm.trans ((congrArg Obj.data (sm (g1.symm.trans e))).trans q)) fun ⟨o,es,n,e1,e2⟩=>nomatch g2.symm.trans ((congrArg Obj.data (sm (g1.symm.trans e1))).trans e2)
 have lk:∀ x c,(q :: r).lookup x=some c→p.env.cells.lookup x=some c∧isc.names.lookup x=some .free:=fun x c e=>hsub (x,c) (PySem.mem_of_lookup e)
 refine P h2 tk1 m cm f S2 ⟨fun _ e=> .inl e,fun _ e=> .inl e,fun _ e _=>e,fun b o n e=>(k1 b o e).then (fun o' e'=> .inl (kk b o' (fun q=>n (q▸muI)) e')) cd2,k1.cd.trans cd2⟩ F2 V2 hf ⟨?_,fun x c e=>F2.cell x c (lk x c e).1,fun x y c e1 e2=>F2.inj x y c (lk x c e1).1 (lk y c e2).1,fun x hx=> ?_,fun x c e=>(lk x c e).2⟩
 ·refine ⟨o,doc,pm,c',ct,oc,vs,t,kk f o (fun q=> ?_) f1,f2,kk c' oc (fun q=> ?_) f3,f4,f5,f6⟩
  ·exact nomatch f2.symm.trans ((congrArg Obj.data (sm (f1.symm.trans (q▸g1)))).trans g2)
  ·exact nomatch f5.symm.trans ((congrArg Obj.data (sm (f3.symm.trans (q▸g1)))).trans g2)
 ·have:=List.all_eq_true.mp hfs _ (PySem.mem_of_lookup hx)
  exact Option.isSome_iff_exists.mp this
end
end Mine
set_option genSizeOf false
set_option genInjectivity false
namespace Mine
noncomputable def dig (n:Nat):Nat→Nat→Int→List Int
 |0,_,x=>[x]
 |f+1,len,x=>if len≤1 then [x] else dig n f (len / 2) (x.fmod (2 ^ (len / 2 * n)))++dig n f (len - len / 2) (x.fdiv (2 ^ (len / 2 * n)))
theorem fT (n f:Nat) (x:Int):dig n f 1 x=[x]:=by cases f<;>rfl
theorem fI (n f len:Nat) (x:Int) (h:2≤len):dig n (f+1) len x=dig n f (len / 2) (x.fmod (2 ^ (len / 2 * n)))++dig n f (len - len / 2) (x.fdiv (2 ^ (len / 2 * n))):=if_neg (Nat.not_le.mpr h)
theorem cD (n:Nat):∀ (f len:Nat) (x:Int),1≤len→len≤2 ^ f→(dig n f len x).length=len
 |0,len,x,h1,h2=>Nat.le_antisymm h1 h2
 |f+1,len,x,h1,h2=>by
  rcases Nat.lt_or_ge 1 len with h |h
  ·rw [fI n f len x h,List.length_append,cD n f _ _ (cu h).1 (cq h2).1,cD n f _ _ (cu h).2 (cq h2).2]
   exact Nat.add_sub_cancel' (Nat.div_le_self _ _)
  ·obtain rfl:=Nat.le_antisymm h h1
   rw [fT];rfl
noncomputable def tb8:List Str:=["x","L","R","mid","shift","upper","lower","n"]
noncomputable def nm8:List (Str×NameKind):=[("x",.local),("L",.local),("R",.local),("mid",.local),("shift",.local),("upper",.local),("lower",.local),("a_digits",.free),("inner",.free),("n",.free)]
noncomputable def pms:List Str:=["x","L","R"]
noncomputable def adS:Str:="a_digits"
noncomputable def tI1:T:= .cmp .Eq (.bin .Add (.var 1) (.cst (.int 1))) (.var 2)
noncomputable def blkI:S:= .seq (.asg 3 false (.bin .RShift (.bin .Add (.var 1) (.var 2)) (.cst (.int 1)))) (.seq (.asg 4 false (.bin .Mult (.bin .Sub (.var 3) (.var 1)) (.var 7))) (.seq (.asg 5 false (.bin .RShift (.var 0) (.var 4))) (.seq (.asg 6 false (.bin .BitXor (.var 0) (.bin .LShift (.var 5) (.var 4)))) .skip)))
noncomputable def aI1:T:= .cons (.var 6) (.cons (.var 1) (.cons (.var 3) .nil))
noncomputable def aI2:T:= .cons (.var 5) (.cons (.var 3) (.cons (.var 2) .nil))
noncomputable def callN (as:List Expr) (e:Expr):Expr:= .Call (.Name inS (kid 0 e).pos) as [] e.pos
noncomputable def unA (c:Cx) (sc:Scope) (t:T) (e:Expr):Bool×List Expr:=el t (un c sc t none (argsE e))
noncomputable def unT (c:Cx) (sc:Scope) (t:T) (e:Expr):Bool×Expr:=e1 t (un c sc t none [e])
noncomputable def inI (c:Cx) (sc:Scope) (ib:List Stmt):Bool×List Stmt :=
 let s0:=hs ib;let b0:=hs (sbod s0);let tg:=skid 1 b0
 let t:=unT c sc tI1 (skid 0 s0);let x:=unT c sc (.var 0) (skid 0 b0);let l:=unT c sc (.var 1) (kid 1 tg)
 let m:=unS c sc blkI ib.tail;let c1:=hs ib.tail.tail.tail.tail.tail;let c2:=hs ib.tail.tail.tail.tail.tail.tail
 let a1:=unA c sc aI1 (skid 0 c1);let a2:=unA c sc aI2 (skid 0 c2)
 (t.1&&x.1&&l.1&&m.1&&a1.1&&a2.1,.If t.2 [.Assign [.Subscript (.Name adS (kid 0 tg).pos) l.2 tg.pos] x.2 b0.pos,.Return none (hs (sbod s0).tail).pos] [] s0.pos :: (m.2++[.Expr (callN a1.2 (skid 0 c1)) c1.pos,.Expr (callN a2.2 (skid 0 c2)) c2.pos]))
noncomputable def sI (x L R:Int) (m sh up lo:Option (D×Bool)) (nn:Nat):MEnv:=[some (.int x,false),some (.int L,false),some (.int R,false),m,sh,up,lo,some (.int nn,false)]
noncomputable def oi (i:Int):Option (D×Bool):=some (.int i,false)
theorem w9 {G:af} {F:FEnv} {x:Int} {L len nn:Nat} (hx0:0≤x) (hxs:small x=true) (ha:len / 2≤1000000) (hn:nn≤1000000) (hb:len / 2 * nn≤1000000) :
  ex G F (sI x L ((L+len:Nat):Int) none none none none nn) blkI=some (sI x L ((L+len:Nat):Int) (oi ((L+len / 2:Nat):Int)) (oi ((len / 2 * nn:Nat):Int)) (oi (x.fdiv (2 ^ (len / 2 * nn)))) (oi (x.fmod (2 ^ (len / 2 * nn)))) nn,.next):=by
 refine ao (cY (pR rfl rfl)) (ao (cY (kO rfl rfl rfl ha hn)) (ao (cY (ag rfl rfl (aq (c:=decide ((0:Int)≤((len / 2 * nn:Nat):Int))=true) (decide_eq_true (Int.natCast_nonneg _)) rfl))) (ao (cY (ag rfl (ag rfl rfl (aq (c:=(decide ((0:Int)≤((len / 2 * nn:Nat):Int))&&decide ((len / 2 * nn)≤1000000)&&small (x.fdiv (2 ^ (len / 2 * nn))))=true) ?_ rfl)) ?_)) rfl)))
 ·rw [decide_eq_true (Int.natCast_nonneg _),decide_eq_true hb,cn hxs (dM hx0).1 (dM hx0).2];rfl
 ·exact congrArg (some ∘ D.int) (vV _ hx0)
noncomputable def flatM (σ:MEnv):Bool:=σ.all fun o=>o.elim true fun p=>p.1.scalar && !p.2
theorem xA {σ:MEnv} (h:flatM σ=true):∀ i d b,getE σ i=some (d,b)→d.scalar=true∧b=false:=fun i d b hg=>by
 unfold getE at hg
 cases e:σ[i]? with
 |none=>rw [e] at hg;exact ah hg
 |some o =>
  rw [e] at hg
  obtain rfl:o=some (d,b):=hg
  exact aa (List.all_eq_true.mp h _ (List.mem_of_getElem? e)) fun h1 h2=>⟨h1,nt h2⟩
structure Filled (a b:Array Value) (L:Nat) (dl:List Int):Prop where
 size:b.size=a.size
 inn:∀ j k,dl[j]? = some k→∃ t,b[L+j]? = some (Value.int k t)
 out:∀ j,(j<L∨L+dl.length≤j)→b[j]? = a[j]?
theorem Filled.one {a:Array Value} {L:Nat} {x:Int} {t:Tok} (h:L<a.size):Filled a (a.setIfInBounds L (.int x t)) L [x]:=by
 refine ⟨Array.size_setIfInBounds,fun j k e=> ?_,fun j hj=> ?_⟩
 ·cases j with
  |zero =>
   obtain rfl:x=k:=sm e
   exact ⟨t,by rw [Nat.add_zero,Array.getElem?_setIfInBounds,if_pos rfl,if_pos h]⟩
  |succ j=>exact ah e
 ·rw [Array.getElem?_setIfInBounds,if_neg fun q=> ?_]
  rw [q] at hj
  exact hj.elim (Nat.lt_irrefl _) fun e=>Nat.lt_irrefl _ e
theorem Filled.app {a b c:Array Value} {L:Nat} {d e:List Int} (x:Filled a b L d) (y:Filled b c (L+d.length) e):Filled a c L (d++e):=by
 refine ⟨y.size.trans x.size,fun j k h=> ?_,fun j hj=> ?_⟩
 ·rcases Nat.lt_or_ge j d.length with q |q
  ·rw [List.getElem?_append_left q] at h
   rw [y.out _ (.inl (Nat.add_lt_add_left q _))]
   exact x.inn j k h
  ·rw [List.getElem?_append_right q] at h
   have:=y.inn _ k h
   rw [Nat.add_assoc,Nat.add_sub_cancel' q] at this
   exact this
 ·rw [List.length_append,← Nat.add_assoc] at hj
  rw [y.out j (hj.imp (fun q=>Nat.lt_of_lt_of_le q (Nat.le_add_right _ _)) id),x.out j (hj.imp id fun q=>Nat.le_trans (Nat.le_add_right _ _) q)]
theorem wZ {L len nn:Nat} (hL:L+len≤100000) (hnb:len * nn≤1000000):L+len / 2≤100000∧L+len / 2+(len - len / 2)≤100000∧len / 2 * nn≤1000000∧(len - len / 2) * nn≤1000000 :=
 ⟨Nat.le_trans (Nat.add_le_add_left (Nat.div_le_self _ _) _) hL,Nat.le_trans (Nat.le_of_eq (gG L len)) hL,Nat.le_trans (Nat.mul_le_mul_right nn (Nat.div_le_self len 2)) hnb,Nat.le_trans (Nat.mul_le_mul_right nn (Nat.sub_le len _)) hnb⟩
variable [Tabs] [Frk]
theorem qr {prog:Program} {w:World} {hB:Heap} {mg:Str→Option Value} {fns:List Str} {n:Nat}:∀ f a,f∈fns→mg f=some (.ref a)→Ctr prog w hB n (fun _ _=>none) f a:=fun f a _ _ A E s X ds vs r Q ar kp hX hd hr=>ah hr
structure Ah (cl:List (Str×Addr)) (cm:Str→Option Value) (z:Str) (D f:Addr) (nn:Nat):Prop where
 a:∃ c,cl.lookup z=some c
 i:∃ c,cl.lookup inS=some c
 mA:cm z=some (.ref D)
 mI:cm inS=some (.ref f)
 mN:∃ t,cm ("n":Str)=some (.int nn t)
theorem AA {sc:Scope} (hnm:sc.names=nm8) {x L R:Int} {nn:Nat} {vs:List Value} {cm:Str→Option Value} (mN:∃ t,cm ("n":Str)=some (.int nn t)) {h h':Heap} {Y Ex:Addr→Prop} (dl:DenL h Y [.int x,.int L,.int R] vs):FV (valS sc (parM pms vs) cm) h' Ex tb8 (sI x L R none none none none nn):=by
 obtain ⟨v1,r1,rfl,⟨t1,rfl⟩,v2,r2,rfl,⟨t2,rfl⟩,v3,r3,rfl,⟨t3,rfl⟩,e⟩:=dl
 obtain rfl:r3=[]:=e
 obtain ⟨tn,hn⟩:=mN
 have e:∀ y,valS sc (parM pms [.int x t1,.int L t2,.int R t3]) cm y=valK (parM pms [.int x t1,.int L t2,.int R t3] y) (cm y) (nm8.lookup y):=fun y=>by unfold valS;rw [hnm]
 exact .has ((e _).trans rfl) ⟨t1,rfl⟩ (.has ((e _).trans rfl) ⟨t2,rfl⟩ (.has ((e _).trans rfl) ⟨t3,rfl⟩ (.no (.no (.no (.no (.has ((e _).trans hn) ⟨tn,rfl⟩ .nil)))))))
section
variable {prog:Program} {w:World} {c:Cx} {G:af} {hB:Heap} {mg mb:Str→Option Value} {sc:Scope} {ib:List Stmt} {as:List Arg} {qual:Str} {cl:List (Str×Addr)} {cm:Str→Option Value} {f D:Addr} {nn:Nat} {ps:List Str}
structure eQ (prog:Program) (w:World) (c:Cx) (G:af) (hB:Heap) (mg mb:Str→Option Value) (sc:Scope) (ps:List Str) (as:List Arg):Prop where
 B:Base prog w c G hB mg mb
 lim:hB.NoLimit
 ok:CxOk c
 I:innB sc c.tbl ps=true
 has:as.map (·.arg)=ps
noncomputable abbrev wd0 (prog:Program) (w:World) (c:Cx) (G:af) (hB:Heap):Wd:=⟨prog,w,c,G,fun _ _=>none,hB,0⟩
noncomputable abbrev Ast.inn {A:Around} {s:Shared} {env:Env} {h:Heap} {σ:MEnv} (tk:Nat) (hsc:env.scope=sc) (S:SR env c.tbl (onlyL env) (hEx env) (fun _=>0) σ h) (kp:KB hB h) (hn:hB.get? env.locals=none) {n:Nat} (ar:Ar n A):Ast (wd0 prog w c G hB) sc σ :=
 ⟨A,{s with heap:=h,toks:=tk},env,onlyL env,hEx env,fun _=>0,hsc,S,kp,fun b e=>e▸hn,ar.mono (Nat.zero_le _)⟩
theorem jH (N:eQ prog w c G hB mg mb sc ps as) {t:T} {e:Expr} (h:(unA c sc t e).1=true):AS (wd0 prog w c G hB) sc t (unA c sc t e).2:=((cg (X:=wd0 prog w c G hB) N.B qr t).l h).as
theorem ez (N:eQ prog w c G hB mg mb sc ps as) {t:T} {e:Expr} (h:(unT c sc t e).1=true):All (wd0 prog w c G hB) sc t (unT c sc t e).2:=(cg (X:=wd0 prog w c G hB) N.B qr t).e h
theorem uS (N:eQ prog w c G hB mg mb sc ps as) {s:S} {ss:List Stmt} (h1:isSeq s=true) (h:(unS c sc s ss).1=true):SS (wd0 prog w c G hB) sc s (execs (unS c sc s ss).2):=(fG (X:=wd0 prog w c G hB) N.B qr N.ok s).l h1 h
theorem xM (off:Frk.fs=none) (N:eQ prog w c G hB mg mb sc pms as) (htb:c.tbl=tb8) (hnm:sc.names=nm8) (hi:(inI c sc ib).1=true) (hr:(inI c sc ib).2=ib) (hn1:nn≤4000) (K:Ah cl cm adS D f nn) (hD:hB.get? D=none) :
  ∀ (fu len:Nat) (x:Int) (L:Nat),1≤len→len≤2 ^ fu→0≤x→small x=true→L+len≤100000→len * nn≤1000000→∀ (A:Around) (E:Value→Shared→Prop) (s:Shared) (items:Array Value) (vs:List Value) (Y:Addr→Prop) (Q:Value→Shared→Prop),Ar (fu+1) A→KB hB s.heap→Clo s.heap f qual ⟨[],as,none,[],[],none,[]⟩ ib sc cl cm→s.heap.PlainList D items→L+len≤items.size→DenL s.heap Y [.int x,.int (L:Int),.int ((L+len:Nat):Int)] vs →
   (∀ h' tk items',KD D s.heap h'→h'.PlainList D items'→Filled items items' L (dig nn fu len x)→Q .none {s with heap:=h',toks:=tk}) →
   wpAny (model prog w) A (call (.ref f) vs) Q E s:=by
 intro fu
 induction fu using Nat.strongRecOn with
 |_ fu ih =>
  intro len x L hl1 hl2 hx0 hxs hL hnb A E s items vs Y Q ar kp C pl hsz dl hQ
  refine C.call off N.lim N.I N.has kp ar dl.length (fun h Ex _ _=>htb▸AA hnm K.mN dl) fun env h₀ tk E' hcel hsc S k0 hn ar1=> ?_
  refine aa hi fun hi q6=>aa hi fun hi q5=>aa hi fun hi q4=>aa hi fun hi q3=>aa hi fun q1 q2=> ?_
  have hnB:hB.get? env.locals=none:=kp.none hn
  let p:Ast (wd0 prog w c G hB) sc _:= .inn (s:=s) tk hsc S (kp.trans k0) hnB ar1
  have kl:celK (env.scope.names.lookup adS)=true∧celK (env.scope.names.lookup inS)=true:=by rw [hsc,hnm];exact ⟨rfl,rfl⟩
  obtain ⟨cA,hcA⟩:=K.a
  obtain ⟨cI,hcI⟩:=K.i
  rw [← hr]
  refine wpAny_execs_cons (wpAny_If ((ez N q1).is _ p.at _ _ _ _ (pW rfl rfl) rfl fun h1 tk1 k1=> ?_))
  have S1:=S.keep k1
  have k01:=k0.trans k1
  have pl1:h1.PlainList D items:=PL.at' pl (k01.at D)
  let p1:Ast (wd0 prog w c G hB) sc _:= .inn (s:=s) tk1 hsc S1 (kp.trans k01) hnB ar1
  rcases Nat.lt_or_ge 1 len with hlen |hlen
  ·obtain ⟨fu',rfl⟩:∃ fu',fu=fu'+1:=by
    cases fu with
    |zero=>exact absurd (Nat.lt_of_lt_of_le hlen hl2) (by decide)
    |succ k=>exact ⟨k,rfl⟩
   rw [mr hlen,if_neg (by decide)]
   refine wpAny_execs_nil (qi ?_)
   obtain ⟨o1,o2,o3,o4⟩:=wZ (nn:=nn) hL hnb
   obtain ⟨f1,f2⟩:=cu hlen
   obtain ⟨g1,g2⟩:=cq hl2
   have up:=dM (k:=len / 2 * nn) hx0
   have lo:=iL (k:=len / 2 * nn) hx0
   refine uS N rfl q4 _ p1 _ _ _ _ (w9 hx0 hxs (Nat.le_trans (Nat.le_trans (Nat.le_add_left _ _) o1) (by decide)) (Nat.le_trans hn1 (by decide)) o3) fun h2 tk2 Mu2 Ex2 ow2 S2 g=> ?_
   have kd2:KD D s.heap h2:=g.kd D (k01.kd D) fun b e=>e▸hn
   have kp2:Kp s.heap h2:=g.kp0 k01 fun b e=>e▸hn
   have pl2:h2.PlainList D items:=PL.at' pl (kp2.at D)
   have C2:=C.keep kp2
   let p2:Ast (wd0 prog w c G hB) sc _:=p1.on S2 g tk2
   obtain ⟨oF,doc,pm,cd,ct,oc,vc,t,e1,e2,_⟩:=C2.fo
   refine wpAny_execs_cons (fj S.rr.ok.kind (cU (jH N q5) p2.at (C2.cell _ cI hcI) kl.2 (hcel▸hcI) K.mI e1 e2 (ds:=[.int (x.fmod (2 ^ (len / 2 * nn))),.int (L:Int),.int ((L+len / 2:Nat):Int)]) rfl rfl fun h3 us tk3 k3 dl3=> ?_))
   have kp3:=kp2.trans k3
   have pl3:h3.PlainList D items:=PL.at' pl (kp3.at D)
   refine ih fu' (Nat.lt_succ_self _) (len / 2) _ L f1 g1 lo.1 (cn hxs lo.1 lo.2) o1 o3 (A.deeper env) E' {s with heap:=h3,toks:=tk3} items us _ _ ar1 (kp.trans kp3) (C.keep kp3) pl3 (Nat.le_trans (Nat.add_le_add_left (Nat.div_le_self _ _) _) hsz) dl3 fun h4 tk4 items1 kd4 pl4 fl1=>⟨rfl,?_⟩
   have S4:=(S2.keep k3).far kd4 pl3 pl4 (xA rfl)
   have kd4':=(kp3.kd D).trans kd4
   let p4:Ast (wd0 prog w c G hB) sc _:={p2 with s:={s with heap:=h4,toks:=tk4},S:=S4,k:=kd4'.kpB kp hD}
   have C4:=C.kd kd4' pl
   obtain ⟨oF,doc,pm,cd,ct,oc,vc,t,e1,e2,_⟩:=C4.fo
   refine wpAny_execs_cons (fj S.rr.ok.kind (cU (jH N q6) p4.at (C4.cell _ cI hcI) kl.2 (hcel▸hcI) K.mI e1 e2 (ds:=[.int (x.fdiv (2 ^ (len / 2 * nn))),.int ((L+len / 2:Nat):Int),.int ((L+len:Nat):Int)]) rfl rfl fun h5 us tk5 k5 dl5=> ?_))
   have kd5:=kd4'.trans (k5.kd D)
   have pl5:h5.PlainList D items1:=PL.at' pl4 (k5.at D)
   have hLL:=gG L len
   refine ih fu' (Nat.lt_succ_self _) (len - len / 2) _ (L+len / 2) f2 g2 up.1 (cn hxs up.1 up.2) o2 o4 (A.deeper env) E' {s with heap:=h5,toks:=tk5} items1 us _ _ ar1 (kd5.kpB kp hD) (C.kd kd5 pl) pl5 (Nat.le_trans (Nat.le_of_eq hLL) (Nat.le_trans hsz (Nat.le_of_eq fl1.size.symm))) (hLL.symm▸dl5) fun h6 tk6 items2 kd6 pl6 fl2=>⟨rfl,?_⟩
   refine wpAny_execs_nil (hQ h6 tk6 items2 (kd5.trans kd6) pl6 ?_)
   rw [fI _ _ _ _ hlen]
   exact fl1.app (by rw [cD _ _ _ _ f1 g1];exact fl2)
  ·obtain rfl:=Nat.le_antisymm hlen hl1
   rw [rc,if_pos rfl]
   refine wpAny_execs_cons (wpAny_Assign_Subscript ((ez N q2).vs _ p1.at _ true (.int x) _ rfl fun v h2 tk2 k2 d2 _=> ?_) rfl)
   obtain ⟨tx,rfl⟩:=d2.top
   let p2:Ast (wd0 prog w c G hB) sc _:=p1.to k2 tk2
   refine mC (s:={s with heap:=h2,toks:=tk2}) S.rr.ok.kind ((C.keep (k01.trans k2)).cell _ cA hcA) kl.1 (hcel▸hcA) K.mA (by decide) (by decide) ?_
   refine (ez N q3).vs _ p2.at _ true (.int (L:Int)) _ rfl fun v h3 tk3 k3 d3 _=> ?_
   obtain ⟨tL,rfl⟩:=d3.top
   have k3':=(k01.trans k2).trans k3
   obtain ⟨n3,l3⟩:h3.PlainList D items:=PL.at' pl (k3'.at D)
   refine eP (s:={s with heap:=h3,toks:=tk3}) l3 (Int.natCast_nonneg _) (Int.ofNat_lt.mpr hsz) (Int.lt_of_le_of_lt (Int.ofNat_le.mpr (Nat.le_trans (Nat.le_add_right L 1) hL)) (by decide)) ?_
   refine wpAny_execs_cons (wpAny_Return_none ?_)
   have l4:=ci l3 (fun xs=>xs.setIfInBounds (L:Int).toNat (.int x tx))
   refine hQ _ _ _ ((k3'.kd D).trans (KD.atD ⟨n3,l3⟩ (Heap.SameBut.update ..))) ⟨_,l4⟩ ?_
   rw [fT]
   exact .one hsz
end
end Mine
set_option genSizeOf false
set_option genInjectivity false
namespace Mine
noncomputable def i2dLen (a n:Int):Nat:=(Builtin.Int.intBits a+n.toNat - 1) / n.toNat
noncomputable def i2d (a:Int) (n:Nat):List Int:=if a=0 then [] else dig n 12 (i2dLen a n) a
noncomputable def i2dSpec (ds:List D):Option D:=(two? ds).bind fun p=>ii (fun a n=>if decide (0≤a)&&small a&&decide (1≤n)&&decide (n≤4000) then some (.list ((i2d a n.toNat).map .int)) else none) p.1 p.2
theorem dG {a:Int} (h:small a=true):Builtin.Int.intBits a≤4000:=PySem.intBits_le_iff.mpr (by unfold small BIG at h;exact Nat.lt_of_lt_of_le (de h) (Nat.le_refl _))
theorem mR {b m:Nat} (hb:b≤4000) (h1:1≤m) (h2:m≤4000):(b+m - 1) / m≤4000∧(b+m - 1) / m * m≤8000∧(1≤b→1≤(b+m - 1) / m):=by
 have e:b+m - 1≤8000:=Nat.le_trans (Nat.sub_le _ _) (Nat.le_trans (Nat.add_le_add hb h2) (by decide))
 refine ⟨Nat.div_le_of_le_mul ?_,Nat.le_trans (Nat.div_mul_le_self _ _) e,fun h=>Nat.div_pos ?_ h1⟩
 ·exact Nat.le_trans (Nat.sub_le_sub_right (Nat.add_le_add_right hb m) 1) (Nat.le_trans (Nat.le_of_eq (Nat.sub_add_comm (n:=4000) (by decide))) (Nat.le_trans (show 3999+m≤3999 * m+m from Nat.add_le_add_right (Nat.mul_le_mul_left 3999 h1) m) (Nat.le_of_eq ((Nat.succ_mul 3999 m).symm.trans (Nat.mul_comm _ _)))))
 ·rw [Nat.add_comm,Nat.add_sub_assoc h];exact Nat.le_add_right _ _
theorem o5 {a n:Int} (h0:0≤a) (hs:small a=true) (h1:1≤n) (h2:n≤4000):(((Builtin.Int.intBits a:Nat):Int)+n - 1).fdiv n=(i2dLen a n:Int)∧i2dLen a n≤4000∧i2dLen a n * n.toNat≤8000∧(a≠0→1≤i2dLen a n):=by
 obtain ⟨m,rfl⟩:=Int.eq_ofNat_of_zero_le (Int.le_trans (by decide) h1)
 have h1:1≤m:=Int.ofNat_le.mp h1
 obtain ⟨g1,g2,g3⟩:=mR (dG hs) h1 (Int.ofNat_le.mp h2)
 refine ⟨?_,g1,g2,fun h=>g3 ?_⟩
 ·rw [Int.fdiv_eq_ediv_of_nonneg _ (Int.natCast_nonneg _)]
  have:((Builtin.Int.intBits a:Nat):Int)+(m:Int) - 1=((Builtin.Int.intBits a+m - 1:Nat):Int):=(Int.ofNat_sub (Nat.le_trans h1 (Nat.le_add_left _ _))).symm
  rw [this];rfl
 ·have:(a==0)=false:=beq_eq_false_iff_ne.mpr h
  unfold Builtin.Int.intBits
  rw [this]
  exact Nat.le_add_left 1 _
end Mine
set_option genSizeOf false
set_option genInjectivity false
namespace Mine
noncomputable def tb3:List Str:=["a","n","a_digits"]
noncomputable def nm5:List (Str×NameKind):=[("a",.local),("n",.cell),("a_digits",.cell),("inner",.cell),("len",.globalImplicit)]
noncomputable def vI:T:= .bin .Mult (.list (.cons (.cst (.int 0)) .nil)) (.bin .FloorDiv (.bin .Sub (.bin .Add (.meth .bitlen (.var 0) .nil) (.var 1)) (.cst (.int 1))) (.var 1))
noncomputable def aO:T:= .cons (.var 0) (.cons (.cst (.int 0)) (.cons (.blt .len (.cons (.var 2) .nil)) .nil))
noncomputable def defN (d:DefItem):Stmt:= .FunctionDef inS (plainPar d.params) d.body [] none [] d.scope none inS d.pos
noncomputable def outI (c:Cx) (sc:Scope) (body:List Stmt):Bool×List Stmt :=
 let s2:=hs body.tail.tail;let e0:=hs (sbod s2)
 let a:=unS c sc (.asg 2 true vI) body;let t:=unT c sc (.var 0) (skid 0 s2);let g:=unA c sc aO (skid 0 e0);let r:=unS c sc (.retv 2) body.tail.tail.tail
 (a.1&&t.1&&g.1&&r.1,[hs a.2,defN (itemOf (hs body.tail)),.If t.2 [.Expr (callN g.2 (skid 0 e0)) e0.pos] [] s2.pos,hs r.2])
noncomputable def defInB (sc:Scope) (tbl ps:List Str) (nm:List (Str×NameKind)) (d:DefItem):Bool:=d.params.args.map (·.arg)==ps&&d.params.args.all (·.annotation.isNone)&&(docOf d.body).isNone&&d.scope.names==nm&&innB d.scope tbl ps&&tbl.all (fun x=>dbg x&&dcl x)
noncomputable def i2dB (c:Cx) (d:DefItem):Bool:=let q:=itemOf (hs d.body.tail)
 (outI (atT c tb3) d.scope d.body).1&&(inI (atT c tb8) q.scope q.body).1&&d.scope.names==nm5&&defB c tb3 d&&parsOf d.params==(["a","n"]:List Str)&&defInB d.scope tb8 pms nm8 q
noncomputable def i2dU (c:Cx) (d:DefItem):List Stmt×List Stmt:=let q:=itemOf (hs d.body.tail);((outI (atT c tb3) d.scope d.body).2,(inI (atT c tb8) q.scope q.body).2)
theorem yd (L:Nat):cellsFrom (L+1) nm5 []=[(inS,L+3),(adS,L+2),(("n":Str),L+1)]:=rfl
theorem gi (n:Nat):(List.replicate n [D.int 0]).flatten.length=n:=by
 induction n with
 |zero=>rfl
 |succ n ih=>rw [List.replicate_succ,List.flatten_cons,List.length_append,ih,Nat.add_comm];rfl
theorem tR {n:Int}:i2dLen 0 n=0:=by
 unfold i2dLen
 rcases Nat.eq_zero_or_pos n.toNat with h |h
 ·rw [h];rfl
 ·exact Nat.div_eq_of_lt (by rw [show Builtin.Int.intBits 0=0 from rfl,Nat.zero_add];exact Nat.sub_lt h (by decide))
variable [Tabs] [Frk]
theorem zZ {G:af} {F:FEnv} {a n:Int} {σ:MEnv} {b:Bool} (h0:0≤a) (hs:small a=true) (h1:1≤n) (h2:n≤4000) (e0:ev G F σ true (.var 0)=some (.int a)) (e1:ev G F σ true (.var 1)=some (.int n)):ev G F σ b vI=some (.list (List.replicate (i2dLen a n) [D.int 0]).flatten):=by
 obtain ⟨g1,g2,_,_⟩:=o5 h0 hs h1 h2
 have hn:n.natAbs<2 ^ 64:=Nat.lt_of_le_of_lt (m7 (Int.le_trans (by decide) h1) h2) (by decide)
 have z:(n==0)=false:=beq_eq_false_iff_ne.mpr fun e=>absurd (e▸h1) (by decide)
 refine ag (x:= .list [.int 0]) rfl (ag (ag (ag (x:= .int (Builtin.Int.intBits a)) (ad e0 rfl) e1 rfl) rfl rfl) e1 (y:= .int n) (d:= .int (i2dLen a n)) ?_) ?_
 ·refine gs (c:=(n==0 || !small n)=true) ?_ (congrArg (some ∘ D.int) g1)
  rw [z,eA hn];decide
 ·refine aq (c:=(sizeOk ([D.int 0].length * (i2dLen a n:Int).toNat)&&idxOk (i2dLen a n:Int))=true) ?_ rfl
  have e:[D.int 0].length * (i2dLen a n:Int).toNat=i2dLen a n:=Nat.one_mul _
  rw [e,gz g2,ix (Nat.le_trans g2 (by decide))];rfl
theorem lV {a b:Array Value} {dl:List Int} (f:Filled a b 0 dl) (hl:dl.length=a.size) (h:Heap) (Ex:Addr→Prop):DenL h Ex (dl.map .int) b.toList:=by
 refine DenL.of_get (by rw [Array.length_toList,f.size,List.length_map,hl]) fun i d hi=> ?_
 rw [List.getElem?_map] at hi
 cases e:dl[i]? with
 |none=>rw [e] at hi;exact ah hi
 |some k =>
  rw [e] at hi
  obtain ⟨t,ht⟩:=f.inn i k e
  rw [Nat.zero_add] at ht
  refine ⟨.int k t,by rw [Array.getElem?_toList];exact ht,?_⟩
  rw [← sm hi]
  exact ⟨t,rfl⟩
section
variable {prog:Program} {w:World} {c:Cx} {G:af} {hB:Heap} {mg mb:Str→Option Value} {d:DefItem} {name:Str} {a:Addr}
theorem Base.at (B:Base prog w c G hB mg mb) (tb:List Str):Base prog w (atT c tb) G hB mg mb:=⟨B.ns,B.bn,B.blt,B.cst,B.iset,B.idict,B.ndb,B.fn⟩
theorem DefAt.re {params:Arguments} {body:List Stmt} {sc:Scope} (da:DefAt hB a name params body sc) {b:List Stmt} (h:b=body):DefAt hB a name params b sc:=h▸da
theorem xp (off:Frk.fs=none) (B:Base prog w c G hB mg mb) (hbm:HasB mg hB) (lim:hB.NoLimit) (hd:i2dB c d=true) (hu1:(i2dU c d).1=d.body) (hu2:(i2dU c d).2=(itemOf (hs d.body.tail)).body) (hp:d.params=plainPar d.params) (da:DefAt hB a name d.params d.body d.scope) (htb:∀ cd P,hB.TableAt cd P #[]→Tabs.tb P)
  (hq:Tabs.q (itemOf (hs d.body.tail)).pos.line (itemOf (hs d.body.tail)).pos.col=name++(".<locals>.":Str)++inS) {F':FEnv} (hF:∀ ds r,F' name ds=some r→i2dSpec ds=some r) {k:Nat} (hk:60≤k):Ctr prog w hB k F' name a:=by
 intro A E s Y ds vs r Q ar kp hX hden hr ret
 have hr:=hF _ _ hr
 revert hden
 refine ae hr fun p hp2 hr=>j5 (P:=fun ds=>DenL s.heap Y ds vs→_) hp2 (oB (P:=fun x y=>DenL s.heap Y [x,y] vs→_) hr fun av nv hr hden=>gd hr fun hc hr=> ?_)
 refine aa hc fun hc n2=>aa hc fun hc n1=>aa hc fun a0 as1=> ?_
 have a0:=de a0;have n1:=de n1;have n2:=de n2
 obtain rfl:=sm hr
 refine aa hd fun hd d6=>aa hd fun hd d5=>aa hd fun hd d4=>aa hd fun hd d3=>aa hd fun d1 d2=> ?_
 refine aa d6 fun d6 w6=>aa d6 fun d6 w5=>aa d6 fun d6 w4=>aa d6 fun d6 w3=>aa d6 fun w1 w2=> ?_
 refine aa d1 fun d1 u4=>aa d1 fun d1 u3=>aa d1 fun u1 u2=> ?_
 have hnm:d.scope.names=nm5:=eq_of_beq d3
 have hin:(itemOf (hs d.body.tail)).scope.names=nm8:=eq_of_beq w4
 have B3:(Wd.mk prog w (atT c tb3) G (fun _ _=>none) hB 58).Ok mg mb:=B.at tb3
 have CT:(Wd.mk prog w (atT c tb3) G (fun _ _=>none) hB 58).Ct mg:=qr
 have ok3:=fS (name:=name) d4 hp
 refine dz off (X:=⟨prog,w,atT c tb3,G,fun _ _=>none,hB,58⟩) lim ok3 da (ar.mono (Nat.le_trans (show 59≤60 by decide) hk)) kp hX hden (congrArg List.length (eq_of_beq d5)).symm ret fun p cd T he _ h7 h8 hnew k0 fin=> ?_
 rw [← hu1]
 have hcel:p.env.cells=[(inS,s.heap.objs.size+3),(adS,s.heap.objs.size+2),(("n":Str),s.heap.objs.size+1)]:=by rw [he];show cellsFrom _ d.scope.names []=_;rw [hnm];exact yd _
 have hl:∀ {x k},nm5.lookup x=some k→p.env.scope.names.lookup x=some k:=fun h=>by rw [p.hsc,hnm];exact h
 have lk:∀ {x k},([(inS,s.heap.objs.size+3),(adS,s.heap.objs.size+2),(("n":Str),s.heap.objs.size+1)]:List (Str×Addr)).lookup x=some k→p.env.cells.lookup x=some k:=fun h=>by rw [hcel];exact h
 have fk:∀ {x k},nm8.lookup x=some k→(itemOf (hs d.body.tail)).scope.names.lookup x=some k:=fun h=>by rw [hin];exact h
 obtain ⟨l1,l2,l3,l4⟩:=o5 a0 as1 n1 n2
 refine wpAny_execs_cons ((fG B3 CT ok3.names (.asg 2 true vI)).s rfl u1 _ p _ _ _ _ (mT (zZ a0 as1 n1 n2 rfl rfl) rfl) fun h1 tk1 Mu1 Ex1 ow1 S1 g1=> ?_)
 let p1:Ast _ d.scope _:=p.on S1 g1 tk1
 refine wpAny_execs_cons (pE p1 B3 hbm (he▸rfl) h7 h8 (htb _ _ h8) w2 (Option.isNone_iff_eq_none.mp w3) ?_ hq (by rw [hnm];rfl) (l9 rfl) (lk rfl) (q:=(("n":Str),s.heap.objs.size+1)) (r:=[(inS,s.heap.objs.size+3),(adS,s.heap.objs.size+2)]) ?_ ?_ (by rw [hin];rfl) fun h2 tk2 m cm f S2 g2 F2 V2 hf C=> ?_)
 ·unfold qualnameIn
  rw [show p1.env.kindOf inS=some .cell from hl rfl,if_neg (by decide)]
  show p.env.qual++_=_
  rw [he];rfl
 ·unfold closureFor cellOf
  show _=_
  rw [hin,show p1.env.cells=_ from hcel];rfl
 ·refine List.forall_mem_cons.mpr ⟨⟨lk rfl,fk rfl⟩,List.forall_mem_cons.mpr ⟨⟨lk rfl,fk rfl⟩,List.forall_mem_cons.mpr ⟨⟨lk rfl,fk rfl⟩,fun _ h=>nomatch h⟩⟩⟩
 let p2:Ast _ d.scope _:=p1.on S2 g2 tk2
 refine wpAny_execs_cons (wpAny_If (((cg B3 CT (.var 0)).e u2).is _ p2.at _ (.int av) _ _ rfl rfl fun h3 tk3 k3=> ?_))
 let p3:Ast _ d.scope _:=p2.to k3 tk3
 have G3:=(g1.trans p.lt p.S.mu g2).trans p.lt p.S.mu (Gr.of_kp k3 _ _)
 have ret:=fG (sc:=d.scope) B3 CT ok3.names (.retv 2)
 cases hz:(av==0) with
 |true =>
  rw [if_neg (show ¬ ((!(true))=true) by decide)]
  refine wpAny_execs_nil (wpAny_execs_cons (ret.s rfl u4 _ p3 _ _ _ _ rfl fun h6 tk6 v Mu6 Ex6 g6 dv=>fin h6 tk6 v _ _ (G3.trans p.lt p.S.mu g6) ?_))
  obtain rfl:=eq_of_beq hz
  rw [tR] at dv
  exact dv
 |false =>
  rw [if_pos (show (!(false))=true by decide)]
  have zn:av≠0:=beq_eq_false_iff_ne.mp hz
  have C3:=C.keep k3
  obtain ⟨o,doc,pm,cd',ct,oc,vc,t,e1,e2,_⟩:=C3.fo
  refine wpAny_execs_cons (fj p.S.rr.ok.kind (cU ((cg B3 CT aO).l u3).as p3.at (C3.cell inS _ rfl) (by rw [hl (x:=inS) rfl];rfl) (lk rfl) hf e1 e2 (ds:=[.int av,.int ((0:Nat):Int),.int ((0+i2dLen av nv:Nat):Int)]) (aD rfl (aD rfl (aD (ad (aD rfl rfl) (aq (by rw [gi];exact gz l2) (by rw [gi,Nat.zero_add]))) rfl))) rfl fun h4 us tk4 k4 dl4=> ?_))
  have seenA:seen p.env.scope adS=true:=by unfold seen;rw [hl (x:=adS) rfl];rfl
  have S4:=p3.S.keep k4
  obtain ⟨items,ds0,e0,pl4,dl0⟩:=S4.rr.own_al (i:=2) (x:=adS) rfl seenA rfl
  have hz2:items.size=i2dLen av nv:=by
   have:=dl0.length
   rw [← uY e0,gi,Array.length_toList] at this
   exact this
  obtain ⟨vA,mA,_,hA⟩:=V2.cell (i:=2) (x:=adS) rfl rfl (hl rfl)
  obtain ⟨vN,mN,⟨tN,hN⟩,_⟩:=V2.cell (i:=1) (x:=("n":Str)) (b:=false) rfl rfl (hl rfl)
  have hnv:nv=(nv.toNat:Int):=(Int.toNat_of_nonneg (Int.le_trans (by decide) n1)).symm
  have mu2:=S4.own 2 adS _ rfl seenA rfl
  refine xM (prog:=prog) (w:=w) (c:=atT c tb8) (G:=G) (mg:=mg) (mb:=mb) (sc:=(itemOf (hs d.body.tail)).scope) (as:=(itemOf (hs d.body.tail)).params.args) (nn:=nv.toNat) off ⟨B.at tb8,lim,w6,w5,eq_of_beq w1⟩ rfl hin d2 hu2 (Int.toNat_le.mpr n2) ⟨⟨_,rfl⟩,⟨_,rfl⟩,by rw [mA,hA rfl],hf,tN,by rw [mN,hN,← hnv]⟩ (p2.hm _ mu2) 12 (i2dLen av nv) av 0 (l4 zn) (Nat.le_trans l2 (by decide)) a0 as1 (by rw [Nat.zero_add];exact Nat.le_trans l2 (by decide)) (Nat.le_trans l3 (by decide)) p.A _ {p.s with heap:=h4,toks:=tk4} items us _ _ (p.ar.mono (show 13≤58 by decide)) ((p3.k).trans k4) (C3.keep k4) pl4 (by rw [Nat.zero_add,hz2];exact Nat.le_refl _) dl4 fun h5 tk5 items' kd5 pl5 fl=>⟨rfl,?_⟩
  obtain ⟨S5,g5⟩:=S4.mutOwn (c:=atT c tb3) (i:=2) (x:=adS) rfl seenA rfl kd5.kp kd5.cd pl5 (lV fl (by rw [cD _ _ _ _ (l4 zn) (Nat.le_trans l2 (by decide)),hz2]) _ _)
  have G5:=(G3.trans p.lt p.S.mu (Gr.of_kp k4 _ _)).trans p.lt p.S.mu g5
  let p5:Ast _ d.scope _:=p.on S5 G5 tk5
  refine wpAny_execs_nil (wpAny_execs_cons (ret.s rfl u4 _ p5 _ _ _ _ rfl fun h6 tk6 v Mu6 Ex6 g6 dv=>fin h6 tk6 v _ _ (G5.trans p.lt p.S.mu g6) ?_))
  unfold i2d
  rw [if_neg zn]
  exact dv
end
end Mine
set_option genSizeOf false
set_option genInjectivity false
namespace Mine
noncomputable def und (n:Nat):List Int→Int
 | []=>0
 |x :: r=>x+2 ^ n * und n r
theorem bG (n:Nat):∀ (a b:List Int),und n (a++b)=und n a+2 ^ (n * a.length) * und n b
 | [],b=>by rw [List.nil_append,List.length_nil,Nat.mul_zero,Int.pow_zero,Int.one_mul];exact (Int.zero_add _).symm
 |x :: a,b=>by
  rw [List.cons_append,und,und,bG n a b,List.length_cons,Nat.mul_add,Nat.mul_one,Int.pow_add,Int.mul_add,Int.add_assoc,Int.mul_comm (2 ^ (n * a.length)) (2 ^ n),Int.mul_assoc]
theorem cf (n:Nat):∀ (a:List Int),(∀ x∈a,0≤x)→0≤und n a
 | [],_=>Int.le_refl _
 |x :: a,h=>Int.add_nonneg (h x List.mem_cons_self) (Int.mul_nonneg (Int.le_of_lt (Int.pow_pos (by decide))) (cf n a fun y hy=>h y (List.mem_cons_of_mem _ hy)))
theorem ye (k:Nat) {x:Int} (h:0≤x):x≤2 ^ k * x:=by
 have h1:(1:Int)≤2 ^ k:=Int.pow_pos (by decide)
 have:=Int.mul_le_mul_of_nonneg_right h1 h
 rwa [Int.one_mul] at this
theorem s8 (n:Nat) {a b:List Int} (h:∀ x∈a++b,0≤x):und n b≤und n (a++b):=by
 rw [bG]
 have h1:=cf n a fun x hx=>h x (List.mem_append_left _ hx)
 have h2:=cf n b fun x hx=>h x (List.mem_append_right _ hx)
 exact Int.le_trans (ye (n * a.length) h2) (Int.le_add_of_nonneg_left h1)
theorem tJ (n:Nat) {a b:List Int} (h:∀ x∈a++b,0≤x):und n a≤und n (a++b):=by
 rw [bG]
 have h2:=cf n b fun x hx=>h x (List.mem_append_right _ hx)
 exact Int.le_add_of_nonneg_right (Int.mul_nonneg (Int.le_of_lt (Int.pow_pos (by decide))) h2)
noncomputable def part (n:Nat) (is:List Int) (L len:Nat):Int:=und n ((is.drop L).take len)
theorem vC (n:Nat) {is:List Int} (h:∀ x∈is,0≤x) (L len:Nat):0≤part n is L len∧part n is L len≤und n is:=by
 have e1:is.take L++is.drop L=is:=List.take_append_drop L is
 have e2:(is.drop L).take len++(is.drop L).drop len=is.drop L:=List.take_append_drop len _
 have h2:∀ x∈is.drop L,0≤x:=fun x hx=>h x (List.mem_of_mem_drop hx)
 have a1:=tJ n (a:=(is.drop L).take len) (b:=(is.drop L).drop len) (e2.symm▸h2)
 have a2:=s8 n (a:=is.take L) (b:=is.drop L) (e1.symm▸h)
 rw [e2] at a1
 rw [e1] at a2
 exact ⟨cf n _ fun x hx=>h2 x (List.mem_of_mem_take hx),Int.le_trans a1 a2⟩
theorem tC (n:Nat) {is:List Int} {L:Nat} (h:L<is.length):part n is L 1=is[L]:=by
 unfold part
 rw [List.drop_eq_getElem_cons h,List.take_succ_cons,List.take_zero,und,und,Int.mul_zero,Int.add_zero]
theorem th (n:Nat) {is:List Int} {L len a:Nat} (h:a≤len) (hL:L+len≤is.length):part n is (L+a) (len - a) * 2 ^ (a * n)+part n is L a=part n is L len:=by
 unfold part
 conv=>rhs;rw [← Nat.add_sub_cancel' h,List.take_add,List.drop_drop,bG]
 have:((is.drop L).take a).length=a:=by
  rw [List.length_take,List.length_drop]
  exact Nat.min_eq_left (Nat.le_sub_of_add_le (Nat.le_trans (Nat.le_of_eq (Nat.add_comm _ _)) (Nat.le_trans (Nat.add_le_add_left h _) hL)))
 rw [this,Nat.mul_comm n a,Int.mul_comm (2 ^ (a * n)),Int.add_comm]
noncomputable def tbJ:List Str:=["L","R","mid","shift","digits","n"]
noncomputable def nmJ:List (Str×NameKind):=[("L",.local),("R",.local),("mid",.local),("shift",.local),("digits",.free),("inner",.free),("n",.free)]
noncomputable def pmJ:List Str:=["L","R"]
noncomputable def dgS:Str:="digits"
noncomputable def tJ1:T:= .cmp .Eq (.bin .Add (.var 0) (.cst (.int 1))) (.var 1)
noncomputable def blkJ:S:= .seq (.asg 2 false (.bin .RShift (.bin .Add (.var 0) (.var 1)) (.cst (.int 1)))) (.seq (.asg 3 false (.bin .Mult (.bin .Sub (.var 2) (.var 0)) (.var 5))) .skip)
noncomputable def aJ1:T:= .cons (.var 2) (.cons (.var 1) .nil)
noncomputable def aJ2:T:= .cons (.var 0) (.cons (.var 2) .nil)
noncomputable def inJ (c:Cx) (sc:Scope) (ib:List Stmt):Bool×List Stmt :=
 let s0:=hs ib;let b0:=hs (sbod s0);let s3:=hs ib.tail.tail.tail;let e:=skid 0 s3;let l:=kid 0 e
 let t:=unT c sc tJ1 (skid 0 s0);let d:=unT c sc (.idx (.var 4) (.var 0)) (skid 0 b0);let m:=unS c sc blkJ ib.tail
 let a1:=unA c sc aJ1 (kid 0 l);let h:=unT c sc (.var 3) (kid 1 l);let a2:=unA c sc aJ2 (kid 1 e)
 (t.1&&d.1&&m.1&&a1.1&&h.1&&a2.1,.If t.2 [.Return (some d.2) b0.pos] [] s0.pos :: (m.2++[.Return (some (.BinOp (.BinOp (callN a1.2 (kid 0 l)) .LShift h.2 l.pos) .Add (callN a2.2 (kid 1 e)) e.pos)) s3.pos]))
noncomputable def sJ (L R:Int) (m sh:Option (D×Bool)) (ds:List D) (nn:Nat):MEnv:=[some (.int L,false),some (.int R,false),m,sh,some (.list ds,false),some (.int nn,false)]
theorem vF {G:af} {F:FEnv} {ds:List D} {L len nn:Nat} (ha:len / 2≤1000000) (hn:nn≤1000000) :
  ex G F (sJ L ((L+len:Nat):Int) none none ds nn) blkJ=some (sJ L ((L+len:Nat):Int) (oi ((L+len / 2:Nat):Int)) (oi ((len / 2 * nn:Nat):Int)) ds nn,.next) :=
 ao (cY (pR rfl rfl)) (ao (cY (kO rfl rfl rfl ha hn)) rfl)
theorem zA {G:af} {F:FEnv} {σ:MEnv} {is:List Int} {L:Nat} {i j:Nat} (h1:ev G F σ true (.var i)=some (.list (is.map .int))) (h2:ev G F σ true (.var j)=some (.int (L:Int))) (h:L<is.length) (hL:L≤1000000):ev G F σ true (.idx (.var i) (.var j))=some (.int is[L]):=by
 refine ad h1 (ad h2 ?_)
 refine aq (c:=idxOk (L:Int)=true) (ix hL) ?_
 rw [if_pos (Int.natCast_nonneg _),Int.toNat_natCast,List.getElem?_map,List.getElem?_eq_getElem h];rfl
variable [Tabs] [Frk]
theorem ej {h h':Heap} {X X':Addr→Prop} {is:List Int} {vs:List Value} (d:DenL h X (is.map .int) vs):DenL h' X' (is.map .int) vs:=by
 induction is generalizing vs with
 |nil=>exact d
 |cons i r ih =>
  obtain ⟨v,q,e,a,b⟩:=d
  exact ⟨v,q,e,a,ih b⟩
theorem AB {sc:Scope} (hnm:sc.names=nmJ) {L R:Int} {nn:Nat} {vs:List Value} {cm:Str→Option Value} {is:List Int} {D:Addr} {items:Array Value} (mD:cm dgS=some (.ref D)) (mN:∃ t,cm ("n":Str)=some (.int nn t)) {h h':Heap} {Y Ex:Addr→Prop} (dl:DenL h Y [.int L,.int R] vs) (hx:¬ Ex D) (pl:h'.PlainList D items) (di:DenL h (fun _=>False) (is.map .int) items.toList) :
  FV (valS sc (parM pmJ vs) cm) h' Ex tbJ (sJ L R none none (is.map .int) nn):=by
 obtain ⟨v1,r1,rfl,⟨t1,rfl⟩,v2,r2,rfl,⟨t2,rfl⟩,e⟩:=dl
 obtain rfl:r2=[]:=e
 obtain ⟨tn,hn⟩:=mN
 have e:∀ y,valS sc (parM pmJ [.int L t1,.int R t2]) cm y=valK (parM pmJ [.int L t1,.int R t2] y) (cm y) (nmJ.lookup y):=fun y=>by unfold valS;rw [hnm]
 exact .has ((e _).trans rfl) ⟨t1,rfl⟩ (.has ((e _).trans rfl) ⟨t2,rfl⟩ (.no (.no (.has ((e _).trans mD) ⟨D,items,rfl,hx,pl,ej di⟩ (.has ((e _).trans hn) ⟨tn,rfl⟩ .nil)))))
section
variable {prog:Program} {w:World} {c:Cx} {G:af} {hB:Heap} {mg mb:Str→Option Value} {sc:Scope} {ib:List Stmt} {as:List Arg} {qual:Str} {cl:List (Str×Addr)} {cm:Str→Option Value} {f D:Addr} {nn:Nat} {is:List Int} {items:Array Value}
theorem yi (off:Frk.fs=none) (N:eQ prog w c G hB mg mb sc pmJ as) (htb:c.tbl=tbJ) (hnm:sc.names=nmJ) (hi:(inJ c sc ib).1=true) (hr:(inJ c sc ib).2=ib) (hn1:nn≤4000) (K:Ah cl cm dgS D f nn) (hpos:∀ x∈is,0≤x) (hsm:small (und nn is)=true) (hsz:is.length≤100000) (hnb:is.length * nn≤1000000) :
  ∀ (fu len:Nat) (L:Nat),1≤len→len≤2 ^ fu→L+len≤is.length→∀ (A:Around) (E:Value→Shared→Prop) (s:Shared) (vs:List Value) (Y:Addr→Prop) (Q:Value→Shared→Prop),Ar (fu+1) A→KB hB s.heap→Clo s.heap f qual ⟨[],as,none,[],[],none,[]⟩ ib sc cl cm→s.heap.PlainList D items→DenL s.heap (fun _=>False) (is.map .int) items.toList→DenL s.heap Y [.int (L:Int),.int ((L+len:Nat):Int)] vs →
   (∀ h' tk t,Kp s.heap h'→Q (.int (part nn is L len) t) {s with heap:=h',toks:=tk}) →
   wpAny (model prog w) A (call (.ref f) vs) Q E s:=by
 intro fu
 induction fu using Nat.strongRecOn with
 |_ fu ih =>
  intro len L hl1 hl2 hL A E s vs Y Q ar kp C pl di dl hQ
  refine C.call off N.lim N.I N.has kp ar dl.length (σ:=sJ L ((L+len:Nat):Int) none none (is.map .int) nn) (fun h Ex k hx=>htb▸AB hnm K.mA K.mN dl (fun e=> ?_) (PL.at' pl (k.at D)) di) fun env h₀ tk E' hcel hsc S k0 hn ar1=> ?_
  ·rcases hx D e with q |⟨x,q⟩
   ·obtain ⟨o,e⟩:=PL.al pl;exact ah (q.symm.trans e)
   ·exact C.nseq q pl rfl
  refine aa hi fun hi q6=>aa hi fun hi q5=>aa hi fun hi q4=>aa hi fun hi q3=>aa hi fun q1 q2=> ?_
  have hnB:hB.get? env.locals=none:=kp.none hn
  let p:Ast (wd0 prog w c G hB) sc _:= .inn (s:=s) tk hsc S (kp.trans k0) hnB ar1
  have kl:celK (env.scope.names.lookup inS)=true:=by rw [hsc,hnm];rfl
  obtain ⟨cI,hcI⟩:=K.i
  rw [← hr]
  refine wpAny_execs_cons (wpAny_If ((ez N q1).is _ p.at _ _ _ _ (pW rfl rfl) rfl fun h1 tk1 k1=> ?_))
  have S1:=S.keep k1
  have k01:=k0.trans k1
  let p1:Ast (wd0 prog w c G hB) sc _:= .inn (s:=s) tk1 hsc S1 (kp.trans k01) hnB ar1
  rcases Nat.lt_or_ge 1 len with hlen |hlen
  ·obtain ⟨fu',rfl⟩:∃ fu',fu=fu'+1:=by
    cases fu with
    |zero=>exact absurd (Nat.lt_of_lt_of_le hlen hl2) (by decide)
    |succ k=>exact ⟨k,rfl⟩
   rw [mr hlen,if_neg (by decide)]
   refine wpAny_execs_nil (qi ?_)
   obtain ⟨f1,f2⟩:=cu hlen
   obtain ⟨g1,g2⟩:=cq hl2
   have hle:len≤is.length:=Nat.le_trans (Nat.le_add_left _ _) hL
   have ha:len / 2 * nn≤1000000:=Nat.le_trans (Nat.mul_le_mul_right nn (Nat.le_trans (Nat.div_le_self _ _) hle)) hnb
   refine uS N rfl q3 _ p1 _ _ _ _ (vF (Nat.le_trans (Nat.le_trans (Nat.div_le_self _ _) hle) (Nat.le_trans hsz (by decide))) (Nat.le_trans hn1 (by decide))) fun h2 tk2 Mu2 Ex2 ow2 S2 g=> ?_
   have kp2:Kp s.heap h2:=g.kp0 k01 fun b e=>e▸hn
   have C2:=C.keep kp2
   let p2:Ast (wd0 prog w c G hB) sc _:=p1.on S2 g tk2
   obtain ⟨oF,doc,pm,cd,ct,oc,vc,t,e1,e2,_⟩:=C2.fo
   refine wpAny_execs_cons (wpAny_Return_some (wpAny_BinOp (wpAny_BinOp (cU (jH N q4) p2.at (C2.cell _ cI hcI) kl (hcel▸hcI) K.mI e1 e2 (ds:=[.int ((L+len / 2:Nat):Int),.int ((L+len:Nat):Int)]) rfl rfl fun h3 us tk3 k3 dl3=> ?_))))
   have kp3:=kp2.trans k3
   have hLL:=gG L len
   refine ih fu' (Nat.lt_succ_self _) (len - len / 2) (L+len / 2) f2 g2 (Nat.le_trans (Nat.le_of_eq hLL) hL) (A.deeper env) E' {s with heap:=h3,toks:=tk3} us _ _ ar1 (kp.trans kp3) (C.keep kp3) (PL.at' pl (kp3.at D)) (ej di) (hLL.symm▸dl3) fun h4 tk4 t4 k4=> ?_
   have kp4:=kp3.trans k4
   have S4:=(S2.keep k3).keep k4
   let p4:Ast (wd0 prog w c G hB) sc _:={p2 with s:={s with heap:=h4,toks:=tk4},S:=S4,k:=kp.trans kp4}
   obtain ⟨b0,b1⟩:=vC nn hpos (L+len / 2) (len - len / 2)
   refine (ez N q5).vs _ p4.at _ true (.int ((len / 2 * nn:Nat):Int)) _ rfl fun v h5 tk5 k5 d5 _=> ?_
   refine eH (s:={s with heap:=h5,toks:=tk5}) (Ex:=p4.Ex) (op:= .LShift) (a:= .int (part nn is (L+len / 2) (len - len / 2))) (d:= .int (part nn is (L+len / 2) (len - len / 2) * 2 ^ (len / 2 * nn))) (S4.keep k5).rr.lt ⟨_,rfl⟩ d5.top (aq (c:=(decide ((0:Int)≤((len / 2 * nn:Nat):Int))&&decide (((len / 2 * nn:Nat):Int).toNat≤1000000)&&small (part nn is (L+len / 2) (len - len / 2)))=true) ?_ rfl) fun v6 h6 tk6 k6 d6 _=> ?_
   ·rw [Int.toNat_natCast,decide_eq_true (Int.natCast_nonneg _),decide_eq_true ha,cn hsm b0 b1];rfl
   have kp6:=(kp4.trans k5).trans k6
   have C6:=C.keep kp6
   let p6:Ast (wd0 prog w c G hB) sc _:={p2 with s:={s with heap:=h6,toks:=tk6},S:=(S4.keep k5).keep k6,k:=kp.trans kp6}
   obtain ⟨oF,doc,pm,cd,ct,oc,vc,t,e1,e2,_⟩:=C6.fo
   refine cU (jH N q6) p6.at (C6.cell _ cI hcI) kl (hcel▸hcI) K.mI e1 e2 (ds:=[.int (L:Int),.int ((L+len / 2:Nat):Int)]) rfl rfl fun h7 us tk7 k7 dl7=> ?_
   have kp7:=kp6.trans k7
   refine ih fu' (Nat.lt_succ_self _) (len / 2) L f1 g1 (Nat.le_trans (Nat.add_le_add_left (Nat.div_le_self _ _) _) hL) (A.deeper env) E' {s with heap:=h7,toks:=tk7} us _ _ ar1 (kp.trans kp7) (C.keep kp7) (PL.at' pl (kp7.at D)) (ej di) dl7 fun h8 tk8 t8 k8=> ?_
   refine eH (s:={s with heap:=h8,toks:=tk8}) (Ex:=p6.Ex) (op:= .Add) (b:= .int (part nn is L (len / 2))) (d:= .int (part nn is L len)) ((p6.S.keep k7).keep k8).rr.lt (d6.keep (k7.trans k8)).top ⟨_,rfl⟩ (congrArg (some ∘ Mine.D.int) (th nn (Nat.div_le_self _ _) hL)) fun v9 h9 tk9 k9 d9 _=> ?_
   obtain ⟨t9,rfl⟩:=d9
   exact hQ h9 tk9 t9 ((kp7.trans k8).trans k9)
  ·obtain rfl:=Nat.le_antisymm hlen hl1
   rw [rc,if_pos rfl]
   refine wpAny_execs_cons (wpAny_Return_some ((ez N q2).vs _ p1.at _ true (.int is[L]) _ (zA rfl rfl hL (Nat.le_trans (Nat.le_trans (Nat.le_add_right _ _) hL) (Nat.le_trans hsz (by decide)))) fun v h2 tk2 k2 d2 _=> ?_))
   obtain ⟨t,rfl⟩:=d2.top
   rw [← tC nn hL]
   exact hQ h2 tk2 t (k01.trans k2)
end
end Mine
set_option genSizeOf false
set_option genInjectivity false
namespace Mine
noncomputable def s_pretty_flags:S :=
 (.seq (.asg 1 true (.list .nil)) <|
 (.seq (.fors [2] true .range1 (.cst (.int 32)) .nil (.seq (.asg 3 false (.bin .LShift (.cst (.int 1)) (.var 2))) <|
  (.seq (.ifs (.bin .BitAnd (.var 0) (.var 3)) (.seq (.app 1 (.dget "COMPILER_FLAG_NAMES" (.var 3) (.blt .hex (.cons (.var 3) .nil)))) <|
   (.seq (.aug 0 .BitXor (.var 3)) <|
   (.seq (.ifs (.un .Not (.var 0)) (.seq .brk <|
    .skip) .skip) <|
   .skip))) .skip) <|
  .skip)) (.seq (.app 1 (.blt .hex (.cons (.var 0) .nil))) <|
  .skip)) <|
 (.seq (.ret (.meth .join (.cst (.str ", ")) (.cons (.var 1) .nil))) <|
 .skip)))
noncomputable def s_div2n1n:S :=
 (.seq (.ifs (.cmp .LtE (.bin .Sub (.meth .bitlen (.var 0) .nil) (.var 2)) (.glob "_DIV_LIMIT")) (.seq (.ret (.blt .divmod (.cons (.var 0) (.cons (.var 1) .nil)))) <|
  .skip) .skip) <|
 (.seq (.asg 3 false (.bin .BitAnd (.var 2) (.cst (.int 1)))) <|
 (.seq (.ifs (.var 3) (.seq (.aug 0 .LShift (.cst (.int 1))) <|
  (.seq (.aug 1 .LShift (.cst (.int 1))) <|
  (.seq (.aug 2 .Add (.cst (.int 1))) <|
  .skip))) .skip) <|
 (.seq (.asg 4 false (.bin .RShift (.var 2) (.cst (.int 1)))) <|
 (.seq (.asg 5 false (.bin .Sub (.bin .LShift (.cst (.int 1)) (.var 4)) (.cst (.int 1)))) <|
 (.seq (.multi [(6,false),(7,false)] (.cons (.bin .RShift (.var 1) (.var 4)) (.cons (.bin .BitAnd (.var 1) (.var 5)) .nil))) <|
 (.seq (.unp [8,9] (.call "_div3n2n" (.cons (.bin .RShift (.var 0) (.var 2)) (.cons (.bin .BitAnd (.bin .RShift (.var 0) (.var 4)) (.var 5)) (.cons (.var 1) (.cons (.var 6) (.cons (.var 7) (.cons (.var 4) .nil)))))))) <|
 (.seq (.unp [10,9] (.call "_div3n2n" (.cons (.var 9) (.cons (.bin .BitAnd (.var 0) (.var 5)) (.cons (.var 1) (.cons (.var 6) (.cons (.var 7) (.cons (.var 4) .nil)))))))) <|
 (.seq (.ifs (.var 3) (.seq (.aug 9 .RShift (.cst (.int 1))) <|
  .skip) .skip) <|
 (.seq (.ret (.tup (.cons (.bin .BitOr (.bin .LShift (.var 8) (.var 4)) (.var 10)) (.cons (.var 9) .nil)))) <|
 .skip))))))))))
noncomputable def s_divmod_pos:S :=
 (.seq (.asg 2 false (.meth .bitlen (.var 1) .nil)) <|
 (.seq (.asg 3 false (.call "_int2digits" (.cons (.var 0) (.cons (.var 2) .nil)))) <|
 (.seq (.asg 4 false (.cst (.int 0))) <|
 (.seq (.asg 5 true (.list .nil)) <|
 (.seq (.fors [6] true .rev (.var 3) .nil (.seq (.unp [7,4] (.call "_div2n1n" (.cons (.bin .Add (.bin .LShift (.var 4) (.var 2)) (.var 6)) (.cons (.var 1) (.cons (.var 2) .nil))))) <|
  (.seq (.app 5 (.var 7)) <|
  .skip)) .skip) <|
 (.seq (.revm 5) <|
 (.seq (.asg 8 false (.callb "_digits2int" (.cons (.var 5) (.cons (.var 2) .nil)))) <|
 (.seq (.ret (.tup (.cons (.var 8) (.cons (.var 4) .nil)))) <|
 .skip))))))))
noncomputable def s_int_divmod:S :=
 (.seq (.ifs (.cmp .Eq (.var 1) (.cst (.int 0))) (.seq .bad <|
  .skip) (.seq (.ifs (.cmp .Lt (.var 1) (.cst (.int 0))) (.seq (.unp [2,3] (.call "int_divmod" (.cons (.un .USub (.var 0)) (.cons (.un .USub (.var 1)) .nil)))) <|
   (.seq (.ret (.tup (.cons (.var 2) (.cons (.un .USub (.var 3)) .nil)))) <|
   .skip)) (.seq (.ifs (.cmp .Lt (.var 0) (.cst (.int 0))) (.seq (.unp [2,3] (.call "int_divmod" (.cons (.un .Invert (.var 0)) (.cons (.var 1) .nil)))) <|
    (.seq (.ret (.tup (.cons (.un .Invert (.var 2)) (.cons (.bin .Add (.var 1) (.un .Invert (.var 3))) .nil)))) <|
    .skip)) (.seq (.ret (.call "_divmod_pos" (.cons (.var 0) (.cons (.var 1) .nil)))) <|
    .skip)) <|
   .skip)) <|
  .skip)) <|
 .skip)
noncomputable def s_ellipsis_match:S :=
 (.seq (.ifs (.cmp .NotIn (.glob "ELLIPSIS_MARKER") (.var 0)) (.seq (.ret (.cmp .Eq (.var 0) (.var 1))) <|
  .skip) .skip) <|
 (.seq (.asg 2 true (.meth .split (.var 0) (.cons (.glob "ELLIPSIS_MARKER") .nil))) <|
 (.seq (.asrt (.cmp .GtE (.blt .len (.cons (.var 2) .nil)) (.cst (.int 2)))) <|
 (.seq (.multi [(3,false),(4,false)] (.cons (.cst (.int 0)) (.cons (.blt .len (.cons (.var 1) .nil)) .nil))) <|
 (.seq (.asg 5 false (.idx (.var 2) (.cst (.int 0)))) <|
 (.seq (.ifs (.var 5) (.seq (.ifs (.meth .startswith (.var 1) (.cons (.var 5) .nil)) (.seq (.asg 3 false (.blt .len (.cons (.var 5) .nil))) <|
   (.seq (.del 2 (.cst (.int 0))) <|
   .skip)) (.seq (.ret (.cst (.bool false))) <|
   .skip)) <|
  .skip) .skip) <|
 (.seq (.asg 5 false (.idx (.var 2) (.un .USub (.cst (.int 1))))) <|
 (.seq (.ifs (.var 5) (.seq (.ifs (.meth .endswith (.var 1) (.cons (.var 5) .nil)) (.seq (.aug 4 .Sub (.blt .len (.cons (.var 5) .nil))) <|
   (.seq (.del 2 (.un .USub (.cst (.int 1)))) <|
   .skip)) (.seq (.ret (.cst (.bool false))) <|
   .skip)) <|
  .skip) .skip) <|
 (.seq (.ifs (.cmp .Gt (.var 3) (.var 4)) (.seq (.ret (.cst (.bool false))) <|
  .skip) .skip) <|
 (.seq (.fors [5] true .plain (.var 2) .nil (.seq (.asg 3 false (.meth .find3 (.var 1) (.cons (.var 5) (.cons (.var 3) (.cons (.var 4) .nil))))) <|
  (.seq (.ifs (.cmp .Lt (.var 3) (.cst (.int 0))) (.seq (.ret (.cst (.bool false))) <|
   .skip) .skip) <|
  (.seq (.aug 3 .Add (.blt .len (.cons (.var 5) .nil))) <|
  .skip))) .skip) <|
 (.seq (.ret (.cst (.bool true))) <|
 .skip)))))))))))
noncomputable def s_in_table_b1:S :=
 (.seq (.ret (.inset "b1_set" (.blt .ord (.cons (.var 0) .nil)))) <|
 .skip)
noncomputable def s_map_table_b3:S :=
 (.seq (.asg 1 false (.dget "b3_exceptions" (.blt .ord (.cons (.var 0) .nil)) (.cst .none))) <|
 (.seq (.ifs (.cmp .IsNot (.var 1) (.cst .none)) (.seq (.retv 1) <|
  .skip) .skip) <|
 (.seq (.ret (.meth .lower (.var 0) .nil)) <|
 .skip)))
noncomputable def s_law_unseen:S :=
 (.seq (.ret (.bin .Add (.list (.cons (.cst (.int 173)) (.cons (.cst (.int 847)) (.cons (.cst (.int 6150)) (.cons (.cst (.int 6155)) (.cons (.cst (.int 6156)) (.cons (.cst (.int 6157)) (.cons (.cst (.int 8203)) (.cons (.cst (.int 8204)) (.cons (.cst (.int 8205)) (.cons (.cst (.int 8288)) (.cons (.cst (.int 65279)) .nil)))))))))))) (.lrange (.cst (.int 65024)) (.cst (.int 65040))))) <|
 .skip)
theorem rb (n a b:Nat):(2:Int) ^ (n * (a+b))=2 ^ (n * a) * 2 ^ (n * b):=by rw [Nat.mul_add,Int.pow_add]
theorem a7 (k:Nat):(0:Int)<2 ^ k:=Int.pow_pos (by decide)
theorem cB {b:Int} (hb:0<b) (a:Int):0≤a.fmod b∧a.fmod b<b:=by
 rw [Int.fmod_eq_emod_of_nonneg _ (Int.le_of_lt hb)]
 exact ⟨Int.emod_nonneg _ (Int.ne_of_gt hb),Int.emod_lt_of_pos _ hb⟩
theorem fJ {a b c:Int} (hb:0<b) (h0:0≤a) (h:a<c * b):0≤a.fdiv b∧a.fdiv b<c:=by
 rw [Int.fdiv_eq_ediv_of_nonneg _ (Int.le_of_lt hb)]
 exact ⟨Int.ediv_nonneg h0 (Int.le_of_lt hb),Int.ediv_lt_of_lt_mul hb h⟩
theorem nw {len:Nat} (h1:1≤len) (h2:¬ 2≤len):len=1:=Nat.le_antisymm (Nat.le_of_lt_succ (Nat.lt_of_not_le h2)) h1
theorem dK (n:Nat) (x:Int):und n [x]=x:=by rw [und,und,Int.mul_zero,Int.add_zero]
theorem iF (n:Nat):∀ (f len:Nat) (x:Int),1≤len→len≤2 ^ f→0≤x→und n (dig n f len x)=x
 |0,len,x,h1,h2,h3=>dK n x
 |f+1,len,x,h1,h2,h3=>by
  by_cases h:2≤len
  ·obtain ⟨p1,p2⟩:=cu h
   obtain ⟨q1,q2⟩:=cq h2
   rw [fI _ _ _ _ h,bG,cD _ _ _ _ p1 q1,iF n f _ _ p1 q1 (iL h3).1,iF n f _ _ p2 q2 (dM h3).1,Nat.mul_comm n]
   exact Int.fmod_add_mul_fdiv x _
  ·obtain rfl:=nw h1 h
   rw [fT];exact dK n x
theorem lf (n:Nat):∀ (f len:Nat) (x:Int),1≤len→len≤2 ^ f→0≤x→x<2 ^ (n * len)→∀ d∈dig n f len x,0≤d∧d<2 ^ n
 |0,len,x,h1,h2,h3,h4,d,hd=>by
  obtain rfl:len=1:=Nat.le_antisymm h2 h1
  rw [List.mem_singleton.mp hd]
  rw [Nat.mul_one] at h4;exact ⟨h3,h4⟩
 |f+1,len,x,h1,h2,h3,h4,d,hd=>by
  by_cases h:2≤len
  ·obtain ⟨p1,p2⟩:=cu h
   obtain ⟨q1,q2⟩:=cq h2
   rw [fI _ _ _ _ h] at hd
   have hp:=a7 (len / 2 * n)
   rcases List.mem_append.mp hd with hd |hd
   ·refine lf n f _ _ p1 q1 (iL h3).1 ?_ d hd
    rw [Nat.mul_comm n];exact (cB hp x).2
   ·refine lf n f _ _ p2 q2 (dM h3).1 (fJ hp h3 ?_).2 d hd
    rw [Nat.mul_comm (len / 2),← rb,Nat.sub_add_cancel (Nat.div_le_self _ _)]
    exact h4
  ·obtain rfl:=nw h1 h
   rw [fT] at hd
   rw [List.mem_singleton.mp hd]
   rw [Nat.mul_one] at h4;exact ⟨h3,h4⟩
theorem b9 (a:Int) (h:0≤a) (k:Nat):Builtin.Int.intBits a≤k↔a<2 ^ k:=by
 obtain ⟨m,rfl⟩:=Int.eq_ofNat_of_zero_le h
 rw [PySem.intBits_le_iff,show ((2:Int) ^ k)=((2 ^ k:Nat):Int) from (Int.natCast_pow 2 k).symm]
 exact Int.ofNat_lt.symm
theorem gA {a:Int} {n:Nat} (h0:0≤a) (hs:small a=true) (h1:1≤n) (h2:n≤4000):i2dSpec [.int a,.int (n:Int)]=some (.list ((i2d a n).map .int)) :=
 aq (c:=(decide (0≤a)&&small a&&decide ((1:Int)≤n)&&decide ((n:Int)≤4000))=true) (by rw [decide_eq_true h0,hs,decide_eq_true (show (1:Int)≤n from Int.ofNat_le.mpr h1),decide_eq_true (show (n:Int)≤4000 from Int.ofNat_le.mpr h2)];rfl) rfl
theorem pr {a:Int} {n:Nat} (h0:0≤a) (h1:1≤n):a<2 ^ (n * i2dLen a n):=by
 rw [← b9 a h0]
 show _≤n * ((Builtin.Int.intBits a+n - 1) / n)
 generalize Builtin.Int.intBits a=b
 have h:=Nat.div_add_mod (b+n - 1) n
 have h2:=Nat.mod_lt (b+n - 1) h1
 omega
theorem eB {k:Nat} (h:k≤4000):k≤2 ^ 12:=Nat.le_trans h (by decide)
theorem uW {a:Int} {n:Nat} (hs:small a=true) (h1:1≤n) (h2:n≤4000):i2dLen a n≤4000∧i2dLen a n * n≤8000∧(a≠0→1≤i2dLen a n):=by
 obtain ⟨g1,g2,g3⟩:=mR (dG hs) h1 h2
 refine ⟨g1,g2,fun h=>g3 ?_⟩
 unfold Builtin.Int.intBits
 rw [beq_eq_false_iff_ne.mpr h]
 exact Nat.le_add_left 1 _
theorem dT {a:Int} {n:Nat} (h0:0≤a) (hs:small a=true) (h1:1≤n) (h2:n≤4000):und n (i2d a n)=a∧(∀ d∈i2d a n,0≤d∧d<2 ^ n)∧(i2d a n).length * n≤8000∧(i2d a n).length≤4000:=by
 unfold i2d
 by_cases hz:a=0
 ·rw [if_pos hz,hz];exact ⟨rfl,fun d hd=>(nomatch hd),by rw [List.length_nil,Nat.zero_mul];decide,by decide⟩
 ·rw [if_neg hz]
  obtain ⟨g2,g3,g4⟩:=uW hs h1 h2
  have hb:=pr h0 h1
  rw [cD _ _ _ _ (g4 hz) (eB g2)]
  exact ⟨iF n 12 _ a (g4 hz) (eB g2) h0,lf n 12 _ a (g4 hz) (eB g2) h0 hb,g3,g2⟩
theorem kF (n:Nat):∀ (ds:List Int),(∀ d∈ds,0≤d∧d<2 ^ n)→und n ds<2 ^ (n * ds.length)
 | [],_=>by rw [List.length_nil,Nat.mul_zero];exact Int.zero_lt_one
 |d :: ds,h=>by
  have h1:=(h d List.mem_cons_self).2
  have h2:=kF n ds fun x hx=>h x (List.mem_cons_of_mem _ hx)
  rw [und,List.length_cons,Nat.mul_add,Nat.mul_one,Int.pow_add,Int.mul_comm (2 ^ (n * ds.length))]
  have h3:2 ^ n * (und n ds+1)≤2 ^ n * 2 ^ (n * ds.length):=Int.mul_le_mul_of_nonneg_left h2 (Int.le_of_lt (a7 n))
  rw [Int.mul_add,Int.mul_one,Int.add_comm] at h3
  exact Int.lt_of_lt_of_le (Int.add_lt_add_right h1 _) h3
theorem qL (n:Nat) {x:Int} (h:0≤x∧x<2 ^ n) (r:Int):(x+2 ^ n * r) % 2 ^ n=x:=by rw [Int.add_mul_emod_self_left];exact Int.emod_eq_of_lt h.1 h.2
theorem mi (n:Nat):∀ (xs ys:List Int),xs.length=ys.length→(∀ d∈xs,0≤d∧d<2 ^ n)→(∀ d∈ys,0≤d∧d<2 ^ n)→und n xs=und n ys→xs=ys
 | [],[],_,_,_,_=>rfl
 |x :: xs,y :: ys,hl,h1,h2,h=>by
  rw [und,und] at h
  obtain rfl:x=y:=by rw [← qL n (h1 x List.mem_cons_self) (und n xs),← qL n (h2 y List.mem_cons_self) (und n ys),h]
  have:=Int.eq_of_mul_eq_mul_left (Int.ne_of_gt (a7 n)) (Int.add_left_cancel h)
  rw [mi n xs ys (Nat.succ.inj hl) (fun d hd=>h1 d (List.mem_cons_of_mem _ hd)) (fun d hd=>h2 d (List.mem_cons_of_mem _ hd)) this]
 | [],_ :: _,hl,_,_,_=>nomatch hl
 |_ :: _,[],hl,_,_,_=>nomatch hl
theorem yv {B n k:Nat} (hn:1≤n) (h1:¬ B≤n * k) (h2:B≤n * (k+1)):(B+n - 1) / n=k+1:=by
 rw [Nat.mul_add,Nat.mul_one] at h2
 refine Nat.div_eq_of_lt_le ?_ ?_
 ·rw [Nat.add_mul,Nat.one_mul,Nat.mul_comm k];omega
 ·rw [Nat.add_mul,Nat.one_mul,Nat.add_mul,Nat.one_mul,Nat.mul_comm k];omega
theorem l6 {n:Nat} {ds:List Int} {z:Int} (hn:1≤n) (hn2:n≤4000) (hd:∀ d∈ds++[z],0≤d∧d<2 ^ n) (hz:z≠0) (hs:small (und n (ds++[z]))=true):i2d (und n (ds++[z])) n=ds++[z]:=by
 have hnn:=cf n (ds++[z]) fun x hx=>(hd x hx).1
 obtain ⟨g1,g2,_,_⟩:=dT (n:=n) hnn hs hn hn2
 have hz0:1≤z:=Int.lt_iff_le_and_ne.mpr ⟨(hd z (List.mem_append_right _ List.mem_cons_self)).1,Ne.symm hz⟩
 have hlow:2 ^ (n * ds.length)≤und n (ds++[z]):=by
  rw [bG,dK]
  have h1:=cf n ds fun x hx=>(hd x (List.mem_append_left _ hx)).1
  have:=Int.mul_le_mul_of_nonneg_left hz0 (Int.le_of_lt (a7 (n * ds.length)))
  rw [Int.mul_one] at this
  exact Int.le_trans this (Int.le_add_of_nonneg_left h1)
 have hup:=kF n (ds++[z]) hd
 have hne:und n (ds++[z])≠0:=Int.ne_of_gt (Int.lt_of_lt_of_le (a7 _) hlow)
 refine mi n _ _ ?_ g2 hd g1
 unfold i2d
 rw [if_neg hne]
 obtain ⟨l2,l3,l4⟩:=uW hs hn hn2
 rw [cD _ _ _ _ (l4 hne) (eB l2)]
 rw [← b9 _ hnn] at hup
 have hb1:¬ Builtin.Int.intBits (und n (ds++[z]))≤n * ds.length:=by rw [b9 _ hnn];exact Int.not_lt.mpr hlow
 rw [List.length_append] at hup ⊢
 exact yv hn hb1 hup
end Mine
set_option genSizeOf false
set_option genInjectivity false
namespace Mine
noncomputable def d2iB (n:Int) (is:List Int):Bool:=is.all (fun x=>decide (0≤x))&&decide (0≤n)&&decide (n≤4000)&&decide (is.length≤4096)&&decide (is.length * n.toNat≤1000000)&&small (und n.toNat is)
noncomputable def d2iSpec (ds:List D):Option D:=(two? ds).bind fun p=>p.1.list?.bind fun ds=>p.2.int?.bind fun n=>(ints? ds).bind fun is=>if d2iB n is then some (.int (und n.toNat is)) else none
noncomputable def tbK:List Str:=["digits","n"]
noncomputable def nmK:List (Str×NameKind):=[("digits",.cell),("n",.cell),("inner",.cell),("len",.globalImplicit)]
noncomputable def aK:T:= .cons (.cst (.int 0)) (.cons (.blt .len (.cons (.var 0) .nil)) .nil)
noncomputable def outJ (c:Cx) (sc:Scope) (body:List Stmt):Bool×List Stmt :=
 let s1:=hs body.tail;let e:=skid 0 s1
 let t:=unT c sc (.var 0) (kid 0 e);let g:=unA c sc aK (kid 1 e);let z:=unT c sc (.cst (.int 0)) (kid 2 e)
 (t.1&&g.1&&z.1,[defN (itemOf (hs body)),.Return (some (.IfExp t.2 (callN g.2 (kid 1 e)) z.2 e.pos)) s1.pos])
noncomputable def d2iOk (c:Cx) (d:DefItem):Bool:=let q:=itemOf (hs d.body)
 (outJ (atT c tbK) d.scope d.body).1&&(inJ (atT c tbJ) q.scope q.body).1&&d.scope.names==nmK&&defB c tbK d&&parsOf d.params==(["digits","n"]:List Str)&&defInB d.scope tbJ pmJ nmJ q
noncomputable def d2iU (c:Cx) (d:DefItem):List Stmt×List Stmt:=let q:=itemOf (hs d.body);((outJ (atT c tbK) d.scope d.body).2,(inJ (atT c tbJ) q.scope q.body).2)
theorem za (L:Nat):cellsFrom (L+1) nmK []=[(inS,L+3),(("n":Str),L+2),(dgS,L+1)]:=rfl
theorem nj {ds:List D} {is:List Int} (h:ints? ds=some is):ds=is.map .int:=by
 induction ds generalizing is with
 |nil=>rw [← sm h];rfl
 |cons d ds ih =>
  refine ae h fun i hi h=>aE h fun ns h1 h2=> ?_
  rw [← h2,ih h1]
  exact aV (P:=fun d=>d :: _=_) hi rfl
variable [Tabs] [Frk]
section
variable {prog:Program} {w:World} {c:Cx} {G:af} {hB:Heap} {mg mb:Str→Option Value} {d:DefItem} {name:Str} {a:Addr}
theorem wN (off:Frk.fs=none) (B:Base prog w c G hB mg mb) (hbm:HasB mg hB) (lim:hB.NoLimit) (hd:d2iOk c d=true) (hu1:(d2iU c d).1=d.body) (hu2:(d2iU c d).2=(itemOf (hs d.body)).body) (hp:d.params=plainPar d.params) (da:DefAt hB a name d.params d.body d.scope) (htb:∀ cd P,hB.TableAt cd P #[]→Tabs.tb P)
  (hq:Tabs.q (itemOf (hs d.body)).pos.line (itemOf (hs d.body)).pos.col=name++(".<locals>.":Str)++inS) {F':FEnv} (hF:∀ ds r,F' name ds=some r→d2iSpec ds=some r) {k:Nat} (hk:60≤k):Ctr prog w hB k F' name a:=by
 intro A E s Y ds vs r Q ar kp hX hden hr ret
 have hr:=hF _ _ hr
 revert hden
 refine ae hr fun p hp2 hr=>j5 (P:=fun ds=>DenL s.heap Y ds vs→_) hp2 ?_
 refine ae hr fun ds hds hr=>ae hr fun nv hnv hr=>bL (P:=fun x=>DenL s.heap Y [x,_] vs→_) hds (aV (P:=fun x=>DenL s.heap Y [_,x] vs→_) hnv ?_)
 refine ae hr fun is his hr2=>gd hr2 fun hc hr3 hden=> ?_
 obtain rfl:=nj his
 obtain rfl:=sm hr3
 refine aa hc fun hc c6=>aa hc fun hc c5=>aa hc fun hc c4=>aa hc fun hc c3=>aa hc fun c1 c2=> ?_
 have hpos:∀ x∈is,0≤x:=fun x hx=>de (List.all_eq_true.mp c1 x hx)
 have c2:=de c2;have c3:=de c3;have c4:=de c4;have c5:=de c5
 refine aa hd fun hd d6=>aa hd fun hd d5=>aa hd fun hd d4=>aa hd fun hd d3=>aa hd fun d1 d2=> ?_
 refine aa d6 fun d6 w6=>aa d6 fun d6 w5=>aa d6 fun d6 w4=>aa d6 fun d6 w3=>aa d6 fun w1 w2=> ?_
 refine aa d1 fun d1 u3=>aa d1 fun u1 u2=> ?_
 have hnm:d.scope.names=nmK:=eq_of_beq d3
 have hin:(itemOf (hs d.body)).scope.names=nmJ:=eq_of_beq w4
 have B3:(Wd.mk prog w (atT c tbK) G (fun _ _=>none) hB 58).Ok mg mb:=B.at tbK
 have CT:(Wd.mk prog w (atT c tbK) G (fun _ _=>none) hB 58).Ct mg:=qr
 have ok3:=fS (name:=name) d4 hp
 refine dz off (X:=⟨prog,w,atT c tbK,G,fun _ _=>none,hB,58⟩) lim ok3 da (ar.mono (Nat.le_trans (show 59≤60 by decide) hk)) kp hX hden (congrArg List.length (eq_of_beq d5)).symm ret fun p cd T he _ h7 h8 hnew k0 fin=> ?_
 rw [← hu1]
 have hcel:p.env.cells=[(inS,s.heap.objs.size+3),(("n":Str),s.heap.objs.size+2),(dgS,s.heap.objs.size+1)]:=by rw [he];show cellsFrom _ d.scope.names []=_;rw [hnm];exact za _
 have hl:∀ {x k},nmK.lookup x=some k→p.env.scope.names.lookup x=some k:=fun h=>by rw [p.hsc,hnm];exact h
 have lk:∀ {x k},([(inS,s.heap.objs.size+3),(("n":Str),s.heap.objs.size+2),(dgS,s.heap.objs.size+1)]:List (Str×Addr)).lookup x=some k→p.env.cells.lookup x=some k:=fun h=>by rw [hcel];exact h
 have fk:∀ {x k},nmJ.lookup x=some k→(itemOf (hs d.body)).scope.names.lookup x=some k:=fun h=>by rw [hin];exact h
 refine wpAny_execs_cons (pE p B3 hbm (he▸rfl) h7 h8 (htb _ _ h8) w2 (Option.isNone_iff_eq_none.mp w3) ?_ hq (by rw [hnm];rfl) (l9 rfl) (lk rfl) (q:=(("n":Str),s.heap.objs.size+2)) (r:=[(inS,s.heap.objs.size+3),(dgS,s.heap.objs.size+1)]) ?_ ?_ (by rw [hin];rfl) fun h2 tk2 m cm f S2 g2 F2 V2 hf C=> ?_)
 ·unfold qualnameIn
  rw [show p.env.kindOf inS=some .cell from hl rfl,if_neg (by decide)]
  show p.env.qual++_=_
  rw [he];rfl
 ·unfold closureFor cellOf
  show _=_
  rw [hin,hcel];rfl
 ·exact List.forall_mem_cons.mpr ⟨⟨lk rfl,fk rfl⟩,List.forall_mem_cons.mpr ⟨⟨lk rfl,fk rfl⟩,List.forall_mem_cons.mpr ⟨⟨lk rfl,fk rfl⟩,fun _ h=>nomatch h⟩⟩⟩
 let p2:Ast _ d.scope _:=p.on S2 g2 tk2
 have hsz:sizeOk (is.map D.int).length=true:=decide_eq_true (by rw [List.length_map];exact Nat.le_trans c4 (by decide))
 refine wpAny_execs_cons (wpAny_Return_some (wpAny_IfExp (((cg B3 CT (.var 0)).e u1).is _ p2.at _ (.list (is.map .int)) (!(is.map D.int).isEmpty) _ rfl (aq hsz rfl) fun h3 tk3 k3=> ?_)))
 let p3:Ast _ d.scope _:=p2.to k3 tk3
 have G3:=g2.trans p.lt p.S.mu (Gr.of_kp k3 _ _)
 cases is with
 |nil =>
  rw [if_neg (show ¬ (!(([]:List Int).map D.int).isEmpty)=true from Bool.false_ne_true)]
  refine ((cg B3 CT (.cst (.int 0))).e u3).vs _ p3.at _ true (.int 0) _ rfl fun v h4 tk4 k4 d4 _=> ?_
  exact fin h4 tk4 v _ _ (G3.trans p.lt p.S.mu (Gr.of_kp k4 _ _)) d4.top
 |cons i0 ir =>
  rw [if_pos (show (!((i0 :: ir).map D.int).isEmpty)=true from rfl)]
  have C3:=C.keep k3
  obtain ⟨o,doc,pm,cd',ct,oc,vc,t,e1,e2,_⟩:=C3.fo
  obtain ⟨vD,mD,⟨D,items,hD,xD,plD,dlD⟩,_⟩:=V2.cell (i:=0) (x:=dgS) (b:=false) rfl rfl (hl rfl)
  obtain ⟨vN,mN,⟨tN,hN⟩,_⟩:=V2.cell (i:=1) (x:=("n":Str)) (b:=false) rfl rfl (hl rfl)
  have hnv:nv=(nv.toNat:Int):=(Int.toNat_of_nonneg c2).symm
  refine cU ((cg B3 CT aK).l u2).as p3.at (C3.cell inS _ rfl) (by rw [hl (x:=inS) rfl];rfl) (lk rfl) hf e1 e2 (ds:=[.int ((0:Nat):Int),.int ((0+(i0 :: ir).length:Nat):Int)]) (aD rfl (aD (ad (aD rfl rfl) (aq hsz (by rw [List.length_map,Nat.zero_add]))) rfl)) rfl fun h4 us tk4 k4 dl4=> ?_
  refine yi (prog:=prog) (w:=w) (c:=atT c tbJ) (G:=G) (mg:=mg) (mb:=mb) (sc:=(itemOf (hs d.body)).scope) (as:=(itemOf (hs d.body)).params.args) (nn:=nv.toNat) (is:=i0 :: ir) off ⟨B.at tbJ,lim,w6,w5,eq_of_beq w1⟩ rfl hin d2 hu2 (Int.toNat_le.mpr c3) ⟨⟨_,rfl⟩,⟨_,rfl⟩,by rw [mD,hD],hf,tN,by rw [mN,hN,← hnv]⟩ hpos c6 (Nat.le_trans c4 (by decide)) c5 12 (i0 :: ir).length 0 (Nat.le_add_left _ _) (Nat.le_trans c4 (by decide)) (by rw [Nat.zero_add];exact Nat.le_refl _) p.A _ {p.s with heap:=h4,toks:=tk4} us _ _ (p.ar.mono (show 13≤58 by decide)) (p3.k.trans k4) (C3.keep k4) (PL.at' plD ((k3.trans k4).at D)) (ej dlD) dl4 fun h5 tk5 t5 k5=> ?_
  refine fin h5 tk5 _ _ _ (G3.trans p.lt p.S.mu (Gr.of_kp (k4.trans k5) _ _)) ⟨t5,?_⟩
  show Value.int (und _ (((i0 :: ir).drop 0).take (i0 :: ir).length)) t5=_
  rw [List.drop_zero,List.take_length]
end
end Mine
set_option genSizeOf false
set_option genInjectivity false
namespace Mine
noncomputable abbrev iv (i:Int):Option (D×Bool):=some (.int i,false)
theorem lU {G:af} {F:FEnv} (hG:G.const "_DIV_LIMIT"=some (.int 4000)) {a b n:Int} (hb:small b=true) (hb0:b≠0) (hbits:((Builtin.Int.intBits a:Nat):Int) - n≤4000) :
  run G F 11 s_div2n1n [.int a,.int b,.int n]=some (.tup [.int (a.fdiv b),.int (a.fmod b)]) :=
 au [iv a,iv b,iv n,none,none,none,none,none,none,none,none] rfl (aw (aL (an (x:= .int (((Builtin.Int.intBits a:Nat):Int) - n)) (y:= .int 4000) (r:=true) rfl hG (congrArg some (decide_eq_true hbits))) rfl (aA (aU (aR rfl rfl) (tM hb0 hb)))))
noncomputable def ld (b:Int) (n:Nat):Int→List Int→List Int×Int
 |r,[]=>([],r)
 |r,d :: ds=>((r * 2 ^ n+d).fdiv b :: (ld b n ((r * 2 ^ n+d).fmod b) ds).1,(ld b n ((r * 2 ^ n+d).fmod b) ds).2)
noncomputable def hv (n:Nat) (r:Int) (ds:List Int):Int:=ds.foldl (fun acc d=>acc * 2 ^ n+d) r
theorem xY (n:Nat) (r:Int) (xs:List Int) (d:Int):hv n r (xs++[d])=hv n r xs * 2 ^ n+d:=by
 unfold hv;rw [List.foldl_append];rfl
theorem ln (n:Nat):∀ (ds:List Int),hv n 0 ds.reverse=und n ds
 | []=>rfl
 |d :: ds=>by rw [List.reverse_cons,xY,ln n ds,und,Int.mul_comm,Int.add_comm]
theorem wl (q0 r d b q m p:Int) (h:m+b * q=r * p+d):(q0 * p+q) * b+m=(q0 * b+r) * p+d:=by
 rw [Int.add_mul,Int.add_mul,Int.mul_right_comm q0,Int.mul_comm q b,Int.add_assoc,Int.add_comm (b * q) m,h,Int.add_assoc]
theorem pH {b:Int} {n:Nat}:∀ (ds:List Int) (q0 r:Int),hv n q0 (ld b n r ds).1 * b+(ld b n r ds).2=hv n (q0 * b+r) ds
 | [],q0,r=>rfl
 |d :: ds,q0,r=>(pH (n:=n) ds (q0 * 2 ^ n+(r * 2 ^ n+d).fdiv b) ((r * 2 ^ n+d).fmod b)).trans (congrArg (hv n · ds) (wl q0 r d b _ _ _ (Int.fmod_add_mul_fdiv (r * 2 ^ n+d) b)))
theorem zm {b r d p:Int} (hp:0<p) (h0:0≤r) (h1:r<b) (hd:0≤d∧d<p):0≤r * p+d∧r * p+d<b * p:=by
 refine ⟨Int.add_nonneg (Int.mul_nonneg h0 (Int.le_of_lt hp)) hd.1,?_⟩
 have:(r+1) * p≤b * p:=Int.mul_le_mul_of_nonneg_right h1 (Int.le_of_lt hp)
 rw [Int.add_mul,Int.one_mul] at this
 exact Int.lt_of_lt_of_le (Int.add_lt_add_left hd.2 _) this
theorem uO {b:Int} {n:Nat} (hb:0<b):∀ (ds:List Int) (r:Int),0≤r→r<b→(∀ d∈ds,0≤d∧d<2 ^ n)→(0≤(ld b n r ds).2∧(ld b n r ds).2<b)∧(∀ q∈(ld b n r ds).1,0≤q∧q<2 ^ n)∧(ld b n r ds).1.length=ds.length
 | [],r,h0,h1,_=>⟨⟨h0,h1⟩,fun _ h=>(nomatch h),rfl⟩
 |d :: ds,r,h0,h1,h=>by
  obtain ⟨t0,t1⟩:=zm (a7 n) h0 h1 (h d List.mem_cons_self)
  obtain ⟨m0,m1⟩:=cB hb (r * 2 ^ n+d)
  obtain ⟨i1,i2,i3⟩:=uO hb ds _ m0 m1 fun x hx=>h x (List.mem_cons_of_mem _ hx)
  refine ⟨i1,fun q hq=> ?_,congrArg Nat.succ i3⟩
  rcases List.mem_cons.mp hq with rfl |hq
  ·exact fJ hb t0 (Int.mul_comm b _▸t1)
  ·exact i2 q hq
noncomputable def dvT:T:= .call "_div2n1n" (.cons (.bin .Add (.bin .LShift (.var 4) (.var 2)) (.var 6)) (.cons (.var 1) (.cons (.var 2) .nil)))
noncomputable def dvB:S:= .seq (.unp [7,4] dvT) (.seq (.app 5 (.var 7)) .skip)
theorem wG {G:af} {F:FEnv} {x0 x3 x6 x7 x8:Option (D×Bool)} {b r d q m:Int} {n:Nat} {qs:List D} (hr:small r=true) (hn:n≤4000) (hF:F "_div2n1n" [.int (r * 2 ^ n+d),.int b,.int (n:Int)]=some (.tup [.int q,.int m])) (hq:qs.length≤1048576) :
  bodyT G F [6] true dvB [x0,iv b,iv n,x3,iv r,some (.list qs,true),x6,x7,x8] (.int d)=some ([x0,iv b,iv n,x3,iv m,some (.list (qs++[.int q]),true),iv d,iv q,x8],.next) :=
 ad (a:=[x0,iv b,iv n,x3,iv r,some (.list qs,true),iv d,x7,x8]) rfl (ao (qn (aj (dY (ag (ag (x:= .int r) (y:= .int (n:Int)) rfl rfl (u0 hr (Nat.le_trans hn (by decide)))) rfl rfl) rfl rfl) hF) rfl)
  (jE (xs:=qs) rfl (am hq) rfl rfl))
theorem kV {G:af} {F:FEnv} {b:Int} {n:Nat} (hb:0<b) (hn:n≤4000) (hbs:small b=true)
  (hF:∀ t:Int,0≤t→t<b * 2 ^ n→F "_div2n1n" [.int t,.int b,.int (n:Int)]=some (.tup [.int (t.fdiv b),.int (t.fmod b)])) {x0 x3 x8:Option (D×Bool)} :
  ∀ (ds:List Int) (r:Int) (qs:List D) (x6 x7:Option (D×Bool)),0≤r→r<b→(∀ d∈ds,0≤d∧d<2 ^ n)→qs.length+ds.length≤5000 →
   ∃ x6' x7',loopL (bodyT G F [6] true dvB) [x0,iv b,iv n,x3,iv r,some (.list qs,true),x6,x7,x8] (ds.map .int) =
    some ([x0,iv b,iv n,x3,iv (ld b n r ds).2,some (.list (qs++(ld b n r ds).1.map .int),true),x6',x7',x8],.next)
 | [],r,qs,x6,x7,_,_,_,_=>⟨x6,x7,by rw [show (ld b n r []).1.map D.int=[] from rfl,List.append_nil];rfl⟩
 |d :: ds,r,qs,x6,x7,h0,h1,h,hl=>by
  obtain ⟨t0,t1⟩:=zm (a7 n) h0 h1 (h d List.mem_cons_self)
  obtain ⟨m0,m1⟩:=cB hb (r * 2 ^ n+d)
  have hl2:qs.length+1+ds.length≤5000:=Nat.le_trans (Nat.le_of_eq (Nat.add_right_comm qs.length 1 ds.length)) hl
  obtain ⟨y6,y7,ih⟩:=kV (G:=G) hb hn hbs hF (x0:=x0) (x3:=x3) (x8:=x8) ds ((r * 2 ^ n+d).fmod b) (qs++[.int ((r * 2 ^ n+d).fdiv b)]) (iv d) (iv ((r * 2 ^ n+d).fdiv b)) m0 m1 (fun x hx=>h x (List.mem_cons_of_mem _ hx)) (by rw [List.length_append];exact hl2)
  refine ⟨y6,y7,aW (wG (cn hbs h0 (Int.le_of_lt h1)) hn (hF _ t0 t1) (Nat.le_trans (Nat.le_trans (Nat.le_add_right _ _) hl) (by decide))) (ih.trans ?_)⟩
  rw [List.append_assoc];rfl
theorem lN {ds:List Int} {n:Nat} (h0:∀ d∈ds,0≤d) (hn:n≤4000) (hl:ds.length≤4000) (hs:small (und n ds)=true) (hln:ds.length * n≤1000000):d2iSpec [.list (ds.map .int),.int (n:Int)]=some (.int (und n ds)) :=
 ad (a:=ds) gy (aq (c:=d2iB n ds=true) (by
  unfold d2iB
  rw [List.all_eq_true.mpr fun x hx=>decide_eq_true (h0 x hx),decide_eq_true (Int.natCast_nonneg n),decide_eq_true (show (n:Int)≤4000 from Int.ofNat_le.mpr hn),decide_eq_true (Nat.le_trans hl (by decide)),decide_eq_true (show ds.length * (n:Int).toNat≤1000000 from hln)]
  exact hs) rfl)
theorem zS {a b:Int} {n:Nat} (ha:0≤a) (has:small a=true) (hb:0<b) (hn1:1≤n) (hn4:n≤4000) :
  hv n 0 (ld b n 0 (i2d a n).reverse).1=a.fdiv b∧(ld b n 0 (i2d a n).reverse).2=a.fmod b∧d2iSpec [.list ((ld b n 0 (i2d a n).reverse).1.map .int).reverse,.int (n:Int)]=some (.int (hv n 0 (ld b n 0 (i2d a n).reverse).1))∧(ld b n 0 (i2d a n).reverse).1.length≤4000:=by
 obtain ⟨g1,g2,g3,g4⟩:=dT (n:=n) ha has hn1 hn4
 obtain ⟨l1,l2,l3⟩:=uO (n:=n) hb (i2d a n).reverse 0 (Int.le_refl _) hb fun d hd=>g2 d (List.mem_reverse.mp hd)
 have lv:=pH (b:=b) (n:=n) (i2d a n).reverse 0 0
 rw [Int.zero_mul,Int.add_zero,ln,g1] at lv
 rw [List.length_reverse] at l3
 generalize (ld b n 0 (i2d a n).reverse).1=qs at *
 generalize (ld b n 0 (i2d a n).reverse).2=rr at *
 have hq:und n qs.reverse=hv n 0 qs:=by rw [← ln,List.reverse_reverse]
 have hq0:0≤hv n 0 qs:=by rw [← hq];exact cf n _ fun x hx=>(l2 x (List.mem_reverse.mp hx)).1
 have hqa:hv n 0 qs≤a:=by
  have:hv n 0 qs * 1≤hv n 0 qs * b:=Int.mul_le_mul_of_nonneg_left hb hq0
  rw [Int.mul_one] at this
  exact Int.le_trans this (lv▸Int.le_add_of_nonneg_right l1.1)
 have hqr:a / b=hv n 0 qs∧a % b=rr:=(Int.ediv_emod_unique hb).mpr ⟨by rw [Int.mul_comm,Int.add_comm];exact lv,l1.1,l1.2⟩
 refine ⟨?_,?_,?_,l3▸g4⟩
 ·rw [Int.fdiv_eq_ediv_of_nonneg _ (Int.le_of_lt hb)];exact hqr.1.symm
 ·rw [Int.fmod_eq_emod_of_nonneg _ (Int.le_of_lt hb)];exact hqr.2.symm
 ·rw [← List.map_reverse,← hq]
  exact lN (fun d hd=>(l2 d (List.mem_reverse.mp hd)).1) hn4 (by rw [List.length_reverse,l3];exact g4) (cn has (hq▸hq0) (hq▸hqa)) (by rw [List.length_reverse,l3];exact Nat.le_trans g3 (by decide))
theorem iO {G:af} {F:FEnv} (h1:∀ ds,F "_int2digits" ds=i2dSpec ds) (h2:∀ ds,F "_digits2int" ds=d2iSpec ds)
  (hF:∀ a b n:Int,small b=true→b≠0→((Builtin.Int.intBits a:Nat):Int) - n≤4000→F "_div2n1n" [.int a,.int b,.int n]=some (.tup [.int (a.fdiv b),.int (a.fmod b)]))
  {a b:Int} (ha:0≤a) (has:small a=true) (hb:0<b) (hbs:small b=true):run G F 9 s_divmod_pos [.int a,.int b]=some (.tup [.int (a.fdiv b),.int (a.fmod b)]):=by
 obtain ⟨n,hn⟩:∃ n:Nat,n=Builtin.Int.intBits b:=⟨_,rfl⟩
 have hn4:n≤4000:=by rw [hn];exact dG hbs
 have hbn:b<2 ^ n:=by rw [← b9 b (Int.le_of_lt hb),hn];exact Nat.le_refl _
 have hn1:1≤n:=by
  rcases Nat.eq_zero_or_pos n with h |h
  ·rw [h] at hbn;exact absurd hb (Int.not_lt.mpr (Int.lt_add_one_iff.mp hbn))
  ·exact h
 obtain ⟨_,g2,_,g4⟩:=dT (n:=n) ha has hn1 hn4
 obtain ⟨e1,e2,e3,e4⟩:=zS (b:=b) ha has hb hn1 hn4
 obtain ⟨x6,x7,hloop⟩:=kV (G:=G) (F:=F) (b:=b) hb hn4 hbs (fun t t0 t1=>hF t b n hbs (Int.ne_of_gt hb) (by
   have:t<2 ^ (n+n):=by
    rw [Int.pow_add]
    exact Int.lt_of_lt_of_le t1 (Int.mul_le_mul_of_nonneg_right (Int.le_of_lt hbn) (Int.le_of_lt (a7 n)))
   rw [← b9 t t0] at this
   omega)) (x0:=iv a) (x3:=some (.list ((i2d a n).map .int),false)) (x8:=none) (i2d a n).reverse 0 [] none none (Int.le_refl _) hb (fun d hd=>g2 d (List.mem_reverse.mp hd)) (by rw [List.length_reverse,List.length_nil,Nat.zero_add];exact Nat.le_trans g4 (by decide))
 rw [List.nil_append] at hloop
 have hz:sizeOk ((i2d a n).map D.int).length=true:=am (by rw [List.length_map];exact Nat.le_trans g4 (by decide))
 have hz2:sizeOk ((ld b n 0 (i2d a n).reverse).1.map D.int).length=true:=am (by rw [List.length_map];exact Nat.le_trans e4 (by decide))
 rw [← e1,← e2]
 exact au [iv a,iv b,none,none,none,none,none,none,none] rfl (aG (d:= .int (n:Int)) (by rw [hn];rfl) (aG (aj (aR rfl rfl) ((h1 _).trans (gA ha has hn1 hn4))) (aG rfl (eU (d:= .list []) rfl rfl
  (fQ rfl (xO (xs:=(i2d a n).map D.int) rfl hz) (by rw [← List.map_reverse];exact hloop)
  (zg (xs:=(ld b n 0 (i2d a n).reverse).1.map .int) rfl hz2
  (aG (wW (aR rfl rfl) ((h2 _).trans e3) rfl) (aA (bH (aR rfl rfl))))))))))
end Mine
set_option genSizeOf false
set_option genInjectivity false
namespace Mine
noncomputable def pv1:Int→Int→List Int→Option (Int×List Int)
 |b,val,[]=>if Builtin.bitAnd b 64==0 then some (val,[]) else none
 |b,val,x :: r=>if Builtin.bitAnd b 64==0 then some (val,x :: r) else pv1 x (val * 64+x % 64) r
noncomputable def pv:List Int→Option (Int×List Int)
 | []=>none
 |b :: r=>pv1 b (b % 64) r
noncomputable def rd:Nat→List Int→List Int
 |0,_=>[]
 |n+1,xs=>match pv xs with
  |none=>[]
  |some (v,r)=>v :: rd n r
theorem pv1_nil {b val:Int}:pv1 b val []=if Builtin.bitAnd b 64==0 then some (val,[]) else none:=rfl
theorem pv1_cons {b val x:Int} {r:List Int}:pv1 b val (x :: r)=if Builtin.bitAnd b 64==0 then some (val,x :: r) else pv1 x (val * 64+x % 64) r:=rfl
theorem lC {b val:Int} (h:(Builtin.bitAnd b 64==0)=true) (r:List Int):pv1 b val r=some (val,r):=by
 cases r with
 |nil=>exact if_pos h
 |cons x r=>exact if_pos h
theorem rN {r:List Int}:∀ {b val v:Int} {q:List Int},pv1 b val r=some (v,q)→∃ k,k≤r.length∧q=r.drop k:=by
 induction r with
 |nil =>
  intro b val v q h
  rw [pv1_nil] at h
  exact gd h fun _ h=>⟨0,Nat.le_refl _,(Prod.mk.inj (sm h)).2.symm⟩
 |cons x r ih =>
  intro b val v q h
  rw [pv1_cons] at h
  cases hb:(Builtin.bitAnd b 64==0) with
  |true =>
   rw [hb,if_pos rfl] at h
   exact ⟨0,Nat.zero_le _,(Prod.mk.inj (sm h)).2.symm⟩
  |false =>
   rw [hb,if_neg (by decide)] at h
   obtain ⟨k,h1,h2⟩:=ih h
   exact ⟨k+1,Nat.succ_le_succ h1,h2⟩
theorem pv_drop {xs:List Int} {v:Int} {q:List Int} (h:pv xs=some (v,q)):∃ k,1≤k∧k≤xs.length∧q=xs.drop k:=by
 cases xs with
 |nil=>exact ah h
 |cons b r =>
  obtain ⟨k,h1,h2⟩:=rN h
  exact ⟨k+1,Nat.le_add_left _ _,Nat.succ_le_succ h1,h2⟩
theorem lA (a:Nat):¬ (0≤Builtin.bitNot (a:Int)):=by unfold Builtin.bitNot;omega
theorem pF (a c:Nat):Builtin.bitOr (a:Int) (c:Int)=((a ||| c:Nat):Int):=by
 unfold Builtin.bitOr Builtin.bitAnd
 rw [decide_eq_false (lA a),decide_eq_false (lA c)]
 simp only [bitNot_bitNot,Int.toNat_natCast]
theorem An {a c:Int} (h0:0≤a) (c0:0≤c) (c1:c<64):Builtin.bitOr (a * 2 ^ 6) c=a * 64+c:=by
 obtain ⟨a,rfl⟩:=Int.eq_ofNat_of_zero_le h0
 obtain ⟨c,rfl⟩:=Int.eq_ofNat_of_zero_le c0
 have e:(a:Int) * (2:Int) ^ 6=((a <<< 6:Nat):Int):=by rw [Nat.shiftLeft_eq];rfl
 show Builtin.bitOr ((a:Int) * (2:Int) ^ 6) (c:Int)=(a:Int) * 64+(c:Int)
 rw [e,pF,← Nat.shiftLeft_add_eq_or_of_lt (show c<2 ^ 6 from Int.ofNat_lt.mp c1),Nat.shiftLeft_eq];rfl
theorem jU:entryFor table "next"=some Builtin.«next» :=entryFor_of_fast (by kernel_rfl)
theorem mL (a:Value):PySem.argsOk "next" ⟨[a],[]⟩:=by unfold PySem.argsOk;kernel_rfl
theorem ur:entryFor table "iter"=some Builtin.«iter» :=entryFor_of_fast (by kernel_rfl)
theorem vj (a:Value):PySem.argsOk "iter" ⟨[a],[]⟩:=by unfold PySem.argsOk;kernel_rfl
section
variable {prog:Program} {w:World} {A:Around} {E:Value→Shared→Prop} {s:Shared} {it l:Addr} {i:Nat} {items:Array Value}
theorem vO {x:Value} {Q:Option Value→Shared→Prop} (hit:s.heap.IsListIter it l i) (hl:s.heap.IsList l items) (hx:items[i]? = some x)
  (hQ:∀ h',h'.IsListIter it l (i+1)→Heap.SameBut it s.heap h'→Q (some x) {s with heap:=h'}):wpAny (model prog w) A (callSpecial? (.ref it) (Str.ofString "__next__")) Q E s:=by
 obtain ⟨o,ho,hc,hd⟩:=id hit
 obtain ⟨ol,hol,_,nl,hdl⟩:=hl
 refine wpAny_callSpecial?_slot (name:=Str.ofString "__next__") hit.typeIs slot_listiter_next (wpAny_call_entry slot_listiter_next hit.typeIs entry_listiter_next ?_ (args_listiter_next _))
 show wpAny _ _ (field (.ref it) 0 >>= _) _ _ s
 refine wpAny_bind (wpAny_field ho hd (x:= .ref l) rfl ?_)
 show wpAny _ _ (if (Value.ref l==Value.none)=true then _ else _) _ _ s
 rw [if_neg (show ¬ ((Value.ref l==Value.none)=true) from Bool.false_ne_true)]
 show wpAny _ _ (field (.ref it) 1 >>= _) _ _ s
 refine wpAny_bind (wpAny_field ho hd (x:= .int i 0) rfl ?_)
 show wpAny _ _ (seqItems? (.ref l) >>= _) _ _ s
 refine wpAny_bind (wpAny_seqItems hol hdl ?_)
 simp only [Int.toNat_natCast,hx]
 refine wpAny_bind (wpAny_setField ho hd (by simp) (wpAny_pure ⟨x,rfl,hQ _ ?_ (Heap.SameBut.update ..)⟩))
 exact ⟨_,Heap.get?_update_self _ ho (Obj.isFreed_of_fields (Obj.data_mapFields hd _)),(Obj.cls_mapFields ..).trans hc,by
  rw [Obj.data_mapFields hd];simp [rawInt]⟩
noncomputable def Stopped (it:Addr) (h:Heap) (e:Addr) (h':Heap):Prop:=∃ h1,Heap.SameBut it h h1∧(∃ o vs,h1.get? it=some o∧o.data = .fields vs)∧Heap.NewExc h1 h' e "StopIteration"
theorem w7 {Q:Option Value→Shared→Prop} (hh:A.handled=none) (hit:s.heap.IsListIter it l i) (hl:s.heap.IsList l items) (hx:items[i]? = none)
  (hE:∀ h' e,Stopped it s.heap e h'→E (.ref e) {s with heap:=h'}):wpAny (model prog w) A (callSpecial? (.ref it) (Str.ofString "__next__")) Q E s:=by
 obtain ⟨o,ho,hc,hd⟩:=id hit
 obtain ⟨ol,hol,_,nl,hdl⟩:=hl
 refine wpAny_callSpecial?_slot (name:=Str.ofString "__next__") hit.typeIs slot_listiter_next (wpAny_call_entry slot_listiter_next hit.typeIs entry_listiter_next ?_ (args_listiter_next _))
 show wpAny _ _ (field (.ref it) 0 >>= _) _ _ s
 refine wpAny_bind (wpAny_field ho hd (x:= .ref l) rfl ?_)
 show wpAny _ _ (if (Value.ref l==Value.none)=true then _ else _) _ _ s
 rw [if_neg (show ¬ ((Value.ref l==Value.none)=true) from Bool.false_ne_true)]
 show wpAny _ _ (field (.ref it) 1 >>= _) _ _ s
 refine wpAny_bind (wpAny_field ho hd (x:= .int i 0) rfl ?_)
 show wpAny _ _ (seqItems? (.ref l) >>= _) _ _ s
 refine wpAny_bind (wpAny_seqItems hol hdl ?_)
 simp only [Int.toNat_natCast,hx]
 refine wpAny_bind (wpAny_rule (wpAny_bind (wpAny_setField ho hd (by simp) ?_)))
 show wpAny _ _ (newExc (.type "StopIteration") [] >>= _) _ _ _
 refine wpAny_bind ?_
 simp only [newExc,newTuple]
 refine wpAny_bind (wpAny_newObj_type ?_ (by size_fits))
 refine wpAny_bind (m:=firstArgMember _ _) (wpAny_of_eq (a:=Value.none) (by first |rfl |(simp only [firstArgMember];rfl)) ?_)
 refine wpAny_newObj_type ?_ (by size_fits)
 simp only [raiseNew]
 refine wpAny_bind (wpAny_handled ?_)
 rw [show A.in1.handled=none from hh]
 refine wpAny_bind (wpAny_pure (wpAny_throw ?_))
 have hf:=Obj.data_mapFields hd (·.setIfInBounds 0 Value.none)
 refine hE _ _ ⟨_,Heap.SameBut.update ..,⟨_,_,Heap.get?_update_self _ ho (Obj.isFreed_of_fields hf),hf⟩,⟨fun b o e=>Heap.get?_push_of_some _ (Heap.get?_push_of_some _ e),?_,?_⟩⟩
 ·exact iP (by simp [Heap.size_push])
 ·exact ⟨_,_,Heap.get?_push_size _ rfl,rfl,rfl⟩
theorem qF {x:Value} {Q:Value→Shared→Prop} (hit:s.heap.IsListIter it l i) (hl:s.heap.IsList l items) (hx:items[i]? = some x)
  (hQ:∀ h',h'.IsListIter it l (i+1)→Heap.SameBut it s.heap h'→Q x {s with heap:=h'}):wpAny (model prog w) A (call (.builtin "next") [.ref it]) Q E s:=by
 refine PySem.Calls.call_function_entry (by decide +kernel) (by decide +kernel) jU (mL _) ?_
 unfold Builtin.«next»
 refine wpAny_bind (m:=someArgs "next" 1 2 _) (wpAny_of_eq (a:=[Value.ref it]) (by first |rfl |kernel_rfl!) ?_)
 dsimp only
 refine wpAny_bind (wpAny_specialOf (name:=Str.ofString "__next__") hit.typeIs slot_listiter_next.lookup ?_)
 refine wpAny_ite_split (fun hab=>absurd hab (by decide)) (fun _=> ?_)
 exact wpAny_bind (vO hit hl hx fun h' h1 h2=>wpAny_pure ⟨_,rfl,hQ h' h1 h2⟩)
theorem qJ {Q:Value→Shared→Prop} (hh:A.handled=none) (hit:s.heap.IsListIter it l i) (hl:s.heap.IsList l items) (hx:items[i]? = none)
  (hE:∀ h' e,Stopped it s.heap e h'→E (.ref e) {s with heap:=h'}):wpAny (model prog w) A (call (.builtin "next") [.ref it]) Q E s:=by
 refine PySem.Calls.call_function_entry (by decide +kernel) (by decide +kernel) jU (mL _) ?_
 unfold Builtin.«next»
 refine wpAny_bind (m:=someArgs "next" 1 2 _) (wpAny_of_eq (a:=[Value.ref it]) (by first |rfl |kernel_rfl!) ?_)
 dsimp only
 refine wpAny_bind (wpAny_specialOf (name:=Str.ofString "__next__") hit.typeIs slot_listiter_next.lookup ?_)
 refine wpAny_ite_split (fun hab=>absurd hab (by decide)) (fun _=> ?_)
 exact wpAny_bind (w7 hh hit hl hx hE)
theorem rv {Q:Value→Shared→Prop} (hl:s.heap.IsList l items)
  (hQ:Q (.ref s.heap.objs.size) {s with heap:=s.heap.push {cls:= .type "list_iterator",data:= .fields #[.ref l,.int 0 0]}}):wpAny (model prog w) A (call (.builtin "iter") [.ref l]) Q E s:=by
 refine PySem.Calls.call_function_entry (by decide +kernel) (by decide +kernel) ur (vj _) ?_
 unfold Builtin.«iter»
 refine wpAny_bind (m:=someArgs "iter" 1 2 _) (wpAny_of_eq (a:=[Value.ref l]) (by first |rfl |kernel_rfl!) ?_)
 show wpAny _ _ (pyIter (.ref l) >>= _) _ _ _
 exact wpAny_bind (wpAny_pyIter_list hl (wpAny_pure ⟨_,rfl,hQ⟩))
end
structure E0 (env:Env) (sc:Scope):Prop where
 ok:jI env
 sc:env.scope=sc
 cel:env.cells=[]
 frm:env.frame=some env.locals
section
variable {prog:Program} {w:World} {A:Around} {E:Value→Shared→Prop} {s:Shared} {env:Env} {sc:Scope} {m:Str→Option Value} {x:Str} {v:Value} {p:Pos}
theorem E0.kind (e:E0 env sc) {k:NameKind} (h:sc.names.lookup x=some k):env.kindOf x=some k:=by unfold Env.kindOf;rw [e.sc];exact h
theorem dH (e:E0 env sc) (n:s.heap.Ns env.locals m) (hx:sc.names.lookup x=some .local) (hm:m x=some v) (hd:(x==("__debug__":Str))=false) {Q:Value→Shared→Prop} (hQ:Q v s):wpAny (model prog w) A (eval (.Name x p) env) Q E s :=
 wpAny_Name (wpAny_loadName_local e.ok.kind (e.kind hx) n hm hQ) hd
noncomputable abbrev SetL [Tabs] (env:Env) (m:Str→Option Value) (x:Str) (v:Value) (h h':Heap):Prop:=Heap.SameBut env.locals h h'∧Cd h h'∧h'.Ns env.locals (fun z=>if z=x then some v else m z)
variable [Tabs] [Frk]
theorem dJ (e:E0 env sc) (n:s.heap.Ns env.locals m) (hx:sc.names.lookup x=some .local) {Q:Unit→Shared→Prop} (hQ:∀ h' tk,SetL env m x v s.heap h'→Q () {s with heap:=h',toks:=tk}):wpAny (model prog w) A (storeName env x v) Q E s :=
 wpAny_storeName_local (e.kind hx) n (fun h' hn' sb=>hQ h' _ ⟨sb,Cd.sb (fun b o n e=>sb.extBut b o n e) (Ns.nofields n) fun _=>Ns.dt hn',hn'⟩) (by rw [e.ok.kind];rfl)
variable {c:Cx} {hB:Heap} {G:af} {mg mb:Str→Option Value}
theorem xF (B:Base prog w c G hB mg mb) (e:E0 env sc) (kp:KB hB s.heap) {Q:Value→Shared→Prop} (hg:sc.names.lookup x=some .globalImplicit) (hn:x∈bnames) (hv:bootBuiltins x=some v) (hd:(x==("__debug__":Str))=false) (h:Q v s):wpAny (model prog w) A (eval (.Name x p) env) Q E s :=
 PySem.Calls.Name_function_global e.ok.kind (e.kind hg) (PySem.Calls.loadGlobal_builtin (by rw [e.ok.glob];exact kp.ns B.ns) (B.blt x hn).1 (by rw [e.ok.blt];exact kp.ns B.bn) ((B.blt x hn).2.trans hv) h) hd
end
end Mine
set_option genSizeOf false
set_option genInjectivity false
namespace Mine
noncomputable def Ups (l:List Env) (h:Heap):Prop:=∀ e∈l,e.scope.kind ≠ .module∧∃ L,e.frame=some L∧Dt h L
noncomputable def frs (l:List Env):List Addr:=l.filterMap (·.frame)
theorem Ups.cd {l:List Env} {h h':Heap} (u:Ups l h) (k:∀ b,Dt h b→Dt h' b):Ups l h':=fun e he=>let ⟨h1,L,h2,h3⟩:=u e he;⟨h1,L,h2,k L h3⟩
theorem Ups.mem {l:List Env} {h:Heap} (u:Ups l h) {b:Addr} (hb:b∈frs l):Dt h b:=by
 obtain ⟨e,he,hf⟩:=List.mem_filterMap.mp hb
 obtain ⟨_,L,h2,h3⟩:=u e he
 exact sm (h2.symm.trans hf)▸h3
theorem eR:∀ {l:List Env} {h base:Heap},Ups l h→(∀ b∈frs l,base.get? b=none)→h.FunFrames base l
 | [],_,_,_,_=>trivial
 |e :: l,h,base,u,hb=>by
  obtain ⟨h1,L,h2,o,es,n,h3,h4⟩:=u e List.mem_cons_self
  have hm:frs (e :: l)=L :: frs l:=by unfold frs;rw [List.filterMap_cons,h2]
  refine ⟨h1,⟨L,o,h2,hb L (by rw [hm];exact List.mem_cons_self),h3,fun vs q=>nomatch h4.symm.trans q⟩,eR (fun e' he'=>u e' (List.mem_cons_of_mem _ he')) fun b hb'=>hb b (by rw [hm];exact List.mem_cons_of_mem _ hb')⟩
structure Flown (it:Addr) (outer:List Env) (e:Addr) (h h':Heap):Prop where
 fl:∃ base a0,Heap.FlyingW base outer e (.type "StopIteration") a0 h'∧∀ b o,b≠it→b∉frs outer→h.get? b=some o→base.get? b=some o
 up:∀ b o,b∈frs outer→h.get? b=some o→∃ sl,h'.get? b=some {o with slots:=sl}
theorem Flown.kept {it e:Addr} {outer:List Env} {h h':Heap} (F:Flown it outer e h h') {b:Addr} {o:Obj} (hb:b≠it) (e1:h.get? b=some o):(b∉frs outer∧h'.get? b=some o)∨(b∈frs outer∧∃ sl,h'.get? b=some {o with slots:=sl}):=by
 by_cases hm:b∈frs outer
 ·exact .inr ⟨hm,F.up b o hm e1⟩
 ·obtain ⟨base,a0,fly,hk⟩:=F.fl
  exact .inl ⟨hm,fly.1 b o (hk b o hb hm e1)⟩
section
variable {M:Model} {A:Around} {E:Value→Shared→Prop} {s:Shared} {env:Env} {outer:List Env} {it e:Addr} {h:Heap} {Q:Unit→Shared→Prop}
theorem oy (hfr:A.frames=some (env :: outer)) {L:Addr} (hf:env.frame=some L) (u:Ups (env :: outer) h) (hit:¬ Dt h it) (st:Stopped it h e s.heap)
  (hQ:∀ h',Flown it outer e (TI.gone h [L]) h'→Q () {s with heap:=h'}):wpAny M A (leaving env (.ref e)) Q E s:=by
 obtain ⟨h1,sb,⟨oi,vi,hi1,hi2⟩,nx⟩:=st
 have hm:frs (env :: outer)=L :: frs outer:=by unfold frs;rw [List.filterMap_cons,hf]
 have old:∀ b o,b≠it→h.get? b=some o→h1.get? b=some o:=fun b o n e=>sb.extBut b o n e
 have dt1:∀ b,Dt h b→Dt h1 b:=fun b d=>d.kq fun o e=>old b o (fun q=>hit (q▸d)) e
 have u1:Ups (env :: outer) h1:=u.cd dt1
 have u2:Ups (env :: outer) s.heap:=u1.cd fun b d=>d.kq fun o e=>nx.keeps b o e
 have ff:s.heap.FunFrames (TI.gone h1 (frs (env :: outer))) (env :: outer):=eR u2 fun b hb=>TI.gone_none hb
 have kb:(TI.gone h1 (frs (env :: outer))).StaysIn s.heap:=fun b o e=>nx.keeps b o (TI.gone_some e).2
 have hen:(TI.gone h1 (frs (env :: outer))).get? e=none:=TI.none_of (fun b o e=>(TI.gone_some e).2) nx.new
 obtain ⟨ob,t,he,hc,hd⟩:=nx.there
 refine wpAny_leaving_firstW hfr ff hf he kb hen hd rfl rfl fun h' hL=> ?_
 obtain ⟨k1,⟨_,_,k2⟩,k3,k4⟩:=hL
 rw [hc] at k3
 refine hQ h' ⟨⟨_,_,⟨k1,hen,k2,k3⟩,fun b o hb hn e=> ?_⟩,fun b o hb e=> ?_⟩
 ·obtain ⟨n1,e1⟩:=TI.gone_some e
  rw [TI.gone_get (by rw [hm];intro q;rcases List.mem_cons.mp q with q |q;exact n1 (by rw [q];exact List.mem_cons_self);exact hn q)]
  exact old b o hb e1
 ·obtain ⟨n1,e1⟩:=TI.gone_some e
  have hbf:b∈frs (env :: outer):=by rw [hm];exact List.mem_cons_of_mem _ hb
  obtain ⟨o',es,n,g1,g2⟩:=u.mem hbf
  obtain rfl:=sm (e1.symm.trans g1)
  exact k4 b o (nx.keeps b o (old b o (fun q=>hit (q▸u.mem hbf)) e1)) fun vs q=>nomatch g2.symm.trans q
theorem pD (hfr:A.frames=some (env :: outer)) {L:Addr} (hf:env.frame=some L) (F:Flown it (env :: outer) e h s.heap) (hdt:∀ b∈frs (env :: outer),Dt h b)
  (hQ:∀ h',(∃ base a0,Heap.FlyingW base (env :: outer) e (.type "StopIteration") a0 h')→Flown it (env :: outer) e h h'→Q () {s with heap:=h'}):wpAny M A (noteFrame (.ref e) env) (fun _ s₂=>wpAny M A (setFlight (.ref e) none) Q E s₂) E s:=by
 obtain ⟨⟨base,a0,fly,hk⟩,up⟩:=F
 refine wpAny_looks_onW hfr hf fly fun h1 held k1=> ?_
 refine wpAny_landsW (s:={s with heap:=h1}) held fun h2 fly2 k2=> ?_
 refine hQ h2 ⟨base,a0,fly2⟩ ⟨⟨base,a0,fly2,hk⟩,fun b o hb e=> ?_⟩
 obtain ⟨o',es,n,g1,g2⟩:=hdt b hb
 obtain rfl:=sm (e.symm.trans g1)
 obtain ⟨sl,e1⟩:=up b o hb e
 obtain ⟨sl1,e2⟩:=k1 b _ e1 fun vs q=>nomatch (g2.symm.trans (show o.data=_ from q))
 obtain ⟨sl2,e3⟩:=k2 b _ e2 fun vs q=>nomatch (g2.symm.trans (show o.data=_ from q))
 exact ⟨sl2,e3⟩
theorem lW (F:Flown it outer e h s.heap) (hdt:∀ b∈frs outer,Dt h b)
  (hQ:∀ h',Flown it outer e h h'→Q () {s with heap:=h'}):wpAny M A (setFlight (.ref e) none) Q E s:=by
 obtain ⟨⟨base,a0,fly,hk⟩,up⟩:=F
 obtain ⟨f1,f2,f3,f4⟩:=fly
 refine wpAny_setFlight_noneW f1 f3 f4 fun h' k1 k2 k3 k4=>hQ h' ⟨⟨base,a0,⟨k1,f2,k2,k3⟩,hk⟩,fun b o hb e=> ?_⟩
 obtain ⟨o',es,n,g1,g2⟩:=hdt b hb
 obtain rfl:=sm (e.symm.trans g1)
 obtain ⟨sl,e1⟩:=up b o hb e
 exact ⟨sl,k4 b _ e1 fun vs q=>nomatch (g2.symm.trans (show o.data=_ from q))⟩
end
end Mine
set_option genSizeOf false
set_option genInjectivity false
namespace Mine
noncomputable def tbP:List Str:=["b","val"]
noncomputable def nmP:List (Str×NameKind):=[("iterator",.local),("b",.local),("val",.local),("next",.globalImplicit)]
noncomputable def bS:Str:="b"
noncomputable def valS':Str:="val"
noncomputable def itS:Str:="iterator"
noncomputable def nextS:Str:="next"
theorem qK:bootBuiltins nextS=some (.builtin "next"):=by decide +kernel
theorem rt:bootBuiltins ("iter":Str)=some (.builtin "iter"):=by decide +kernel
theorem rn:bootBuiltins ("StopIteration":Str)=some (.type "StopIteration"):=by decide +kernel
noncomputable def winfo:Stmt→Expr×List Stmt
 | .While t b _ _=>(t,b)
 |_=>(default,[])
noncomputable def nextE (e:Expr):Expr:= .Call (.Name nextS (kid 0 e).pos) [.Name itS (kid 1 e).pos] [] e.pos
noncomputable def setB (st:Stmt):Stmt:= .Assign [.Name bS (skid 1 st).pos] (nextE (skid 0 st)) st.pos
noncomputable def vP:T:= .bin .BitAnd (.var 0) (.cst (.int 63))
noncomputable def tP:T:= .bin .BitAnd (.var 0) (.cst (.int 64))
noncomputable def bodyP (c:Cx) (sc:Scope) (l:List Stmt):Bool×List Stmt :=
 let s0:=hs l;let s2:=hs l.tail.tail;let a:=unT c sc (.cst (.int 6)) (skid 0 s0);let o:=unT c sc vP (skid 0 s2)
 (a.1&&o.1,[.AugAssign (.Name valS' (skid 1 s0).pos) .LShift a.2 s0.pos,setB (hs l.tail),.AugAssign (.Name valS' (skid 1 s2).pos) .BitOr o.2 s2.pos])
noncomputable def pvS (c:Cx) (sc:Scope) (body:List Stmt):Bool×List Stmt :=
 let s1:=hs body.tail;let s2:=hs body.tail.tail;let s3:=hs body.tail.tail.tail
 let v:=unT c sc vP (skid 0 s1);let t:=unT c sc tP (winfo s2).1;let b:=bodyP c sc (winfo s2).2
 (v.1&&t.1&&b.1 && !isBadC v.2,[setB (hs body),.Assign [.Name valS' (skid 1 s1).pos] v.2 s1.pos,.While t.2 b.2 [] s2.pos,.Return (some (.Name valS' (skid 0 s3).pos)) s3.pos])
variable [Tabs] [Frk]
theorem rU {e:Expr} {x:Str} {p:Pos} {line:Nat} {env:Env} (h:isBadC e=false) (h2:(e.ctorIdx==8)=false):swapsWith e (some (.Name x p)) line env=pure false:=by
 rcases ga h with e1 |⟨_,elt,gens,sc',pos,e1⟩
 ·exact e1
 ·rw [e1] at h2;exact nomatch h2
theorem KD.sb {D L:Addr} {a b c:Heap} (x:KD D a b) (hn:a.get? L=none) (sb:∀ i o,i≠L→b.get? i=some o→c.get? i=some o) (hd:∀ o,b.get? L=some o→∀ vs,o.data ≠ .fields vs):KD D a c :=
 ⟨fun i o n e=>(x.kp i o n e).thenC (fun o' e'=> .inl (sb i o' (fun q=>ah (hn.symm.trans (q▸e))) e')) (Cc.sb sb hd),x.cd.sbn hn sb hd⟩
theorem KD.gone {D L:Addr} {a b:Heap} (x:KD D a b) (hn:a.get? L=none) (hd:∀ o,b.get? L=some o→∀ vs,o.data ≠ .fields vs):KD D a (TI.gone b [L]) :=
 x.sb hn (fun i o n e=>(TI.gone_get (fun q=>n (List.mem_singleton.mp q))).trans e) hd
theorem IsLI.keep {h h':Heap} {it l:Addr} {i:Nat} (x:h.IsListIter it l i) (k:∀ o,isTab o=false→h.get? it=some o→h'.get? it=some o):h'.IsListIter it l i :=
 let ⟨o,e1,e2,e3⟩:=x;⟨o,k o (br e2 e3) e1,e2,e3⟩
theorem IsLI.ne {h:Heap} {it l a:Addr} {i:Nat} (x:h.IsListIter it l i) {o:Obj} (ha:h.get? a=some o) (hd:∀ vs,o.data ≠ .fields vs):a≠it:=fun q=>by
 obtain ⟨o',e1,e2,e3⟩:=x
 exact hd _ ((congrArg Obj.data (sm (ha.symm.trans (q▸e1)))).trans e3)
theorem IsLI.nodt {h:Heap} {it l:Addr} {i:Nat} (x:h.IsListIter it l i):¬ Dt h it:=fun ⟨o,es,n,e1,e2⟩=>IsLI.ne x e1 (fun vs q=>nomatch e2.symm.trans q) rfl
theorem IsLI.nsne {h:Heap} {it l a:Addr} {i:Nat} (x:h.IsListIter it l i) {m:Str→Option Value} (n:h.Ns a m):a≠it:=let ⟨o,es,ep,e1,e2,_⟩:=n;IsLI.ne x e1 fun vs q=>nomatch e2.symm.trans q
theorem IsLI.plne {h:Heap} {it l a:Addr} {i:Nat} (x:h.IsListIter it l i) {items:Array Value} (n:h.PlainList a items):a≠it:=let ⟨o,e⟩:=n;IsLI.ne x e (by intro vs q;exact nomatch (q:Data.seq _ _=_))
theorem KD.it {h h':Heap} {it l:Addr} {i:Nat} (x:h.IsListIter it l i) (sb:Heap.SameBut it h h'):KD it h h':=by
 refine ⟨fun b o n e=> .inl (sb.extBut b o n e),fun b o vs h1 h2 e=>sb.extBut b o (fun q=> ?_) e,fun b d=>d.kq fun o e=>sb.extBut b o (fun q=>IsLI.nodt x (q▸d)) e⟩
 obtain ⟨o',g1,g2,_⟩:=x
 obtain rfl:=sm (g1.symm.trans (q▸e))
 rw [g2] at h1
 exact nomatch (Value.type.inj h1)
section
variable {prog:Program} {w:World} {c:Cx} {hB:Heap} {G:af} {mg mb:Str→Option Value} {A:Around} {E:Value→Shared→Prop} {s:Shared} {env:Env} {sc:Scope} {m:Str→Option Value}
theorem rJ (B:Base prog w c G hB mg mb) (e:E0 env sc) (hn:sc.names=nmP) (n:s.heap.Ns env.locals m) (kp:KB hB s.heap) {x:Expr} {it l:Addr} {i:Nat} {items:Array Value} {Q:Value→Shared→Prop} (hm:m itS=some (.ref it)) (hh:A.handled=none) (hit:s.heap.IsListIter it l i) (hL:s.heap.PlainList l items)
  (hq:∀ v h',items[i]? = some v→h'.IsListIter it l (i+1)→Heap.SameBut it s.heap h'→Q v {s with heap:=h'})
  (hE:items[i]? = none→∀ h' e,Stopped it s.heap e h'→E (.ref e) {s with heap:=h'}):wpAny (model prog w) A (eval (nextE x) env) Q E s:=by
 refine wpAny_Call_ofName (xF B e kp (by rw [hn];rfl) (by decide) qK (by decide) ?_)
 refine PySem.Calls.callWith_builtin rfl (PySem.Calls.evalArgs_plain (PySem.Calls.spliced_cons (dH e n (by rw [hn];rfl) hm (by decide) (PySem.Calls.spliced_nil ?_))))
 show wpAny _ _ (call (.builtin "next") [.ref it]) _ _ _
 cases hi:items[i]? with
 |none=>exact qJ hh hit (PL.isList hL) hi fun h' e st=>hE hi h' e st
 |some v=>exact qF hit (PL.isList hL) hi fun h' h1 h2=>hq v h' hi h1 h2
noncomputable def MI (m:Str→Option Value) (x:Str) (o:Option Int):Prop:=∀ k,o=some k→∃ t,m x=some (.int k t)
structure PS (env:Env) (it l:Addr) (h0:Heap) (j:Nat) (b v:Option Int) (H:Heap):Prop where
 kd:KD it h0 H
 hit:H.IsListIter it l j
 fr:∃ m,H.Ns env.locals m∧m itS=some (.ref it)∧MI m bS b∧MI m valS' v
theorem PS.keep {it l:Addr} {h0 H H':Heap} {j:Nat} {b v:Option Int} (p:PS env it l h0 j b v H) (k:Kp H H'):PS env it l h0 j b v H' :=
 ⟨p.kd.trans (k.kd it),IsLI.keep p.hit (k.at it),let ⟨m,n,r⟩:=p.fr;⟨m,k.ns n,r⟩⟩
noncomputable def sP (b v:Option Int):MEnv:=[b.map fun i=>(.int i,false),v.map fun i=>(.int i,false)]
theorem PS.rr {it l:Addr} {h0 H:Heap} {j:Nat} {b v:Option Int} (p:PS env it l h0 j b v H) (e:E0 env sc) (hn:sc.names=nmP):RR env tbP (hEx env) (fun _=>0) (sP b v) H:=by
 obtain ⟨m,n,_,h1,h2⟩:=p.fr
 have one:∀ {x:Str} {o:Option Int} {t:List Str} {σ:MEnv},sc.names.lookup x=some .local→MI m x o→FV (valOf env m fun _=>none) H (hEx env) t σ→FV (valOf env m fun _=>none) H (hEx env) (x :: t) (o.map (fun i=>(D.int i,false)) :: σ):=fun {x o t σ} hk h V=>by
  cases o with
  |none=>exact .no V
  |some i =>
   obtain ⟨t,ht⟩:=h i rfl
   exact .has (by unfold valOf;rw [e.kind hk];exact ht) ⟨t,rfl⟩ V
 refine FV.rr e.ok ⟨n,fun x c q=> ?_,fun x c q=> ?_,fun x y c q=> ?_,fun x q=> ?_⟩ (bC rfl) (one (by rw [hn];rfl) h1 (one (by rw [hn];rfl) h2 .nil))
 ·rw [e.cel] at q;exact ah q
 ·rw [e.cel] at q;exact ah q
 ·rw [e.cel] at q;exact ah q
 ·have:nmP.all (fun x=> !celK (some x.2))=true:=rfl
  have nk:∀ k,nmP.lookup x=some k→celK (some k)=false:=fun k hk=>nt (List.all_eq_true.mp this _ (PySem.mem_of_lookup hk))
  have nk2:∀ k,env.kindOf x=some k→celK (some k)=false:=fun k q=>nk k (by unfold Env.kindOf at q;rw [e.sc,hn] at q;exact q)
  exact q.elim (fun q=>nomatch nk2 _ q) fun q=>nomatch nk2 _ q
theorem PS.set {it l:Addr} {h0 H H':Heap} {j:Nat} {b v:Option Int} (p:PS env it l h0 j b v H) (hL:h0.get? env.locals=none) {m:Str→Option Value} (n:H.Ns env.locals m) (hm:m itS=some (.ref it)) {x:Str} {k:Value} (st:SetL env m x k H H') {b' v':Option Int} (hx:x≠itS)
  (hb:MI (fun z=>if z=x then some k else m z) bS b') (hv:MI (fun z=>if z=x then some k else m z) valS' v'):PS env it l h0 j b' v' H' :=
 ⟨p.kd.sb hL (fun i o n e=>st.1.extBut i o n e) (Ns.nofields n),IsLI.keep p.hit fun o t e=>st.1.extBut it o (Ne.symm (IsLI.nsne p.hit n)) e,_,st.2.2,(if_neg (Ne.symm hx)).trans hm,hb,hv⟩
theorem MI.here {m:Str→Option Value} {x:Str} {k:Int} {t:Tok}:MI (fun z=>if z=x then some (.int k t) else m z) x (some k):=fun k' e=>⟨t,(if_pos rfl).trans (sm e▸rfl)⟩
theorem MI.there {m:Str→Option Value} {x y:Str} {u:Value} {o:Option Int} (h:MI m x o) (n:x≠y):MI (fun z=>if z=y then some u else m z) x o:=fun k e=>let ⟨t,ht⟩:=h k e;⟨t,(if_neg n).trans ht⟩
theorem MI.no {m:Str→Option Value} {x:Str}:MI m x none:=fun k e=>ah e
end
end Mine
set_option genSizeOf false
set_option genInjectivity false
namespace Mine
noncomputable def IntsAt (items:Array Value) (is:List Int):Prop:=items.size=is.length∧∀ (j:Nat) (k:Int),is[j]? = some k→∃ t,items[j]? = some (Value.int k t)
theorem IntsAt.get {items:Array Value} {is:List Int} (x:IntsAt items is) {j:Nat} {v:Value} (h:items[j]? = some v):∃ k t,is[j]? = some k∧v = .int k t:=by
 have hj:j<is.length:=x.1▸(Array.getElem?_eq_some_iff.mp h).1
 obtain ⟨t,ht⟩:=x.2 j is[j] (List.getElem?_eq_getElem hj)
 exact ⟨_,t,List.getElem?_eq_getElem hj,sm (h.symm.trans ht)⟩
theorem IntsAt.none {items:Array Value} {is:List Int} (x:IntsAt items is) {j:Nat} (h:items[j]? = none):is.length≤j:=x.1▸Array.getElem?_eq_none_iff.mp h
theorem yz (j:Nat):(2:Int) ^ (6 * (j+1))=2 ^ (6 * j) * 64:=by rw [Nat.mul_succ,Int.pow_add];rfl
theorem si {val b:Int} {j:Nat} (h:val<2 ^ (6 * j)):val * 64+b % 64<2 ^ (6 * (j+1)):=by
 rw [yz]
 have h2:=Int.emod_lt_of_pos b (show (0:Int)<64 by decide)
 have h3:=Int.mul_le_mul_of_nonneg_right (Int.add_one_le_of_lt h) (show (0:Int)≤64 by decide)
 rw [Int.add_mul] at h3
 exact Int.lt_of_lt_of_le (Int.add_lt_add_left h2 _) h3
theorem xP {val b:Int} (h:0≤val):0≤val * 64+b % 64:=Int.add_nonneg (Int.mul_nonneg h (by decide)) (Int.emod_nonneg _ (by decide))
theorem qX {val:Int} {j:Nat} (h0:0≤val) (h:val<2 ^ (6 * j)) (hj:j≤600):small val=true:=by
 obtain ⟨a,rfl⟩:=Int.eq_ofNat_of_zero_le h0
 have h1:a<2 ^ (6 * j):=Int.ofNat_lt.mp (by rw [Int.natCast_pow];exact h)
 unfold small BIG
 exact decide_eq_true (Nat.lt_of_lt_of_le h1 (Nat.pow_le_pow_right (by decide) (Nat.le_trans (Nat.mul_le_mul_left 6 hj) (by decide))))
theorem nL {a:Int} (h:small a=true) [Tabs] [Frk]:(Builtin.Int.intBits a:Int)+6≤2 ^ 27:=Int.le_trans (Int.add_le_add_right (Int.ofNat_le.mpr (cO h)) 6) (by decide)
variable [Tabs] [Frk]
section
variable {prog:Program} {w:World} {c:Cx} {hB:Heap} {G:af} {mg mb:Str→Option Value} {A:Around} {E:Value→Shared→Prop} {s:Shared} {env:Env} {sc:Scope} {ps:List Str} {as:List Arg} {it l:Addr} {h0:Heap} {j:Nat} {b v:Option Int} {items:Array Value} {is:List Int} {n:Nat}
structure PX (prog:Program) (w:World) (c:Cx) (G:af) (hB:Heap) (mg mb:Str→Option Value) (sc:Scope) (ps:List Str) (as:List Arg) (env:Env) (it l:Addr) (h0:Heap) (items:Array Value) (is:List Int) (A:Around):Prop where
 N:eQ prog w c G hB mg mb sc ps as
 tb:c.tbl=tbP
 nm:sc.names=nmP
 e:E0 env sc
 kp:KB hB h0
 itB:hB.get? it=none
 hL:h0.get? env.locals=none
 pl:h0.PlainList l items
 ne:l≠it
 ia:IntsAt items is
 ar:Ar 0 A
theorem PX.list (X:PX prog w c G hB mg mb sc ps as env it l h0 items is A) {H:Heap} (p:PS env it l h0 j b v H):H.PlainList l items:=PL.at' X.pl fun o t e=>(p.kd.kp l o X.ne e).ob t
theorem PX.int (X:PX prog w c G hB mg mb sc ps as env it l h0 items is A) (p:PS env it l h0 j b v s.heap) {t:T} {ex:Expr} (ht:(unT c sc t ex).1=true) {k:Int} {Q:Value→Shared→Prop} (hev:ev G (fun _ _=>none) (sP b v) true t=some (.int k)) (hQ:∀ h' tk tk',Kp s.heap h'→Q (.int k tk) {s with heap:=h',toks:=tk'}):wpAny (model prog w) A (eval (unT c sc t ex).2 env) Q E s:=by
 let q:At (wd0 prog w c G hB) sc (sP b v):=⟨A,s,env,hEx env,fun _=>0,.self X.e.sc,X.tb▸p.rr X.e X.nm,KD.kpB X.kp X.itB p.kd,X.ar⟩
 refine (ez X.N ht).vs _ q E true (.int k) Q hev fun v h' tk' k' d _=> ?_
 obtain ⟨tk,rfl⟩:=d.top
 exact hQ h' tk tk' k'
theorem PX.store (X:PX prog w c G hB mg mb sc ps as env it l h0 items is A) (p:PS env it l h0 j b v s.heap) {x:Str} {k:Int} {t:Tok} (hx:x=bS∨x=valS') {Q:Unit→Shared→Prop} (hQ:∀ h' tk,PS env it l h0 j (if x=bS then some k else b) (if x=valS' then some k else v) h'→Q () {s with heap:=h',toks:=tk}):wpAny (model prog w) A (storeName env x (.int k t)) Q E s:=by
 obtain ⟨m,n,hm,h1,h2⟩:=p.fr
 refine dJ X.e n (by rw [X.nm];rcases hx with rfl |rfl<;>rfl) fun h' tk st=>hQ h' tk ?_
 rcases hx with rfl |rfl
 ·exact p.set X.hL n hm st (by decide) .here (h2.there (by decide))
 ·exact p.set X.hL n hm st (by decide) (h1.there (by decide)) .here
theorem PX.next (X:PX prog w c G hB mg mb sc ps as env it l h0 items is A) (p:PS env it l h0 j b v s.heap) {st:Stmt} {Q:Flow→Shared→Prop} (hQ:∀ k h' tk,is[j]? = some k→PS env it l h0 (j+1) (some k) v h'→Q .next {s with heap:=h',toks:=tk})
  (hE:is.length≤j→∀ h' e,Stopped it s.heap e h'→E (.ref e) {s with heap:=h'}):wpAny (model prog w) A (exec (setB st) env) Q E s:=by
 obtain ⟨m,n,hm,h1,h2⟩:=p.fr
 refine wpAny_Assign_Name (rJ X.N.B X.e X.nm n (KD.kpB X.kp X.itB p.kd) hm X.ar.hd p.hit (X.list p) (fun u h' hu hit sb=> ?_) fun hn=>hE (X.ia.none hn)) rfl
 obtain ⟨k,t,hk,rfl⟩:=X.ia.get hu
 have p':PS env it l h0 (j+1) b v h':=⟨p.kd.trans (KD.it p.hit sb),hit,m,n.sameBut sb (IsLI.nsne p.hit n),hm,h1,h2⟩
 exact X.store (s:={s with heap:=h'}) p' (.inl rfl) fun h'' tk q=>hQ k h'' tk hk q
theorem PX.turn (X:PX prog w c G hB mg mb sc ps as env it l h0 items is A) {b0 val:Int} (p:PS env it l h0 j (some b0) (some val) s.heap) {body:List Stmt} (hb:(bodyP c sc body).1=true) (v0:0≤val) (vs:small val=true) {Q:Flow→Shared→Prop}
  (hQ:∀ k h' tk,is[j]? = some k→PS env it l h0 (j+1) (some k) (some (val * 64+k % 64)) h'→Q .next {s with heap:=h',toks:=tk})
  (hE:is.length≤j→∀ h h' e tk v',PS env it l h0 j (some b0) v' h→Stopped it h e h'→E (.ref e) {s with heap:=h',toks:=tk}):wpAny (model prog w) A (execs (bodyP c sc body).2 env) Q E s:=by
 refine aa (a:=(unT c sc (.cst (.int 6)) (skid 0 (hs body))).1) (b:=(unT c sc vP (skid 0 (hs body.tail.tail))).1) hb fun q1 q2=> ?_
 obtain ⟨m,n,hm,h1,h2⟩:=p.fr
 obtain ⟨tv,hv⟩:=h2 val rfl
 have lv:env.kindOf valS'=some .local:=X.e.kind (by rw [X.nm];rfl)
 refine wpAny_execs_cons (wpAny_AugAssign_Name (wpAny_loadName_local X.e.ok.kind lv n hv (X.int (t:= .cst (.int 6)) (k:=6) p q1 rfl fun h2 t2 tk2 k2=>ilshift_int (by decide) (nL vs) ?_)))
 refine X.store (s:={s with heap:=h2,toks:=tk2+1}) (p.keep k2) (k:=val * 2 ^ 6) (.inr rfl) fun h3 tk3 p3=> ?_
 refine wpAny_execs_cons (X.next (s:={s with heap:=h3,toks:=tk3}) (b:=some b0) (v:=some (val * 2 ^ 6)) p3 (fun k h4 tk4 hk p4=> ?_) fun hn h4 e st=>hE hn h3 h4 e tk3 _ p3 st)
 obtain ⟨m,n,hm,h1,h2⟩:=p4.fr
 obtain ⟨tv,hv⟩:=h2 _ rfl
 refine wpAny_execs_cons (wpAny_AugAssign_Name (wpAny_loadName_local (s:={s with heap:=h4,toks:=tk4}) X.e.ok.kind lv n hv (X.int (s:={s with heap:=h4,toks:=tk4}) (t:=vP) p4 q2 (congrArg (some ∘ D.int) (bitAnd_m6 k)) fun h5 t5 tk5 k5=>ior_int ?_)))
 rw [show Builtin.bitOr (val * 2 ^ 6) (k % 64)=val * 64+k % 64 from An v0 (Int.emod_nonneg _ (by decide)) (Int.emod_lt_of_pos _ (by decide))]
 exact X.store (s:={s with heap:=h5,toks:=tk5+1}) (p4.keep k5) (.inr rfl) fun h6 tk6 p6=>wpAny_execs_nil (hQ k h6 tk6 hk p6)
theorem PX.raise (X:PX prog w c G hB mg mb sc ps as env it l h0 items is (A.deeper env)) {outer:List Env} (hfr:A.frames=some outer) (u:Ups outer h0) {H:Heap} (p:PS env it l h0 j b v H) {h':Heap} {e:Addr} {tk:Nat} (st:Stopped it H e h')
  (hE:∀ e h' tk hr,KD it h0 hr→(∀ o,hr.get? it=some o→o.cls ≠ .type "code")→Flown it outer e hr h'→E (.ref e) {s with heap:=h',toks:=tk}):wpAny (model prog w) (A.deeper env) (leaving env (.ref e)) (fun _ s''=>E (.ref e) s'') (fun e' s''=>E e' s'') {s with heap:=h',toks:=tk}:=by
 obtain ⟨m,n,_⟩:=p.fr
 refine oy (outer:=outer) (Around.frames_deeper hfr) X.e.frm (h:=H) (fun e' he'=> ?_) (IsLI.nodt p.hit) st fun h2 F=> ?_
 ·rcases List.mem_cons.mp he' with q |q
  ·subst q;exact ⟨by rw [X.e.ok.kind];decide,_,X.e.frm,Ns.dt n⟩
  ·exact (u.cd p.kd.cd.2) e' q
 ·refine hE e h2 tk _ (p.kd.gone X.hL (Ns.nofields n)) (fun o ho=> ?_) F
  obtain ⟨o',g1,g2,_⟩:=p.hit
  rw [← sm (g1.symm.trans (TI.gone_some ho).2),g2]
  exact fun q=>nomatch Value.type.inj q
structure PIn (env:Env) (it l:Addr) (h0:Heap) (is:List Int) (i j:Nat) (b val:Int) (H:Heap):Prop where
 lt:i<j
 le:j≤is.length
 v0:0≤val
 v1:val<2 ^ (6 * j)
 eq:pv (is.drop i)=pv1 b val (is.drop j)
 ps:PS env it l h0 j (some b) (some val) H
theorem PIn.next {i j:Nat} {b val k:Int} {H H':Heap} (p:PIn env it l h0 is i j b val H) (hb:(Builtin.bitAnd b 64==0)=false) (hk:is[j]? = some k) (q:PS env it l h0 (j+1) (some k) (some (val * 64+k % 64)) H'):PIn env it l h0 is i (j+1) k (val * 64+k % 64) H':=by
 obtain ⟨hj,e⟩:=List.getElem?_eq_some_iff.mp hk
 refine ⟨Nat.lt_succ_of_lt p.lt,hj,xP p.v0,si p.v1,?_,q⟩
 rw [p.eq,List.drop_eq_getElem_cons hj,e,pv1_cons,hb];rfl
theorem PX.loop (X:PX prog w c G hB mg mb sc ps as env it l h0 items is (A.deeper env)) {i j:Nat} {b val:Int} {st:Stmt} {rest:List Stmt} {pos:Pos} (ht:(unT c sc tP (winfo st).1).1=true) (hb:(bodyP c sc (winfo st).2).1=true) (h600:is.length≤600) (p:PIn env it l h0 is i j b val s.heap)
  {Q:Flow→Shared→Prop} {E1:Value→Shared→Prop} (pass:PassesOwn (model prog w) (A.deeper env) env E1)
  (hQ:∀ j b val h' tk,PIn env it l h0 is i j b val h'→(Builtin.bitAnd b 64==0)=true→wpAny (model prog w) (A.deeper env) (execs rest env) Q E1 {s with heap:=h',toks:=tk})
  (hE:pv (is.drop i)=none→∀ h h' e tk b v j,PS env it l h0 j b v h→Stopped it h e h'→E1 (.ref e) {s with heap:=h',toks:=tk}) :
  wpAny (model prog w) (A.deeper env) (execs (.While (unT c sc tP (winfo st).1).2 (bodyP c sc (winfo st).2).2 [] pos :: rest) env) Q E1 s:=by
 refine wpAny_execs_cons (wpAny_While (codeAny_whileLoop (fun nn s'=>∃ H tk j b val,s' = {s with heap:=H,toks:=tk}∧nn=is.length - j∧PIn env it l h0 is i j b val H) ?_ (is.length - j) ⟨s.heap,s.toks,j,b,val,rfl,rfl,p⟩))
 rintro nn s' ⟨H,tk,j,b,val,rfl,rfl,q⟩
 refine wpAny_passesOwn pass ?_
 let a:At (wd0 prog w c G hB) sc (sP (some b) (some val)):=⟨A.deeper env,{s with heap:=H,toks:=tk},env,hEx env,fun _=>0,.self X.e.sc,X.tb▸q.ps.rr X.e X.nm,KD.kpB X.kp X.itB q.ps.kd,X.ar⟩
 refine (ez X.N ht).is _ a _ (.int (Builtin.bitAnd b 64)) _ _ rfl rfl fun h5 tk5 k5=> ?_
 have q5:PIn env it l h0 is i j b val h5:={q with ps:=q.ps.keep k5}
 cases hb0:(Builtin.bitAnd b 64==0) with
 |true =>
  rw [if_neg (show ¬ ((!true)=true) by decide)]
  exact wpAny_execs_nil (hQ j b val h5 tk5 q5 hb0)
 |false =>
  rw [if_pos (show (!false)=true by decide)]
  refine X.turn (s:={s with heap:=h5,toks:=tk5}) q5.ps hb q.v0 (qX q.v0 q.v1 (Nat.le_trans q.le h600)) (fun k h6 tk6 hk p6=> ?_) fun hn h h' e tk6 v' p6 stp=>pass _ _ (hE ?_ h h' e tk6 _ _ _ p6 stp)
  ·have:=q5.next hb0 hk p6
   exact ⟨is.length - (j+1),Nat.sub_succ_lt_self _ _ this.le,h6,tk6,j+1,k,_,rfl,rfl,this⟩
  ·rw [q.eq,List.drop_eq_nil_of_le hn,pv1_nil,hb0];rfl
noncomputable def pmP:List Str:=["iterator"]
theorem uj {is:List Int} {i:Nat} {k:Int} (h:is[i]? = some k):pv (is.drop i)=pv1 k (k % 64) (is.drop (i+1)):=by
 obtain ⟨hi,e⟩:=List.getElem?_eq_some_iff.mp h
 rw [List.drop_eq_getElem_cons hi,e];rfl
theorem sk (k:Int) (j:Nat):k % 64<2 ^ (6 * (j+1)):=by
 rw [yz]
 have h1:(1:Int)≤2 ^ (6 * j):=Int.pow_pos (by decide)
 exact Int.lt_of_lt_of_le (Int.emod_lt_of_pos k (show (0:Int)<64 by decide)) (Int.mul_le_mul_of_nonneg_right h1 (show (0:Int)≤64 by decide))
theorem zr (off:Frk.fs=none) (N:eQ prog w c G hB mg mb sc pmP as) (htb:c.tbl=tbP) (hnm:sc.names=nmP) {body:List Stmt} (hok:(pvS c sc body).1=true) (hu:(pvS c sc body).2=body) {f:Addr} {name:Str} (da:DefAt hB f name ⟨[],as,none,[],[],none,[]⟩ body sc)
  {Q:Value→Shared→Prop} {outer:List Env} {i:Nat} (ar:Ar 1 A) (hfr:A.frames=some outer) (u:Ups outer s.heap) (kp:KB hB s.heap) (hitB:hB.get? it=none) (hit:s.heap.IsListIter it l i) (hL:s.heap.PlainList l items) (hia:IntsAt items is) (h600:is.length≤600)
  (hQ:∀ v j h' tk t,i<j→j≤is.length→pv (is.drop i)=some (v,is.drop j)→h'.IsListIter it l j→KD it s.heap h'→Q (.int v t) {s with heap:=h',toks:=tk})
  (hE:pv (is.drop i)=none→∀ e h' tk hr,KD it s.heap hr→(∀ o,hr.get? it=some o→o.cls ≠ .type "code")→Flown it outer e hr h'→E (.ref e) {s with heap:=h',toks:=tk}) :
  wpAny (model prog w) A (call (.ref f) [.ref it]) Q E s:=by
 obtain ⟨o,pm,cd,doc,tb,oc,vc,tc,h1,h2,h3,h4,h5,h6,h7,h8⟩:=da.at'
 have nofree:∀ x,sc.names.lookup x=some .free→False:=fun x q=>by
  rw [hnm] at q
  exact nomatch nt (List.all_eq_true.mp (show nmP.all (fun x=> !(x.2 == .free))=true from rfl) _ (PySem.mem_of_lookup q))
 refine lm (fd:=Calls.docDef name ⟨[],as,none,[],[],none,[]⟩ body sc pm (.ref cd) doc) (cm:=fun _=>none) (σ:=[none,none]) off N.lim N.I N.has (kp.ob h1 (bj h2)) h2 rfl rfl rfl rfl rfl rfl ⟨cd,oc,vc,tc,rfl,kp.ob h3 (br h4 h5),h5,h6⟩ (fun x c q=>ah q) (fun x y c q=>ah q) (fun x q=>(nofree x q).elim) (fun x c q=>ah q) kp ar rfl (fun h Ex _ _=>htb ▸ .no (.no .nil)) fun env h₀ tk he S n k0 hn ar1=> ?_
 have X:PX prog w c G hB mg mb sc pmP as env it l s.heap items is (A.deeper env):=⟨N,htb,hnm,⟨S.rr.ok,he▸rfl,he▸rfl,he▸rfl⟩,kp,hitB,hn,hL,IsLI.plne hit hL,hia,ar1⟩
 have p0:PS env it l s.heap i none none h₀:=⟨k0.kd it,IsLI.keep hit (k0.at it),_,n,rfl,.no,.no⟩
 refine aa hok fun hok q4=>aa hok fun hok q3=>aa hok fun q1 q2=> ?_
 rw [← hu]
 have raise:=fun {j b v} (hpv:pv (is.drop i)=none) (h h' e tk) (p:PS env it l s.heap j b v h) (st:Stopped it h e h')=>X.raise (s:=s) (tk:=tk) (E:=E) hfr u p st (hE hpv)
 refine wpAny_execs_cons (X.next (s:={s with heap:=h₀,toks:=tk}) p0 (fun k h1 tk1 hk p1=> ?_) fun hn h' e st=>raise (by rw [List.drop_eq_nil_of_le hn];rfl) h₀ h' e tk p0 st)
 refine wpAny_execs_cons (wpAny_Assign_Name (X.int (s:={s with heap:=h1,toks:=tk1}) (t:=vP) p1 q1 (congrArg (some ∘ D.int) (bitAnd_m6 k)) fun h2 t2 tk2 k2=>X.store (s:={s with heap:=h2,toks:=tk2}) (p1.keep k2) (.inr rfl) fun h3 tk3 p3=> ?_) (rU (nt q4) rfl))
 refine X.loop (s:={s with heap:=h3,toks:=tk3}) q2 q3 h600 ⟨Nat.lt_succ_self _,(List.getElem?_eq_some_iff.mp hk).1,Int.emod_nonneg _ (by decide),sk k i,uj hk,p3⟩ PassesOwn.leaving (fun j b val h4 tk4 p4 hb=> ?_) fun hpv h h' e tk b v j p st=>raise hpv h h' e tk p st
 obtain ⟨m,n,hm,h1,h2⟩:=p4.ps.fr
 obtain ⟨tv,hv⟩:=h2 val rfl
 refine wpAny_execs_cons (wpAny_Return_some (dH (s:={s with heap:=h4,toks:=tk4}) X.e n (by rw [hnm];rfl) hv (by decide) ?_))
 exact hQ val j h4 tk4 tv p4.lt p4.le (p4.eq.trans (lC hb _)) p4.ps.hit p4.ps.kd
end
end Mine
set_option genSizeOf false
set_option genInjectivity false
namespace Mine
theorem IntsAt.push {items:Array Value} {is:List Int} (x:IntsAt items is) (k:Int) (t:Tok):IntsAt (items.push (.int k t)) (is++[k]):=by
 obtain ⟨h1,h2⟩:=x
 refine ⟨by rw [Array.size_push,h1,List.length_append];rfl,fun j k' hj=> ?_⟩
 rw [Array.getElem?_push]
 by_cases q:j=items.size
 ·rw [if_pos q]
  rw [q,h1,List.getElem?_append_right (Nat.le_refl _),Nat.sub_self] at hj
  exact ⟨t,congrArg (fun i=>some (Value.int i t)) (sm hj)⟩
 ·rw [if_neg q]
  rcases Nat.lt_or_ge j is.length with hl |hl
  ·rw [List.getElem?_append_left hl] at hj
   exact h2 j k' hj
  ·have:1≤j - is.length:=Nat.sub_pos_of_lt (Nat.lt_of_le_of_ne hl fun e=>q (e.symm.trans h1.symm))
   rw [List.getElem?_append_right hl,List.getElem?_eq_none this] at hj
   exact ah hj
theorem yb {env:Env} {line:Nat} {x y:Str} {px py:Pos} {names:List Str} (h:names=[Expr.Name x px,Expr.Name y py].filterMap (nameAt env line)) (hl:names.length=2):names=[x,y]:=by
 subst h
 rw [List.filterMap_cons,List.filterMap_cons,List.filterMap_nil] at hl ⊢
 cases hx:nameAt env line (.Name x px) with
 |none =>
  rw [hx] at hl
  cases hy:nameAt env line (.Name y py)<;>rw [hy] at hl<;>exact nomatch hl
 |some u =>
  rw [hx] at hl
  cases hy:nameAt env line (.Name y py) with
  |none=>rw [hy] at hl;exact nomatch hl
  |some v =>
   obtain rfl:x=u:=gd hx fun _ q=>sm q
   obtain rfl:y=v:=gd hy fun _ q=>sm q
   rfl
theorem lb {env:Env} {outer:List Env} {L:Addr} (hf:env.frame=some L):frs (env :: outer)=L :: frs outer:=by
 unfold frs;rw [List.filterMap_cons,hf]
variable [Tabs] [Frk]
theorem IntsAt.den {items:Array Value} {is:List Int} (x:IntsAt items is) (h:Heap) (X:Addr→Prop):DenL h X (is.map .int) items.toList:=by
 refine DenL.of_get (by rw [Array.length_toList,x.1,List.length_map]) fun i d hi=> ?_
 rw [List.getElem?_map] at hi
 cases e:is[i]? with
 |none=>rw [e] at hi;exact ah hi
 |some k =>
  rw [e] at hi
  obtain ⟨t,ht⟩:=x.2 i k e
  refine ⟨.int k t,by rw [Array.getElem?_toList];exact ht,?_⟩
  rw [← sm hi];exact ⟨t,rfl⟩
theorem IntsAt.of_den {items:Array Value} {is:List Int} {h:Heap} {X:Addr→Prop} (x:DenL h X (is.map .int) items.toList):IntsAt items is:=by
 refine ⟨by have:=x.length;rw [Array.length_toList,List.length_map] at this;exact this,fun j k hj=> ?_⟩
 obtain ⟨v,h1,t,rfl⟩:=x.get (i:=j) (d:= .int k) (by rw [List.getElem?_map,hj];rfl)
 exact ⟨t,by rw [Array.getElem?_toList] at h1;exact h1⟩
section
variable {prog:Program} {w:World} {A:Around} {E:Value→Shared→Prop} {s:Shared} {env:Env} {sc:Scope} {m:Str→Option Value}
noncomputable abbrev Two (env:Env) (m:Str→Option Value) (x y:Str) (v u:Value) (h h':Heap):Prop:=(∀ b o,b≠env.locals→h.get? b=some o→h'.get? b=some o)∧Cd h h'∧∃ m',h'.Ns env.locals m'∧m' x=some v∧m' y=some u∧∀ z,z≠x→z≠y→m' z=m z
theorem SetL.two {x y:Str} {v u:Value} {h h1 h2:Heap} (hxy:x≠y) (a:SetL env m x v h h1) (b:SetL env (fun z=>if z=x then some v else m z) y u h1 h2):Two env m x y v u h h2 :=
 ⟨fun i o n e=>b.1.extBut i o n (a.1.extBut i o n e),a.2.1.trans b.2.1,_,b.2.2,(if_neg hxy).trans (if_pos rfl),if_pos rfl,fun z h1 h2=>(if_neg h2).trans (if_neg h1)⟩
theorem SetL.owt {x y:Str} {v u:Value} {h h1 h2:Heap} (hxy:x≠y) (a:SetL env m y u h h1) (b:SetL env (fun z=>if z=y then some u else m z) x v h1 h2):Two env m x y v u h h2 :=
 ⟨fun i o n e=>b.1.extBut i o n (a.1.extBut i o n e),a.2.1.trans b.2.1,_,b.2.2,if_pos rfl,(if_neg (Ne.symm hxy)).trans (if_pos rfl),fun z h1 h2=>(if_neg h1).trans (if_neg h2)⟩
theorem nK {x y:Str} {px py q q' pos:Pos} {k k':Nat} {vs:List Expr} {Q:Flow→Shared→Prop} (e:E0 env sc) (hc:vs.all (constantsAlone 8)=false) (hx:sc.names.lookup x=some .local) (hy:sc.names.lookup y=some .local) (hxy:x≠y) (hh:A.handled=none)
  (h:wpAny (model prog w) A (eval (.Tuple vs k' q') env) (fun v s₁=>∃ a v1 v2 m,v = .ref a∧TupAt s₁.heap a #[v1,v2]∧s₁.heap.Ns env.locals m ∧
   ∀ h2,Kq s₁.heap h2→∀ h' tk,Two env m x y v1 v2 h2 h'→Q .next {s₁ with heap:=h',toks:=tk}) E s) :
  wpAny (model prog w) A (exec (.Assign [.Tuple [.Name x px,.Name y py] k q] (.Tuple vs k' q') pos) env) Q E s:=by
 have ex:∀ {h h':Heap},Heap.ExtBut h.objs.size h h'→Kq h h':=fun k b o e=>k b o (Nat.ne_of_lt (Heap.lt_size e)) e
 rcases eN (p:=k) (q:=q) (p':=k') (q':=q') (env:=env) (ts:=[.Name x px,.Name y py]) hc with hw |⟨names,line,hw,h23,hn1,hn2,hn3⟩
 ·refine wpAny_Assign_stores (wpAny_mono h (fun v s₁ hv=> ?_) fun _ _ e=>e) bQ hw
  obtain ⟨a,v1,v2,m,rfl,tup,n,P⟩:=hv
  show wpAny _ A (assign (.Tuple [.Name x px,.Name y py] k q) env (.ref a)) _ E _
  refine wpAny_assign_Tuple hh (TupAt.isTup tup) rfl rfl fun h2 k2=> ?_
  have kq:=ex k2
  show wpAny _ A (do holding [v2] (do standAt px;bindName env x v1);do holding [] (do standAt py;bindName env y v2);pure ()) _ E _
  refine wpAny_bind (wpAny_holding (wpAny_bind (wpAny_standAt (wpAny_bindName (dJ (s:={s₁ with heap:=h2}) e (n.keeps kq) hx fun h3 tk3 s3=> ?_)))))
  exact wpAny_bind (wpAny_holding (wpAny_bind (wpAny_standAt (wpAny_bindName (dJ (s:={s₁ with heap:=h3,toks:=tk3}) e s3.2.2 hy fun h4 tk4 s4=>wpAny_pure (P h2 kq h4 tk4 (s3.two hxy s4)))))))
 ·rw [arm_exec_Assign]
  refine wpAny_bind (wpAny_standAt (wpAny_bind (wpAny_of_eq bQ ?_)))
  rw [if_neg (by decide)]
  refine wpAny_bind (wpAny_mono h (fun v s₁ hv=> ?_) fun _ _ e=>e)
  obtain ⟨a,v1,v2,m,rfl,tup,n,P⟩:=hv
  refine wpAny_bind (wpAny_of_eq hw ?_)
  obtain rfl:=yb hn1 hn2
  unfold assignStores
  dsimp only
  refine wpAny_bind (wpAny_rule (wpAny_bind ?_))
  show wpAny _ A (unpackItems (.ref a) (#[v1,v2]:Array Value).size none) _ E _
  refine wpAny_unpackItems_tuple hh (TupAt.isTup tup) fun h2 k2=> ?_
  have kq:=ex k2
  refine wpAny_bind ?_
  show wpAny _ A (do holding [v1] (bindName env y v2);do holding [] (bindName env x v1);pure ()) _ E _
  refine wpAny_bind (wpAny_holding (wpAny_bindName (dJ (s:={s₁ with heap:=h2}) e (n.keeps kq) hy fun h3 tk3 s3=> ?_)))
  exact wpAny_bind (wpAny_holding (wpAny_bindName (dJ (s:={s₁ with heap:=h3,toks:=tk3}) e s3.2.2 hx fun h4 tk4 s4=>wpAny_pure (wpAny_pure (P h2 kq h4 tk4 (s3.owt hxy s4))))))
end
end Mine
set_option genSizeOf false
set_option genInjectivity false
namespace Mine
noncomputable def tbR:List Str:=["octets"]
noncomputable def nmR:List (Str×NameKind):=[("octets",.local),("tape",.local),("numbers",.local),("turn",.local),("iter",.globalImplicit),("range",.globalImplicit),("len",.globalImplicit),("_parse_varint",.globalImplicit),("StopIteration",.globalImplicit)]
noncomputable def octS:Str:="octets"
noncomputable def tapeS:Str:="tape"
noncomputable def numS:Str:="numbers"
noncomputable def turnS:Str:="turn"
noncomputable def iterS:Str:="iter"
noncomputable def pvarS:Str:="_parse_varint"
noncomputable def stopS:Str:="StopIteration"
noncomputable def tinfo:Stmt→List Stmt×List ExceptHandler
 | .Try b h _ _ _=>(b,h)
 |_=>([],[])
noncomputable def hinfo:ExceptHandler→Expr×List Stmt×Pos
 | .ExceptHandler t _ b p=>(t.getD default,b,p)
noncomputable def rR:T:= .bin .Add (.blt .len (.cons (.var 0) .nil)) (.cst (.int 1))
noncomputable def tryR (st:Stmt):Stmt :=
 let s0:=hs (tinfo st).1;let c:=skid 0 s0;let g:=kid 1 c;let h:=hinfo ((tinfo st).2.headD default);let r:=hs h.2.1
 .Try [.Expr (.Call (.Attribute (.Name numS (kid 0 (kid 0 c)).pos) appendS (kid 0 c).pos) [.Call (.Name pvarS (kid 0 g).pos) [.Name tapeS (kid 1 g).pos] [] g.pos] [] c.pos) s0.pos]
  [.ExceptHandler (some (.Name stopS h.1.pos)) none [.Return (some (.Name numS (skid 0 r).pos)) r.pos] h.2.2] [] [] st.pos
noncomputable def rdS (c:Cx) (sc:Scope) (body:List Stmt):Bool×List Stmt :=
 let s0:=hs body;let t:=skid 1 s0;let v:=skid 0 s0;let g:=kid 0 v;let s1:=hs body.tail;let i:=skid 0 s1;let st:=hs (sbod s1);let m:=kid 0 (skid 0 (hs (tinfo st).1))
 let r:=unT c sc rR (kid 1 i)
 (r.1&&m.pos.endLine==(skid 0 (hs (tinfo st).1)).pos.line,
  [.Assign [.Tuple [.Name tapeS (kid 0 t).pos,.Name numS (kid 1 t).pos] (numE t) t.pos] (.Tuple [.Call (.Name iterS (kid 0 g).pos) [.Name octS (kid 1 g).pos] [] g.pos,.List [] (kid 1 v).pos] (numE v) v.pos) s0.pos,
  .For (.Name turnS (skid 1 s1).pos) (.Call (.Name rangeS (kid 0 i).pos) [r.2] [] i.pos) [tryR st] [] s1.pos])
theorem mG {n:Nat} {xs r:List Int} {v:Int} (h:pv xs=some (v,r)):rd (n+1) xs=v :: rd n r:=by rw [rd,h]
theorem mE {n:Nat} {xs:List Int} (h:pv xs=none):rd (n+1) xs=[]:=by rw [rd,h]
theorem tQ {N k:Nat} (h:k<N):((N - k:Nat):Int) - 1=((N - (k+1):Nat):Int):=by omega
theorem sW {N k:Nat} (h:k<N):(0:Int)<((N - k:Nat):Int):=by omega
theorem iR {N k:Nat} (h:k<N):N - k=(N - (k+1))+1:=by omega
variable [Tabs] [Frk]
theorem Kp.new {s0 H H':Heap} {a:Addr} (k:Kp s0 H) (hn:s0.get? a=Option.none) (sb:∀ b o,b≠a→H.get? b=some o→H'.get? b=some o) (nc:∀ o vs,H.get? a=some o→o.cls = .type "code"→o.data ≠ .fields vs):Kp s0 H' :=
 fun b o e=>(k b o e).thenC (fun o' e'=> .inl (sb b o' (fun q=>ah (hn.symm.trans (q▸e))) e')) fun b o vs h1 h2 e'=>sb b o (fun q=>nc o vs (q▸e') h1 h2) e'
section
variable {prog:Program} {w:World} {c:Cx} {hB:Heap} {G:af} {mg mb:Str→Option Value} {A:Around} {E:Value→Shared→Prop} {s:Shared} {env:Env} {sc:Scope} {ps:List Str} {as:List Arg} {it l nl I:Addr} {s0:Heap} {items:Array Value} {is:List Int}
structure RS (env:Env) (it l nl I:Addr) (N:Nat) (s0:Heap) (k j:Nat) (outs:List Int) (H:Heap):Prop where
 kp:Kp s0 H
 hit:H.IsListIter it l j
 li:∃ ots,H.PlainList nl ots∧IntsAt ots outs
 ri:IsRangeIter H I (k:Int) ((N - k:Nat):Int) 1
 fr:∃ m,H.Ns env.locals m∧m tapeS=some (.ref it)∧m numS=some (.ref nl)
structure RN (env:Env) (it nl I:Addr) (s0:Heap):Prop where
 L:s0.get? env.locals=none
 it:s0.get? it=none
 nl:s0.get? nl=none
 I:s0.get? I=none
theorem uC {H:Heap} {a:Addr} {x y z:Int} (r:IsRangeIter H I x y z) {o:Obj} (h:H.get? a=some o) (hc:o.cls ≠ .type "range_iterator"):a≠I:=fun q=>hc (by rw [sm (h.symm.trans (q▸r))])
theorem uI {H:Heap} {x y z:Int} (r:IsRangeIter H I x y z) (p:H.PlainList nl items):nl≠I:=let ⟨n,e⟩:=p;uC r e fun q=>nomatch Value.type.inj q
theorem uz {H:Heap} {x y z:Int} {j:Nat} (r:IsRangeIter H I x y z) (p:H.IsListIter it l j):it≠I:=let ⟨o,e,h,_⟩:=p;uC r e fun q=>nomatch Value.type.inj (h.symm.trans q)
theorem uK {H:Heap} {x y z:Int} {m:Str→Option Value} {a:Addr} (r:IsRangeIter H I x y z) (p:H.Ns a m):a≠I:=fun q=>by
 obtain ⟨o,es,ep,e1,e2,_⟩:=p
 have e:Data.dict es ep=Data.fields _:=e2.symm.trans (congrArg Obj.data (sm (e1.symm.trans (q▸r))))
 exact nomatch e
theorem jM {H:Heap} {m:Str→Option Value} {a:Addr} (r:H.PlainList nl items) (p:H.Ns a m):a≠nl:=fun q=>PL.nodt r (q▸Ns.dt p)
theorem RS.range {N k j:Nat} {outs:List Int} {H H':Heap} (r:RS env it l nl I N s0 k j outs H) (n:RN env it nl I s0) (hk:k<N) (ri:IsRangeIter H' I ((k:Int)+1) (((N - k:Nat):Int) - 1) 1) (sb:Heap.SameBut I H H'):RS env it l nl I N s0 (k+1) j outs H':=by
 obtain ⟨kp,hit,⟨ots,pl,ia⟩,ri0,m,ns,h1,h2⟩:=r
 refine ⟨kp.new n.I (fun b o q e=>sb.extBut b o q e) (fun o vs e h=> ?_),IsLI.keep hit fun o t e=>sb.extBut it o (uz ri0 hit) e,⟨ots,PL.at' pl fun o t e=>sb.extBut nl o (uI ri0 pl) e,ia⟩,tQ hk▸ri,m,ns.sameBut sb (uK ri0 ns),h1,h2⟩
 rw [← sm (ri0.symm.trans e)] at h
 exact nomatch Value.type.inj h
theorem RS.turn {N k j:Nat} {outs:List Int} {H H':Heap} (r:RS env it l nl I N s0 k j outs H) (n:RN env it nl I s0) {m:Str→Option Value} (ns:H.Ns env.locals m) (h1:m tapeS=some (.ref it)) (h2:m numS=some (.ref nl)) {v:Value} (st:SetL env m turnS v H H'):RS env it l nl I N s0 k j outs H':=by
 obtain ⟨kp,hit,⟨ots,pl,ia⟩,ri0,_⟩:=r
 exact ⟨kp.new n.L (fun b o q e=>st.1.extBut b o q e) (fun o vs e _=>Ns.nofields ns o e vs),IsLI.keep hit fun o t e=>st.1.extBut it o (Ne.symm (IsLI.nsne hit ns)) e,⟨ots,PL.at' pl fun o t e=>st.1.extBut nl o (Ne.symm (jM pl ns)) e,ia⟩,st.1.extBut I _ (Ne.symm (uK ri0 ns)) ri0,_,st.2.2,(if_neg (by decide)).trans h1,(if_neg (by decide)).trans h2⟩
theorem RS.read {N k j j':Nat} {outs:List Int} {H H':Heap} (r:RS env it l nl I N s0 k j outs H) (n:RN env it nl I s0) (hit':H'.IsListIter it l j') (kd:KD it H H'):RS env it l nl I N s0 k j' outs H':=by
 obtain ⟨kp,hit,⟨ots,pl,ia⟩,ri0,m,ns,h1,h2⟩:=r
 exact ⟨fun b o e=>(kp b o e).then (fun o' e'=>kd.kp b o' (fun q=>ah (n.it.symm.trans (q▸e))) e') kd.cd,hit',⟨ots,PL.at' pl fun o t e=>(kd.kp nl o (IsLI.plne hit pl) e).ob t,ia⟩,(kd.kp I _ (Ne.symm (uz ri0 hit)) ri0).ob rfl,m,kd.ns ns (IsLI.nsne hit ns),h1,h2⟩
theorem RS.add {N k j:Nat} {outs:List Int} {v:Int} {t:Tok} {H H':Heap} (r:RS env it l nl I N s0 k j outs H) (n:RN env it nl I s0) {ots:Array Value} (pl:H.PlainList nl ots) (ia:IntsAt ots outs) (pl':H'.PlainList nl (ots.push (.int v t))) (sb:Heap.SameBut nl H H'):RS env it l nl I N s0 k j (outs++[v]) H':=by
 obtain ⟨kp,hit,_,ri0,m,ns,h1,h2⟩:=r
 exact ⟨kp.new n.nl (fun b o q e=>sb.extBut b o q e) (fun o vs e _=>PL.nofields pl o e vs),IsLI.keep hit fun o t e=>sb.extBut it o (Ne.symm (IsLI.plne hit pl)) e,⟨_,pl',ia.push v t⟩,sb.extBut I _ (Ne.symm (uI ri0 pl)) ri0,m,ns.sameBut sb (jM pl ns),h1,h2⟩
structure RI (env:Env) (it l nl I:Addr) (is:List Int) (s0:Heap) (k j:Nat) (outs:List Int) (H:Heap):Prop where
 kj:k≤j
 jl:j≤is.length
 len:outs.length=k
 eq:rd (is.length+1) is=outs++rd (is.length+1 - k) (is.drop j)
 rs:RS env it l nl I (is.length+1) s0 k j outs H
theorem RI.lt {k j:Nat} {outs:List Int} {H:Heap} (r:RI env it l nl I is s0 k j outs H):k<is.length+1:=Nat.lt_succ_of_le (Nat.le_trans r.kj r.jl)
end
end Mine
set_option genSizeOf false
set_option genInjectivity false
namespace Mine
variable [Tabs] [Frk]
theorem Flown.gw {it e:Addr} {outer:List Env} {h h':Heap} (F:Flown it outer e h h') (hdt:∀ b∈frs outer,Dt h b) {b:Addr} {o:Obj} (hb:b≠it) (hf:b∈frs outer→Tabs.fa b) (e1:h.get? b=some o):Gw h' b o:=by
 rcases F.kept hb e1 with ⟨_,q⟩ |⟨hm,sl,q⟩
 ·exact .inl q
 ·obtain ⟨o',es,n,g1,g2⟩:=hdt b hm
  obtain rfl:=sm (e1.symm.trans g1)
  exact .inr (.inr ⟨hf hm,es,n,sl,g2,q⟩)
theorem Flown.cc {it e:Addr} {outer:List Env} {h h':Heap} (F:Flown it outer e h h') (hdt:∀ b∈frs outer,Dt h b) (hit:∀ o,h.get? it=some o→o.cls ≠ .type "code"):Cc h h':=fun b o vs h1 h2 e1=>by
 rcases F.kept (fun q=>hit o (q▸e1) h1) e1 with ⟨_,q⟩ |⟨hm,sl,q⟩
 ·exact q
 ·obtain ⟨o',es,n,g1,g2⟩:=hdt b hm
  obtain rfl:=sm (e1.symm.trans g1)
  exact nomatch h2.symm.trans g2
section
variable {prog:Program} {w:World} {c cv:Cx} {hB:Heap} {G:af} {mg mb:Str→Option Value} {A:Around} {E:Value→Shared→Prop} {s:Shared} {env:Env} {sc scv:Scope} {as asv:List Arg} {it l nl I fv:Addr} {s0:Heap} {items:Array Value} {is:List Int} {outer:List Env} {bodyv:List Stmt} {namev:Str} {k j:Nat} {outs:List Int}
structure VX (prog:Program) (w:World) (cv:Cx) (G:af) (hB:Heap) (mg mb:Str→Option Value) (fv:Addr) (scv:Scope) (asv:List Arg) (bodyv:List Stmt) (namev:Str):Prop where
 N:eQ prog w cv G hB mg mb scv pmP asv
 tb:cv.tbl=tbP
 nm:scv.names=nmP
 ok:(pvS cv scv bodyv).1=true
 hu:(pvS cv scv bodyv).2=bodyv
 da:DefAt hB fv namev ⟨[],asv,none,[],[],none,[]⟩ bodyv scv
 mg:mg pvarS=some (.ref fv)
structure RX (prog:Program) (w:World) (c:Cx) (G:af) (hB:Heap) (mg mb:Str→Option Value) (A:Around) (env:Env) (sc:Scope) (as:List Arg) (it l nl I:Addr) (s0:Heap) (items:Array Value) (is:List Int) (outer:List Env):Prop where
 off:Frk.fs=none
 N:eQ prog w c G hB mg mb sc tbR as
 nm:sc.names=nmR
 e:E0 env sc
 n:RN env it nl I s0
 kp:KB hB s0
 pl:s0.PlainList l items
 ia:IntsAt items is
 le:is.length≤600
 ar:Ar 1 (A.deeper env)
 fr:A.frames=some outer
 u:Ups outer s0
 fa:∀ b∈frs outer,Tabs.fa b
theorem RX.ups (X:RX prog w c G hB mg mb A env sc as it l nl I s0 items is outer) {H:Heap} (r:RS env it l nl I (is.length+1) s0 k j outs H):Ups (env :: outer) H:=fun e' he'=>by
 obtain ⟨m,ns,_⟩:=r.fr
 rcases List.mem_cons.mp he' with q |q
 ·subst q;exact ⟨by rw [X.e.ok.kind];decide,_,X.e.frm,Ns.dt ns⟩
 ·exact (X.u.cd r.kp.cd.2) e' q
theorem RX.flown (X:RX prog w c G hB mg mb A env sc as it l nl I s0 items is outer) {H hr h:Heap} {e:Addr} (r:RS env it l nl I (is.length+1) s0 k j outs H) (kd:KD it H hr) (hitC:∀ o,hr.get? it=some o→o.cls ≠ .type "code") (F:Flown it (env :: outer) e hr h) :
  Kp s0 h∧(∃ ots,h.PlainList nl ots∧IntsAt ots outs)∧∃ m,h.Ns env.locals m∧m numS=some (.ref nl):=by
 have hdt:∀ b∈frs (env :: outer),Dt hr b:=fun b hb=>((X.ups r).cd kd.cd.2).mem hb
 obtain ⟨kp,hit,⟨ots,pl,ia⟩,_,m,ns,_,h2⟩:=r
 have kcr:=F.cc hdt hitC
 have plr:hr.PlainList nl ots:=PL.at' pl fun o t e1=>(kd.kp nl o (IsLI.plne hit pl) e1).ob t
 refine ⟨fun b o e1=>((kp b o e1).then (fun o' e'=>kd.kp b o' (fun q=>ah (X.n.it.symm.trans (q▸e1))) e') kd.cd).thenC (fun o' e'=>F.gw hdt (fun q=>ah (X.n.it.symm.trans (q▸e1))) (fun hm=> ?_) e') kcr,⟨ots,?_,ia⟩,m,?_,h2⟩
 ·rw [lb X.e.frm] at hm
  rcases List.mem_cons.mp hm with q |q
  ·exact ah (X.n.L.symm.trans (q▸e1))
  ·exact X.fa b q
 ·obtain ⟨n1,l1⟩:=id plr
  rcases F.kept (IsLI.plne hit pl) l1 with ⟨_,q⟩ |⟨hm,_⟩
  ·exact ⟨n1,q⟩
  ·exact absurd (hdt nl hm) (PL.nodt plr)
 ·obtain ⟨o1,es,ep,g1,g2,g3⟩:=kd.ns ns (IsLI.nsne hit ns)
  rcases F.kept (IsLI.nsne hit ns) g1 with ⟨_,q⟩ |⟨hm,sl,q⟩
  ·exact ⟨o1,es,ep,q,g2,g3⟩
  ·exact ⟨_,es,ep,q,g2,g3⟩
theorem RX.caught (X:RX prog w c G hB mg mb A env sc as it l nl I s0 items is outer) {H hr:Heap} {e:Addr} {h0:Expr×List Stmt×Pos} {np rp pos:Pos} (r:RS env it l nl I (is.length+1) s0 k j outs H) (kd:KD it H hr) (hitC:∀ o,hr.get? it=some o→o.cls ≠ .type "code") (F:Flown it (env :: outer) e hr s.heap) {Q:Flow→Shared→Prop}
  (hQ:∀ h' tk ots,Kp s0 h'→h'.PlainList nl ots→IntsAt ots outs→Q (.ret (.ref nl)) {s with heap:=h',toks:=tk}) :
  wpAny (model prog w) (A.deeper env) (noteFrame (.ref e) env) (fun _ s₂=>wpAny (model prog w) (A.deeper env) (setFlight (.ref e) none) (fun _ s₃=>wpAny (model prog w) (A.deeper env) (handleBy (.ref e) env [.ExceptHandler (some (.Name stopS h0.1.pos)) none [.Return (some (.Name numS np)) rp] pos]) Q E s₃) E s₂) E s:=by
 have hdt:∀ b∈frs (env :: outer),Dt hr b:=fun b hb=>((X.ups r).cd kd.cd.2).mem hb
 refine pD (outer:=outer) (Around.frames_deeper X.fr) X.e.frm F hdt fun h9 hfl F9=> ?_
 obtain ⟨base9,a9,fly9⟩:=hfl
 refine wpAny_handleBy_builtin (s:={s with heap:=h9}) (X:="StopIteration") (T:="StopIteration") (b:=true) (by rw [isSubtype_type];kernel_rfl) (by kernel_rfl) (by rw [isSubtype_type];kernel_rfl) (xF (s:={s with heap:=h9}) X.N.B X.e (X.kp.trans (X.flown r kd hitC F9).1) (by rw [X.nm];rfl) (by decide) rn (by decide) ⟨rfl,fly9.there,?_⟩)
 rw [if_pos rfl]
 refine lW (s:={s with heap:=h9}) F9 hdt fun hA FA=> ?_
 obtain ⟨kpA,⟨ots,plA,ia⟩,m,nsA,hm⟩:=X.flown r kd hitC FA
 exact wpAny_execs_cons (wpAny_Return_some (dH (s:={s with heap:=hA}) X.e nsA (by rw [X.nm];rfl) hm (by decide) (hQ hA _ ots kpA plA ia)))
theorem RX.tried (X:RX prog w c G hB mg mb A env sc as it l nl I s0 items is outer) (V:VX prog w cv G hB mg mb fv scv asv bodyv namev) (r:RS env it l nl I (is.length+1) s0 k j outs s.heap) (ho:outs.length≤700) {st:Stmt} (hl:((kid 0 (skid 0 (hs (tinfo st).1))).pos.endLine==(skid 0 (hs (tinfo st).1)).pos.line)=true) {Q:Flow→Shared→Prop}
  (hQ:∀ v j' h' tk,j<j'→j'≤is.length→pv (is.drop j)=some (v,is.drop j')→RS env it l nl I (is.length+1) s0 k j' (outs++[v]) h'→Q .next {s with heap:=h',toks:=tk})
  (hE:∀ h' tk ots,pv (is.drop j)=none→Kp s0 h'→h'.PlainList nl ots→IntsAt ots outs→Q (.ret (.ref nl)) {s with heap:=h',toks:=tk}):wpAny (model prog w) (A.deeper env) (exec (tryR st) env) Q E s:=by
 obtain ⟨m,ns,ht,hn⟩:=r.fr
 obtain ⟨ots,pl,ia⟩:=r.li
 have ld:∀ {x k},nmR.lookup x=some k→sc.names.lookup x=some k:=fun h=>by rw [X.nm];exact h
 refine wpAny_Try_except (wpAny_execs_cons (wpAny_Expr (wpAny_mono (Q:=fun v s'=>v = .none∧_) (wpAny_Call_method_lateS rfl rfl hl (dH X.e ns (ld rfl) hn (by decide) ?_)) (fun v s' hv=>hv.1▸hv.2) fun _ _ e=>e) (by unfold interactive;rw [X.e.ok.kind];rfl) rfl))
 obtain ⟨n0,l0⟩:=id pl
 refine ⟨"list","list.append",PySem.F.plainAttrs_list,PySem.F.slot_list_append,PySem.F.type_list_append,⟨_,l0,rfl⟩,fun a e=>by rw [← Value.ref.inj e];exact ⟨_,l0,rfl⟩,?_⟩
 refine PySem.Calls.callWith_builtin rfl (PySem.Calls.evalArgs_plain (PySem.Calls.spliced_cons ?_))
 obtain ⟨ov,pmv,cdv,docv,_,_,_,_,hov1,hov2,_⟩:=V.da.at'
 have kB7:=X.kp.trans r.kp
 refine wpAny_Call_ofName (PySem.Calls.Name_function_global X.e.ok.kind (X.e.kind (ld rfl)) (PySem.Calls.loadGlobal_global (by rw [X.e.ok.glob];exact kB7.ns X.N.B.ns) V.mg ?_) (by decide))
 refine PySem.Calls.callWith_function (o:=ov) (fd:=Calls.docDef namev ⟨[],asv,none,[],[],none,[]⟩ bodyv scv pmv (.ref cdv) docv) (PySem.Calls.evalArgs_plain (PySem.Calls.spliced_cons (dH X.e ns (ld rfl) ht (by decide) (PySem.Calls.spliced_nil ⟨⟨kB7.ob hov1 (bj hov2),hov2⟩,?_⟩))))
 refine zr X.off V.N V.tb V.nm V.ok V.hu V.da X.ar (Around.frames_deeper X.fr) (X.ups r) kB7 (X.kp.none X.n.it) r.hit (PL.at' X.pl (r.kp.at l)) X.ia X.le (fun v j' h8 tk8 t8 hj hj' hpv hit8 kd8=> ?_) fun hpv e h8 tk8 hr kdr hitC fly=> ?_
 ·have r8:=r.read X.n hit8 kd8
  have pl8:h8.PlainList nl ots:=PL.at' pl fun o t e=>(kd8.kp nl o (IsLI.plne r.hit pl) e).ob t
  refine PySem.Calls.spliced_nil (wpAny_list_append_plain (s:={s with heap:=h8,toks:=tk8}) (hsz:=by rw [sizeLine_eq,ia.1];exact Nat.le_trans ho (by decide)) pl8 fun h9 pl9 sb9=>⟨rfl,?_⟩)
  exact wpAny_execs_nil (wpAny_execs_nil (hQ v j' h9 tk8 hj hj' hpv (r8.add X.n pl8 ia pl9 sb9)))
 ·exact X.caught (s:={s with heap:=h8,toks:=tk8}) (h0:=hinfo ((tinfo st).2.headD default)) r kdr hitC fly fun h' tk ots kp pl ia=>hE h' tk ots hpv kp pl ia
end
end Mine
set_option genSizeOf false
set_option genInjectivity false
namespace Mine
variable [Tabs] [Frk]
section
variable {prog:Program} {w:World} {c cv:Cx} {hB:Heap} {G:af} {mg mb:Str→Option Value} {A:Around} {E:Value→Shared→Prop} {s:Shared} {env:Env} {sc scv:Scope} {as asv:List Arg} {it l nl I fv:Addr} {s0:Heap} {items:Array Value} {is:List Int} {outer:List Env} {bodyv:List Stmt} {namev:Str} {k j:Nat} {outs:List Int}
theorem RI.next {v:Int} {j':Nat} {H H':Heap} (r:RI env it l nl I is s0 k j outs H) (hj:j<j') (hj':j'≤is.length) (hpv:pv (is.drop j)=some (v,is.drop j')) (q:RS env it l nl I (is.length+1) s0 (k+1) j' (outs++[v]) H'):RI env it l nl I is s0 (k+1) j' (outs++[v]) H':=by
 refine ⟨Nat.lt_of_le_of_lt r.kj hj,hj',by rw [List.length_append,r.len];rfl,?_,q⟩
 rw [r.eq,iR r.lt,mG hpv,List.append_assoc];rfl
theorem RI.done {H:Heap} (r:RI env it l nl I is s0 k j outs H) (hpv:pv (is.drop j)=none):rd (is.length+1) is=outs:=by
 rw [r.eq,iR r.lt,mE hpv,List.append_nil]
theorem RX.loop (X:RX prog w c G hB mg mb A env sc as it l nl I s0 items is outer) (V:VX prog w cv G hB mg mb fv scv asv bodyv namev) {st:Stmt} (hl:((kid 0 (skid 0 (hs (tinfo st).1))).pos.endLine==(skid 0 (hs (tinfo st).1)).pos.line)=true) {tp:Pos} (r:RS env it l nl I (is.length+1) s0 0 0 [] s.heap)
  {Q:Flow→Shared→Prop} (hQ:∀ h' tk ots,Kp s0 h'→h'.PlainList nl ots→IntsAt ots (rd (is.length+1) is)→Q (.ret (.ref nl)) {s with heap:=h',toks:=tk}) :
  codeAny (model prog w) (A.deeper env) (.forLoop (.Name turnS tp) (.ref I) [tryR st] [] env) (fun r s'=>match r with | .ok f=>Q f s' | .error e=>cameBackBy (model prog w) (A.deeper env) env E e s') s:=by
 refine codeAny_forLoop (R:=fun r s'=>match r with | .ok f=>Q f s' | .error e=>cameBackBy (model prog w) (A.deeper env) env E e s') (fun nn s'=>∃ H tk k j outs,s' = {s with heap:=H,toks:=tk}∧nn=is.length+1 - k∧RI env it l nl I is s0 k j outs H) ?_ (is.length+1) ⟨s.heap,s.toks,0,0,[],rfl,rfl,Nat.le_refl _,Nat.zero_le _,rfl,rfl,r⟩
 rintro nn s' ⟨H,tk,k,j,outs,rfl,rfl,r⟩
 refine wpAny_pyNext_range_item (s:={s with heap:=H,toks:=tk}) r.rs.ri (sW r.lt) fun h6 ri6 sb6=> ?_
 have r6:=r.rs.range X.n r.lt ri6 sb6
 obtain ⟨m,ns,h1,h2⟩:=r6.fr
 refine wpAny_assign_Name (dJ (s:={s with heap:=h6,toks:=tk+1}) X.e ns (by rw [X.nm];rfl) fun h7 tk7 st7=> ?_)
 have r7:=r6.turn X.n ns h1 h2 st7
 refine wpAny_execs_cons (X.tried (s:={s with heap:=h7,toks:=tk7}) V r7 (by rw [r.len];exact Nat.le_trans (Nat.le_of_lt r.lt) (Nat.le_trans (Nat.succ_le_succ X.le) (by decide))) hl (fun v j' h8 tk8 hj hj' hpv r8=> ?_) fun h8 tk8 ots hpv kp pl ia=>hQ h8 tk8 ots kp pl ?_)
 ·exact wpAny_execs_nil ⟨is.length+1 - (k+1),Nat.sub_succ_lt_self _ _ r.lt,h8,tk8,k+1,j',_,rfl,rfl,r.next hj hj' hpv r8⟩
 ·rw [r.done hpv];exact ia
theorem AE {h:Heap} {m:Str→Option Value} (e:E0 env sc) (hnm:sc.names=nmR) (ho:m octS=some (.ref l)) (pl:h.PlainList l items) (ia:IntsAt items is) (hx:¬ hEx env l):FV (valOf env m fun _=>none) h (hEx env) tbR [some (.list (is.map .int),false)] :=
 .has (by unfold valOf;rw [e.kind (k:= .local) (by rw [hnm];rfl)];exact ho) ⟨l,items,rfl,hx,pl,ia.den _ _⟩ .nil
theorem Ap {h:Heap} {m:Str→Option Value} (e:E0 env sc) (hk:∀ x,celK (sc.names.lookup x)=false) (n:h.Ns env.locals m):FrM env h m fun _=>none:=by
 refine ⟨n,fun x c q=> ?_,fun x c q=> ?_,fun x y c q=> ?_,fun x q=> ?_⟩
 ·rw [e.cel] at q;exact ah q
 ·rw [e.cel] at q;exact ah q
 ·rw [e.cel] at q;exact ah q
 ·have:=hk x
  unfold Env.kindOf at q
  rw [e.sc] at q
  exact q.elim (fun q=>by rw [q] at this;exact nomatch this) fun q=>by rw [q] at this;exact nomatch this
theorem vM {nm:List (Str×NameKind)} (h:nm.all (fun x=> !celK (some x.2))=true) (x:Str):celK (nm.lookup x)=false:=by
 cases e:nm.lookup x with
 |none=>rfl
 |some k=>exact nt (List.all_eq_true.mp h _ (PySem.mem_of_lookup e))
theorem yy {G:af} {F:FEnv} {is:List Int} (h:is.length≤600):ev G F [some (.list (is.map .int),false)] true rR=some (.int ((is.length:Int)+1)) :=
 ag (x:= .int (is.length:Int)) (ad (aD rfl rfl) (aq (by rw [List.length_map];exact gz (Nat.le_trans h (by decide))) (by rw [List.length_map]))) rfl rfl
theorem t6 (N:eQ prog w c G hB mg mb sc tbR as) (hnm:sc.names=nmR) (e:E0 env sc) (hh:A.handled=none) {m:Str→Option Value} (n:s.heap.Ns env.locals m) (ho:m octS=some (.ref l)) (kp:KB hB s.heap) (pl:s.heap.PlainList l items) {st:Stmt} {t v g e2:Expr} {Q:Flow→Shared→Prop}
  (hQ:∀ it nl h' tk m',s.heap.get? it=none→s.heap.get? nl=none→(∀ b o,b≠env.locals→s.heap.get? b=some o→h'.get? b=some o)→h'.IsListIter it l 0→h'.PlainList nl #[]→h'.Ns env.locals m'→m' tapeS=some (.ref it)→m' numS=some (.ref nl)→m' octS=some (.ref l)→Q .next {s with heap:=h',toks:=tk}) :
  wpAny (model prog w) A (exec (.Assign [.Tuple [.Name tapeS (kid 0 t).pos,.Name numS (kid 1 t).pos] (numE t) t.pos] (.Tuple [.Call (.Name iterS (kid 0 g).pos) [.Name octS (kid 1 g).pos] [] g.pos,.List [] e2.pos] (numE v) v.pos) st.pos) env) Q E s:=by
 have ld:∀ {x k},nmR.lookup x=some k→sc.names.lookup x=some k:=fun h=>by rw [hnm];exact h
 refine nK e rfl (ld rfl) (ld rfl) (by decide) hh (wpAny_Tuple (PySem.Calls.spliced_cons (wpAny_Call_ofName (xF N.B e kp (ld rfl) (by decide) rt (by decide) ?_))))
 refine PySem.Calls.callWith_builtin rfl (PySem.Calls.evalArgs_plain (PySem.Calls.spliced_cons (dH e n (ld rfl) ho (by decide) (PySem.Calls.spliced_nil ?_))))
 show wpAny _ _ (call (.builtin "iter") [.ref l]) _ _ _
 refine rv (PL.isList pl) ?_
 have hitI:(s.heap.push {cls:= .type "list_iterator",data:= .fields #[.ref l,.int 0 0]}).IsListIter s.heap.objs.size l 0:=⟨_,Heap.get?_push_size _ rfl,rfl,rfl⟩
 have kq1:Kq s.heap (s.heap.push {cls:= .type "list_iterator",data:= .fields #[.ref l,.int 0 0]}):=Kq.push _ _
 have hitN:s.heap.get? s.heap.objs.size=none:=aJ _
 revert hitN
 generalize s.heap.objs.size=it at hitI
 generalize (s.heap.push {cls:= .type "list_iterator",data:= .fields #[.ref l,.int 0 0]})=hb at hitI kq1
 intro hitN
 refine PySem.Calls.spliced_cons (wpAny_List (PySem.Calls.spliced_nil ⟨by show (0:Nat)≤sizeLine;exact Nat.zero_le _,?_⟩))
 refine PySem.Calls.spliced_nil ⟨by show (2:Nat)≤sizeLine;decide,?_⟩
 have plN:(hb.push {cls:= .type "list",data:= .seq ([]:List Value).toArray}).PlainList hb.objs.size #[]:=⟨0,Heap.get?_push_size _ rfl⟩
 have kq2:Kq hb (hb.push {cls:= .type "list",data:= .seq ([]:List Value).toArray}):=Kq.push _ _
 have nlN:hb.get? hb.objs.size=none:=aJ _
 revert nlN
 generalize hb.objs.size=nl at plN
 generalize (hb.push {cls:= .type "list",data:= .seq ([]:List Value).toArray})=hc at plN kq2
 intro nlN
 have kq3:Kq hc (hc.push {cls:= .type "tuple",data:= .seq [Value.ref it,.ref nl].toArray}):=Kq.push _ _
 have tup:TupAt (hc.push {cls:= .type "tuple",data:= .seq [Value.ref it,.ref nl].toArray}) hc.objs.size #[.ref it,.ref nl]:=⟨0,Heap.get?_push_size _ rfl⟩
 have n3:=n.keeps (Kq.trans kq1 (Kq.trans kq2 kq3))
 refine ⟨hc.objs.size,.ref it,.ref nl,m,rfl,tup,n3,fun h2 kq4 h' tk two=> ?_⟩
 obtain ⟨k,cd,m',ns',g1,g2,g3⟩:=two
 have k24:=Kq.trans kq2 (Kq.trans kq3 kq4)
 have n4:=n3.keeps kq4
 exact hQ it nl h' tk m' hitN ((Kp.of kq1).none nlN) (fun b o hb q=>k b o hb (Kq.trans kq1 k24 b o q)) (IsLI.keep hitI fun o t q=>k it o (Ne.symm (IsLI.nsne hitI (n.keeps kq1))) (k24 _ _ q)) (PL.at' plN fun o t q=>k nl o (Ne.symm (jM plN (n.keeps (Kq.trans kq1 kq2)))) (kq4 _ _ (kq3 _ _ q))) ns' g1 g2 ((g3 _ (by decide) (by decide)).trans ho)
theorem s7 (off:Frk.fs=none) (N:eQ prog w c G hB mg mb sc tbR as) (htb:c.tbl=tbR) (hnm:sc.names=nmR) {body:List Stmt} (hok:(rdS c sc body).1=true) (hu:(rdS c sc body).2=body) {f:Addr} {name:Str} (da:DefAt hB f name ⟨[],as,none,[],[],none,[]⟩ body sc) (V:VX prog w cv G hB mg mb fv scv asv bodyv namev)
  {Q:Value→Shared→Prop} (ar:Ar 2 A) (hfr:A.frames=some outer) (u:Ups outer s.heap) (hfa:∀ b∈frs outer,Tabs.fa b) (kp:KB hB s.heap) (hL:s.heap.PlainList l items) (hia:IntsAt items is) (h600:is.length≤600)
  (hQ:∀ a its h' tk,Kp s.heap h'→s.heap.get? a=none→h'.PlainList a its→IntsAt its (rd (is.length+1) is)→Q (.ref a) {s with heap:=h',toks:=tk}) :
  wpAny (model prog w) A (call (.ref f) [.ref l]) Q E s:=by
 obtain ⟨o,pm,cd,doc,tb,oc,vc,tc,h1,h2,h3,h4,h5,h6,h7,h8⟩:=da.at'
 have nocell:∀ x,celK (sc.names.lookup x)=false:=fun x=>by rw [hnm];exact vM rfl x
 refine lm (fd:=Calls.docDef name ⟨[],as,none,[],[],none,[]⟩ body sc pm (.ref cd) doc) (cm:=fun _=>none) (σ:=[none]) off N.lim N.I N.has (kp.ob h1 (bj h2)) h2 rfl rfl rfl rfl rfl rfl ⟨cd,oc,vc,tc,rfl,kp.ob h3 (br h4 h5),h5,h6⟩ (fun x c q=>ah q) (fun x y c q=>ah q) (fun x q=>by have:=nocell x;rw [q] at this;exact nomatch this) (fun x c q=>ah q) kp ar rfl (fun h Ex _ _=>by rw [htb];exact .no .nil) fun env h₀ tk he S n k0 hn ar1=> ?_
 have e:E0 env sc:=⟨S.rr.ok,he▸rfl,he▸rfl,he▸rfl⟩
 refine aa hok fun q1 q2=> ?_
 rw [← hu]
 refine wpAny_execs_cons (t6 (s:={s with heap:=h₀,toks:=tk}) N hnm e ar1.hd n rfl (kp.trans k0) (PL.at' hL (k0.at l)) fun it nl h3 tk3 m3 it0 nl0 keep hit pl ns mt mn mo=> ?_)
 have kp3:Kp s.heap h3:=k0.new hn keep fun o vs q _=>Ns.nofields n o q vs
 have plL:h3.PlainList l items:=PL.at' hL (kp3.at l)
 have hx:¬ hEx env l:=fun q=>q.elim (fun q=>jM plL ns q.symm) fun ⟨x,q⟩=>by rw [e.cel] at q;exact ah q
 let p:At (wd0 prog w c G hB) sc _:=⟨A.deeper env,{s with heap:=h3,toks:=tk3},env,hEx env,fun _=>0,.self e.sc,(AE e hnm mo plL hia hx).rr e.ok (Ap e nocell ns) (bC rfl) |> fun R=>htb▸R,kp.trans kp3,ar1.mono (Nat.zero_le _)⟩
 have rg:=ie (np:=(kid 0 (skid 0 (hs body.tail))).pos) (pos:=(skid 0 (hs body.tail)).pos) N.B (EL.one (ez N q1)).as (by unfold isGlob;rw [hnm];rfl)
 refine wpAny_execs_cons (wpAny_For (rg _ p _ 0 ((is.length:Int)+1) _ rfl (yy h600) fun r h4 tk4 t4 u4 v4 kp4 hr hrN=> ?_) fun x=>rfl)
 have hidx:idxOk ((is.length:Int)+1)=true:=ix (n:=is.length+1) (Nat.le_trans (Nat.succ_le_succ h600) (by decide))
 obtain ⟨b1,b2,b3,hsz⟩:=e9 (m:=0) rfl hidx
 refine wpAny_pyIter_range (s:={s with heap:=h4,toks:=tk4}) hr (small_one b1.1 b1.2 b2.1 b2.2) ?_
 rw [hsz]
 have hI:(h4.push {cls:= .type "range_iterator",data:= .fields #[rawInt 0,rawInt ((((is.length:Int)+1 - 0).toNat:Nat):Int),rawInt 1]}).get? h4.objs.size=some {cls:= .type "range_iterator",data:= .fields #[rawInt 0,rawInt ((((is.length:Int)+1 - 0).toNat:Nat):Int),rawInt 1]}:=Heap.get?_push_size _ rfl
 have kp5:Kp h4 (h4.push {cls:= .type "range_iterator",data:= .fields #[rawInt 0,rawInt ((((is.length:Int)+1 - 0).toNat:Nat):Int),rawInt 1]}):=Kp.push _ _
 have kp35:=kp4.trans kp5
 have hIN:h4.get? h4.objs.size=none:=aJ _
 have kp6:=kp3.trans kp35
 refine RX.loop (s:={s with heap:=h4.push {cls:= .type "range_iterator",data:= .fields #[rawInt 0,rawInt ((((is.length:Int)+1 - 0).toNat:Nat):Int),rawInt 1]},toks:=tk4}) ⟨off,N,hnm,e,⟨hn,k0.none it0,k0.none nl0,(kp3.trans kp4).none hIN⟩,kp,hL,hia,h600,ar1,hfr,u,hfa⟩ V (st:=hs (sbod (hs body.tail))) q2 ⟨kp6,IsLI.keep hit (kp35.at it),⟨#[],PL.at' pl (kp35.at nl),rfl,fun j k h=>ah h⟩,hI,m3,kp35.ns ns,mt,mn⟩ fun h' tk ots kpF plF iaF=> ?_
 exact hQ nl ots h' tk kpF (k0.none nl0) plF iaF
end
end Mine
set_option genSizeOf false
set_option genInjectivity false
namespace Mine
noncomputable abbrev F0:Frk:=⟨none⟩
noncomputable abbrev F1 (env:Env):Frk:=⟨some [env]⟩
noncomputable def readSpec (ds:List D):Option D:=(one? ds).bind fun d=>d.list?.bind fun ds=>(ints? ds).bind fun is=>if decide (is.length≤600)=true then some (.list ((rd (is.length+1) is).map .int)) else none
variable [Tabs]
theorem Ctr.lift {T1:Frk} {prog:Program} {w:World} {hB:Heap} {n:Nat} {F:FEnv} {f:Str} {a:Addr} (h : @Ctr _ F0 prog w hB n F f a) : @Ctr _ T1 prog w hB n F f a :=
 fun A E s X ds vs r Q ar kp hX hd hr P=>h A E s X ds vs r Q (@Ar.mk F0 _ _ ar.hd ar.depth ar.units (fun l hl=>nomatch hl)) (@KB.mk _ F0 _ _ kp.kp (fun l hl=>nomatch hl)) hX hd hr P
section
variable {prog:Program} {w:World} {c cv:Cx} {hB:Heap} {G:af} {mg mb:Str→Option Value} {sc scv:Scope} {body bodyv:List Stmt} {as asv:List Arg} {f fv:Addr} {name namev:Str}
theorem sA (N : @eQ _ F0 prog w c G hB mg mb sc tbR as) (htb:c.tbl=tbR) (hnm:sc.names=nmR) (hok:(rdS c sc body).1=true) (hu:(rdS c sc body).2=body) (da:DefAt hB f name ⟨[],as,none,[],[],none,[]⟩ body sc) (V : @VX _ F0 prog w cv G hB mg mb fv scv asv bodyv namev)
  {env:Env} {F:FEnv} {n:Nat} (hn:2≤n) (hF:∀ ds r,F name ds=some r→readSpec ds=some r) : @Ctr _ (F1 env) prog w hB n F name f:=by
 intro A E s X ds vs r Q ar kp hX hden hr P
 have hr:=hF _ _ hr
 revert hden
 refine ae hr fun d h1 hr=>kM (P:=fun ds=>DenL s.heap X ds vs→_) h1 ?_
 refine ae hr fun ds h2 hr=>bL (P:=fun d=>DenL s.heap X [d] vs→_) h2 ?_
 refine ae hr fun is h3 hr=>gd hr fun h600 hr2 hden=> ?_
 obtain rfl:=nj h3
 obtain rfl:=sm hr2
 obtain ⟨v,r1,rfl,⟨l,items,rfl,hx,hL,dl⟩,e⟩:=hden
 obtain rfl:r1=[]:=e
 obtain ⟨a1,a2,a3,a4⟩:=ar
 obtain ⟨k1,k2⟩:=kp
 obtain ⟨g1,L,g2,g3,g4⟩:=k2 [env] rfl env List.mem_cons_self
 letI:Frk:=F0
 refine @s7 _ F0 _ _ _ _ _ _ _ _ _ E _ _ _ _ _ _ _ _ _ [env] _ _ rfl N htb hnm _ hok hu _ _ da V Q (@Ar.mk F0 _ _ a1 (Nat.le_trans (Nat.add_le_add_left hn _) a2) (Nat.le_trans (Nat.add_le_add_left (Nat.mul_le_mul_left 4 hn) _) a3) (fun l hl=>nomatch hl)) (a4 [env] rfl) ?_ ?_ (@KB.mk _ F0 _ _ k1 (fun l hl=>nomatch hl)) hL (IntsAt.of_den dl) (of_decide_eq_true h600) fun a its h' tk kp' ha pl hi=>P _ h' tk kp' ⟨a,its,rfl,fun q=>(hX a q).ne ha rfl,pl,hi.den _ _⟩
 ·intro e he
  rw [List.mem_singleton.mp he]
  exact ⟨g1,L,g2,g4⟩
 ·intro b hb
  rw [lb g2] at hb
  rw [List.mem_singleton.mp hb];exact g3
theorem rm {F:FEnv} {n:Nat} (hfa:∀ b,hB.objs.size≤b→Tabs.fa b) (B:∀ T:Frk,@Base _ T prog w c G hB mg mb) (lim:hB.NoLimit) {ps:List Str} {params:Arguments} {code:S}
  (CT:∀ (env:Env) f a,f∈c.fns→mg f=some (.ref a)→ @Ctr _ (F1 env) prog w hB n F f a) (ok:eM c ps name params body sc) (hc:codeB c sc code body=true) (hu:(unS c sc code body).2=body)
  {a:Addr} (da:DefAt hB a name params body sc) {A:Around} {s:Shared} {ds:List D} {vs:List Value} {r:D} {Q:Value→Shared→Prop} {E:Value→Shared→Prop} (hsB:s.heap=hB) (hfr:A.frames=some []) (ar : @Ar F0 (n+1) A)
  (hden:DenL s.heap (fun _=>False) ds vs) (hlen:ds.length=ps.length) (hr:run G F c.tbl.length code ds=some r)
  (P:∀ v h' tk,Kp s.heap h'→Den h' (fun _=>False) r v→Q v {s with heap:=h',toks:=tk}):wpAny (model prog w) A (call (.ref a) vs) Q E s:=by
 letI:Frk:=F0
 refine @dz _ F0 rfl ⟨prog,w,c,G,F,hB,n⟩ lim ps name params body sc ok a da A E s (fun _=>False) ds vs r Q ar (@KB.mk _ F0 _ _ (hsB▸Kp.refl _) fun l hl=>nomatch hl) (fun _ h=>h.elim) hden hlen P fun p cd tb he hA _ _ hnew k0 fin=> ?_
 have hL:hB.objs.size≤p.env.locals:=by rw [he,← hsB];exact Nat.le_refl _
 have k1 : @KB _ (F1 p.env) hB p.s.heap:= @KB.mk _ (F1 p.env) _ _ p.k.kp fun l hl e he'=>by
  rw [← sm (a:=[p.env]) hl] at he'
  rw [List.mem_singleton.mp he']
  obtain ⟨m,cm,Fm,_⟩:=p.S.rr.fr
  exact ⟨by rw [p.S.rr.ok.kind];decide,p.env.locals,by rw [he];rfl,hfa _ hL,Ns.dt Fm.ns⟩
 have a1 : @Ar (F1 p.env) n p.A:= @Ar.mk (F1 p.env) _ _ p.ar.hd p.ar.depth p.ar.units fun l hl=>by rw [hA,← sm (a:=[p.env]) hl];exact Around.frames_deeper hfr
 have ss:= @ng _ (F1 p.env) ⟨prog,w,c,G,F,hB,n⟩ sc mg mb (B _) (CT p.env) ok.names code body hc hu
 refine ae hr fun q hex hr=> ?_
 obtain ⟨σ',o'⟩:=q
 let p1 : @Ast _ (F1 p.env) ⟨prog,w,c,G,F,hB,n⟩ sc _:= @Ast.mk _ (F1 p.env) _ _ _ p.A p.s p.env p.Mu p.Ex p.ow p.hsc p.S k1 p.hm a1
 cases o' with
 |next =>
  obtain rfl:=sm hr
  exact ss _ p1 _ σ' .next _ hex fun h' tk' Mu' Ex' ow' S' g=>fin h' tk' .none Mu' Ex' g rfl
 |brk=>exact ah hr
 |ret d =>
  obtain rfl:=sm hr
  exact ss _ p1 _ σ' (.ret d) _ hex fun h' tk' v Mu' Ex' g dv=>fin h' tk' v Mu' Ex' g dv
end
end Mine
set_option genSizeOf false
set_option genInjectivity false
namespace Mine
noncomputable def nI:Str:="_int2digits"
noncomputable def nD:Str:="_digits2int"
noncomputable def nP:Str:="_parse_varint"
noncomputable def nR:Str:="_law_read"
noncomputable def QI:Str:=nI++(".<locals>.":Str)++inS
noncomputable def QD:Str:=nD++(".<locals>.":Str)++inS
noncomputable def qOf (line:Nat) (l c:Int):Str:=cond (l==(line:Int)) QI QD
structure HI (t:TS) (c:Cx) (line:Nat) (d:DefItem):Prop where
 find:findD t nI=some d
 ok:i2dB c d=true
 hu1:(i2dU c d).1=d.body
 hu2:(i2dU c d).2=(itemOf (hs d.body.tail)).body
 hq:qOf line (itemOf (hs d.body.tail)).pos.line (itemOf (hs d.body.tail)).pos.col=QI
structure HD (t:TS) (c:Cx) (line:Nat) (d:DefItem):Prop where
 find:findD t nD=some d
 ok:d2iOk c d=true
 hu1:(d2iU c d).1=d.body
 hu2:(d2iU c d).2=(itemOf (hs d.body)).body
 hq:qOf line (itemOf (hs d.body)).pos.line (itemOf (hs d.body)).pos.col=QD
structure HP (t:TS) (c:Cx) (d:DefItem):Prop where
 find:findD t nP=some d
 ok:(innB d.scope tbP pmP&&d.scope.names==nmP&&(pvS (atT c tbP) d.scope d.body).1&&tbP.all (fun x=>dbg x&&dcl x)&&parsOf d.params==pmP)=true
 hu:(pvS (atT c tbP) d.scope d.body).2=d.body
structure HR (t:TS) (c:Cx) (d:DefItem):Prop where
 find:findD t nR=some d
 ok:(innB d.scope tbR tbR&&d.scope.names==nmR&&(rdS (atT c tbR) d.scope d.body).1&&tbR.all (fun x=>dbg x&&dcl x)&&parsOf d.params==tbR)=true
 hu:(rdS (atT c tbR) d.scope d.body).2=d.body
noncomputable def spn2:List Str:=[nI,nD]
noncomputable def sp2 (f:Str) (ds:List D):Option D:=cond (f==nI) (i2dSpec ds) (d2iSpec ds)
noncomputable def FL (G:af) (fns:List Fn) (k:Nat):FEnv:=fun f ds=>cond (f==nR) (readSpec ds) (FF G fns spn2 sp2 k f ds)
theorem xE [Tabs] {h h':Heap} (k:Kp h h') (hf:∀ b,Al h b→¬ Tabs.fa b) (ht:∀ b,Tabs.tb b→isCodeTable h b):OldK h h':=by
 refine ⟨fun b o e=> ?_,fun b o e=>(k b o e).al⟩
 rcases k b o e with g |⟨t,vs,more,e1,e2,e3,_⟩ |⟨f,_⟩
 ·exact .inl g
 ·exact .inr (.inl ⟨ht b t,e1,vs,more,e2,e3⟩)
 ·exact absurd f (hf b ⟨o,e⟩)
theorem g0 {d:DefItem} (hp:d.params=plainPar d.params):∃ as,d.params=⟨[],as,none,[],[],none,[]⟩∧parsOf d.params=as.map (·.arg):=⟨d.params.args,hp,rfl⟩
section
variable {p:Program} {w:World} {t:TS} {mg mb:Str→Option Value} {h:Heap} {c:Cx} {line:Nat} {sigs:List fE}
structure Top (p:Program) (w:World) (t:TS) (mg mb:Str→Option Value) (h:Heap) (c:Cx):Prop where
 T:TopAt t.defs t.consts (t.os p w) t.names mg mb h
 plain:∀ d∈t.defs,d.params=plainPar d.params
 bnm:bnames.all (fun x=> !t.names.contains x)=true
 fn:c.fns.all (fun x=>(findD t x).isSome)=true
 nd:(c.sets++c.dicts).all (fun x=> !(x==("__debug__":Str)))=true
noncomputable def tabsOf (h:Heap) (line:Nat):Tabs:=⟨fun P=>∃ cd,h.TableAt cd P #[],qOf line,fun b=>h.objs.size≤b⟩
theorem mj (b:Addr) (x:Al h b):¬ (tabsOf h line).fa b:=fun q=>let ⟨o,e⟩:=x;Nat.lt_irrefl _ (Nat.lt_of_lt_of_le (Heap.lt_size e) q)
theorem Top.base (X:Top p w t mg mb h c) (T1:Frk) (tb:List Str) : @Base (tabsOf h line) T1 p w (atT c tb) (gOf t) h mg mb :=
 @xo (tabsOf h line) T1 p w t mg mb h mj X.T (atT c tb) X.bnm X.fn X.nd
theorem Top.par (X:Top p w t mg mb h c) {x:Str} {d:DefItem} (hd:findD t x=some d):d.params=plainPar d.params:=X.plain d (List.mem_of_find?_eq_some hd)
theorem Top.at (X:Top p w t mg mb h c) {x:Str} {d:DefItem} (hd:findD t x=some d):∃ a,mg x=some (.ref a):=by
 obtain ⟨a,h1,h2⟩:=X.T.made d (List.mem_of_find?_eq_some hd)
 have hn:=List.find?_some hd
 obtain rfl:d.name=x:=beq_iff_eq.mp hn
 exact ⟨a,h1⟩
theorem Top.spec (X:Top p w t mg mb h c) {dI dD:DefItem} (hI:HI t c line dI) (hD:HD t c line dD) (f:Str) (a:Addr) (k:Nat) (hf:f∈spn2) (ha:mg f=some (.ref a)) (hk:SPL≤k) : @Ctr (tabsOf h line) F0 p w h k (fun f ds=>sp2 f ds) f a:=by
 letI:Tabs:=tabsOf h line
 letI:Frk:=F0
 rcases List.mem_cons.mp hf with rfl |hf
 ·exact xp rfl (X.base F0 c.tbl) X.T.bm X.T.lim hI.ok hI.hu1 hI.hu2 (X.par hI.find) (bJ X.T hI.find ha) (fun cd P q=>⟨cd,q⟩) hI.hq (fun ds r q=>q) hk
 ·obtain rfl:=List.mem_singleton.mp hf
  exact wN rfl (X.base F0 c.tbl) X.T.bm X.T.lim hD.ok hD.hu1 hD.hu2 (X.par hD.find) (bJ X.T hD.find ha) (fun cd P q=>⟨cd,q⟩) hD.hq (fun ds r q=>q) hk
theorem Top.read (X:Top p w t mg mb h c) {dP dR:DefItem} (hP:HP t c dP) (hR:HR t c dR) {env:Env} {a:Addr} (ha:mg nR=some (.ref a)) {F:FEnv} (hF:∀ ds r,F nR ds=some r→readSpec ds=some r) : @Ctr (tabsOf h line) (F1 env) p w h 300 F nR a:=by
 letI:Tabs:=tabsOf h line
 letI:Frk:=F0
 obtain ⟨av,hav⟩:=X.at hP.find
 obtain ⟨ap,e1,e2⟩:=g0 (X.par hP.find)
 obtain ⟨ar,e3,e4⟩:=g0 (X.par hR.find)
 have da:=bJ X.T hR.find ha
 have dav:=bJ X.T hP.find hav
 rw [e3] at da
 rw [e1] at dav
 refine aa hP.ok fun q q5=>aa q fun q q4=>aa q fun q q3=>aa q fun q1 q2=>aa hR.ok fun r r5=>aa r fun r r4=>aa r fun r r3=>aa r fun r1 r2=> ?_
 exact sA (c:=atT c tbR) (cv:=atT c tbP) ⟨X.base F0 tbR,X.T.lim,r4,r1,e4.symm.trans (eq_of_beq r5)⟩ rfl (eq_of_beq r2) r3 hR.hu da ⟨⟨X.base F0 tbP,X.T.lim,q4,q1,e2.symm.trans (eq_of_beq q5)⟩,rfl,eq_of_beq q2,q3,hP.hu,dav,hav⟩ (by decide) hF
end
theorem tA {l:OpenLaw} {t:TS} {c:Cx} {line:Nat} {sigs:List fE} {ls:fE} {dI dD dP dR dL:DefItem} (hrun:runT l.prog.main.scope ⟨[],[],[],[],0⟩ l.prog.main.body=some t) (hreb:l.prog.main.body.map rebS=l.prog.main.body) (hmod:l.prog.main.scope.kind = .module)
  (said:l.row.wellSaid=true) (wit:l.row.toRowW.promised) (hop:opening l.prog=plainProg l.prog.main.scope.names) (hfence:∀ s,fenceModules? l.prog s=some s)
  (himp:importedModules l.prog.main.body=[]) (hann:hasAnns l.prog.main.body=false) (hdoc:docOf l.prog.main.body=none) (hbeh:behindTheImports l.prog=l.prog.main.body)
  (how:opensWell l.prog=true) (hb:l.prog.bare) (hwr:l.writes=false) (hmost:l.most=some 63) (hbound:l.bound=none)
  (hn:t.names.all (fun x=>l.prog.boundNames.contains x)=true) (hl:laidNames.all (fun x=> !t.names.contains x)=true) (plain:∀ d∈t.defs,d.params=plainPar d.params)
  (hfind:findD t l.name=some dL) (hthe:l.prog.theDef l.name=some (dL.params,dL.body,dL.scope))
  (bnm:bnames.all (fun x=> !t.names.contains x)=true) (hfn:c.fns.all (fun x=>(findD t x).isSome)=true) (hnd:(c.sets++c.dicts).all (fun x=> !(x==("__debug__":Str)))=true)
  (hsig:sigs.all (sigOk c t)=true) (hu:sigs.map (bodyU c t)=sigs.map (bodyOf t)) (hls:sigOk c t ls=true) (hlu:bodyU c t ls=bodyOf t ls) (hln:ls.name=l.name) (hlp:(parsOf dL.params).length=1)
  (hI:HI t c line dI) (hD:HD t c line dD) (hP:HP t c dP) (hR:HR t c dR)
  (eval:∀ ns:List Int,ns.length≤63→run (gOf t) (FL (gOf t) (sigs.map (mkFn t)) 300) ls.tbl.length ls.code [.list (ns.map .int)]=some (.bool true)):l.row.Holds:=by
 have hw:∀ w,Walked l.prog w t.defs t.consts (t.os l.prog w) t.names:=fun w=> @ro (tabsOf {} 0) F0 _ _ hmod t hreb hrun
 refine qH (objs:=fun w=>t.os l.prog w) said wit hop hfence himp hann hdoc hbeh how hb hwr hmost hbound (fun x hx=>List.contains_iff_mem.mp (List.all_eq_true.mp hn x hx)) (fun x hx=>l9 (List.all_eq_true.mp hl x hx)) (fun d hd=>by rw [plain d hd];rfl) ⟨dL,List.mem_of_find?_eq_some hfind,beq_iff_eq.mp (List.find?_some hfind :),hthe,by rw [plain dL (List.mem_of_find?_eq_some hfind)];rfl,by rw [plain dL (List.mem_of_find?_eq_some hfind)];rfl⟩ hw fun w s mg mb a ns vs T ha hlen hden hg=> ?_
 have X:Top l.prog w t mg mb s.heap c:=⟨T,plain,bnm,hfn,hnd⟩
 letI:Tabs:=tabsOf s.heap line
 have okF:∀ f∈sigs.map (mkFn t),FnOk c s.heap mg f:=fun f hf=>by
  obtain ⟨sg,h1,rfl⟩:=List.mem_map.mp hf
  letI:Frk:=F0
  exact zT T c (List.all_eq_true.mp hsig sg h1) (List.map_inj_left.mp hu sg h1) plain
 have CT:∀ (env:Env) f a,f∈c.fns→mg f=some (.ref a)→ @Ctr _ (F1 env) l.prog w s.heap 300 (FL (gOf t) (sigs.map (mkFn t)) 300) f a:=fun env f a hf ha=>by
  cases hr:f==nR with
  |true =>
   obtain rfl:=beq_iff_eq.mp hr
   exact X.read hP hR ha fun ds r h=>h
  |false =>
   have h1:=Ctr.lift (T1:=F1 env) (@yw _ F0 rfl _ _ _ _ _ _ _ (X.base F0 c.tbl) T.lim _ _ _ okF (X.spec hI hD) 300 f a ha)
   exact fun A E s' Y ds vs r Q ar kp hY hd h P=>h1 A E s' Y ds vs r Q ar kp hY hd (by rw [← h];unfold FL;rw [hr];rfl) P
 have hs2:=hls
 unfold sigOk at hs2
 unfold bodyU bodyOf at hlu
 rw [hln,hfind] at hs2 hlu
 refine aa hs2 fun q1 q2=> ?_
 letI:Frk:=F0
 refine rm (c:=atT c ls.tbl) (n:=300) (fun b hb=>hb) (fun T1=>X.base T1 ls.tbl) T.lim CT (fS q1 (X.par hfind)) q2 hlu (bJ T hfind ha) (s:=s) rfl rfl ⟨rfl,by show 1+claimMargin+301≤900;decide,by show 4+4 * 301≤9000;decide,fun l hl=>nomatch hl⟩ hden (by rw [hlp];rfl) (eval ns hlen) fun v h' tk kp hv=> ?_
 exact ⟨h',tk,xE kp mj fun b ⟨cd,x⟩=>x.isCodeTable,hv,rfl⟩
end Mine
set_option genSizeOf false
set_option genInjectivity false
namespace Mine
noncomputable def flagN:List (Int×Str):=[((1:Int),("OPTIMIZED":Str)),(2,"NEWLOCALS"),(4,"VARARGS"),(8,"VARKEYWORDS"),(16,"NESTED"),(32,"GENERATOR"),(64,"NOFREE"),(128,"COROUTINE"),(256,"ITERABLE_COROUTINE"),(512,"ASYNC_GENERATOR")]
structure uB (G:af) (fns:List Fn) (b1L:List Int) (b3L:List (Int×Str)):Prop where
 lim:G.const "_DIV_LIMIT"=some (.int 4000)
 mark:G.const "ELLIPSIS_MARKER"=some (.str "...")
 b1:G.iset "b1_set"=some b1L
 b3:G.idict "b3_exceptions"=some b3L
 nm:G.idict "COMPILER_FLAG_NAMES"=some flagN
 f1:∃ x,fns.find? (fun x=>x.name==("pretty_flags":Str))=some x∧x.ps.length=1∧x.tbl.length=4∧x.code=s_pretty_flags
 f2:∃ x,fns.find? (fun x=>x.name==("_div2n1n":Str))=some x∧x.ps.length=3∧x.tbl.length=11∧x.code=s_div2n1n
 f3:∃ x,fns.find? (fun x=>x.name==("_divmod_pos":Str))=some x∧x.ps.length=2∧x.tbl.length=9∧x.code=s_divmod_pos
 f4:∃ x,fns.find? (fun x=>x.name==("int_divmod":Str))=some x∧x.ps.length=2∧x.tbl.length=4∧x.code=s_int_divmod
 f5:∃ x,fns.find? (fun x=>x.name==("_ellipsis_match":Str))=some x∧x.ps.length=2∧x.tbl.length=6∧x.code=s_ellipsis_match
 f6:∃ x,fns.find? (fun x=>x.name==("in_table_b1":Str))=some x∧x.ps.length=1∧x.tbl.length=1∧x.code=s_in_table_b1
 f7:∃ x,fns.find? (fun x=>x.name==("map_table_b3":Str))=some x∧x.ps.length=1∧x.tbl.length=2∧x.code=s_map_table_b3
 f8:∃ x,fns.find? (fun x=>x.name==("_law_unseen":Str))=some x∧x.ps.length=0∧x.tbl.length=0∧x.code=s_law_unseen
theorem a8 {G:af} {fns:List Fn} {k n m:Nat} {f:Str} {ds:List D} {cd:S} (h1:spn2.contains f=false) (h2:∃ x,fns.find? (fun x=>x.name==f)=some x∧x.ps.length=m∧x.tbl.length=n∧x.code=cd) (hl:ds.length=m) {r:Option D} (h:run G (FF G fns spn2 sp2 k) n cd ds=r) :
  FF G fns spn2 sp2 (k+1) f ds=r:=by
 obtain ⟨x,e1,e2,rfl,rfl⟩:=h2
 rw [FF_s,h1]
 exact ad e1 (aq (hl.trans e2.symm) h)
theorem qj {G:af} {fns:List Fn} {k:Nat} {ds:List D} (hk:SPL≤k):FF G fns spn2 sp2 (k+1) "_int2digits" ds=i2dSpec ds:=(FF_s.trans (congrArg (fun x=>cond x _ _) (show spn2.contains ("_int2digits":Str)=true from rfl))).trans (aq hk rfl)
theorem qO {G:af} {fns:List Fn} {k:Nat} {ds:List D} (hk:SPL≤k):FF G fns spn2 sp2 (k+1) "_digits2int" ds=d2iSpec ds:=(FF_s.trans (congrArg (fun x=>cond x _ _) (show spn2.contains ("_digits2int":Str)=true from rfl))).trans (aq hk rfl)
theorem lg (x:Int):Builtin.bitNot x = -x - 1:=by unfold Builtin.bitNot;omega
theorem wQ {a:Int} (h:¬ 0≤a):0 ≤ -a - 1∧(-a - 1).natAbs≤a.natAbs:=by omega
theorem vh {a b q r:Int} (h:r+b * q = -a - 1):b * (-q - 1)+(b+(-r - 1))=a:=by
 rw [Int.mul_sub,Int.mul_neg,Int.mul_one]
 omega
theorem y8 {b r:Int} (h:0≤r∧r<b):0≤b+(-r - 1)∧b+(-r - 1)<b:=by omega
theorem qG {a b:Int} (hb:0<b):a.fdiv b=Builtin.bitNot ((Builtin.bitNot a).fdiv b)∧a.fmod b=b+Builtin.bitNot ((Builtin.bitNot a).fmod b):=by
 rw [lg,lg,lg,Int.fdiv_eq_ediv_of_nonneg a (Int.le_of_lt hb),Int.fmod_eq_emod_of_nonneg a (Int.le_of_lt hb)]
 have h1:=Int.fmod_add_mul_fdiv (-a - 1) b
 have h2:=y8 (cB hb (-a - 1))
 exact (Int.ediv_emod_unique hb).mpr ⟨(Int.add_comm _ _).trans (vh h1),h2.1,h2.2⟩
section
variable {G:af} {fns:List Fn} {b1L:List Int} {b3L:List (Int×Str)} (C:uB G fns b1L b3L)
include C
theorem xg {k:Nat} {a b n:Int} (hb:small b=true) (hb0:b≠0) (hbits:((Builtin.Int.intBits a:Nat):Int) - n≤4000):FF G fns spn2 sp2 (k+1) "_div2n1n" [.int a,.int b,.int n]=some (.tup [.int (a.fdiv b),.int (a.fmod b)]) :=
 a8 rfl C.f2 rfl (lU C.lim hb hb0 hbits)
theorem yQ {k:Nat} (hk:SPL≤k) {a b:Int} (ha:0≤a) (has:small a=true) (hb:0<b) (hbs:small b=true):FF G fns spn2 sp2 (k+2) "_divmod_pos" [.int a,.int b]=some (.tup [.int (a.fdiv b),.int (a.fmod b)]) :=
 a8 rfl C.f3 rfl (iO (fun ds=>qj hk) (fun ds=>qO hk) (fun a b n h1 h2 h3=>xg C h1 h2 h3) ha has hb hbs)
theorem oT {k:Nat} (hk:SPL≤k) {a b:Int} (ha:0≤a) (has:small a=true) (hb:0<b) (hbs:small b=true):FF G fns spn2 sp2 (k+3) "int_divmod" [.int a,.int b]=some (.tup [.int (a.fdiv b),.int (a.fmod b)]) :=
 a8 rfl C.f4 rfl (au [iv a,iv b,none,none] rfl (aw (bP (an rfl rfl (congrArg some (beq_eq_false_iff_ne.mpr (Int.ne_of_gt hb)))) rfl
  (aw (bP (an (x:= .int b) (y:= .int 0) rfl rfl (congrArg some (decide_eq_false (Int.not_lt.mpr (Int.le_of_lt hb))))) rfl
  (aw (bP (an (x:= .int a) (y:= .int 0) rfl rfl (congrArg some (decide_eq_false (Int.not_lt.mpr ha)))) rfl (aA (aj (aR rfl rfl) (yQ C hk ha has hb hbs))))))))))
theorem pI {k:Nat} (hk:SPL≤k) {a b:Int} (has:small a=true) (hb:0<b) (hbs:small b=true):FF G fns spn2 sp2 (k+4) "int_divmod" [.int a,.int b]=some (.tup [.int (a.fdiv b),.int (a.fmod b)]):=by
 by_cases ha:0≤a
 ·exact oT C (Nat.le_succ_of_le hk) ha has hb hbs
 ·obtain ⟨n0,n1⟩:=wQ ha
  have hs:small (Builtin.bitNot a)=true:=by
   rw [lg];exact decide_eq_true (Nat.lt_of_le_of_lt n1 (de has))
  rw [(qG hb).1,(qG hb).2]
  exact a8 rfl C.f4 rfl (au [iv a,iv b,none,none] rfl (aw (bP (an rfl rfl (congrArg some (beq_eq_false_iff_ne.mpr (Int.ne_of_gt hb)))) rfl
   (aw (bP (an (x:= .int b) (y:= .int 0) rfl rfl (congrArg some (decide_eq_false (Int.not_lt.mpr (Int.le_of_lt hb))))) rfl
   (aw (aL (an (x:= .int a) (y:= .int 0) rfl rfl (congrArg some (decide_eq_true (Int.not_le.mp ha)))) rfl (fh (aj (aR rfl rfl) (oT C hk (by rw [lg];exact n0) hs hb hbs)) (aA (bH (aR rfl rfl)))))))))))
theorem zp {k:Nat} (hk:70≤k) {a b:Int} (has:small a=true) (hb:b≠0) (hbs:small b=true):FF G fns spn2 sp2 k "int_divmod" [.int a,.int b]=some (.tup [.int (a.fdiv b),.int (a.fmod b)]):=by
 obtain ⟨k,rfl⟩:∃ k',k=k'+5:=⟨k - 5,(Nat.sub_add_cancel (Nat.le_trans (by decide) hk)).symm⟩
 have hk:SPL≤k:=Nat.le_of_add_le_add_right (b:=5) (Nat.le_trans (by decide) hk)
 by_cases hp:0<b
 ·exact pI C (Nat.le_succ_of_le hk) has hp hbs
 ·have hb0:b<0:=Int.lt_iff_le_and_ne.mpr ⟨Int.not_lt.mp hp,hb⟩
  have s1:small (-a)=true:=by unfold small at has ⊢;rw [Int.natAbs_neg];exact has
  have s2:small (-b)=true:=by unfold small at hbs ⊢;rw [Int.natAbs_neg];exact hbs
  have key:a.fdiv b=(-a).fdiv (-b)∧a.fmod b = -((-a).fmod (-b)):=by
   rw [Int.neg_fdiv_neg,Int.neg_fmod_neg,Int.neg_neg]
   exact ⟨rfl,rfl⟩
  rw [key.1,key.2]
  exact a8 rfl C.f4 rfl (au [iv a,iv b,none,none] rfl (aw (bP (an rfl rfl (congrArg some (beq_eq_false_iff_ne.mpr hb))) rfl
   (aw (aL (an (x:= .int b) (y:= .int 0) rfl rfl (congrArg some (decide_eq_true hb0))) rfl
   (fh (aj (aR rfl rfl) (pI C hk s1 (Int.neg_pos_of_neg hb0) s2)) (aA (bH (aR rfl rfl)))))))))
theorem zJ {k:Nat} {p:Nat}:FF G fns spn2 sp2 (k+1) "in_table_b1" [.str ⟨#[p]⟩]=some (.bool (b1L.contains (p:Int))) :=
 a8 rfl C.f6 rfl (au [some (.str ⟨#[p]⟩,false)] rfl (aA (vz (i:=(p:Int)) rfl C.b1)))
noncomputable def b3v (b3L:List (Int×Str)) (p:Nat):Str:=(b3L.lookup (p:Int)).elim (Txt.lower ⟨#[p]⟩) id
theorem ze {F:FEnv} {p:Nat}:∀ {o:Option Str},b3L.lookup (p:Int)=o→run G F 2 s_map_table_b3 [.str ⟨#[p]⟩]=some (.str (o.elim (Txt.lower ⟨#[p]⟩) id))
 |none,h=>au [some (.str ⟨#[p]⟩,false),none] rfl (aG (d:= .none) ((kX (x:= .none) (i:=(p:Int)) rfl rfl C.b3 rfl).trans (by rw [h];rfl)) (be (x:= .bool false) rfl rfl (aS (aA rfl))))
 |some v,h=>au [some (.str ⟨#[p]⟩,false),none] rfl (aG (d:= .str v) ((kX (x:= .none) (i:=(p:Int)) rfl rfl C.b3 rfl).trans (by rw [h];rfl)) (aw (aL (x:= .bool true) rfl rfl (aw (aX (a:=(.str v,false)) rfl rfl)))))
theorem zu {k:Nat} {p:Nat}:FF G fns spn2 sp2 (k+1) "map_table_b3" [.str ⟨#[p]⟩]=some (.str (b3v b3L p)):=a8 rfl C.f7 rfl (ze C rfl)
noncomputable def unseen:List Int:=[173,847,6150,6155,6156,6157,8203,8204,8205,8288,65279,65024,65025,65026,65027,65028,65029,65030,65031,65032,65033,65034,65035,65036,65037,65038,65039]
theorem jg {k:Nat}:FF G fns spn2 sp2 (k+1) "_law_unseen" []=some (.list (unseen.map .int)):=a8 rfl C.f8 rfl rfl
end
end Mine
set_option genSizeOf false
set_option genInjectivity false
namespace Mine
noncomputable def pfName (i:Nat):Str:=(flagN.lookup ((2:Int) ^ i)).elim (hexS ((2:Int) ^ i)) id
noncomputable def pfl:Nat→Nat→Nat→List Str×Int×Bool
 |0,i,h=>([],(2:Int) ^ i * (h:Int),false)
 |n+1,i,h=>if h % 2=1 then (if h / 2=0 then ([pfName i],0,true) else (pfName i :: (pfl n (i+1) (h / 2)).1,(pfl n (i+1) (h / 2)).2)) else pfl n (i+1) (h / 2)
noncomputable def pf (h:Nat):List Str:=(pfl 32 0 h).1++cond (pfl 32 0 h).2.2 [] [hexS (pfl 32 0 h).2.1]
theorem mS (i k:Nat):(2:Int) ^ i * (k:Int)=((2 ^ i * k:Nat):Int):=by push_cast;rfl
theorem eb (a c:Nat):Builtin.bitAnd (a:Int) (c:Int)=((a &&& c:Nat):Int):=by
 unfold Builtin.bitAnd
 rw [decide_eq_true (Int.natCast_nonneg _),decide_eq_true (Int.natCast_nonneg _)];rfl
theorem iu (i h:Nat):Builtin.bitAnd ((2:Int) ^ i * (h:Int)) ((2:Int) ^ i)=(2:Int) ^ i * ((h % 2:Nat):Int):=by
 rw [mS,mS,show ((2:Int) ^ i)=((2 ^ i:Nat):Int) from (Int.natCast_pow 2 i).symm,eb]
 congr 1
 have h1:2 ^ i * h=h <<< i:=by rw [Nat.shiftLeft_eq,Nat.mul_comm]
 have h2:2 ^ i=1 <<< i:=by rw [Nat.shiftLeft_eq,Nat.one_mul]
 have h3:2 ^ i * (h % 2)=(h % 2) <<< i:=by rw [Nat.shiftLeft_eq,Nat.mul_comm]
 rw [h1,h3,h2,← Nat.shiftLeft_and_distrib,Nat.and_one_is_mod]
theorem ue {h:Nat} (ho:h % 2=1):(h:Int)=2 * ((h / 2:Nat):Int)+1:=by omega
theorem qU {h:Nat} (ho:¬ h % 2=1):h % 2=0∧(2:Int) * ((h / 2:Nat):Int)=(h:Int):=by omega
theorem yh (p a:Int):p * (2 * a+1)+p - 2 * p=p * 2 * a:=by
 rw [Int.mul_add,Int.mul_one,← Int.mul_assoc];omega
theorem xy (i h:Nat) (ho:h % 2=1):Builtin.bitXor ((2:Int) ^ i * (h:Int)) ((2:Int) ^ i)=(2:Int) ^ (i+1) * ((h / 2:Nat):Int):=by
 rw [bitXor_and,iu,ho,Int.pow_succ,ue ho,show ((1:Nat):Int)=1 from rfl,Int.mul_one]
 exact yh _ _
noncomputable def pfBody:S:=(.seq (.asg 3 false (.bin .LShift (.cst (.int 1)) (.var 2))) (.seq (.ifs (.bin .BitAnd (.var 0) (.var 3)) (.seq (.app 1 (.dget "COMPILER_FLAG_NAMES" (.var 3) (.blt .hex (.cons (.var 3) .nil)))) (.seq (.aug 0 .BitXor (.var 3)) (.seq (.ifs (.un .Not (.var 0)) (.seq .brk .skip) .skip) .skip))) .skip) .skip))
theorem oU {i:Nat} (h:i≤31):((2:Int) ^ i).natAbs<18446744073709551616:=by
 rw [Int.natAbs_pow]
 exact Nat.lt_of_le_of_lt (Nat.pow_le_pow_right (by decide) h) (by decide)
theorem sQ (o:Option Str) (x:Str):o.elim (D.str x) .str = .str (o.elim x id):=by
 cases o with
 |none=>rfl
 |some _=>rfl
section
variable {G:af} {F:FEnv} {X:Int} {i:Nat} {ns:List D} {x2 x3:Option (D×Bool)}
theorem qY (hi:i≤31) {σ:MEnv} {b:Bool} (h:ev G F σ true (.var 2)=some (.int (i:Int))):ev G F σ b (.bin .LShift (.cst (.int 1)) (.var 2))=some (.int ((2:Int) ^ i)):=by
 have:=u0 (a:=1) (n:=i) (eA (by decide)) (Nat.le_trans hi (by decide))
 rw [Int.one_mul] at this
 exact ag rfl h this
theorem zt (hi:i≤31) (h:Builtin.bitAnd X ((2:Int) ^ i)=0):bodyT G F [2] true pfBody [iv X,some (.list ns,true),x2,x3] (.int (i:Int))=some ([iv X,some (.list ns,true),iv i,iv ((2:Int) ^ i)],.next) :=
 ad (a:=[iv X,some (.list ns,true),iv i,x3]) rfl (aG (qY hi rfl) (be (x:= .int 0) (ag (x:= .int X) (y:= .int ((2:Int) ^ i)) rfl rfl (congrArg (some ∘ D.int) h)) rfl (aS rfl)))
theorem xL (hG:G.idict "COMPILER_FLAG_NAMES"=some flagN) (hi:i≤31) (hn:ns.length≤31) {Z Y:Int} (h:Builtin.bitAnd X ((2:Int) ^ i)=Z) (hz:(Z==0)=false) (hx:Builtin.bitXor X ((2:Int) ^ i)=Y) {o:Out}
  (k:ex G F [iv Y,some (.list (ns++[.str (pfName i)]),true),iv i,iv ((2:Int) ^ i)] (.seq (.ifs (.un .Not (.var 0)) (.seq .brk .skip) .skip) .skip)=some ([iv Y,some (.list (ns++[.str (pfName i)]),true),iv i,iv ((2:Int) ^ i)],o)) :
  bodyT G F [2] true pfBody [iv X,some (.list ns,true),x2,x3] (.int (i:Int))=some ([iv Y,some (.list (ns++[.str (pfName i)]),true),iv i,iv ((2:Int) ^ i)],o):=by
 have e:ev G F [iv X,some (.list ns,true),iv i,iv ((2:Int) ^ i)] false (.dget "COMPILER_FLAG_NAMES" (.var 3) (.blt .hex (.cons (.var 3) .nil)))=some (.str (pfName i)) :=
  (kX (x:= .str (hexS ((2:Int) ^ i))) (i:=(2:Int) ^ i) rfl (aU (aC rfl) (uL (oU hi))) hG rfl).trans (congrArg some (sQ _ _))
 refine ad (a:=[iv X,some (.list ns,true),iv i,x3]) rfl (aG (qY hi rfl) (ad (a:=([iv Y,some (.list (ns++[.str (pfName i)]),true),iv i,iv ((2:Int) ^ i)],o)) ?_ ?_))
 ·refine aL (x:= .int Z) (ag (x:= .int X) (y:= .int ((2:Int) ^ i)) rfl rfl (congrArg (some ∘ D.int) h)) (by show some (!(Z==0))=_;rw [hz];rfl) ?_
  exact jE rfl (am (Nat.le_trans hn (by decide))) e (ao (lx (m:=X) rfl rfl rfl (congrArg (some ∘ D.int) hx)) k)
 ·cases o with
  |next=>rfl
  |_=>rfl
end
theorem xB {G:af} {F:FEnv} {Y:Int} {x1 x2 x3:Option (D×Bool)} {o:Out} (h:cond (Y==0) .brk .next=o):ex G F [iv Y,x1,x2,x3] (.seq (.ifs (.un .Not (.var 0)) (.seq .brk .skip) .skip) .skip)=some ([iv Y,x1,x2,x3],o):=by
 subst h
 cases e:Y==0 with
 |true=>exact wu (aL (x:= .bool true) (om (x:= .int Y) rfl (aX rfl (by rw [e];rfl))) rfl rfl)
 |false=>exact ao (bP (x:= .bool false) (om (x:= .int Y) rfl (aX rfl (by rw [e];rfl))) rfl rfl) rfl
theorem yN {h i:Nat}:((2:Int) ^ (i+1) * ((h / 2:Nat):Int)==0)=decide (h / 2=0):=by
 by_cases q:h / 2=0
 ·rw [decide_eq_true q,q,show ((0:Nat):Int)=0 from rfl,Int.mul_zero];rfl
 ·rw [decide_eq_false q,beq_eq_false_iff_ne]
  exact Int.ne_of_gt (Int.mul_pos (a7 _) (Int.natCast_pos.mpr (Nat.pos_of_ne_zero q)))
theorem io {G:af} {F:FEnv} (hG:G.idict "COMPILER_FLAG_NAMES"=some flagN):∀ (n i h:Nat) (ns:List Str) (x2 x3:Option (D×Bool)),i+n≤32→ns.length≤i →
  ∃ x2' x3',loopL (bodyT G F [2] true pfBody) [iv ((2:Int) ^ i * (h:Int)),some (.list (ns.map .str),true),x2,x3] (rangeD (i:Int) n) =
   some ([iv (pfl n i h).2.1,some (.list ((ns++(pfl n i h).1).map .str),true),x2',x3'],cond (pfl n i h).2.2 .brk .next)
 |0,i,h,ns,x2,x3,hi,hn=>⟨x2,x3,by rw [show (pfl 0 i h).1=[] from rfl,List.append_nil];rfl⟩
 |n+1,i,h,ns,x2,x3,hi,hn=>by
  have hi1:i+1+n≤32:=Nat.le_trans (Nat.le_of_eq (Nat.succ_add_eq_add_succ i n)) hi
  have hi31:i≤31:=Nat.le_of_succ_le_succ (Nat.le_trans (Nat.le_add_right _ _) hi1)
  have hn1:(ns++[pfName i]).length≤i+1:=by rw [List.length_append];exact Nat.succ_le_succ hn
  show ∃ x2' x3',loopL _ _ (D.int (i:Int) :: rangeD ((i+1:Nat):Int) n)=_
  by_cases ho:h % 2=1
  ·have hz:((2:Int) ^ i * ((h % 2:Nat):Int)==0)=false:=by rw [ho];exact beq_eq_false_iff_ne.mpr (Int.ne_of_gt (Int.mul_pos (a7 i) (by decide)))
   have ht:=fun {o:Out} (k:cond (decide (h / 2=0)) .brk .next=o)=>xL (F:=F) (x2:=x2) (x3:=x3) (ns:=ns.map .str) hG hi31 (by rw [List.length_map];exact Nat.le_trans hn hi31) (iu i h) hz (xy i h ho) (xB ((congrArg (fun c=>cond c Out.brk Out.next) yN).trans k))
   rw [show ns.map D.str++[.str (pfName i)]=(ns++[pfName i]).map .str by rw [List.map_append];rfl] at ht
   by_cases hz:h / 2=0
   ·refine ⟨iv i,iv ((2:Int) ^ i),(qp (ht (by rw [decide_eq_true hz];rfl))).trans ?_⟩
    rw [pfl,if_pos ho,if_pos hz,hz,show ((0:Nat):Int)=0 from rfl,Int.mul_zero];rfl
   ·obtain ⟨y2,y3,ih⟩:=io hG n (i+1) (h / 2) (ns++[pfName i]) (iv i) (iv ((2:Int) ^ i)) hi1 hn1
    refine ⟨y2,y3,aW (ht (by rw [decide_eq_false hz];rfl)) (ih.trans ?_)⟩
    rw [pfl,if_pos ho,if_neg hz,List.append_assoc];rfl
  ·obtain ⟨h0,h2⟩:=qU ho
   have hh:(2:Int) ^ (i+1) * ((h / 2:Nat):Int)=(2:Int) ^ i * (h:Int):=by rw [Int.pow_succ,Int.mul_assoc,h2]
   obtain ⟨y2,y3,ih⟩:=io hG n (i+1) (h / 2) ns (iv i) (iv ((2:Int) ^ i)) hi1 (Nat.le_succ_of_le hn)
   rw [hh] at ih
   refine ⟨y2,y3,aW (zt hi31 (by rw [iu,h0];exact Int.mul_zero _)) (ih.trans ?_)⟩
   rw [pfl,if_neg ho]
theorem mP:∀ (n i h:Nat),(pfl n i h).1.length≤n
 |0,i,h=>Nat.le_refl 0
 |n+1,i,h=>by
  have:=mP n (i+1) (h / 2)
  rw [pfl]
  by_cases h1:h % 2=1
  ·rw [if_pos h1]
   by_cases h2:h / 2=0
   ·rw [if_pos h2];exact Nat.succ_le_succ (Nat.zero_le n)
   ·rw [if_neg h2];exact Nat.succ_le_succ this
  ·rw [if_neg h1];exact Nat.le_succ_of_le this
theorem yt {G:af} {F:FEnv} (hG:G.idict "COMPILER_FLAG_NAMES"=some flagN) {h:Nat} (hrem:(pfl 32 0 h).2.1.natAbs<18446744073709551616) (hsz:sizeOk (2 * (pf h).length+((pf h).map (·.length)).sum)=true) :
  run G F 4 s_pretty_flags [.int (h:Int)]=some (.str (Txt.join ", " (pf h))):=by
 obtain ⟨x2,x3,hl⟩:=io (F:=F) hG 32 0 h [] none none (by decide) (by decide)
 rw [show (2:Int) ^ 0 * (h:Int)=(h:Int) from Int.one_mul _,List.nil_append] at hl
 have hlen:=mP 32 0 h
 have hfin:∀ fl,ex G F [iv fl,some (.list ((pf h).map .str),true),x2,x3] (.seq (.ret (.meth .join (.cst (.str ", ")) (.cons (.var 1) .nil))) .skip)=some ([iv fl,some (.list ((pf h).map .str),true),x2,x3],.ret (.str (Txt.join ", " (pf h)))):=fun fl =>
  aA (bi (x:= .str ", ") (ds:=[.list ((pf h).map .str)]) rfl rfl (qS hsz))
 have hI:evI G F [iv h,some (.list [],true),none,none] false .range1 (.cst (.int 32)) .nil=some (rangeD 0 32):=rfl
 unfold pf at hfin ⊢
 generalize pfl 32 0 h=P at *
 obtain ⟨ns,fl,bk⟩:=P
 cases bk with
 |true =>
  rw [show ns++cond true [] [hexS fl]=ns from List.append_nil _] at hfin ⊢
  exact au [iv h,none,none,none] rfl (eU (d:= .list []) rfl rfl (xV rfl hI hl (hfin fl)))
 |false =>
  have he:ex G F [iv fl,some (.list (ns.map .str),true),x2,x3] (.seq (.app 1 (.blt .hex (.cons (.var 0) .nil))) .skip)=some ([iv fl,some (.list ((ns++cond false [] [hexS fl]).map .str),true),x2,x3],.next) :=
   jE (xs:=ns.map D.str) rfl (am (by rw [List.length_map];exact Nat.le_trans hlen (by decide))) (aU (aC rfl) (uL hrem)) (by rw [List.map_append];rfl)
  exact au [iv h,none,none,none] rfl (eU (d:= .list []) rfl rfl (yG rfl hI hl he (hfin fl)))
end Mine
set_option genSizeOf false
set_option genInjectivity false
namespace Mine
open PySem.StrLaws PySem.Builtin PySem.Builtin.Str
noncomputable def mk (l:List Nat):PySem.Str:=⟨l.toArray⟩
theorem aB (l:List Nat):(mk l).length=l.length:=List.size_toArray
theorem bV (l:List Nat):(mk l).cps.toList=l:=rfl
theorem xS (x:PySem.Str):mk x.cps.toList=x:=congrArg PySem.Str.mk (Array.toArray_toList)
theorem ul (x:PySem.Str):x.cps.toList.length=x.length:=Array.length_toList
theorem yZ {a b:List Nat} (h:mk a=mk b):a=b:=congrArg (fun x:PySem.Str=>x.cps.toList) h
theorem pt (a b:List Nat):(mk a==mk b)=(a==b):=by
 by_cases h:a=b
 ·rw [h,beq_self_eq_true,beq_self_eq_true]
 ·rw [beq_eq_false_iff_ne.mpr h,beq_eq_false_iff_ne.mpr fun q=>h (yZ q)]
noncomputable def dots:List Nat:=[46,46,46]
theorem ec:("...":PySem.Str)=mk dots:=by decide
noncomputable def joinL:List (List Nat)→List Nat
 | []=>[]
 | [p]=>p
 |p :: q :: r=>p++dots++joinL (q :: r)
theorem fc (x:PySem.Str) (l:List Nat) (hi i:Nat):StrLaws.At x (mk l) hi i↔i+l.length≤hi∧(x.cps.toList.drop i).take l.length=l:=by
 unfold StrLaws.At
 rw [aB,subAt_eq,aB,bV,beq_iff_eq]
theorem rj {x:PySem.Str} {i:Nat} (h:StrLaws.At x (mk dots) x.length i):x.cps.toList[i]? = some 46:=by
 have h2:=((fc x dots x.length i).mp h).2
 have h3:((x.cps.toList.drop i).take 3)[0]? = some 46:=congrArg (fun l:List Nat=>l[0]?) h2
 rw [List.getElem?_take,if_pos (by decide),List.getElem?_drop] at h3
 exact h3
theorem q8 {x:PySem.Str} {a k:Nat} {p r:List Nat} (hd:46∉p) (hx:x.cps.toList.drop a=p++r) (h1:a≤k) (h2:k<a+p.length):¬ StrLaws.At x (mk dots) x.length k:=fun hk=>by
 have h3:=rj hk
 have e:(x.cps.toList.drop a)[k - a]? = some 46:=by rw [List.getElem?_drop,Nat.add_sub_cancel' h1];exact h3
 rw [hx,List.getElem?_append_left (Nat.sub_lt_left_of_lt_add h1 h2)] at e
 exact hd (List.mem_of_getElem? e)
theorem kr {x:PySem.Str} {a:Nat} {p r:List Nat} (hx:x.cps.toList.drop a=p++r):strSub x a (a+p.length)=mk p:=by
 rw [← xS (strSub x a (a+p.length)),strSub_toList,hx,Nat.add_sub_cancel_left,List.take_left]
theorem kP {x:PySem.Str} {a:Nat} {p:List Nat} (hx:x.cps.toList.drop a=p) (ha:a≤x.length):x.length=a+p.length:=by
 rw [← hx,List.length_drop,ul,Nat.add_sub_cancel' ha]
theorem gT (x:PySem.Str):∀ (ps:List (List Nat)) (a:Nat) (cuts:List Nat) (f:Nat),ps≠[]→(∀ p∈ps,46∉p)→x.cps.toList.drop a=joinL ps→a≤x.length→ChainG x (mk dots) x.length a cuts f→(∀ k,f≤k→¬ StrLaws.At x (mk dots) x.length k)→partsFrom x 3 a cuts=ps.map mk
 | [],_,_,_,h,_,_,_,_,_=>absurd rfl h
 | [p],a,cuts,f,_,hd,hx,ha,hc,hn=>by
  have hx':x.cps.toList.drop a=p++[]:=hx.trans (List.append_nil p).symm
  have hl:=kP (p:=p) hx ha
  cases cuts with
  |nil=>exact congrArg (· :: []) ((congrArg (strSub x a) hl).trans (kr hx'))
  |cons c r =>
   have lt:c<a+p.length:=Nat.lt_of_lt_of_le (Nat.lt_add_of_pos_right (by decide)) (hl▸((fc x dots x.length c).mp hc.2.1).1)
   exact absurd hc.2.1 (q8 (hd p List.mem_cons_self) hx' hc.1 lt)
 |p :: q :: r,a,cuts,f,_,hd,hx,ha,hc,hn=>by
  have hx':x.cps.toList.drop a=p++(dots++joinL (q :: r)):=hx.trans (List.append_assoc p dots _)
  have hlen:x.length=a+p.length+(3+(joinL (q :: r)).length):=by
   rw [kP hx' ha,List.length_append,List.length_append,Nat.add_assoc];rfl
  have hdrop:x.cps.toList.drop (a+p.length)=dots++joinL (q :: r):=by rw [← List.drop_drop,hx',List.drop_left]
  have hA:StrLaws.At x (mk dots) x.length (a+p.length):=by
   rw [fc,hdrop,hlen]
   exact ⟨Nat.add_le_add_left (Nat.le_add_right 3 _) _,List.take_left⟩
  have hno:=fun k h1 h2=>q8 (k:=k) (hd p List.mem_cons_self) hx' h1 h2
  cases cuts with
  |nil =>
   obtain rfl:f=a:=hc
   exact absurd hA (hn _ (Nat.le_add_right _ _))
  |cons c rest =>
   obtain ⟨c1,c2,c3,c4⟩:=hc
   obtain rfl:c=a+p.length:=Nat.le_antisymm (Nat.not_lt.mp fun h=>c3 _ (Nat.le_add_right _ _) h hA) (Nat.not_lt.mp fun h=>hno c c1 h c2)
   have hnext:x.cps.toList.drop (a+p.length+3)=joinL (q :: r):=by
    rw [← List.drop_drop,hdrop];exact List.drop_left (l₁:=dots)
   have ih:=gT x (q :: r) (a+p.length+3) rest f (List.cons_ne_nil _ _) (fun p' hp'=>hd p' (List.mem_cons_of_mem _ hp')) hnext (by rw [hlen];exact Nat.add_le_add_left (Nat.le_add_right 3 _) _) (by rw [aB] at c4;exact c4) hn
   show strSub x a (a+p.length) :: partsFrom x 3 (a+p.length+3) rest=_
   rw [ih,kr hx'];rfl
theorem ug (x:PySem.Str):1≤PySem.Builtin.Str.strKind x:=by
 unfold PySem.Builtin.Str.strKind
 split
 ·exact Nat.le_refl 1
 ·split
  ·decide
  ·decide
theorem zN (x:PySem.Str):decide (PySem.Builtin.Str.strKind x<PySem.Builtin.Str.strKind (mk dots))=false:=by
 rw [show PySem.Builtin.Str.strKind (mk dots)=1 from by decide +kernel]
 exact decide_eq_false (Nat.not_lt.mpr (ug x))
theorem jt (p q:List Nat) (r:List (List Nat)):3+p.length≤(joinL (p :: q :: r)).length:=by
 show _≤(p++dots++joinL (q :: r)).length
 rw [List.length_append,List.length_append,Nat.add_comm 3]
 exact Nat.le_add_right _ _
theorem gN {ps:List (List Nat)} (h:ps≠[]) (hd:∀ p∈ps,46∉p):Txt.split (mk (joinL ps)) (mk dots)=ps.map mk:=by
 obtain ⟨f,hc,hn⟩:=occ_tight (mk (joinL ps)) (mk dots) (by rw [aB];decide)
 have hp:=gT (mk (joinL ps)) ps 0 _ f h hd rfl (Nat.zero_le _) hc hn
 unfold Txt.split
 rw [zN,Bool.or_false,partsBetween_eq,aB dots,show dots.length=3 from rfl]
 by_cases hs:decide ((mk (joinL ps)).length<3)=true
 ·rw [if_pos hs]
  have hs:=of_decide_eq_true hs
  cases ps with
  |nil=>exact absurd rfl h
  |cons p r =>
   cases r with
   |nil=>rfl
   |cons q r=>exact absurd (Nat.le_trans (Nat.le_add_right _ _) (jt p q r)) (Nat.not_le.mpr (aB _▸hs))
 ·rw [if_neg hs]
  by_cases he:(occurrences (mk (joinL ps)) (mk dots) 0 (mk (joinL ps)).length ((mk (joinL ps)).length+1)).isEmpty=true
  ·rw [if_pos he]
   rw [List.isEmpty_iff.mp he] at hp
   rw [← hp]
   exact congrArg (· :: []) (kr (x:=mk (joinL ps)) (a:=0) (p:=joinL ps) (r:=[]) (List.append_nil _).symm |>.symm.trans (by rw [Nat.zero_add,aB]))
  ·rw [if_neg he];exact hp
theorem vx {ps:List (List Nat)} (h:ps≠[]) (hd:∀ p∈ps,46∉p):strIn (mk dots) (mk (joinL ps))=decide (2≤ps.length):=by
 unfold strIn
 rcases occ_head (mk (joinL ps)) (mk dots) 1 (Nat.le_refl _) with ⟨h0,hn⟩ |⟨i,r,h0,ha,_⟩
 ·rw [h0]
  cases ps with
  |nil=>exact absurd rfl h
  |cons p r =>
   cases r with
   |nil=>rfl
   |cons q r =>
    refine absurd ?_ (hn p.length)
    rw [fc,aB]
    refine ⟨by rw [Nat.add_comm];exact jt p q r,?_⟩
    show ((p++dots++joinL (q :: r)).drop p.length).take 3=dots
    rw [List.append_assoc,List.drop_left];exact List.take_left (l₁:=dots)
 ·rw [h0]
  cases ps with
  |nil=>exact absurd rfl h
  |cons p q =>
   cases q with
   |nil=>exact absurd (List.mem_of_getElem? (rj ha)) (hd p List.mem_cons_self)
   |cons q r=>exact (decide_eq_true (Nat.le_add_left 2 _)).symm
noncomputable def isAt (t w:List Nat) (i:Nat):Bool:=decide (i+w.length≤t.length)&&(t.drop i).take w.length==w
theorem qq (t w:List Nat):Txt.startswith (mk t) (mk w)=isAt t w 0:=by
 unfold Txt.startswith isAt
 rw [subAt_eq,aB,aB,bV,bV]
theorem wj (t w:List Nat):Txt.endswith (mk t) (mk w)=(decide (w.length≤t.length)&&isAt t w (t.length - w.length)):=by
 unfold Txt.endswith isAt
 rw [subAt_eq,aB,aB,bV,bV,Nat.zero_add]
 by_cases h:w.length≤t.length
 ·rw [decide_eq_true h,Nat.sub_add_cancel h,decide_eq_true (Nat.le_refl _)];rfl
 ·rw [decide_eq_false h];rfl
noncomputable def fitP (t w:List Nat) (hi i:Nat):Bool:=decide (i+w.length≤hi)&&((t.drop i).take w.length==w)
noncomputable def findL (t w:List Nat) (lo hi:Nat):Option Nat:=(List.range' lo (hi+1 - lo)).find? (fitP t w hi)
theorem jO (t w:List Nat) (hi i:Nat):StrLaws.At (mk t) (mk w) hi i↔fitP t w hi i=true:=by
 unfold fitP
 rw [fc,bV,Bool.and_eq_true,decide_eq_true_eq,beq_iff_eq]
noncomputable def fndI (o:Option Nat):Int:=match o with |some i=>(i:Int) |none=> -1
theorem tU {arr:Array Nat} {a:Nat} (h:arr[0]? = some a):∃ r,arr.toList=a :: r:=by
 rw [← Array.getElem?_toList] at h
 cases e:arr.toList with
 |nil=>rw [e] at h;exact nomatch h
 |cons b r=>rw [e] at h;exact ⟨r,by rw [sm h]⟩
theorem wJ (t w:List Nat) (lo hi:Nat) (h:hi≤t.length) (hs:hi<4611686018427387904) (hl:lo<4611686018427387904):findIn (mk t) (mk w) (lo:Int) (hi:Int)=some (fndI (findL t w lo hi)):=by
 refine aq (c:=(idxOk (lo:Int)&&idxOk (hi:Int)&&decide (0≤(lo:Int))&&decide (0≤(hi:Int)))=true) ?_ (congrArg some ?_)
 ·rw [show idxOk (lo:Int)=true from decide_eq_true hl,show idxOk (hi:Int)=true from decide_eq_true hs,decide_eq_true (Int.natCast_nonneg lo),decide_eq_true (Int.natCast_nonneg hi)];rfl
 rw [aB,Int.toNat_natCast,Int.toNat_natCast,Nat.min_eq_left h,occ_eq]
 rcases occ_first (mk t) (mk w) hi 1 (Nat.le_refl _) (List.range' lo (hi+1 - lo)) lo (fun i hi=>(List.mem_range'_1.mp hi).1) with ⟨h0,hn⟩ |⟨pre,a,post,e,h0,ha,hn⟩
 ·rw [h0,show findL t w lo hi=none from List.find?_eq_none.mpr fun i hi' hq=>hn i hi' ((jO t w hi i).mpr hq)];rfl
 ·have:findL t w lo hi=some a:=by
   unfold findL
   rw [e,List.find?_append,List.find?_eq_none.mpr fun i hi' hq=>hn i hi' ((jO t w hi i).mpr hq),List.find?_cons,(jO t w hi a).mp ha];rfl
  obtain ⟨r,er⟩:=tU h0
  rw [this,er];rfl
noncomputable def midL (t:List Nat):List (List Nat)→Nat→Nat→Bool
 | [],_,_=>true
 |w :: ws,lo,hi=>match findL t w lo hi with
  |some i=>midL t ws (i+w.length) hi
  |none=>false
noncomputable def tailL (t:List Nat) (ws:List (List Nat)) (lo:Nat):Bool :=
 if (ws.getLastD []).isEmpty then (if t.length<lo then false else midL t ws lo t.length)
 else if decide ((ws.getLastD []).length≤t.length)&&isAt t (ws.getLastD []) (t.length - (ws.getLastD []).length) then
  (if t.length - (ws.getLastD []).length<lo then false else midL t ws.dropLast lo (t.length - (ws.getLastD []).length))
 else false
noncomputable def emL:List (List Nat)→List Nat→Bool
 | [],_=>false
 | [w],t=>w==t
 |p :: q :: r,t=>if p.isEmpty then tailL t (p :: q :: r) 0 else if isAt t p 0 then tailL t (q :: r) p.length else false
end Mine
set_option genSizeOf false
set_option genInjectivity false
namespace Mine
noncomputable def emBody:S:=(.seq (.asg 3 false (.meth .find3 (.var 1) (.cons (.var 5) (.cons (.var 3) (.cons (.var 4) .nil))))) <|
  (.seq (.ifs (.cmp .Lt (.var 3) (.cst (.int 0))) (.seq (.ret (.cst (.bool false))) <|
   .skip) .skip) <|
  (.seq (.aug 3 .Add (.blt .len (.cons (.var 5) .nil))) <|
  .skip)))
noncomputable def emTail:S:=(.seq (.fors [5] true .plain (.var 2) .nil emBody .skip)<|(.seq (.ret (.cst (.bool true))) <| .skip))
noncomputable def emMid:S:=(.seq (.asg 5 false (.idx (.var 2) (.un .USub (.cst (.int 1))))) <|
 (.seq (.ifs (.var 5) (.seq (.ifs (.meth .endswith (.var 1) (.cons (.var 5) .nil)) (.seq (.aug 4 .Sub (.blt .len (.cons (.var 5) .nil))) <|
   (.seq (.del 2 (.un .USub (.cst (.int 1)))) <|
   .skip)) (.seq (.ret (.cst (.bool false))) <|
   .skip)) <|
  .skip) .skip) <|
 (.seq (.ifs (.cmp .Gt (.var 3) (.var 4)) (.seq (.ret (.cst (.bool false))) <|
  .skip) .skip)<|emTail)))
noncomputable abbrev sv (x:Str):Option (D×Bool):=some (.str x,false)
noncomputable def wsD (ws:List (List Nat)):List D:=ws.map fun w=> .str (mk w)
theorem b8 {w:List Nat} (h:w.length≤1000):sizeOk (mk w).length=true:=by
 rw [aB];exact am (Nat.le_trans h (by decide))
theorem fM {ws:List (List Nat)} (h:ws.length≤100):sizeOk (wsD ws).length=true:=am (by unfold wsD;rw [List.length_map];exact Nat.le_trans h (by decide))
section
variable {G:af} {F:FEnv} {x0 x2 x5:Option (D×Bool)} {t:List Nat}
noncomputable def fndZ (o:Option Nat):Int:=o.elim (-1) fun i=>(i:Int)
theorem xR {t w:List Nat} {lo hi:Nat} (h:hi≤t.length) (ht:t.length≤1000) (hl:lo≤1000000):methD .find3 (.str (mk t)) [.str (mk w),.int (lo:Int),.int (hi:Int)]=some (.int (fndZ (findL t w lo hi))):=by
 show (findIn (mk t) (mk w) (lo:Int) (hi:Int)).map D.int=_
 rw [wJ t w lo hi h (Nat.lt_of_le_of_lt (Nat.le_trans h ht) (by decide)) (Nat.lt_of_le_of_lt hl (by decide))]
 cases findL t w lo hi with
 |none=>rfl
 |some _=>rfl
theorem zI {T W:Str} {lo hi:Int} (hf:methD .find3 (.str T) [.str W,.int lo,.int hi]=some (.int (-1))) :
  bodyT G F [5] true emBody [x0,sv T,x2,iv lo,iv hi,x5] (.str W)=some ([x0,sv T,x2,iv (-1),iv hi,sv W],.ret (.bool false)) :=
 ad (a:=[x0,sv T,x2,iv lo,iv hi,sv W]) rfl (aG (bi (ab rfl) (dY rfl rfl rfl) hf) (aw (aL (x:= .bool true) rfl rfl (aA rfl))))
theorem yW {T W:Str} {lo hi:Int} {i n:Nat} (hf:methD .find3 (.str T) [.str W,.int lo,.int hi]=some (.int (i:Int))) (hs:sizeOk W.length=true) (hn:W.length=n) :
  bodyT G F [5] true emBody [x0,sv T,x2,iv lo,iv hi,x5] (.str W)=some ([x0,sv T,x2,iv ((i+n:Nat):Int),iv hi,sv W],.next):=by
 subst hn
 exact ad (a:=[x0,sv T,x2,iv lo,iv hi,sv W]) rfl (aG (bi (ab rfl) (dY rfl rfl rfl) hf) (be (x:= .bool false) (an (x:= .int (i:Int)) (y:= .int 0) rfl rfl (congrArg some (decide_eq_false (Int.not_lt.mpr (Int.natCast_nonneg i))))) rfl (aS
  (ao (lx (m:=(i:Int)) (n:=(W.length:Int)) rfl (aU (aC rfl) (aq hs rfl)) rfl rfl) rfl))))
theorem wg {w:List Nat} {lo hi i:Nat} (h:findL t w lo hi=some i):i+w.length≤hi:=aa (List.find?_some h :) fun h1 _=>de h1
theorem mZ:∀ (ws:List (List Nat)) (lo hi:Nat) (x5:Option (D×Bool)),(∀ w∈ws,w.length≤1000)→hi≤t.length→t.length≤1000→lo≤1000 →
  ∃ y3 y5,loopL (bodyT G F [5] true emBody) [x0,sv (mk t),x2,iv lo,iv hi,x5] (wsD ws)=some ([x0,sv (mk t),x2,y3,iv hi,y5],cond (midL t ws lo hi) .next (.ret (.bool false)))
 | [],lo,hi,x5,_,_,_,_=>⟨_,_,rfl⟩
 |w :: ws,lo,hi,x5,hw,hh,ht,hl=>by
  have hf:=xR (w:=w) hh ht (Nat.le_trans hl (by decide))
  cases hc:findL t w lo hi with
  |none =>
   rw [hc] at hf
   refine ⟨iv (-1),sv (mk w),(pK (zI hf)).trans ?_⟩
   rw [midL,hc];rfl
  |some i =>
   rw [hc] at hf
   obtain ⟨y3,y5,ih⟩:=mZ ws (i+w.length) hi (sv (mk w)) (fun w' h'=>hw w' (List.mem_cons_of_mem _ h')) hh ht (Nat.le_trans (wg hc) (Nat.le_trans hh ht))
   refine ⟨y3,y5,aW (yW hf (b8 (hw w List.mem_cons_self)) (aB w)) (ih.trans ?_)⟩
   rw [midL,hc]
theorem xe {ws:List (List Nat)} {lo hi:Nat} {b2:Bool} (hw:∀ w∈ws,w.length≤1000) (hn:ws.length≤100) (hh:hi≤t.length) (ht:t.length≤1000) (hl:lo≤1000) :
  ∃ σ,ex G F [x0,sv (mk t),some (.list (wsD ws),b2),iv lo,iv hi,x5] emTail=some (σ,.ret (.bool (midL t ws lo hi))):=by
 obtain ⟨y3,y5,h⟩:=mZ (G:=G) (F:=F) (x0:=x0) (x2:=some (.list (wsD ws),false)) ws lo hi x5 hw hh ht hl
 have hi':evI G F (freeze [x0,sv (mk t),some (.list (wsD ws),b2),iv lo,iv hi,x5] (.var 2)) false .plain (.var 2) .nil=some (wsD ws):=db (ab rfl) (aq (fM hn) rfl)
 cases hm:midL t ws lo hi with
 |true =>
  rw [hm] at h
  exact ⟨_,fQ rfl hi' h (aA rfl)⟩
 |false =>
  rw [hm] at h
  exact ⟨_,yA rfl hi' h⟩
theorem wK {n:Nat} (h:0<n):0 ≤ -1+(n:Int)∧(-1+(n:Int)).toNat=n - 1:=by omega
theorem pk {ws:List (List Nat)} (h:ws≠[]):idxL (wsD ws) (-1)=some (.str (mk (ws.getLastD []))):=by
 obtain ⟨h1,h2⟩:=wK (List.length_pos_iff.mpr h)
 have hl:(wsD ws).length=ws.length:=List.length_map _
 refine aq (show idxOk (-1)=true from rfl) ((if_neg (by decide)).trans ?_)
 rw [hl,if_pos h1,h2]
 unfold wsD
 rw [List.getElem?_map,← List.getLast?_eq_getElem?,List.getLast?_eq_some_getLast h,List.getLastD_eq_getLast?,List.getLast?_eq_some_getLast h]
 rfl
theorem vn (ws:List (List Nat)):(wsD ws).eraseIdx ((wsD ws).length - 1)=wsD ws.dropLast:=by
 rw [List.eraseIdx_eq_take_drop_succ,List.drop_eq_nil_of_le (Nat.sub_le_iff_le_add.mp (Nat.le_refl _)),List.append_nil,← List.dropLast_eq_take]
 exact List.map_dropLast.symm
theorem u5 {ws:List (List Nat)} {lo hi:Nat} {b2:Bool} (hw:∀ w∈ws,w.length≤1000) (hn:ws.length≤100) (hh:hi≤t.length) (ht:t.length≤1000) (hl:lo≤1000) :
  ∃ σ,ex G F [x0,sv (mk t),some (.list (wsD ws),b2),iv lo,iv hi,x5] (.seq (.ifs (.cmp .Gt (.var 3) (.var 4)) (.seq (.ret (.cst (.bool false))) .skip) .skip) emTail)=some (σ,.ret (.bool (if hi<lo then false else midL t ws lo hi))):=by
 by_cases h:hi<lo
 ·rw [if_pos h]
  exact ⟨_,aw (aL (an (x:= .int (lo:Int)) (y:= .int (hi:Int)) rfl rfl (congrArg some (decide_eq_true (Int.ofNat_lt.mpr h)))) rfl (aA rfl))⟩
 ·rw [if_neg h]
  obtain ⟨σ,e⟩:=xe (G:=G) (F:=F) (x0:=x0) (x5:=x5) (b2:=b2) hw hn hh ht hl
  exact ⟨σ,be (an (x:= .int (lo:Int)) (y:= .int (hi:Int)) rfl rfl (congrArg some (decide_eq_false fun q=>h (Int.ofNat_lt.mp q)))) rfl (aS e)⟩
theorem eG {w:List Nat} (h:w.length≤1000):truthy (.str (mk w))=some (!w.isEmpty):=aq (b8 h) (by
 rw [aB]
 cases w with
 |nil=>rfl
 |cons _ _=>rfl)
theorem po {t w:Nat} (h:w≤t):(t:Int) - (w:Int)=((t - w:Nat):Int):=(Int.ofNat_sub h).symm
theorem rB {ws:List (List Nat)} {lo:Nat} (hne:ws≠[]) (hw:∀ w∈ws,w.length≤1000) (hn:ws.length≤100) (ht:t.length≤1000) (hl:lo≤1000) :
  ∃ σ,ex G F [x0,sv (mk t),some (.list (wsD ws),true),iv lo,iv t.length,x5] emMid=some (σ,.ret (.bool (tailL t ws lo))):=by
 have hlast:=pk hne
 have hm:ws.getLastD []∈ws:=by rw [List.getLastD_eq_getLast?,List.getLast?_eq_some_getLast hne];exact List.getLast_mem hne
 have hwl:=hw _ hm
 unfold tailL
 generalize ws.getLastD []=w at *
 have hidx:ev G F [x0,sv (mk t),some (.list (wsD ws),true),iv lo,iv t.length,x5] false (.idx (.var 2) (.un .USub (.cst (.int 1))))=some (.str (mk w)):=ay (x:= .list (wsD ws)) (y:= .int (-1)) rfl rfl hlast
 cases hz:w.isEmpty with
 |true =>
  rw [if_pos rfl]
  obtain ⟨σ,e⟩:=u5 (G:=G) (F:=F) (x0:=x0) (x5:=sv (mk w)) (b2:=true) hw hn (Nat.le_refl _) ht hl
  exact ⟨σ,aG hidx (be (ab rfl) ((eG hwl).trans (by rw [hz];rfl)) (aS e))⟩
 |false =>
  rw [if_neg (by decide)]
  have htr:truthy (.str (mk w))=some true:=(eG hwl).trans (by rw [hz];rfl)
  have hends:=wj t w
  have hend:ev G F [x0,sv (mk t),some (.list (wsD ws),true),iv lo,iv t.length,sv (mk w)] true (.meth .endswith (.var 1) (.cons (.var 5) .nil))=some (.bool (decide (w.length≤t.length)&&isAt t w (t.length - w.length))):=bi (ab rfl) (aC (ab rfl)) (congrArg (some ∘ D.bool) hends)
  cases he:(decide (w.length≤t.length)&&isAt t w (t.length - w.length)) with
  |false =>
   rw [he] at hend
   rw [if_neg (by decide)]
   exact ⟨_,aG hidx (aw (aL (ab rfl) htr (aw (bP hend rfl (aA rfl)))))⟩
  |true =>
   rw [he] at hend
   rw [if_pos rfl]
   have hle:w.length≤t.length:=aa he fun h _=>de h
   obtain ⟨σ,e⟩:=u5 (G:=G) (F:=F) (x0:=x0) (x5:=sv (mk w)) (b2:=true) (hi:=t.length - w.length) (fun w' h'=>hw w' ((List.dropLast_sublist ws).mem h')) (Nat.le_trans (by rw [List.length_dropLast];exact Nat.sub_le _ _) hn) (Nat.sub_le _ _) ht hl
   refine ⟨σ,aG hidx (ao (aL (ab rfl) htr (ao (aL hend rfl (ao (lx (m:=(t.length:Int)) (n:=(w.length:Int)) rfl (aU (aC (ab rfl)) (aq (b8 hwl) (by rw [aB]))) rfl (congrArg (some ∘ D.int) (po hle))) (ao ?_ rfl))) rfl)) e)⟩
   refine ad (eW rfl (fM hn)) (ad (a:= .int (-1)) rfl (ad (a:= -1) rfl ((if_neg (show ¬ (decide (0≤(-1:Int))&&decide ((-1:Int)<(wsD ws).length))=true from Bool.false_ne_true)).trans (aq (c:=(decide ((-1:Int) = -1)&&decide (0<(wsD ws).length))=true) ?_ (by rw [vn];rfl)))))
   rw [show (wsD ws).length=ws.length from List.length_map _,decide_eq_true (List.length_pos_iff.mpr hne)];rfl
end
end Mine
set_option genSizeOf false
set_option genInjectivity false
namespace Mine
section
variable {G:af} {F:FEnv}
theorem pN {ps:List (List Nat)} (h:ps≠[]) (hd:∀ p∈ps,46∉p):strIn ("...":Str) (mk (joinL ps))=decide (2≤ps.length):=by
 rw [ec];exact vx h hd
theorem lB:∀ (ps:List (List Nat)),(∀ p∈ps,p.length≤1000)→(joinL ps).length≤ps.length * 1003
 | [],_=>Nat.le_refl 0
 | [p],h=>show p.length≤1 * 1003 from Nat.le_trans (h p List.mem_cons_self) (by decide)
 |p :: q :: r,h=>by
  have h1:=h p List.mem_cons_self
  have h2:=lB (q :: r) fun x hx=>h x (List.mem_cons_of_mem _ hx)
  show (p++dots++joinL (q :: r)).length≤_
  rw [List.length_append,List.length_append,List.length_cons,Nat.succ_mul,Nat.add_comm]
  exact Nat.add_le_add h2 (Nat.add_le_add_right h1 3)
theorem mX {ps:List (List Nat)} (hw:∀ p∈ps,p.length≤1000) (hn:ps.length≤100):(joinL ps).length≤1048576:=Nat.le_trans (lB ps hw) (Nat.le_trans (Nat.mul_le_mul_right 1003 hn) (by decide))
theorem iA {x y:Str} (hs:sizeOk x.length=true) (hy:0<y.length):methD .split (.str x) [.str y]=some (.list ((Txt.split x y).map .str)):=if_pos (by rw [hs,decide_eq_true hy];rfl)
theorem xC {G:af} {F:FEnv} {σ:MEnv} {e:T} {d:D} {rest:S} {r:Option (MEnv×Out)} (h:ev G F σ true e=some d) (ht:truthy d=some true) (k:ex G F σ rest=r):ex G F σ (.seq (.asrt e) rest)=r:=ao (ad h (ad ht rfl)) k
theorem yY (hG:G.const "ELLIPSIS_MARKER"=some (.str "...")) {w t:List Nat} (h:strIn ("...":Str) (mk w)=false):run G F 6 s_ellipsis_match [.str (mk w),.str (mk t)]=some (.bool (w==t)) :=
 au [sv (mk w),sv (mk t),none,none,none,none] rfl (aw (aL (x:= .bool true) (an (x:= .str "...") (y:= .str (mk w)) hG rfl (congrArg (fun b=>some (!b)) h)) rfl
  (aA (an (x:= .str (mk w)) (y:= .str (mk t)) rfl rfl (congrArg some (pt w t))))))
theorem ua {W:Str} {p q:List Nat} {r:List (List Nat)} {t:List Nat} (hw:∀ p'∈p :: q :: r,p'.length≤1000) (hn:(p :: q :: r).length≤100) (ht:t.length≤1000) :
  ∃ σ,ex G F [sv W,sv (mk t),some (.list (wsD (p :: q :: r)),true),iv ((0:Nat):Int),iv t.length,sv (mk p)] (.seq (.ifs (.var 5) (.seq (.ifs (.meth .startswith (.var 1) (.cons (.var 5) .nil)) (.seq (.asg 3 false (.blt .len (.cons (.var 5) .nil))) (.seq (.del 2 (.cst (.int 0))) .skip)) (.seq (.ret (.cst (.bool false))) .skip)) .skip) .skip) emMid) =
   some (σ,.ret (.bool (emL (p :: q :: r) t))):=by
 have hp:=hw p List.mem_cons_self
 cases hz:p.isEmpty with
 |true =>
  obtain ⟨σ,h⟩:=rB (G:=G) (F:=F) (x0:=sv W) (x5:=sv (mk p)) (t:=t) (ws:=p :: q :: r) (lo:=0) (List.cons_ne_nil _ _) hw hn ht (by decide)
  refine ⟨σ,be (ab rfl) ((eG hp).trans (by rw [hz];rfl)) (aS (h.trans ?_))⟩
  rw [emL,hz,if_pos rfl]
 |false =>
  have htr:truthy (.str (mk p))=some true:=(eG hp).trans (by rw [hz];rfl)
  have hs:ev G F [sv W,sv (mk t),some (.list (wsD (p :: q :: r)),true),iv ((0:Nat):Int),iv t.length,sv (mk p)] true (.meth .startswith (.var 1) (.cons (.var 5) .nil))=some (.bool (isAt t p 0)):=bi (ab rfl) (aC (ab rfl)) (congrArg (some ∘ D.bool) (qq t p))
  rw [emL,hz,if_neg (by decide)]
  cases e:isAt t p 0 with
  |false =>
   rw [e] at hs
   rw [if_neg (by decide)]
   exact ⟨_,aw (aL (ab rfl) htr (aw (bP hs rfl (aA rfl))))⟩
  |true =>
   rw [e] at hs
   rw [if_pos rfl]
   obtain ⟨σ,h⟩:=rB (G:=G) (F:=F) (x0:=sv W) (x5:=sv (mk p)) (t:=t) (ws:=q :: r) (lo:=p.length) (List.cons_ne_nil _ _) (fun w h=>hw w (List.mem_cons_of_mem _ h)) (Nat.le_of_succ_le hn) ht hp
   refine ⟨σ,ao (aL (ab rfl) htr (ao (aL hs rfl (aG (aU (aC (ab rfl)) (aq (b8 hp) (by rw [aB]))) (ao ?_ rfl))) rfl)) h⟩
   exact ad (eW rfl (fM hn)) (ad (a:= .int 0) rfl (ad (a:=0) rfl (aq (c:=(decide ((0:Int)≤0)&&decide ((0:Int)<((wsD (p :: q :: r)).length:Nat)))=true) (decide_eq_true (Int.natCast_pos.mpr (Nat.zero_lt_succ _))) rfl)))
theorem xJ (hG:G.const "ELLIPSIS_MARKER"=some (.str "...")) {ps:List (List Nat)} {t:List Nat} (hne:ps≠[]) (hd:∀ p∈ps,46∉p) (hw:∀ p∈ps,p.length≤1000) (hn:ps.length≤100) (ht:t.length≤1000) :
  run G F 6 s_ellipsis_match [.str (mk (joinL ps)),.str (mk t)]=some (.bool (emL ps t)):=by
 have hin:=pN hne hd
 cases ps with
 |nil=>exact absurd rfl hne
 |cons p ps =>
 cases ps with
 |nil=>exact yY hG hin
 |cons q r =>
  have hsp:Txt.split (mk (joinL (p :: q :: r))) ("...":Str)=(p :: q :: r).map mk:=by rw [ec];exact gN (List.cons_ne_nil _ _) hd
  have e0:sizeOk (mk (joinL (p :: q :: r))).length=true:=by rw [aB];exact am (mX hw hn)
  rw [decide_eq_true (show 2≤(p :: q :: r).length from Nat.succ_le_succ (Nat.succ_le_succ (Nat.zero_le _)))] at hin
  generalize mk (joinL (p :: q :: r))=W at *
  obtain ⟨σ,h⟩:=ua (G:=G) (F:=F) (W:=W) hw hn ht
  have hl:((p :: q :: r).map mk).map D.str=wsD (p :: q :: r):=List.map_map
  have h2:(2:Int)≤((wsD (p :: q :: r)).length:Nat):=Int.ofNat_le.mpr (Nat.succ_le_succ (Nat.succ_le_succ (Nat.zero_le _)))
  have hs:ev G F [sv W,sv (mk t),none,none,none,none] false (.meth .split (.var 0) (.cons (.glob "ELLIPSIS_MARKER") .nil))=some (.list (wsD (p :: q :: r))):=bi (ra rfl) (aC hG) ((iA e0 (by decide)).trans (by rw [hsp,hl]))
  have hlen:bltD .len [.list (wsD (p :: q :: r))]=some (.int ((wsD (p :: q :: r)).length:Nat)):=aq (fM hn) rfl
  have hlt:bltD .len [.str (mk t)]=some (.int (t.length:Int)):=aq (b8 ht) (by rw [aB])
  have hge:cmpD .GtE (.int ((wsD (p :: q :: r)).length:Nat)) (.int 2)=some true:=congrArg some (decide_eq_true h2)
  have k3:ex G F [sv W,sv (mk t),some (.list (wsD (p :: q :: r)),true),iv ((0:Nat):Int),iv t.length,none] (.seq (.asg 5 false (.idx (.var 2) (.cst (.int 0)))) (.seq (.ifs (.var 5) (.seq (.ifs (.meth .startswith (.var 1) (.cons (.var 5) .nil)) (.seq (.asg 3 false (.blt .len (.cons (.var 5) .nil))) (.seq (.del 2 (.cst (.int 0))) .skip)) (.seq (.ret (.cst (.bool false))) .skip)) .skip) .skip) emMid))=some (σ,.ret (.bool (emL (p :: q :: r) t))) :=
   aG (d:= .str (mk p)) (ay (x:= .list (wsD (p :: q :: r))) (y:= .int 0) rfl rfl rfl) h
  exact au [sv W,sv (mk t),none,none,none,none] rfl (σ':=σ) (be (x:= .bool false) (an (x:= .str "...") (y:= .str W) hG rfl (congrArg (fun b=>some (!b)) hin)) rfl (aS (eU (d:= .list (wsD (p :: q :: r))) hs rfl
   (xC (an (aU (aC (ra rfl)) hlen) rfl hge) rfl
   (ey (x:= .int ((0:Nat):Int)) (y:= .int (t.length:Int)) (aR rfl (aU (aC (ab rfl)) hlt)) rfl k3)))))
end
section
variable {G:af} {fns:List Fn} {b1L:List Int} {b3L:List (Int×Str)} (C:uB G fns b1L b3L)
include C
theorem Ab {k:Nat} {ps:List (List Nat)} {t:List Nat} (hne:ps≠[]) (hd:∀ p∈ps,46∉p) (hw:∀ p∈ps,p.length≤1000) (hn:ps.length≤100) (ht:t.length≤1000) :
  FF G fns spn2 sp2 (k+1) "_ellipsis_match" [.str (mk (joinL ps)),.str (mk t)]=some (.bool (emL ps t)):=a8 rfl C.f5 rfl (xJ C.mark hne hd hw hn ht)
end
end Mine
set_option genSizeOf false
set_option genInjectivity false
namespace Mine
noncomputable def s3_law_points:S :=
 (.seq (.asg 3 false (.tup (.cons (.cst (.int 119808)) (.cons (.cst (.int 119860)) (.cons (.cst (.int 119912)) (.cons (.cst (.int 120016)) (.cons (.cst (.int 120172)) (.cons (.cst (.int 120224)) (.cons (.cst (.int 120276)) (.cons (.cst (.int 120328)) (.cons (.cst (.int 120380)) (.cons (.cst (.int 120432)) .nil)))))))))))) <|
 (.seq (.asg 4 true (.list .nil)) <|
 (.seq (.fors [5] true .range1 (.blt .len (.cons (.var 0) .nil)) .nil (.seq (.ext 4 (.ite (.bin .BitAnd (.bin .RShift (.var 2) (.var 5)) (.cst (.int 1))) (.list (.cons (.idx (.call "_law_unseen" .nil) (.bin .Mod (.bin .Add (.bin .FloorDiv (.var 2) (.cst (.int 16))) (.bin .Mult (.cst (.int 5)) (.var 5))) (.cst (.int 27)))) .nil)) (.list .nil))) <|
  (.seq (.multi [(6,false),(7,false)] (.cons (.bin .Mod (.bin .Add (.var 1) (.bin .Mult (.cst (.int 5)) (.var 5))) (.cst (.int 12))) (.cons (.blt .ord (.cons (.idx (.var 0) (.var 5)) .nil)) .nil))) <|
  (.seq (.app 4 (.ite (.cmp .Eq (.var 6) (.cst (.int 0))) (.var 7) (.ite (.cmp .Eq (.var 6) (.cst (.int 1))) (.bin .Sub (.var 7) (.cst (.int 32))) (.bin .Sub (.bin .Add (.idx (.var 3) (.bin .Sub (.var 6) (.cst (.int 2)))) (.var 7)) (.cst (.int 97)))))) <|
  .skip))) .skip) <|
 (.seq (.retv 4) <|
 .skip))))
noncomputable def s3_law_octets:S :=
 (.seq (.asg 1 false (.list .nil)) <|
 (.seq (.fors [2] true .plain (.var 0) .nil (.seq (.asg 3 false (.bin .FloorDiv (.bin .Sub (.meth .bitlen (.var 2) .nil) (.cst (.int 1))) (.cst (.int 6)))) <|
  (.seq (.asg 1 false (.bin .Add (.var 1) (.comp (.bin .Add (.bin .Add (.bin .BitAnd (.bin .RShift (.var 2) (.bin .Mult (.cst (.int 6)) (.bin .Sub (.var 3) (.var 4)))) (.cst (.int 63))) (.ite (.cmp .Lt (.var 4) (.var 3)) (.cst (.int 64)) (.cst (.int 0)))) (.bin .Mult (.cst (.int 128)) (.bin .Mod (.bin .Add (.blt .len (.cons (.var 1) .nil)) (.var 4)) (.cst (.int 2))))) [4] true .range1 (.bin .Add (.var 3) (.cst (.int 1))) .nil (.cst (.bool true)) [4]))) <|
  .skip)) .skip) <|
 (.seq (.retv 1) <|
 .skip)))
noncomputable def s3_law_fits:S :=
 (.seq (.asg 2 false (.meth .split (.var 0) (.cons (.cst (.str "...")) .nil))) <|
 (.seq (.ifs (.cmp .Eq (.blt .len (.cons (.var 2) .nil)) (.cst (.int 1))) (.seq (.ret (.cmp .Eq (.var 0) (.var 1))) <|
  .skip) .skip) <|
 (.seq (.asg 3 false (.ite (.cmp .Eq (.sli (.var 1) (.cst .none) (.blt .len (.cons (.idx (.var 2) (.cst (.int 0))) .nil)) (.cst .none)) (.idx (.var 2) (.cst (.int 0)))) (.list (.cons (.blt .len (.cons (.idx (.var 2) (.cst (.int 0))) .nil)) .nil)) (.list .nil))) <|
 (.seq (.fors [4] true .plain (.sli (.var 2) (.cst (.int 1)) (.cst .none) (.cst .none)) .nil (.seq (.asg 3 false (.comp (.bin .Add (.var 5) (.blt .len (.cons (.var 4) .nil))) [5] true .range1 (.bin .Add (.blt .len (.cons (.var 1) .nil)) (.cst (.int 1))) .nil (.bop .And (.var 3) (.bop .And (.cmp .GtE (.var 5) (.blt .min1 (.cons (.var 3) .nil))) (.cmp .Eq (.sli (.var 1) (.var 5) (.bin .Add (.var 5) (.blt .len (.cons (.var 4) .nil))) (.cst .none)) (.var 4)))) [5])) <|
  .skip) .skip) <|
 (.seq (.ret (.cmp .In (.blt .len (.cons (.var 1) .nil)) (.var 3))) <|
 .skip)))))
noncomputable def s3_law_turn:S :=
 (.seq (.asg 1 true (.list (.cons (.cst (.int 0)) (.cons (.cst (.int 0)) (.cons (.cst (.int 0)) (.cons (.cst (.int 0)) (.cons (.cst (.int 0)) .nil))))))) <|
 (.seq (.fors [2] true .range1 (.cst (.int 5)) .nil (.seq (.seti 1 (.idx (.var 0) (.var 2)) (.idx (.var 0) (.bin .Sub (.var 2) (.cst (.int 4))))) <|
  .skip) .skip) <|
 (.seq (.retv 1) <|
 .skip)))
noncomputable def s3_law_steps:S :=
 (.seq (.ifs (.cmp .Eq (.idx (.var 0) (.cst (.int 0))) (.cst (.str "has"))) (.seq (.ret (.list (.cons (.tup (.cons (.idx (.var 0) (.cst (.int 1))) (.cons (.call "_law_turn" (.cons (.var 1) .nil)) (.cons (.list (.cons (.cst (.int 0)) (.cons (.cst (.int 1)) (.cons (.cst (.int 2)) (.cons (.cst (.int 3)) (.cons (.cst (.int 4)) .nil)))))) .nil)))) .nil))) <|
  .skip) .skip) <|
 (.seq (.ifs (.cmp .Eq (.idx (.var 0) (.cst (.int 0))) (.cst (.str "not"))) (.seq (.multi [(2,false),(3,false)] (.cons (.call "_law_steps" (.cons (.idx (.var 0) (.cst (.int 1))) (.cons (.sli (.var 1) (.cst .none) (.cst .none) (.un .USub (.cst (.int 1)))) .nil))) (.cons (.call "_law_turn" (.cons (.var 1) .nil)) .nil))) <|
  (.seq (.ret (.bin .Add (.sli (.var 2) (.cst .none) (.un .USub (.cst (.int 1))) (.cst .none)) (.list (.cons (.tup (.cons (.idx (.idx (.var 2) (.un .USub (.cst (.int 1)))) (.cst (.int 0))) (.cons (.comp (.idx (.var 3) (.var 6)) [6] true .plain (.idx (.idx (.var 2) (.un .USub (.cst (.int 1)))) (.cst (.int 1))) .nil (.cst (.bool true)) [6]) (.cons (.comp (.idx (.var 3) (.var 6)) [6] true .plain (.idx (.idx (.var 2) (.un .USub (.cst (.int 1)))) (.cst (.int 2))) .nil (.cst (.bool true)) [6]) .nil)))) .nil)))) <|
  .skip)) .skip) <|
 (.seq (.multi [(4,false),(5,false)] (.cons (.comp (.idx (.var 1) (.var 6)) [6] true .plain (.tup (.cons (.cst (.int 0)) (.cons (.cst (.int 2)) (.cons (.cst (.int 1)) (.cons (.cst (.int 4)) (.cons (.cst (.int 3)) .nil)))))) .nil (.cst (.bool true)) [6]) (.cons (.comp (.idx (.var 1) (.var 6)) [6] true .plain (.tup (.cons (.cst (.int 0)) (.cons (.cst (.int 1)) (.cons (.cst (.int 3)) (.cons (.cst (.int 4)) (.cons (.cst (.int 2)) .nil)))))) .nil (.cst (.bool true)) [6]) .nil))) <|
 (.seq (.asg 2 false (.bin .Add (.call "_law_steps" (.cons (.idx (.var 0) (.cst (.int 1))) (.cons (.var 4) .nil))) (.call "_law_steps" (.cons (.idx (.var 0) (.cst (.int 2))) (.cons (.var 5) .nil))))) <|
 (.seq (.ret (.bin .Add (.bin .Add (.var 2) (.call "_law_steps" (.cons (.idx (.var 0) (.cst (.int 1))) (.cons (.sli (.var 4) (.cst .none) (.cst .none) (.un .USub (.cst (.int 1)))) .nil)))) (.call "_law_steps" (.cons (.idx (.var 0) (.cst (.int 2))) (.cons (.sli (.var 5) (.cst .none) (.cst .none) (.un .USub (.cst (.int 1)))) .nil))))) <|
 .skip)))))
noncomputable def s3_law_denied:S :=
 (.seq (.ret (.ite (.cmp .Eq (.idx (.var 0) (.cst (.int 0))) (.cst (.str "not"))) (.idx (.var 0) (.cst (.int 1))) (.tup (.cons (.cst (.str "not")) (.cons (.var 0) .nil))))) <|
 .skip)
noncomputable def s3_law_join:S :=
 (.seq (.ifs (.cmp .Eq (.var 0) (.cst (.int 0))) (.seq (.ret (.tup (.cons (.cst (.str "and")) (.cons (.var 1) (.cons (.var 2) .nil))))) <|
  .skip) .skip) <|
 (.seq (.ret (.tup (.cons (.cst (.str "not")) (.cons (.tup (.cons (.cst (.str "and")) (.cons (.call "_law_denied" (.cons (.var 1) .nil)) (.cons (.ite (.cmp .Eq (.var 0) (.cst (.int 1))) (.call "_law_denied" (.cons (.var 2) .nil)) (.var 2)) .nil)))) .nil)))) <|
 .skip))
noncomputable def s3_law_holds:S :=
 (.seq (.ifs (.cmp .Eq (.idx (.var 0) (.cst (.int 0))) (.cst (.str "has"))) (.seq (.ret (.idx (.var 1) (.idx (.var 0) (.cst (.int 1))))) <|
  .skip) .skip) <|
 (.seq (.ret (.ite (.cmp .Eq (.idx (.var 0) (.cst (.int 0))) (.cst (.str "not"))) (.un .Not (.call "_law_holds" (.cons (.idx (.var 0) (.cst (.int 1))) (.cons (.var 1) .nil)))) (.bop .And (.call "_law_holds" (.cons (.idx (.var 0) (.cst (.int 1))) (.cons (.var 1) .nil))) (.call "_law_holds" (.cons (.idx (.var 0) (.cst (.int 2))) (.cons (.var 1) .nil)))))) <|
 .skip))
noncomputable def s3t31:S:= .seq (.ret (.bop .And (.cmp .Eq (.var 27) (.var 32)) (.cmp .Eq (.var 37) (.ite (.var 36) (.meth .join (.cst (.str ", ")) (.cons (.var 36) .nil)) (.cst (.str "0x0")))))) .skip
noncomputable def s3t30:S:= .seq (.asg 37 false (.call "pretty_flags" (.cons (.blt .sum (.cons (.comp (.bin .Pow (.cst (.int 2)) (.bin .Add (.var 33) (.var 39))) [39] true .range1 (.cst (.int 5)) .nil (.cmp .NotEq (.idx (.var 27) (.var 39)) (.var 39)) [39]) .nil)) .nil))) s3t31
noncomputable def s3t29:S:= .seq (.asg 36 false (.comp (.ite (.cmp .Lt (.var 39) (.cst (.int 10))) (.idx (.meth .split (.var 34) (.cons (.cst (.str " ")) .nil)) (.var 39)) (.bin .Add (.bin .Add (.cst (.str "0x")) (.idx (.cst (.str "1248")) (.bin .Mod (.var 39) (.cst (.int 4))))) (.bin .Mult (.cst (.str "0")) (.bin .FloorDiv (.var 39) (.cst (.int 4)))))) [39] true .plain (.var 35) .nil (.cst (.bool true)) [39])) s3t30
noncomputable def s3t28:S:= .seq (.asg 35 false (.comp (.bin .Add (.var 33) (.var 39)) [39] true .range1 (.cst (.int 5)) .nil (.cmp .NotEq (.idx (.var 32) (.var 39)) (.var 39)) [39])) s3t29
noncomputable def s3t27:S:= .seq (.asg 34 false (.cst (.str "OPTIMIZED NEWLOCALS VARARGS VARKEYWORDS NESTED GENERATOR NOFREE COROUTINE ITERABLE_COROUTINE ASYNC_GENERATOR"))) s3t28
noncomputable def s3t26:S:= .seq (.asg 33 false (.bin .Mod (.bin .FloorDiv (.idx (.var 2) (.cst (.int 5))) (.cst (.int 32))) (.cst (.int 28)))) s3t27
noncomputable def s3t25:S:= .seq (.asg 32 false (.ite (.call "_law_holds" (.cons (.var 10) (.cons (.var 26) .nil))) (.call "_law_turn" (.cons (.var 12) .nil)) (.list (.cons (.cst (.int 0)) (.cons (.cst (.int 1)) (.cons (.cst (.int 2)) (.cons (.cst (.int 3)) (.cons (.cst (.int 4)) .nil)))))))) s3t26
noncomputable def s3t24:S:= .seq (.fors [28] true .plain (.sli (.var 23) (.cst (.int 1)) (.cst .none) (.cst .none)) .nil (.seq (.unp [29,19] (.call "int_divmod" (.cons (.var 28) (.cons (.bin .Pow (.cst (.int 8)) (.cst (.int 5))) .nil)))) <|
  (.seq (.unp [30,20] (.call "int_divmod" (.cons (.var 29) (.cons (.bin .Pow (.cst (.int 8)) (.cst (.int 5))) .nil)))) <|
  (.seq (.asg 31 false (.bin .Add (.call "_int2digits" (.cons (.ite (.idx (.var 26) (.var 30)) (.var 19) (.var 20)) (.cons (.cst (.int 3)) .nil))) (.list (.cons (.cst (.int 0)) .nil)))) <|
  (.seq (.asg 27 false (.comp (.idx (.var 31) (.var 39)) [39] true .plain (.var 27) .nil (.cst (.bool true)) [39])) <|
  .skip)))) .skip) s3t25
noncomputable def s3t23:S:= .seq (.asg 27 false (.list (.cons (.cst (.int 0)) (.cons (.cst (.int 1)) (.cons (.cst (.int 2)) (.cons (.cst (.int 3)) (.cons (.cst (.int 4)) .nil))))))) s3t24
noncomputable def s3t22:S:= .seq (.ifs (.bop .Or (.cmp .NotEq (.var 25) (.var 5)) (.bop .Or (.cmp .NotEq (.comp (.cmp .Is (.var 38) (.cst (.bool true))) [38] true .plain (.var 26) .nil (.cst (.bool true)) [38]) (.comp (.call "_law_fits" (.cons (.var 43) (.cons (.var 5) .nil))) [43] true .plain (.var 7) .nil (.cst (.bool true)) [43])) (.comp (.var 38) [38] true .plain (.var 26) .nil (.bop .And (.cmp .IsNot (.var 38) (.cst (.bool true))) (.cmp .IsNot (.var 38) (.cst (.bool false)))) [38]))) (.seq (.ret (.cst (.bool false))) <|
  .skip) .skip) s3t23
noncomputable def s3t21:S:= .seq (.asg 26 false (.comp (.call "_ellipsis_match" (.cons (.var 43) (.cons (.var 25) .nil))) [43] true .plain (.var 7) .nil (.cst (.bool true)) [43])) s3t22
noncomputable def s3t20:S:= .seq (.asg 25 false (.meth .join (.cst (.str "")) (.cons (.comp (.call "map_table_b3" (.cons (.var 38) .nil)) [38] true .plain (.var 24) .nil (.cmp .Is (.call "in_table_b1" (.cons (.var 38) .nil)) (.cst (.bool false))) [38]) .nil))) s3t21
noncomputable def s3t19:S:= .seq (.ifs (.cmp .NotEq (.comp (.cmp .Is (.call "in_table_b1" (.cons (.var 38) .nil)) (.cst (.bool true))) [38] true .plain (.var 24) .nil (.cst (.bool true)) [38]) (.comp (.cmp .In (.var 42) (.call "_law_unseen" .nil)) [42] true .plain (.var 18) .nil (.cst (.bool true)) [42])) (.seq (.ret (.cst (.bool false))) <|
  .skip) .skip) s3t20
noncomputable def s3t18:S:= .seq (.asg 24 false (.comp (.blt .chr (.cons (.var 42) .nil)) [42] true .plain (.call "_int2digits" (.cons (.idx (.var 23) (.cst (.int 0))) (.cons (.cst (.int 17)) .nil))) .nil (.cst (.bool true)) [42])) s3t19
noncomputable def s3t17:S:= .seq (.ifs (.bop .Or (.cmp .NotEq (.var 17) (.bin .Mult (.idx (.var 2) (.cst (.int 4))) (.bin .Sub (.cst (.int 1)) (.bin .Mult (.cst (.int 2)) (.bin .Mod (.idx (.var 2) (.cst (.int 5))) (.cst (.int 2))))))) (.bop .Or (.cmp .NotEq (.var 23) (.var 21)) (.cmp .NotEq (.call "_law_read" (.cons (.sli (.var 22) (.cst .none) (.un .USub (.cst (.int 1))) (.cst .none)) .nil)) (.sli (.var 21) (.cst .none) (.un .USub (.cst (.int 1))) (.cst .none))))) (.seq (.ret (.cst (.bool false))) <|
  .skip) .skip) s3t18
noncomputable def s3t16:S:= .seq (.asg 23 false (.call "_law_read" (.cons (.var 22) .nil))) s3t17
noncomputable def s3t15:S:= .seq (.asg 22 false (.call "_law_octets" (.cons (.var 21) .nil))) s3t16
noncomputable def s3t14:S:= .seq (.asg 21 false (.bin .Add (.list (.cons (.call "_digits2int" (.cons (.var 18) (.cons (.cst (.int 17)) .nil))) .nil)) (.comp (.call "_digits2int" (.cons (.bin .Add (.bin .Add (.var 19) (.var 20)) (.list (.cons (.var 41) .nil))) (.cons (.cst (.int 3)) .nil))) [41,19,20] false .plain (.call "_law_steps" (.cons (.var 10) (.cons (.var 12) .nil))) .nil (.cst (.bool true)) [41,19,20]))) s3t15
noncomputable def s3t13:S:= .seq (.asg 18 false (.call "_law_points" (.cons (.var 5) (.cons (.bin .FloorDiv (.idx (.var 2) (.cst (.int 1))) (.cst (.int 16))) (.cons (.bin .FloorDiv (.idx (.var 2) (.cst (.int 5))) (.cst (.int 2))) .nil))))) s3t14
noncomputable def s3t12:S:= .seq (.asg 17 false (.bin .Add (.bin .Mult (.bin .Add (.bin .Mult (.bin .Add (.bin .Mult (.bin .Add (.bin .Mult (.bin .Add (.var 11) (.idx (.var 14) (.cst (.int 4)))) (.cst (.int 2))) (.idx (.var 14) (.cst (.int 3)))) (.cst (.int 3))) (.idx (.var 14) (.cst (.int 2)))) (.cst (.int 4))) (.idx (.var 14) (.cst (.int 1)))) (.cst (.int 5))) (.idx (.var 14) (.cst (.int 0))))) s3t13
noncomputable def s3t11:S:= .seq (.fors [15] true .plain (.tup (.cons (.cst (.int 5)) (.cons (.cst (.int 4)) (.cons (.cst (.int 3)) (.cons (.cst (.int 2)) (.cons (.cst (.int 1)) .nil)))))) .nil (.seq (.unp [11,16] (.call "int_divmod" (.cons (.var 11) (.cons (.var 15) .nil)))) <|
  (.seq (.ifs (.un .Not (.cmp2 .LtE .Lt (.cst (.int 0)) (.var 16) (.var 15))) (.seq (.ret (.cst (.bool false))) <|
   .skip) .skip) <|
  (.seq (.multi [(12,false),(13,false),(14,false)] (.cons (.bin .Add (.var 12) (.list (.cons (.idx (.var 13) (.var 16)) .nil))) (.cons (.bin .Add (.sli (.var 13) (.cst .none) (.var 16) (.cst .none)) (.sli (.var 13) (.bin .Add (.var 16) (.cst (.int 1))) (.cst .none) (.cst .none))) (.cons (.bin .Add (.var 14) (.list (.cons (.var 16) .nil))) .nil)))) <|
  .skip))) .skip) s3t12
noncomputable def s3t10:S:= .seq (.multi [(11,false),(12,false),(13,false),(14,false)] (.cons (.bin .Mult (.idx (.var 2) (.cst (.int 4))) (.bin .Sub (.cst (.int 1)) (.bin .Mult (.cst (.int 2)) (.bin .Mod (.idx (.var 2) (.cst (.int 5))) (.cst (.int 2)))))) (.cons (.list .nil) (.cons (.list (.cons (.cst (.int 0)) (.cons (.cst (.int 1)) (.cons (.cst (.int 2)) (.cons (.cst (.int 3)) (.cons (.cst (.int 4)) .nil)))))) (.cons (.list .nil) .nil))))) s3t11
noncomputable def s3t9:S:= .seq (.asg 10 false (.call "_law_join" (.cons (.bin .Mod (.bin .FloorDiv (.idx (.var 2) (.cst (.int 3))) (.cst (.int 144))) (.cst (.int 3))) (.cons (.idx (.var 9) (.cst (.int 0))) (.cons (.idx (.var 9) (.cst (.int 1))) .nil))))) s3t10
noncomputable def s3t8:S:= .seq (.asg 9 false (.list (.cons (.call "_law_join" (.cons (.bin .Mod (.bin .FloorDiv (.idx (.var 2) (.cst (.int 3))) (.cst (.int 16))) (.cst (.int 3))) (.cons (.idx (.var 8) (.cst (.int 0))) (.cons (.idx (.var 8) (.cst (.int 1))) .nil)))) (.cons (.call "_law_join" (.cons (.bin .Mod (.bin .FloorDiv (.idx (.var 2) (.cst (.int 3))) (.cst (.int 48))) (.cst (.int 3))) (.cons (.idx (.var 8) (.cst (.int 2))) (.cons (.idx (.var 8) (.cst (.int 3))) .nil)))) .nil)))) s3t9
noncomputable def s3t7:S:= .seq (.asg 8 false (.comp (.ite (.bin .BitAnd (.bin .RShift (.idx (.var 2) (.cst (.int 3))) (.var 41)) (.cst (.int 1))) (.tup (.cons (.cst (.str "has")) (.cons (.var 41) .nil))) (.call "_law_denied" (.cons (.tup (.cons (.cst (.str "has")) (.cons (.var 41) .nil))) .nil))) [41] true .range1 (.cst (.int 4)) .nil (.cst (.bool true)) [41])) s3t8
noncomputable def s3t6:S:= .seq (.asg 7 false (.comp (.idx (.var 6) (.bin .Mod (.bin .FloorDiv (.idx (.var 2) (.cst (.int 2))) (.bin .Pow (.cst (.int 10)) (.var 41))) (.cst (.int 10)))) [41] true .range1 (.cst (.int 4)) .nil (.cst (.bool true)) [41])) s3t7
noncomputable def s3t5:S:= .seq (.asg 6 false (.tup (.cons (.bin .Add (.var 3) (.cst (.str "..."))) (.cons (.bin .Add (.cst (.str "...")) (.var 4)) (.cons (.bin .Add (.bin .Add (.var 3) (.cst (.str "..."))) (.var 4)) (.cons (.bin .Add (.bin .Add (.bin .Add (.bin .Add (.cst (.str "...")) (.var 3)) (.cst (.str "..."))) (.var 4)) (.cst (.str "..."))) (.cons (.bin .Add (.bin .Add (.bin .Add (.bin .Add (.bin .Add (.cst (.str "...")) (.var 3)) (.var 4)) (.cst (.str "..."))) (.var 4)) (.cst (.str "..."))) (.cons (.bin .Add (.bin .Add (.bin .Add (.var 4) (.cst (.str "......"))) (.var 3)) (.cst (.str "..."))) (.cons (.bin .Add (.bin .Add (.bin .Add (.bin .Add (.bin .Add (.var 3) (.var 3)) (.var 3)) (.cst (.str "..."))) (.var 3)) (.var 3)) (.cons (.bin .Add (.bin .Add (.bin .Add (.bin .Add (.cst (.str "...")) (.var 4)) (.var 3)) (.cst (.str "..."))) (.var 3)) (.cons (.bin .Add (.bin .Add (.bin .Add (.var 3) (.var 4)) (.var 3)) (.var 4)) (.cons (.bin .Add (.bin .Add (.bin .Add (.bin .Add (.var 3) (.var 4)) (.cst (.str "..."))) (.var 3)) (.var 4)) .nil)))))))))))) s3t6
noncomputable def s3t4:S:= .seq (.asg 5 false (.meth .join (.cst (.str "")) (.cons (.comp (.idx (.tup (.cons (.var 3) (.cons (.var 4) .nil))) (.bin .BitAnd (.bin .RShift (.idx (.var 2) (.cst (.int 1))) (.var 39)) (.cst (.int 1)))) [39] true .range1 (.cst (.int 4)) .nil (.cst (.bool true)) [39]) .nil))) s3t5
noncomputable def s3t3:S:= .seq (.asg 4 false (.blt .chr (.cons (.bin .Add (.cst (.int 97)) (.bin .Mod (.bin .Add (.bin .Add (.bin .Mod (.idx (.var 2) (.cst (.int 0))) (.cst (.int 26))) (.cst (.int 1))) (.bin .Mod (.bin .FloorDiv (.idx (.var 2) (.cst (.int 0))) (.cst (.int 26))) (.cst (.int 25)))) (.cst (.int 26)))) .nil))) s3t4
noncomputable def s3t2:S:= .seq (.asg 3 false (.blt .chr (.cons (.bin .Add (.cst (.int 97)) (.bin .Mod (.idx (.var 2) (.cst (.int 0))) (.cst (.int 26)))) .nil))) s3t3
noncomputable def s3t1:S:= .seq (.asg 2 false (.comp (.bin .Add (.var 40) (.blt .sum (.cons (.sli (.var 1) (.var 39) (.cst .none) (.cst (.int 6))) .nil))) [39,40] false .enum (.tup (.cons (.cst (.int 148)) (.cons (.cst (.int 74)) (.cons (.cst (.int 9503)) (.cons (.cst (.int 238)) (.cons (.cst (.int 1013)) (.cons (.cst (.int 265)) .nil))))))) .nil (.cst (.bool true)) [39,40])) s3t2
noncomputable def s3t0:S:= .seq (.asg 1 false (.comp (.bin .Mod (.var 38) (.bin .Pow (.cst (.int 10)) (.cst (.int 9)))) [38] true .plain (.sli (.var 0) (.cst .none) (.cst (.int 60)) (.cst .none)) .nil (.cst (.bool true)) [38])) s3t1
structure gm (G:af) (fns:List Fn) (b1L:List Int) (b3L:List (Int×Str)):Prop where
 com:uB G fns b1L b3L
 points:∃ x,fns.find? (fun x=>x.name==("_law_points":Str))=some x∧x.ps.length=3∧x.tbl.length=8∧x.code=s3_law_points
 octets:∃ x,fns.find? (fun x=>x.name==("_law_octets":Str))=some x∧x.ps.length=1∧x.tbl.length=5∧x.code=s3_law_octets
 fits:∃ x,fns.find? (fun x=>x.name==("_law_fits":Str))=some x∧x.ps.length=2∧x.tbl.length=6∧x.code=s3_law_fits
 turn:∃ x,fns.find? (fun x=>x.name==("_law_turn":Str))=some x∧x.ps.length=1∧x.tbl.length=3∧x.code=s3_law_turn
 steps:∃ x,fns.find? (fun x=>x.name==("_law_steps":Str))=some x∧x.ps.length=2∧x.tbl.length=7∧x.code=s3_law_steps
 denied:∃ x,fns.find? (fun x=>x.name==("_law_denied":Str))=some x∧x.ps.length=1∧x.tbl.length=1∧x.code=s3_law_denied
 join:∃ x,fns.find? (fun x=>x.name==("_law_join":Str))=some x∧x.ps.length=3∧x.tbl.length=3∧x.code=s3_law_join
 holds:∃ x,fns.find? (fun x=>x.name==("_law_holds":Str))=some x∧x.ps.length=2∧x.tbl.length=2∧x.code=s3_law_holds
end Mine
set_option genSizeOf false
set_option genInjectivity false
namespace Mine
noncomputable def oct (f:Int) (c:Bool) (p:Int):Int:=f+cond c 64 0+128 * p
noncomputable def octB (f:Int) (c:Bool) (p:Int):Bool:=oct f c p % 64==f&&((Builtin.bitAnd (oct f c p) 64==0) == !c)&&decide (0≤oct f c p)&&decide (oct f c p<256)
theorem vE:(List.range 64).all (fun f=>octB (f:Int) true 0&&octB (f:Int) true 1&&octB (f:Int) false 0&&octB (f:Int) false 1)=true:=by decide +kernel
theorem pU {f p:Int} {c:Bool} (h0:0≤f) (h1:f<64) (hp:p=0∨p=1):oct f c p % 64=f∧(Builtin.bitAnd (oct f c p) 64==0) = !c∧0≤oct f c p∧oct f c p<256:=by
 obtain ⟨n,rfl⟩:=Int.eq_ofNat_of_zero_le h0
 refine aa (List.all_eq_true.mp vE n (List.mem_range.mpr (Int.ofNat_lt.mp h1))) fun a a4=>aa a fun a a3=>aa a fun a1 a2=> ?_
 have h:octB (n:Int) c p=true:=by
  rcases hp with rfl |rfl
  ·cases c with
   |true=>exact a1
   |false=>exact a3
  ·cases c with
   |true=>exact a2
   |false=>exact a4
 exact aa h fun b b4=>aa b fun b b3=>aa b fun b1 b2=>⟨beq_iff_eq.mp b1,beq_iff_eq.mp b2,de b3,de b4⟩
noncomputable def BlkAt (a v:Int):List Int→Prop
 | []=>False
 |o :: r=>(∀ t,pv1 o (a * 64+o % 64) (r++t)=some (v,t))∧(r=[]∨pv1 o (a * 64+o % 64) r.dropLast=none)
noncomputable def Blk (l:List Int) (a v:Int):Prop:=BlkAt a v l
theorem Blk.last {o a:Int} (h:(Builtin.bitAnd o 64==0)=true):Blk [o] a (a * 64+o % 64):=⟨fun t=>lC h t,.inl rfl⟩
theorem Blk.more {o a v:Int} {r:List Int} (h:(Builtin.bitAnd o 64==0)=false) (b:Blk r (a * 64+o % 64) v):Blk (o :: r) a v:=by
 have hn:¬ (Builtin.bitAnd o 64==0)=true:=by rw [h];decide
 cases r with
 |nil=>exact b.elim
 |cons x r =>
  refine ⟨fun t=>pv1_cons.trans ((if_neg hn).trans (b.1 t)),.inr ?_⟩
  rcases b.2 with rfl |e
  ·exact pv1_nil.trans (if_neg hn)
  ·cases r with
   |nil=>exact pv1_nil.trans (if_neg hn)
   |cons y r=>exact pv1_cons.trans ((if_neg hn).trans e)
theorem Blk.pv {l t:List Int} {v:Int} (b:Blk l 0 v):Mine.pv (l++t)=some (v,t):=by
 cases l with
 |nil=>exact b.elim
 |cons o r =>
  have h:=b.1 t
  rw [Int.zero_mul,Int.zero_add] at h
  exact h
theorem Blk.pv_cut {l:List Int} {v:Int} (b:Blk l 0 v):Mine.pv l.dropLast=none:=by
 cases l with
 |nil=>exact b.elim
 |cons o r =>
  cases r with
  |nil=>rfl
  |cons x r =>
   rcases b.2 with h |h
   ·nomatch h
   ·rw [Int.zero_mul,Int.zero_add] at h;exact h
theorem Blk.pos {l:List Int} {a v:Int} (b:Blk l a v):1≤l.length:=by
 cases l with
 |nil=>exact b.elim
 |cons o r=>exact Nat.le_add_left 1 _
structure Tape (t vs:List Int):Prop where
 len:vs.length≤t.length
 all:∀ n u,Mine.rd (vs.length+n) (t++u)=vs++Mine.rd n u
 cut:∀ n,Mine.rd (vs.length+n) t.dropLast=vs.dropLast
theorem pQ (n:Nat):rd n []=[]:=by
 cases n with
 |zero=>rfl
 |succ n=>rfl
theorem Tape.nil:Tape [] []:=⟨Nat.le_refl _,fun n u=>by rw [List.length_nil,Nat.zero_add];rfl,fun n=>pQ _⟩
theorem u9 {n:Nat} {xs:List Int} (h:pv xs=none):rd n xs=[]:=by
 cases n with
 |zero=>rfl
 |succ n=>exact mE h
theorem Tape.snoc {t vs b:List Int} {v:Int} (h:Tape t vs) (bk:Blk b 0 v):Tape (t++b) (vs++[v]):=by
 have hl:(vs++[v]).length=vs.length+1:=List.length_append
 refine ⟨?_,fun n u=> ?_,fun n=> ?_⟩
 ·rw [hl,List.length_append];exact Nat.add_le_add h.len bk.pos
 ·rw [hl,List.append_assoc,Nat.add_assoc,Nat.add_comm 1 n,h.all,mG bk.pv,List.append_assoc];rfl
 ·have hb:b≠[]:=List.length_pos_iff.mp bk.pos
  rw [hl,List.dropLast_append_of_ne_nil hb,Nat.add_assoc,h.all,u9 bk.pv_cut,List.append_nil,List.dropLast_concat]
theorem Tape.rd {t vs:List Int} (h:Tape t vs) {n:Nat} (hn:vs.length≤n):Mine.rd n t=vs:=by
 have:=h.all (n - vs.length) []
 rw [Nat.add_sub_cancel' hn,List.append_nil,pQ,List.append_nil] at this
 exact this
theorem Tape.rd_cut {t vs:List Int} (h:Tape t vs) {n:Nat} (hn:vs.length≤n):Mine.rd n t.dropLast=vs.dropLast:=by
 have:=h.cut (n - vs.length)
 rw [Nat.add_sub_cancel' hn] at this
 exact this
noncomputable def octN (v:Int) (L:Nat) (par:Nat→Int) (k:Nat):Int:=oct (v / 64 ^ (L - k) % 64) (decide (k<L)) (par k)
theorem pT (x:Int):0≤x % 64∧x % 64<64:=⟨Int.emod_nonneg x (by decide),Int.emod_lt_of_pos x (by decide)⟩
theorem rk (x:Int):x / 64 * 64+x % 64=x:=Int.ediv_mul_add_emod x 64
theorem gh (v:Int) (m:Nat):v / 64 ^ (m+1)=v / 64 ^ m / 64:=by rw [Int.ediv_ediv_of_nonneg (Int.le_of_lt (Int.pow_pos (by decide))),← Int.pow_succ]
theorem o8 {v:Int} {par:Nat→Int} (hp:∀ k,par k=0∨par k=1):∀ (m k L:Nat) (a:Int),k+m=L→a=v / 64 ^ (m+1)→Blk ((List.range' k (m+1)).map (octN v L par)) a v
 |0,k,_,a,rfl,ha=>by
  obtain ⟨f1,f2⟩:=pT v
  obtain ⟨h1,h2,_⟩:=pU (c:=false) f1 f2 (hp k)
  have b:=Blk.last (a:=a) h2
  rw [h1,ha,gh,show v / 64 ^ 0=v from Int.ediv_one v,rk] at b
  rw [ha,gh,show v / 64 ^ 0=v from Int.ediv_one v]
  show Blk [oct (v / 64 ^ (k - k) % 64) (decide (k<k)) (par k)] _ v
  rw [Nat.sub_self,decide_eq_false (Nat.lt_irrefl k),show v / 64 ^ 0=v from Int.ediv_one v]
  exact b
 |m+1,k,_,a,rfl,ha=>by
  obtain ⟨f1,f2⟩:=pT (v / 64 ^ (m+1))
  obtain ⟨h1,h2,_⟩:=pU (c:=true) f1 f2 (hp k)
  have b:=o8 hp m (k+1) (k+(m+1)) (a * 64+oct (v / 64 ^ (m+1) % 64) true (par k) % 64) (Nat.succ_add_eq_add_succ k m) (by rw [h1,ha,gh v (m+1),rk])
  have e:octN v (k+(m+1)) par k=oct (v / 64 ^ (m+1) % 64) true (par k):=by
   unfold octN
   rw [Nat.add_sub_cancel_left,decide_eq_true (Nat.lt_add_of_pos_right (Nat.succ_pos m))]
  rw [List.range'_succ,List.map_cons,e]
  exact Blk.more h2 b
end Mine
set_option genSizeOf false
set_option genInjectivity false
namespace Mine
theorem cG {α:Type} (xs:List α) (lo hi:Option Int):pickL xs lo hi none=(xs.drop (lo.elim 0 (clipAt xs.length))).take (hi.elim xs.length (clipAt xs.length) - lo.elim 0 (clipAt xs.length)):=by
 unfold pickL
 rw [sliceBounds_plain]
 show (sliceRange _ _ 1).filterMap _=_
 rw [sliceRange_one]
 exact (congrArg (fun f=>List.filterMap f _) (funext fun i=>List.getElem?_toArray.symm)).trans (pick_run xs.toArray _ _)
theorem kQ (a b:Nat):min (a:Int) (b:Int)=((min a b:Nat):Int):=by
 rcases Nat.le_total a b with h |h
 ·rw [Nat.min_eq_left h,Int.min_eq_left (Int.ofNat_le.mpr h)]
 ·rw [Nat.min_eq_right h,Int.min_eq_right (Int.ofNat_le.mpr h)]
theorem fP (n i:Nat):clipAt n (i:Int)=min i n:=by
 unfold clipAt
 rw [if_neg (Int.not_lt.mpr (Int.natCast_nonneg i)),kQ,Int.max_eq_right (Int.natCast_nonneg _)];rfl
theorem sC (m:Nat) : -1+((m+1:Nat):Int)=m:=by rw [Int.natCast_succ,Int.add_comm,Int.add_assoc];exact Int.add_zero _
theorem wT (n:Nat):clipAt n (-1)=n - 1:=by
 cases n with
 |zero=>rfl
 |succ m =>
  show (max 0 (min (-1+((m+1:Nat):Int)) ((m+1:Nat):Int))).toNat=m
  rw [sC,kQ,Nat.min_eq_left (Nat.le_succ m),Int.max_eq_right (Int.natCast_nonneg _)];rfl
theorem jB {α:Type} (xs:List α) (b:Nat):pickL xs none (some (b:Int)) none=xs.take b:=by
 rw [cG]
 show (xs.drop 0).take (clipAt xs.length (b:Int) - 0)=_
 rw [List.drop_zero,Nat.sub_zero,fP]
 exact List.take_eq_take_iff.mpr (by rw [Nat.min_assoc,Nat.min_self])
theorem sx {α:Type} (xs:List α) {k n:Nat} (h:k≤xs.length):pickL xs (some (k:Int)) (some ((k+n:Nat):Int)) none=(xs.drop k).take n:=by
 rw [cG]
 show (xs.drop (clipAt xs.length (k:Int))).take (clipAt xs.length ((k+n:Nat):Int) - clipAt xs.length (k:Int))=_
 rw [fP,fP,Nat.min_eq_left h]
 exact List.take_eq_take_iff.mpr (by rw [List.length_drop,← Nat.sub_min_sub_right,Nat.add_sub_cancel_left,Nat.min_assoc,Nat.min_self])
theorem ql {α:Type} (xs:List α) (a:Nat):pickL xs (some (a:Int)) none none=xs.drop a:=by
 rw [cG]
 show (xs.drop (clipAt xs.length (a:Int))).take (xs.length - clipAt xs.length (a:Int))=_
 rw [fP]
 by_cases h:a≤xs.length
 ·rw [Nat.min_eq_left h];exact List.take_of_length_le (Nat.le_of_eq List.length_drop)
 ·have h:=Nat.le_of_lt (Nat.lt_of_not_le h)
  rw [Nat.min_eq_right h,List.drop_length,List.drop_eq_nil_of_le h,List.take_nil]
theorem o7 {α:Type} (xs:List α):pickL xs none (some (-1)) none=xs.dropLast:=by
 rw [cG]
 show (xs.drop 0).take (clipAt xs.length (-1) - 0)=_
 rw [wT,List.dropLast_eq_take];rfl
theorem cw {n:Nat} (h:n≤1048576):part? (.int (n:Int))=some (some (n:Int)):=aq (gR h) rfl
section
variable {l u st:D} {l' u' st':Option Int} (h1:part? l=some l') (h2:part? u=some u') (h3:part? st=some st') (h0:¬ (st'==some 0)=true)
include h1 h2 h3 h0
theorem jN {xs ys:List D} (hs:xs.length≤1048576) (h:pickL xs l' u' st'=ys):sliD (.list xs) l u st=some (.list ys):=ad h1 (ad h2 (ad h3 ((if_neg h0).trans (aq (am hs) (by rw [h])))))
theorem uT {t ys:List Nat} (hs:t.length≤1000) (h:pickL t l' u' st'=ys):sliD (.str (mk t)) l u st=some (.str (mk ys)):=ad h1 (ad h2 (ad h3 ((if_neg h0).trans (aq (b8 hs) (by rw [bV,h];rfl)))))
end
theorem lE {xs:List D} (h:xs.length≤1048576):sliD (.list xs) .none (.int (-1)) .none=some (.list xs.dropLast):=jN (l':=none) (u':=some (-1)) (st':=none) rfl rfl rfl Bool.false_ne_true h (o7 _)
theorem gc {xs:List D} {k:Nat} (h:xs.length≤1048576) (hk:k≤1048576):sliD (.list xs) (.int (k:Int)) .none .none=some (.list (xs.drop k)):=jN (u':=none) (st':=none) (cw hk) rfl rfl Bool.false_ne_true h (ql _ _)
theorem jp {xs:List D} {n:Nat} (h:xs.length≤1048576) (hn:n≤1048576):sliD (.list xs) .none (.int (n:Int)) .none=some (.list (xs.take n)):=jN (l':=none) (st':=none) rfl (cw hn) rfl Bool.false_ne_true h (jB _ _)
theorem so {t:List Nat} {n:Nat} (ht:t.length≤1000) (hn:n≤1048576):sliD (.str (mk t)) .none (.int (n:Int)) .none=some (.str (mk (t.take n))):=uT (l':=none) (st':=none) rfl (cw hn) rfl Bool.false_ne_true ht (jB _ _)
theorem xq {t:List Nat} {k n:Nat} (ht:t.length≤1000) (hk:k≤t.length) (hn:n≤1000):sliD (.str (mk t)) (.int (k:Int)) (.int ((k+n:Nat):Int)) .none=some (.str (mk ((t.drop k).take n))) :=
 uT (st':=none) (cw (Nat.le_trans hk (Nat.le_trans ht (by decide)))) (cw (Nat.le_trans (Nat.add_le_add (Nat.le_trans hk ht) hn) (by decide))) rfl Bool.false_ne_true ht (sx _ hk)
theorem xt {α:Type} {f:α→D} {l:List α} {k:Nat} (z:α) (h:k<l.length):(l.map f)[k]? = some (f (l.getD k z)):=by
 rw [List.getElem?_map,List.getD_eq_getElem?_getD,List.getElem?_eq_getElem h];rfl
theorem kK {α:Type} {f:α→D} {l:List α} {k:Nat} (z:α) (h:k<l.length) (hl:l.length≤1048576):idxL (l.map f) (k:Int)=some (f (l.getD k z)):=ei (xt z h) (by rw [List.length_map];exact hl)
noncomputable def dn (l:List Nat):D:= .list (l.map fun (n:Nat)=>D.int (n:Int))
noncomputable def o (d:D):Option (D×Bool):=some (d,false)
theorem tm {l:List Nat} {k:Nat} (h:k<l.length) (hl:l.length≤1048576):idxD (dn l) (.int (k:Int))=some (.int ((l.getD k 0:Nat):Int)):=kK (f:=fun n:Nat=>D.int (n:Int)) 0 h hl
theorem eT {xs ys:List Nat} (h1:xs.length≤1048576) (h2:ys.length≤1048576):binD .Add (dn xs) (dn ys)=some (dn (xs++ys)) :=
 (pp (by rw [List.length_map];exact h1) (by rw [List.length_map];exact h2)).trans (congrArg (some ∘ D.list) List.map_append.symm)
theorem AD (m n:Nat):((m:Int)).fmod (n:Int)=((m % n:Nat):Int):=by
 rw [Int.fmod_eq_emod_of_nonneg _ (Int.natCast_nonneg _)];rfl
theorem Ad (m n:Nat):((m:Int)).fdiv (n:Int)=((m / n:Nat):Int):=by
 rw [Int.fdiv_eq_ediv_of_nonneg _ (Int.natCast_nonneg _)];rfl
theorem AC (m k:Nat):((m:Int)).fdiv (2 ^ k)=((m / 2 ^ k:Nat):Int):=by
 rw [show (2:Int) ^ k=((2 ^ k:Nat):Int) from (Int.natCast_pow 2 k).symm,Ad]
theorem nZ (a b:Nat):cmpD .Eq (.int (a:Int)) (.int (b:Int))=some (decide (a=b)):=by
 refine congrArg some ?_
 by_cases h:a=b
 ·rw [decide_eq_true h];exact beq_iff_eq.mpr (congrArg Int.ofNat h)
 ·rw [decide_eq_false h];exact beq_eq_false_iff_ne.mpr fun e=>h (Int.ofNat.inj e)
theorem zz (a b:Nat):cmpD .Lt (.int (a:Int)) (.int (b:Int))=some (decide (a<b)):=congrArg some (decide_eq_decide.mpr Int.ofNat_lt)
theorem zH (a b:Nat):cmpD .GtE (.int (a:Int)) (.int (b:Int))=some (decide (b≤a)):=congrArg some (decide_eq_decide.mpr Int.ofNat_le)
theorem xX (a b:List Nat):eqD (.str (mk a)) (.str (mk b))=some (a==b):=congrArg some (pt a b)
section
variable {G:af} {F:FEnv} {σ:MEnv} {b:Bool} {a c:T} {m n k:Nat}
theorem bA (n:Nat) (h:ev G F σ true a=some (.int (m:Int))) (hn:n≠0):ev G F σ b (.bin .Mod a (.cst (.int (n:Int))))=some (.int ((m % n:Nat):Int)) :=
 ag h ai ((uM fun e=>hn (Int.ofNat.inj e)).trans (congrArg (some ∘ D.int) (AD m n)))
theorem pn (h:ev G F σ true a=some (.int (m:Int))) (h2:ev G F σ true c=some (.int (n:Int))) (hn:n≠0) (hs:n≤1000000):ev G F σ b (.bin .FloorDiv a c)=some (.int ((m / n:Nat):Int)) :=
 ag h h2 ((Ac (fun e=>hn (Int.ofNat.inj e)) (bg hs)).trans (congrArg (some ∘ D.int) (Ad m n)))
theorem cH (n:Nat) (h:ev G F σ true a=some (.int (m:Int))) (hn:n≠0) (hs:n≤1000000):ev G F σ b (.bin .FloorDiv a (.cst (.int (n:Int))))=some (.int ((m / n:Nat):Int)):=pn h ai hn hs
theorem bB (h:ev G F σ true a=some (.int (m:Int))) (h2:ev G F σ true c=some (.int (n:Int))):ev G F σ b (.bin .Add a c)=some (.int ((m+n:Nat):Int)):=ag h h2 rfl
theorem jJ (h:ev G F σ true a=some (.int (m:Int))) (h2:ev G F σ true c=some (.int (n:Int))) (hm:m≤1000000) (hn:n≤1000000):ev G F σ b (.bin .Mult a c)=some (.int ((m * n:Nat):Int)):=ag h h2 (nG (bg hm) (bg hn))
theorem Au (m:Nat):Builtin.bitAnd (m:Int) 1=((m % 2:Nat):Int):=(eb m 1).trans (congrArg _ (Nat.and_one_is_mod m))
theorem nQ (h:ev G F σ true a=some (.int (m:Int))) (h2:ev G F σ true c=some (.int (k:Int))):ev G F σ b (.bin .BitAnd (.bin .RShift a c) (.cst (.int 1)))=some (.int ((m / 2 ^ k % 2:Nat):Int)) :=
 ag (ag h h2 ((uv (Int.natCast_nonneg _)).trans (congrArg (some ∘ D.int) (AC m k)))) ai (congrArg (some ∘ D.int) (Au _))
theorem ij {m:Nat}:truthy (.int ((m % 2:Nat):Int))=some (decide (m % 2=1)):=by
 rcases Nat.mod_two_eq_zero_or_one m with h |h<;>rw [h]<;>rfl
end
noncomputable def id5:List Nat:=[0,1,2,3,4]
noncomputable def turnN:List Nat→List Nat
 | [a,b,c,d,e]=>((((([0,0,0,0,0].set a b).set b c).set c d).set d e).set e a)
 |_=>[]
noncomputable def appN (f:List Nat) (l:List Nat):List Nat:=l.map fun k=>f.getD k 0
noncomputable def one5:List Nat→List Nat
 | [a,b,c,d,e]=>[a,c,b,e,d]
 |_=>[]
noncomputable def two5:List Nat→List Nat
 | [a,b,c,d,e]=>[a,b,d,e,c]
 |_=>[]
noncomputable def pmB (l:List Nat):Bool:=l.length==5&&l.all (decide <| · < 5)&&(List.range 5).all fun k=>l.contains k
noncomputable def all5:List (List Nat):=(List.range 5).flatMap fun a=>(List.range 5).flatMap fun b=>(List.range 5).flatMap fun c=>(List.range 5).flatMap fun d=>(List.range 5).map fun e=>[a,b,c,d,e]
noncomputable def pmL:List (List Nat):=all5.filter pmB
structure pm (l:List Nat):Prop where
 len:l.length=5
 lt:∀ x∈l,x<5
 all:∀ k,k<5→k∈l
theorem dO {l:List Nat} (h:pmB l=true):pm l:=aa h fun h h3=>aa h fun h1 h2 =>
 ⟨beq_iff_eq.mp h1,fun x hx=>de (List.all_eq_true.mp h2 x hx),fun k hk=>List.contains_iff_mem.mp (List.all_eq_true.mp h3 k (List.mem_range.mpr hk))⟩
theorem Aj {l:List Nat} (h:pm l):pmB l=true:=by
 unfold pmB
 rw [beq_iff_eq.mpr h.len,List.all_eq_true.mpr fun x hx=>decide_eq_true (h.lt x hx),List.all_eq_true.mpr fun k hk=>List.contains_iff_mem.mpr (h.all k (List.mem_range.mp hk))];rfl
theorem yn {r:List Nat} (h:r.length=5):∃ a b c d e,r=[a,b,c,d,e]:=by
 match r,h with
 | [a,b,c,d,e],_=>exact ⟨a,b,c,d,e,rfl⟩
theorem ic {l:List Nat} (h:pm l):l∈pmL:=by
 refine List.mem_filter.mpr ⟨?_,Aj h⟩
 obtain ⟨a,b,c,d,e,rfl⟩:=yn h.len
 have hb:∀ x∈[a,b,c,d,e],x∈List.range 5:=fun x hx=>List.mem_range.mpr (h.lt x hx)
 have m1:=List.mem_cons_self (a:=a) (l:=[b,c,d,e])
 have m2:=List.mem_cons_of_mem a (List.mem_cons_self (a:=b) (l:=[c,d,e]))
 have m3:=List.mem_cons_of_mem a (List.mem_cons_of_mem b (List.mem_cons_self (a:=c) (l:=[d,e])))
 have m4:=List.mem_cons_of_mem a (List.mem_cons_of_mem b (List.mem_cons_of_mem c (List.mem_cons_self (a:=d) (l:=[e]))))
 have m5:=List.mem_cons_of_mem a (List.mem_cons_of_mem b (List.mem_cons_of_mem c (List.mem_cons_of_mem d (List.mem_cons_self (a:=e) (l:=[])))))
 exact List.mem_flatMap.mpr ⟨a,hb a m1,List.mem_flatMap.mpr ⟨b,hb b m2,List.mem_flatMap.mpr ⟨c,hb c m3,List.mem_flatMap.mpr ⟨d,hb d m4,List.mem_map.mpr ⟨e,hb e m5,rfl⟩⟩⟩⟩⟩
theorem ea {f:List Nat→Bool} (h:pmL.all f=true) {l:List Nat} (hl:pm l):f l=true:=List.all_eq_true.mp h l (ic hl)
theorem zh:pmL.all (fun r=>pmB (turnN r)&&pmB r.reverse&&pmB (one5 r)&&pmB (two5 r))=true:=by decide +kernel
theorem aF {r:List Nat} (h:pm r):pm (turnN r)∧pm r.reverse∧pm (one5 r)∧pm (two5 r):=aa (ea zh h) fun h h4=>aa h fun h h3=>aa h fun h1 h2=>⟨dO h1,dO h2,dO h3,dO h4⟩
theorem jG:pm id5:=dO (by decide)
theorem getD_mem {f:List Nat} {k:Nat} (h:k<f.length):f.getD k 0∈f:=by
 rw [List.getD_eq_getElem?_getD,List.getElem?_eq_getElem h]
 exact List.getElem_mem h
theorem c9 {f g:List Nat} (hf:pm f) (hg:pm g):pm (appN f g):=by
 refine ⟨(List.length_map _).trans hg.len,fun x hx=> ?_,fun k hk=> ?_⟩
 ·obtain ⟨y,hy,rfl⟩:=List.mem_map.mp hx
  exact hf.lt _ (getD_mem (by rw [hf.len];exact hg.lt y hy))
 ·obtain ⟨i,hi,e⟩:=List.mem_iff_getElem.mp (hf.all k hk)
  refine List.mem_map.mpr ⟨i,hg.all i (by rw [← hf.len];exact hi),?_⟩
  rw [List.getD_eq_getElem?_getD,List.getElem?_eq_getElem hi,e];rfl
theorem yM {f:List Nat} (h:pm f) {k:Nat} (hk:k<5):idxD (dn f) (.int (k:Int))=some (.int ((f.getD k 0:Nat):Int)):=tm (by rw [h.len];exact hk) (by rw [h.len];decide)
theorem tB {G:af} {F:FEnv} {r:List Nat} (h:pm r):run G F 3 s3_law_turn [dn r]=some (dn (turnN r)):=by
 have t:pmL.map (fun r=>run G F 3 s3_law_turn [dn r])=pmL.map (fun r=>some (dn (turnN r))):=by kernel_rfl
 exact List.map_inj_left.mp t r (ic h)
theorem uu {r:List Nat} (h:pm r):sliD (dn r) .none .none (.int (-1))=some (dn r.reverse):=by
 have t:pmL.map (fun r=>sliD (dn r) .none .none (.int (-1)))=pmL.map (fun r=>some (dn r.reverse)):=by kernel_rfl
 exact List.map_inj_left.mp t r (ic h)
end Mine
set_option genSizeOf false
set_option genInjectivity false
namespace Mine
inductive Tr where
 |has (t:Nat)
 |no (a:Tr)
 |both (a b:Tr)
noncomputable def Tr.toD:Tr→D
 | .has t=> .tup [.str "has",.int (t:Int)]
 | .no a=> .tup [.str "not",a.toD]
 | .both a b=> .tup [.str "and",a.toD,b.toD]
noncomputable def Tr.tells (h:Nat→Bool):Tr→Bool
 | .has t=>h t
 | .no a=> !a.tells h
 | .both a b=>a.tells h&&b.tells h
noncomputable def Tr.ok (n:Nat):Nat→Tr→Bool
 |0,_=>false
 |_+1,.has t=>decide (t<n)
 |d+1,.no a=>a.ok n d
 |d+1,.both a b=>a.ok n d&&b.ok n d
noncomputable def denN:Tr→Tr
 | .has t=> .no (.has t)
 | .no a=>a
 | .both a b=> .no (.both a b)
noncomputable def joinN:Nat→Tr→Tr→Tr
 |0,l,r=> .both l r
 |1,l,r=> .no (.both (denN l) (denN r))
 |_+2,l,r=> .no (.both (denN l) r)
section
variable {G:af} {F:FEnv}
theorem oq:∀ t:Tr,run G F 1 s3_law_denied [t.toD]=some (denN t).toD
 | .has _=>by kernel_rfl!
 | .no _=>by kernel_rfl!
 | .both _ _=>by kernel_rfl!
theorem su (h:∀ t:Tr,F "_law_denied" [t.toD]=some (denN t).toD) (l r:Tr):∀ kd:Nat,run G F 3 s3_law_join [.int (kd:Int),l.toD,r.toD]=some (joinN kd l r).toD
 |0=>by kernel_rfl!
 |1=>au [o (.int (1:Nat)),o l.toD,o r.toD] rfl (be (x:= .bool false) rfl rfl (aS (aA (bH (aR rfl (bH (dY rfl (aj (aC rfl) (h l)) (eD (x:= .bool true) (r:=true) rfl rfl (fun _=>aj (aC rfl) (h r)) fun e=>nomatch e))))))))
 |k+2=>au [o (.int ((k+2:Nat):Int)),o l.toD,o r.toD] rfl (be (x:= .bool false) (by kernel_rfl!) rfl (aS (aA (bH (aR rfl (bH (dY rfl (aj (aC rfl) (h l)) (eD (x:= .bool false) (r:=false) (by kernel_rfl!) rfl (fun e=>nomatch e) fun _=>rfl))))))))
noncomputable def hasD (hs:List Bool):D:= .list (hs.map .bool)
theorem rF {hs:List Bool} (hl:hs.length≤1000) {d:Nat} (ih:∀ t:Tr,t.ok hs.length d=true→F "_law_holds" [t.toD,hasD hs]=some (.bool (t.tells fun i=>hs.getD i false))) :
  ∀ t:Tr,t.ok hs.length (d+1)=true→run G F 2 s3_law_holds [t.toD,hasD hs]=some (.bool (t.tells fun i=>hs.getD i false))
 | .has n,h=>au [o (Tr.has n).toD,o (hasD hs)] rfl (aw (aL (x:= .bool true) rfl rfl (aA (ay (x:=hasD hs) (y:= .int (n:Int)) rfl rfl (kK false (de h) (Nat.le_trans hl (by decide)))))))
 | .no a,h=>au [o (Tr.no a).toD,o (hasD hs)] rfl (be (x:= .bool false) rfl rfl (aS (aA (eD (x:= .bool true) (r:=true) rfl rfl (fun _=>om (aj (aR (x:=a.toD) rfl rfl) (ih a h)) rfl) fun e=>nomatch e))))
 | .both a b,h=>au [o (Tr.both a b).toD,o (hasD hs)] rfl (be (x:= .bool false) rfl rfl (aS (aA (eD (x:= .bool false) (r:=false) rfl rfl (fun e=>nomatch e) fun _=>aa h fun h1 h2=>jL (aj (aR (x:=a.toD) rfl rfl) (ih a h1)) fun _=>aj (aR (x:=b.toD) rfl rfl) (ih b h2)))))
end
section
variable {G:af} {fns:List Fn} {b1L:List Int} {b3L:List (Int×Str)} (C:gm G fns b1L b3L)
include C
theorem jy {k:Nat} (t:Tr):FF G fns spn2 sp2 (k+1) "_law_denied" [t.toD]=some (denN t).toD:=a8 rfl C.denied rfl (oq t)
theorem wC {k:Nat} (kd:Nat) (l r:Tr):FF G fns spn2 sp2 (k+2) "_law_join" [.int (kd:Int),l.toD,r.toD]=some (joinN kd l r).toD:=a8 rfl C.join rfl (su (fun t=>jy C t) l r kd)
theorem mq {k:Nat} {r:List Nat} (h:pm r):FF G fns spn2 sp2 (k+1) "_law_turn" [dn r]=some (dn (turnN r)):=a8 rfl C.turn rfl (tB h)
theorem jV {hs:List Bool} (hl:hs.length≤1000) {k:Nat}:∀ (d:Nat) (t:Tr),t.ok hs.length d=true→FF G fns spn2 sp2 (k+d) "_law_holds" [t.toD,hasD hs]=some (.bool (t.tells fun i=>hs.getD i false))
 |0,t,h=>nomatch h
 |d+1,t,h=>a8 rfl C.holds rfl (rF hl (jV hl d) t h)
end
end Mine
set_option genSizeOf false
set_option genInjectivity false
namespace Mine
noncomputable def lst {α:Type} (f:α→D) (l:List α):D:= .list (l.map f)
section
variable {α:Type} {f:α→D}
theorem cC {xs ys:List α} (h1:xs.length≤1048576) (h2:ys.length≤1048576):binD .Add (lst f xs) (lst f ys)=some (lst f (xs++ys)) :=
 (pp (by rw [List.length_map];exact h1) (by rw [List.length_map];exact h2)).trans (congrArg (some ∘ D.list) List.map_append.symm)
theorem tG {xs:List α} {x:α} (h:(xs++[x]).length≤1048576):sliD (lst f (xs++[x])) .none (.int (-1)) .none=some (lst f xs)∧idxD (lst f (xs++[x])) (.int (-1))=some (f x):=by
 unfold lst
 rw [← List.length_map (f:=f),List.map_append] at h
 rw [List.map_append]
 exact ⟨(lE h).trans (by rw [show List.map f [x]=[f x] from rfl,List.dropLast_concat]),xK (Nat.le_of_succ_le_succ (by rw [List.length_append] at h;exact h))⟩
end
noncomputable abbrev Row:=Nat×List Nat×List Nat
noncomputable def rowD (r:Row):D:= .tup [.int (r.1:Int),dn r.2.1,dn r.2.2]
noncomputable def putOn (on:List Nat) (r:Row):Row:=(r.1,appN on r.2.1,appN on r.2.2)
noncomputable def lastOn (on:List Nat) (s:List Row):List Row:=s.dropLast++[putOn on (s.getLastD (0,[],[]))]
theorem eX {on:List Nat} {ini:List Row} {la:Row}:lastOn on (ini++[la])=ini++[putOn on la]:=by
 unfold lastOn
 rw [List.dropLast_concat,List.getLastD_concat]
noncomputable def stepsN:Tr→List Nat→List Row
 | .has t,r=>[(t,turnN r,id5)]
 | .no a,r=>lastOn (turnN r) (stepsN a r.reverse)
 | .both a b,r=>stepsN a (one5 r)++stepsN b (two5 r)++stepsN a (one5 r).reverse++stepsN b (two5 r).reverse
structure cF (n:Nat) (r:Row):Prop where
 lt:r.1<n
 a:pm r.2.1
 b:pm r.2.2
structure SP (n m:Nat) (l:List Row):Prop where
 ne:∃ ini la,l=ini++[la]
 len:l.length≤m
 ok:∀ x∈l,cF n x
noncomputable def bdN:Nat→Nat
 |0=>1
 |d+1=>bdN d+bdN d+bdN d+bdN d
theorem pY:∀ d,1≤bdN d
 |0=>Nat.le_refl 1
 |d+1=>Nat.le_trans (pY d) (Nat.le_add_left _ _)
theorem gO {d e:Nat} (h:d≤e):bdN d≤bdN e:=by
 induction h with
 |refl=>exact Nat.le_refl _
 |step _ ih=>exact Nat.le_trans ih (Nat.le_add_left _ _)
theorem SP.app {n m k:Nat} {l l':List Row} (h:SP n m l) (h':SP n k l'):SP n (m+k) (l++l'):=by
 obtain ⟨ini,la,e⟩:=h'.ne
 exact ⟨⟨l++ini,la,by rw [e,List.append_assoc]⟩,by rw [List.length_append];exact Nat.add_le_add h.len h'.len,fun x hx=>(List.mem_append.mp hx).elim (h.ok x) (h'.ok x)⟩
theorem SP.on {n m:Nat} {l:List Row} {on:List Nat} (h:SP n m l) (ho:pm on):SP n m (lastOn on l):=by
 obtain ⟨ini,la,rfl⟩:=h.ne
 have hl:=h.len
 obtain ⟨h1,h2,h3⟩:=h.ok la (List.mem_append_right _ List.mem_cons_self)
 rw [eX]
 exact ⟨⟨_,_,rfl⟩,by rw [List.length_append] at hl ⊢;exact hl,fun x hx=>(List.mem_append.mp hx).elim (fun q=>h.ok x (List.mem_append_left _ q)) fun q=>List.mem_singleton.mp q▸⟨h1,c9 ho h2,c9 ho h3⟩⟩
theorem aH {n:Nat}:∀ (d:Nat) (t:Tr) {r:List Nat},t.ok n d=true→pm r→SP n (bdN d) (stepsN t r)
 |0,_,_,hl,_=>nomatch hl
 |d+1,.has m,r,hl,h=>⟨⟨[],_,rfl⟩,pY _,fun x hx=>List.mem_singleton.mp hx▸⟨de hl,(aF h).1,jG⟩⟩
 |d+1,.no a,r,hl,h =>
  let q:=(aH d a hl (aF h).2.1).on (aF h).1
  ⟨q.ne,Nat.le_trans q.len (Nat.le_add_left _ _),q.ok⟩
 |d+1,.both a b,r,hl,h=>aa hl fun h1 h2 =>
  let ⟨_,_,p1,p2⟩:=aF h
  (((aH d a h1 p1).app (aH d b h2 p2)).app (aH d a h1 (aF p1).2.1)).app (aH d b h2 (aF p2).2.1)
theorem xZ:6<7:=by decide
theorem dU:1≤1048576:=by decide
noncomputable def rowsD (l:List Row):D:=lst rowD l
section
variable {G:af} {F:FEnv}
theorem mW {σ:MEnv} {b:Bool} {i j:Nat} {it:T} {f l:List Nat} (hij:j≠i) (hi:i<σ.length) (hf:pm f) (hl:pm l) (hj:getE σ j=some (dn f,false)) (hit:ev G F σ true it=some (dn l)) :
  ev G F σ b (.comp (.idx (.var j) (.var i)) [i] true .plain it .nil (.cst (.bool true)) [i])=some (dn (appN f l)) :=
 (aZ (l:=l) (inj:=fun n:Nat=>D.int (n:Int)) (y:=fun k=> .int ((f.getD k 0:Nat):Int)) rfl (bK hit (bu (by rw [List.length_map,hl.len];decide))) hi fun a ha σ' h1 h2 h3 =>
  ay (ab ((h2 j hij).trans hj)) (ab h1) (yM hf (hl.lt a ha))).trans (congrArg (some ∘ D.list) (List.map_map (g:=fun n:Nat=>D.int (n:Int)) (f:=fun k=>f.getD k 0)).symm)
noncomputable def sBoth:T:= .cons (.comp (.idx (.var 1) (.var 6)) [6] true .plain (.tup (.cons (.cst (.int 0)) (.cons (.cst (.int 2)) (.cons (.cst (.int 1)) (.cons (.cst (.int 4)) (.cons (.cst (.int 3)) .nil)))))) .nil (.cst (.bool true)) [6]) (.cons (.comp (.idx (.var 1) (.var 6)) [6] true .plain (.tup (.cons (.cst (.int 0)) (.cons (.cst (.int 1)) (.cons (.cst (.int 3)) (.cons (.cst (.int 4)) (.cons (.cst (.int 2)) .nil)))))) .nil (.cst (.bool true)) [6]) .nil)
theorem xv {x:D} {r:List Nat} (h:pm r):ev G F [o x,o (dn r),none,none,none,none,none] false sBoth=some (.tup [dn (one5 r),dn (two5 r)]):=by
 have t:pmL.map (fun r=>ev G F [o x,o (dn r),none,none,none,none,none] false sBoth)=pmL.map (fun r=>some (.tup [dn (one5 r),dn (two5 r)])):=by kernel_rfl
 exact List.map_inj_left.mp t r (ic h)
theorem bd_9 {d m:Nat} (hd:d≤9) {l:List Row} (h:l.length≤bdN d+m) (hm:m≤3 * bdN d):l.length≤1048576 :=
 Nat.le_trans h (Nat.le_trans (Nat.add_le_add_left hm _) (Nat.le_trans (Nat.add_le_add (gO hd) (Nat.mul_le_mul_left 3 (gO hd))) (by decide)))
variable {d:Nat} (hd:d≤8) (hT:∀ {r:List Nat},pm r→F "_law_turn" [dn r]=some (dn (turnN r))) (hS:∀ {t:Tr} {r:List Nat},t.ok 1000 d=true→pm r→F "_law_steps" [t.toD,dn r]=some (rowsD (stepsN t r)))
include hd hT hS
theorem oZ:∀ (t:Tr) {r:List Nat},t.ok 1000 (d+1)=true→pm r→run G F 7 s3_law_steps [t.toD,dn r]=some (rowsD (stepsN t r))
 | .has n,r,hl,h=>au [o (Tr.has n).toD,o (dn r),none,none,none,none,none] rfl (aw (aL (x:= .bool true) rfl rfl (aA (bE (aC (bH (dY rfl (aj (aC rfl) (hT h)) rfl)))))))
 | .no a,r,hl,h=>by
  have hr:=hS hl (aF h).2.1
  have hq:=aH d a hl (aF h).2.1
  obtain ⟨ini,la,e⟩:=hq.ne
  unfold stepsN
  rw [e] at hr hq ⊢
  rw [eX]
  have hz:(ini++[la]).length≤1048576:=Nat.le_trans hq.len (Nat.le_trans (gO hd) (by decide))
  obtain ⟨g1,g2⟩:=tG (f:=rowD) hz
  obtain ⟨_,k1,k2⟩:=hq.ok la (List.mem_append_right _ List.mem_cons_self)
  have q:∀ {b:Bool},ev G F [o (Tr.no a).toD,o (dn r),o (rowsD (ini++[la])),o (dn (turnN r)),none,none,none] b (.idx (.var 2) (.un .USub (.cst (.int 1))))=some (rowD la):=ay (y:= .int (-1)) rfl rfl g2
  exact au [o (Tr.no a).toD,o (dn r),none,none,none,none,none] rfl (be (x:= .bool false) rfl rfl (aS (aw (aL (x:= .bool true) rfl rfl
   (ey (aR (aj (aR (x:=a.toD) rfl (bz (x:=dn r) (s':= .int (-1)) rfl rfl rfl rfl (uu h))) hr) (aj (aC rfl) (hT h))) rfl
   (aA (ag (bz (u':= .int (-1)) rfl rfl rfl rfl g1) (bE (aC (bH (dY (ay (y:= .int 0) q rfl rfl) (mW (by decide) xZ (aF h).1 k1 rfl (ay (y:= .int 1) q rfl rfl)) (mW (by decide) xZ (aF h).1 k2 rfl (ay (y:= .int 2) q rfl rfl)))))) (cC (f:=rowD) (ys:=[putOn (turnN r) la]) (Nat.le_trans (by rw [List.length_append];exact Nat.le_add_right _ _) hz) dU))))))))
 | .both a b,r,hl,h=>aa hl fun h1 h2=>by
  obtain ⟨_,_,p1,p2⟩:=aF h
  have q1:=aH d a h1 p1
  have q2:=aH d b h2 p2
  have q3:=aH d a h1 (aF p1).2.1
  have q4:=aH d b h2 (aF p2).2.1
  have z:∀ {l:List Row},l.length≤bdN (d+1)→l.length≤1048576:=fun h=>Nat.le_trans h (Nat.le_trans (gO (Nat.succ_le_succ hd)) (by decide))
  have z1:∀ {l:List Row},SP 1000 (bdN d) l→l.length≤1048576:=fun q=>z (Nat.le_trans q.len (gO (Nat.le_succ d)))
  exact au [o (Tr.both a b).toD,o (dn r),none,none,none,none,none] rfl (be (x:= .bool false) rfl rfl (aS (be (x:= .bool false) rfl rfl (aS
   (ey (xv h) rfl (aG (ag (aj (aR (x:=a.toD) rfl rfl) (hS h1 p1)) (aj (aR (x:=b.toD) rfl rfl) (hS h2 p2)) (cC (z1 q1) (z1 q2)))
   (aA (ag (ag rfl (aj (aR (x:=a.toD) rfl (bz (x:=dn (one5 r)) (s':= .int (-1)) rfl rfl rfl rfl (uu p1))) (hS h1 (aF p1).2.1)) (cC (z (Nat.le_trans (q1.app q2).len (by rw [bdN,Nat.add_assoc];exact Nat.le_add_right _ _))) (z1 q3)))
    (aj (aR (x:=b.toD) rfl (bz (x:=dn (two5 r)) (s':= .int (-1)) rfl rfl rfl rfl (uu p2))) (hS h2 (aF p2).2.1)) (cC (z (Nat.le_trans ((q1.app q2).app q3).len (Nat.le_add_right _ _))) (z1 q4))))))))))
end
section
variable {G:af} {fns:List Fn} {b1L:List Int} {b3L:List (Int×Str)} (C:gm G fns b1L b3L)
include C
theorem j7 {k:Nat}:∀ (d:Nat) {t:Tr} {r:List Nat},d≤9→t.ok 1000 d=true→pm r→FF G fns spn2 sp2 (k+d+1) "_law_steps" [t.toD,dn r]=some (rowsD (stepsN t r))
 |0,_,_,_,hl,_=>nomatch hl
 |d+1,t,r,hd,hl,h=>a8 rfl C.steps rfl (oZ (Nat.le_of_succ_le_succ hd) (fun h=>mq C h) (fun hl h=>j7 d (Nat.le_of_succ_le hd) hl h) t hl h)
end
end Mine
set_option genSizeOf false
set_option genInjectivity false
namespace Mine
noncomputable def greatN:List Nat:=[119808,119860,119912,120016,120172,120224,120276,120328,120380,120432]
noncomputable def uN:List Nat:=[173,847,6150,6155,6156,6157,8203,8204,8205,8288,65279,65024,65025,65026,65027,65028,65029,65030,65031,65032,65033,65034,65035,65036,65037,65038,65039]
theorem unseen_N:unseen=uN.map fun (n:Nat)=>(n:Int):=rfl
noncomputable def ptN (f c:Nat):Nat:=cond (decide (f=0)) c (cond (decide (f=1)) (c - 32) (greatN.getD (f - 2) 0+c - 97))
noncomputable def marksN (noise k:Nat):List Nat:=cond (decide (noise / 2 ^ k % 2=1)) [uN.getD ((noise / 16+5 * k) % 27) 0] []
noncomputable def ptsN (pick noise:Nat):Nat→List Nat→List Nat
 |_,[]=>[]
 |k,c :: cs=>marksN noise k++(ptN ((pick+5 * k) % 12) c :: ptsN pick noise (k+1) cs)
theorem fB {noise k:Nat}:(marksN noise k).length≤1:=by
 unfold marksN
 cases decide (noise / 2 ^ k % 2=1) with
 |true=>exact Nat.le_refl 1
 |false=>exact Nat.zero_le 1
theorem kH (pick noise:Nat):∀ (cs:List Nat) (k:Nat),(ptsN pick noise k cs).length≤2 * cs.length
 | [],_=>Nat.le_refl 0
 |c :: cs,k=>by
  rw [ptsN,List.length_append,List.length_cons,List.length_cons,Nat.mul_succ,Nat.add_comm]
  exact Nat.add_le_add (b:=_+1) (d:=1) (Nat.succ_le_succ (kH pick noise cs (k+1))) fB
noncomputable def dI (n:Nat):D:= .int (n:Int)
section
variable {G:af} {F:FEnv} {σ:MEnv} {b:Bool} {a c e t u:T} {d:D}
theorem ch {α:Type} (f:α→D) {r:Bool} {x y:α} (h:ev G F σ true c=some d) (ht:truthy d=some r) (h1:r=true→ev G F σ b t=some (f x)) (h2:r=false→ev G F σ b u=some (f y)):ev G F σ b (.ite c t u)=some (f (cond r x y)):=eD h ht (fun q=>(h1 q).trans (by rw [q];rfl)) fun q=>(h2 q).trans (by rw [q];rfl)
theorem hW {m n:Nat} (h:ev G F σ true a=some (.int (m:Int))) (h2:ev G F σ true c=some (.int (n:Int))) (hn:n≤m):ev G F σ b (.bin .Sub a c)=some (.int ((m - n:Nat):Int)):=ag h h2 (congrArg (some ∘ D.int) (po hn))
theorem qI {k:Nat} (h:ev G F σ true c=some (.int (k:Int))) (hk:k≤1000):ev G F σ b (.bin .Mult (.cst (.int 5)) c)=some (.int ((5 * k:Nat):Int)):=jJ (m:=5) ai h (by decide) (Nat.le_trans hk (by decide))
theorem oz {m n:Nat} (h:ev G F σ true a=some (.int (m:Int))) (h2:ev G F σ true c=some (.int (n:Int))):ev G F σ b (.cmp .Eq a c)=some (.bool (decide (m=n))):=an h h2 (nZ m n)
theorem yT:∀ {f:Nat},f≠0→f≠1→2≤f
 |0,h,_=>absurd rfl h
 |1,_,h=>absurd rfl h
 |f+2,_,_=>Nat.le_add_left 2 f
theorem As {f:Nat} (h:f<12) (h2:2≤f):f - 2<greatN.length:=Nat.sub_lt_left_of_lt_add h2 h
theorem zb {f c:Nat} (h3:getE σ 3=o (.tup (greatN.map dI))) (h6:getE σ 6=o (dI f)) (h7:getE σ 7=o (dI c)) (hf:f<12) (hc:97≤c) :
  ev G F σ false (.ite (.cmp .Eq (.var 6) (.cst (.int 0))) (.var 7) (.ite (.cmp .Eq (.var 6) (.cst (.int 1))) (.bin .Sub (.var 7) (.cst (.int 32))) (.bin .Sub (.bin .Add (.idx (.var 3) (.bin .Sub (.var 6) (.cst (.int 2)))) (.var 7)) (.cst (.int 97)))))=some (dI (ptN f c)) :=
 ch dI (oz (m:=f) (n:=0) (ab h6) ai) rfl (fun _=>ab h7) fun e0=>ch dI (oz (m:=f) (n:=1) (ab h6) ai) rfl (fun _=>hW (m:=c) (n:=32) (ab h7) ai (Nat.le_trans (by decide) hc)) fun e1 =>
  have h2:=yT (of_decide_eq_false e0) (of_decide_eq_false e1)
  hW (n:=97) (bB (ay (ab h3) (hW (m:=f) (n:=2) (ab h6) ai h2) (kK (f:=dI) 0 (As hf h2) (by decide))) (ab h7)) ai (Nat.le_trans hc (Nat.le_add_left _ _))
theorem xm {cs:List Nat} {k c:Nat} (h:cs[k]? = some c) (hl:cs.length≤1000):idxD (.str (mk cs)) (.int (k:Int))=some (.str ⟨#[c]⟩):=by
 show idxL ((mk cs).cps.toList.map fun c=>D.str ⟨#[c]⟩) _=_
 rw [bV]
 exact ei (by rw [List.getElem?_map,h];rfl) (by rw [List.length_map];exact Nat.le_trans hl (by decide))
noncomputable def pBody:S:=(.seq (.ext 4 (.ite (.bin .BitAnd (.bin .RShift (.var 2) (.var 5)) (.cst (.int 1))) (.list (.cons (.idx (.call "_law_unseen" .nil) (.bin .Mod (.bin .Add (.bin .FloorDiv (.var 2) (.cst (.int 16))) (.bin .Mult (.cst (.int 5)) (.var 5))) (.cst (.int 27)))) .nil)) (.list .nil))) <|
  (.seq (.multi [(6,false),(7,false)] (.cons (.bin .Mod (.bin .Add (.var 1) (.bin .Mult (.cst (.int 5)) (.var 5))) (.cst (.int 12))) (.cons (.blt .ord (.cons (.idx (.var 0) (.var 5)) .nil)) .nil))) <|
  (.seq (.app 4 (.ite (.cmp .Eq (.var 6) (.cst (.int 0))) (.var 7) (.ite (.cmp .Eq (.var 6) (.cst (.int 1))) (.bin .Sub (.var 7) (.cst (.int 32))) (.bin .Sub (.bin .Add (.idx (.var 3) (.bin .Sub (.var 6) (.cst (.int 2)))) (.var 7)) (.cst (.int 97)))))) <|
  .skip)))
theorem ku {m n k:Nat} (h:m+n≤10000) (hk:k≤n):sizeOk (m+k)=true:=am (Nat.le_trans (Nat.add_le_add_left hk m) (Nat.le_trans h (by decide)))
variable (hU:F "_law_unseen" []=some (.list (unseen.map .int))) {cs:List Nat} {pick noise:Nat} (hl:cs.length≤1000)
include hU hl
theorem vG {k c:Nat} {xs:List D} {x5 x6 x7:Option (D×Bool)} (hc:cs[k]? = some c) (h97:97≤c) (hp:xs.length+2≤10000) :
  bodyT G F [5] true pBody [o (.str (mk cs)),o (dI pick),o (dI noise),o (.tup (greatN.map dI)),some (.list xs,true),x5,x6,x7] (dI k) =
   some ([o (.str (mk cs)),o (dI pick),o (dI noise),o (.tup (greatN.map dI)),some (.list (xs++(marksN noise k).map dI++[dI (ptN ((pick+5 * k) % 12) c)]),true),o (dI k),o (dI ((pick+5 * k) % 12)),o (dI c)],.next) :=
 have hk:k≤1000:=Nat.le_trans (Nat.le_of_lt (List.getElem?_eq_some_iff.mp hc).1) hl
 have hm:((marksN noise k).map dI).length≤1:=by rw [List.length_map];exact fB
 ad (a:=[o (.str (mk cs)),o (dI pick),o (dI noise),o (.tup (greatN.map dI)),some (.list xs,true),o (dI k),x6,x7]) rfl (zv rfl (ku hp (Nat.zero_le 2)) (ch (lst dI) (nQ (m:=noise) (k:=k) rfl rfl) ij
  (fun _=>bE (aC (ay (aj oD hU) (bA 27 (bB (cH (m:=noise) 16 rfl (by decide) (by decide)) (qI (k:=k) rfl hk)) (by decide)) (tm (l:=uN) (Nat.mod_lt _ (by decide)) (by decide))))) fun _=>rfl) (am (Nat.le_trans hm (by decide)))
  (ey (aR (bA 12 (bB (m:=pick) rfl (qI (k:=k) rfl hk)) (by decide)) (aU (aC (ay (y:=dI k) rfl rfl (xm hc hl))) rfl)) rfl
  (jE rfl (by rw [List.length_append];exact ku hp (Nat.le_succ_of_le hm)) (zb rfl rfl rfl (Nat.mod_lt _ (by decide)) h97) rfl)))
theorem mz (h97:∀ c∈cs,97≤c):∀ (r:List Nat) (k:Nat) (xs:List D) (x5 x6 x7:Option (D×Bool)),cs.drop k=r→xs.length+2 * r.length≤10000 →
  ∃ y5 y6 y7,loopL (bodyT G F [5] true pBody) [o (.str (mk cs)),o (dI pick),o (dI noise),o (.tup (greatN.map dI)),some (.list xs,true),x5,x6,x7] ((List.range' k r.length).map dI) =
   some ([o (.str (mk cs)),o (dI pick),o (dI noise),o (.tup (greatN.map dI)),some (.list (xs++(ptsN pick noise k r).map dI),true),y5,y6,y7],.next)
 | [],k,xs,x5,x6,x7,h,_=>⟨x5,x6,x7,by rw [ptsN,List.map_nil,List.append_nil];rfl⟩
 |c :: r,k,xs,x5,x6,x7,h,hp=>by
  have hc:cs[k]? = some c:=by rw [← List.head?_drop,h];rfl
  have hp':xs.length+2 * r.length+2≤10000:=hp
  obtain ⟨z5,z6,z7,ih⟩:=mz h97 r (k+1) (xs++(marksN noise k).map dI++[dI (ptN ((pick+5 * k) % 12) c)]) (o (dI k)) (o (dI ((pick+5 * k) % 12))) (o (dI c)) (by rw [← List.drop_drop,h];rfl) (by
   rw [List.length_append,List.length_append,List.length_map,Nat.add_right_comm,Nat.add_right_comm xs.length]
   exact Nat.le_trans (Nat.add_le_add_right (Nat.add_le_add_left fB _) 1) hp')
  refine ⟨z5,z6,z7,aW (vG hU hl hc (h97 c (List.mem_of_getElem? hc)) (Nat.le_trans (Nat.add_le_add_right (Nat.le_add_right _ _) 2) hp')) (ih.trans ?_)⟩
  rw [ptsN,List.map_append,List.append_assoc,List.append_assoc];rfl
theorem oh (h97:∀ c∈cs,97≤c):run G F 8 s3_law_points [.str (mk cs),.int (pick:Int),.int (noise:Int)]=some (dn (ptsN pick noise 0 cs)):=by
 obtain ⟨y5,y6,y7,h⟩:=mz (G:=G) hU hl (pick:=pick) (noise:=noise) h97 cs 0 [] none none none rfl (by rw [List.length_nil,Nat.zero_add];exact Nat.le_trans (Nat.mul_le_mul_left 2 hl) (by decide))
 rw [← List.range_eq_range'] at h
 exact au [o (.str (mk cs)),o (dI pick),o (dI noise),none,none,none,none,none] rfl (aG (d:= .tup (greatN.map dI)) rfl (eU (d:= .list []) rfl rfl
  (fQ rfl (sG (b:=true) (n:=cs.length) (aU (aC rfl) ((qw (by rw [aB];exact Nat.le_trans hl (by decide))).trans (by rw [aB]))) (Nat.le_trans hl (by decide))) h rfl)))
end
section
variable {G:af} {fns:List Fn} {b1L:List Int} {b3L:List (Int×Str)} (C:gm G fns b1L b3L)
include C
theorem qQ {k:Nat} {cs:List Nat} {pick noise:Nat} (hl:cs.length≤1000) (h97:∀ c∈cs,97≤c):FF G fns spn2 sp2 (k+2) "_law_points" [.str (mk cs),.int (pick:Int),.int (noise:Int)]=some (dn (ptsN pick noise 0 cs)) :=
 a8 rfl C.points rfl (oh (jg C.com) hl h97)
end
end Mine
set_option genSizeOf false
set_option genInjectivity false
namespace Mine
theorem zP {x:Int} (h:0≤x):Builtin.bitAnd x 63=x % 64:=by
 obtain ⟨n,rfl⟩:=Int.eq_ofNat_of_zero_le h
 exact (eb n 63).trans (congrArg _ (Nat.and_two_pow_sub_one_eq_mod n 6))
theorem nW (j:Nat):(2:Int) ^ (6 * j)=64 ^ j:=by rw [Int.pow_mul];rfl
theorem xl {v:Int} (h:0≤v) (j:Nat):binD .BitAnd (.int (v.fdiv (2 ^ ((6 * j:Nat):Int).toNat))) (.int 63)=some (.int (v / 64 ^ j % 64)):=by
 have hp:(0:Int)≤64 ^ j:=Int.le_of_lt (Int.pow_pos (by decide))
 rw [Int.toNat_natCast,nW,Int.fdiv_eq_ediv_of_nonneg _ hp]
 exact congrArg (some ∘ D.int) (zP (Int.ediv_nonneg h hp))
noncomputable def lastN (v:Int):Nat:=(Builtin.Int.intBits v - 1) / 6
theorem vT {v:Int} (h:0≤v):v<64 ^ (lastN v+1):=by
 rw [← nW,← b9 v h]
 exact Nat.le_of_pred_lt (Nat.lt_mul_div_succ _ (by decide))
theorem mO {v:Int} {M:Nat} (h:0≤v) (hM:v<64 ^ (M+1)):lastN v≤M:=by
 rw [← nW,← b9 v h] at hM
 exact Nat.le_of_lt_succ (Nat.div_lt_of_lt_mul (Nat.lt_of_le_of_lt (Nat.sub_le_sub_right hM 1) (Nat.sub_one_lt (Nat.succ_ne_zero _))))
noncomputable def parN (n k:Nat):Int:=((n+k) % 2:Nat)
noncomputable def blkN (v:Int) (n:Nat):List Int:=(List.range (lastN v+1)).map (octN v (lastN v) (parN n))
theorem xd (n k:Nat):parN n k=0∨parN n k=1:=(Nat.mod_two_eq_zero_or_one (n+k)).imp (congrArg Int.ofNat) (congrArg Int.ofNat)
theorem vR {v:Int} (h:0≤v) (n:Nat):Blk (blkN v n) 0 v:=by
 unfold blkN
 rw [List.range_eq_range']
 exact o8 (xd n) (lastN v) 0 (lastN v) 0 (Nat.zero_add _) (Int.ediv_eq_zero_of_lt h (vT h)).symm
theorem gE {v:Int} {M:Nat} (h:0≤v) (hM:v<64 ^ (M+1)) (n:Nat):(blkN v n).length≤M+1:=by
 unfold blkN
 rw [List.length_map,List.length_range]
 exact Nat.succ_le_succ (mO h hM)
noncomputable def tapeN:List Int→List Int→List Int
 |os,[]=>os
 |os,v :: vs=>tapeN (os++blkN v os.length) vs
theorem km:∀ (vs os ws:List Int),Tape os ws→(∀ v∈vs,0≤v)→Tape (tapeN os vs) (ws++vs)
 | [],os,ws,h,_=>by rw [List.append_nil];exact h
 |v :: vs,os,ws,h,h0=>by
  have:=km vs (os++blkN v os.length) (ws++[v]) (h.snoc (vR (h0 v List.mem_cons_self) _)) fun x hx=>h0 x (List.mem_cons_of_mem _ hx)
  rw [List.append_assoc] at this
  exact this
theorem jm {n m B k L:Nat} (h:n+B * (L+1)≤m) (hk:k≤B):n+k+B * L≤m:=by
 rw [Nat.mul_succ,Nat.add_comm (B * L),← Nat.add_assoc] at h
 exact Nat.le_trans (Nat.add_le_add_right (Nat.add_le_add_left hk n) _) h
theorem i6 {M m:Nat}:∀ (vs os:List Int),(∀ v∈vs,0≤v∧v<64 ^ (M+1))→os.length+(M+1) * vs.length≤m→(tapeN os vs).length≤m
 | [],os,_,hl=>hl
 |v :: vs,os,h,hl=>i6 vs (os++blkN v os.length) (fun x hx=>h x (List.mem_cons_of_mem _ hx)) (by
  rw [List.length_append]
  exact jm hl (gE (h v List.mem_cons_self).1 (h v List.mem_cons_self).2 _))
noncomputable abbrev dZ (l:List Int):D:=lst D.int l
section
variable {G:af} {F:FEnv}
noncomputable def oComp:T:= .comp (.bin .Add (.bin .Add (.bin .BitAnd (.bin .RShift (.var 2) (.bin .Mult (.cst (.int 6)) (.bin .Sub (.var 3) (.var 4)))) (.cst (.int 63))) (.ite (.cmp .Lt (.var 4) (.var 3)) (.cst (.int 64)) (.cst (.int 0)))) (.bin .Mult (.cst (.int 128)) (.bin .Mod (.bin .Add (.blt .len (.cons (.var 1) .nil)) (.var 4)) (.cst (.int 2))))) [4] true .range1 (.bin .Add (.var 3) (.cst (.int 1))) .nil (.cst (.bool true)) [4]
noncomputable def oBody:S:=(.seq (.asg 3 false (.bin .FloorDiv (.bin .Sub (.meth .bitlen (.var 2) .nil) (.cst (.int 1))) (.cst (.int 6)))) <|
  (.seq (.asg 1 false (.bin .Add (.var 1) oComp)) <|
  .skip))
theorem ya {σ:MEnv} {b:Bool} {a c:T} {m n:Nat} (h:ev G F σ true a=some (.int (m:Int))) (h2:ev G F σ true c=some (.int (n:Int))):ev G F σ b (.cmp .Lt a c)=some (.bool (decide (m<n))):=an h h2 (zz m n)
theorem yV {os:List Int} (ho:os.length≤100000):bltD .len [dZ os]=some (dI os.length):=(uR (by rw [List.length_map];exact Nat.le_trans ho (by decide))).trans (by rw [List.length_map];rfl)
theorem t7 {v:Int} {os:List Int} {x0 x4:Option (D×Bool)} (h0:0≤v) (hL:lastN v≤1000) (ho:os.length≤100000) :
  ev G F [x0,o (dZ os),o (.int v),o (dI (lastN v)),x4] true oComp=some (dZ (blkN v os.length)) :=
 (aZ (σ:=[x0,o (dZ os),o (.int v),o (dI (lastN v)),x4]) (l:=List.range (lastN v+1)) (inj:=dI) (y:=fun k=> .int (octN v (lastN v) (parN os.length) k)) rfl (cV (n:=lastN v+1) rfl (Nat.le_trans (Nat.succ_le_succ hL) (by decide))) (show 4<5 by decide) fun k hk σ' h1 h2 h3 =>
  have hk:k≤lastN v:=Nat.le_of_lt_succ (List.mem_range.mp hk)
  have c1:getE σ' 1=o (dZ os):=h2 1 (by decide)
  have c2:getE σ' 2=o (.int v):=h2 2 (by decide)
  have c3:getE σ' 3=o (dI (lastN v)):=h2 3 (by decide)
  ag (ag (ag (ag (ab c2) (jJ (m:=6) (n:=lastN v - k) ai (hW (ab c3) (ab h1) hk) (by decide) (Nat.le_trans (Nat.sub_le _ _) (Nat.le_trans hL (by decide)))) (uv (Int.natCast_nonneg _))) ai (xl h0 _)) (ch D.int (ya (ab h1) (ab c3)) rfl (fun _=>ai) fun _=>ai) rfl)
   (jJ (m:=128) ai (bA 2 (bB (aU (aC (ab c1)) (yV ho)) (ab h1)) (by decide)) (by decide) (Nat.le_of_lt (Nat.lt_of_lt_of_le (Nat.mod_lt _ (by decide)) (by decide)))) rfl).trans (congrArg (some ∘ D.list) List.map_map.symm)
variable {M:Nat} (hM2:M≤1000)
include hM2
theorem rW {v:Int} {os:List Int} {x0 x2 x3 x4:Option (D×Bool)} (h0:0<v) (hM:v<64 ^ (M+1)) (ho:os.length≤100000) :
  bodyT G F [2] true oBody [x0,o (dZ os),x2,x3,x4] (.int v)=some ([x0,o (dZ (os++blkN v os.length)),o (.int v),o (dI (lastN v)),x4],.next) :=
 have hb1:1≤Builtin.Int.intBits v:=Nat.lt_of_not_le fun h=>Int.not_lt.mpr (Int.le_of_lt_add_one ((b9 v (Int.le_of_lt h0) 0).mp h)) h0
 have hl:=mO (Int.le_of_lt h0) hM
 ad (a:=[x0,o (dZ os),o (.int v),x3,x4]) rfl (aG (cH 6 (hW (n:=1) (bi (x:= .int v) rfl rfl rfl) ai hb1) (by decide) (by decide))
  (aG (ag rfl (t7 (Int.le_of_lt h0) (Nat.le_trans hl hM2) ho) (cC (Nat.le_trans ho (by decide)) (Nat.le_trans (gE (Int.le_of_lt h0) hM _) (Nat.le_trans (Nat.succ_le_succ hM2) (by decide))))) rfl))
theorem kR {x0:Option (D×Bool)}:∀ (vs os:List Int) (x2 x3 x4:Option (D×Bool)),(∀ v∈vs,0<v∧v<64 ^ (M+1))→os.length+(M+1) * vs.length≤100000 →
  ∃ y2 y3,loopL (bodyT G F [2] true oBody) [x0,o (dZ os),x2,x3,x4] (vs.map .int)=some ([x0,o (dZ (tapeN os vs)),y2,y3,x4],.next)
 | [],os,x2,x3,x4,_,_=>⟨x2,x3,rfl⟩
 |v :: vs,os,x2,x3,x4,h,hl =>
  let ⟨h0,h1⟩:=h v List.mem_cons_self
  let ⟨z2,z3,ih⟩:=kR vs (os++blkN v os.length) (o (.int v)) (o (dI (lastN v))) x4 (fun x hx=>h x (List.mem_cons_of_mem _ hx)) (by rw [List.length_append];exact jm hl (gE (Int.le_of_lt h0) h1 _))
  ⟨z2,z3,aW (rW hM2 h0 h1 (Nat.le_trans (Nat.le_add_right _ _) hl)) ih⟩
theorem oE {vs:List Int} (h:∀ v∈vs,0<v∧v<64 ^ (M+1)) (hl:(M+1) * vs.length≤100000):run G F 5 s3_law_octets [dZ vs]=some (dZ (tapeN [] vs)) :=
 let ⟨y2,y3,q⟩:=kR (G:=G) (F:=F) hM2 (x0:=o (dZ vs)) vs [] none none none h (by rw [List.length_nil,Nat.zero_add];exact hl)
 au [o (dZ vs),none,none,none,none] rfl (aG (d:= .list []) rfl (fQ rfl (db rfl (bu (by rw [List.length_map];exact Nat.le_trans (Nat.le_mul_of_pos_left _ (Nat.succ_pos M)) (Nat.le_trans hl (by decide))))) q rfl))
end
section
variable {G:af} {fns:List Fn} {b1L:List Int} {b3L:List (Int×Str)} (C:gm G fns b1L b3L)
include C
theorem pi {k:Nat} {M:Nat} (hM2:M≤1000) {vs:List Int} (h:∀ v∈vs,0<v∧v<64 ^ (M+1)) (hl:(M+1) * vs.length≤100000):FF G fns spn2 sp2 (k+1) "_law_octets" [dZ vs]=some (dZ (tapeN [] vs)):=a8 rfl C.octets rfl (oE hM2 h hl)
end
end Mine
set_option genSizeOf false
set_option genInjectivity false
namespace Mine
noncomputable def minN (e:Nat) (es:List Nat):Nat:=es.foldl (fun a b=>if b<a then b else a) e
noncomputable def minL:List Nat→Nat
 | []=>0
 |e :: es=>minN e es
noncomputable def stepB (t w es:List Nat) (k:Nat):Bool:= !es.isEmpty&&(decide (minL es≤k)&&((t.drop k).take w.length==w))
noncomputable def stepL (t w es:List Nat):List Nat:=((List.range (t.length+1)).filter (stepB t w es)).map (· + w.length)
noncomputable def endsL (t:List Nat):List (List Nat)→List Nat→List Nat
 | [],es=>es
 |w :: ws,es=>endsL t ws (stepL t w es)
noncomputable def fitsN:List (List Nat)→List Nat→Bool
 | [],_=>false
 | [w],t=>w==t
 |p :: q :: r,t=>(endsL t (q :: r) (cond (t.take p.length==p) [p.length] [])).contains t.length
theorem uE:∀ (es:List Nat) (e:Nat),(es.map fun n:Nat=>(n:Int)).foldl (fun a b=>if b<a then b else a) (e:Int)=((minN e es:Nat):Int)
 | [],e=>rfl
 |x :: xs,e=>by
  refine Eq.trans ?_ (uE xs (if x<e then x else e))
  refine congrArg (fun z=>List.foldl (fun a b:Int=>if b<a then b else a) z (xs.map fun n:Nat=>(n:Int))) ?_
  show (if (x:Int)<(e:Int) then (x:Int) else (e:Int))=_
  by_cases h:x<e
  ·rw [if_pos h,if_pos (Int.ofNat_lt.mpr h)]
  ·rw [if_neg h,if_neg fun q=>h (Int.ofNat_lt.mp q)]
theorem gu:∀ (xs:List Nat),ints? (xs.map dI)=some (xs.map fun n:Nat=>(n:Int))
 | []=>rfl
 |x :: xs=>ad (a:=(x:Int)) rfl (aX (gu xs) rfl)
theorem zM:∀ {es:List Nat},es.isEmpty=false→es.length≤1048576→bltD .min1 [dn es]=some (dI (minL es))
 | [],h,_=>nomatch h
 |e :: es,_,h=>ad (f:=bestD fun a b=>if b<a then b else a) (o:=some (dn (e :: es))) rfl (ad (a:=(e :: es).map dI) rfl (ad (gu (e :: es)) (aq (am (by rw [List.length_map];exact Nat.le_of_succ_le h)) (congrArg (some ∘ D.int) (uE es e)))))
theorem kT (d:Nat):∀ xs:List Nat,memD (dI d) (xs.map dI)=some (xs.contains d)
 | []=>rfl
 |x :: xs=>ad (nZ x d) (aX (kT d xs) (congrArg (· || xs.contains d) (decide_eq_decide.mpr eq_comm)))
theorem td {es:List Nat} (h:es.length≤1048576):truthy (dn es)=some (!es.isEmpty):=aq (am (by rw [List.length_map];exact h)) (by rw [List.isEmpty_map])
theorem nO (a b:List Nat):cmpD .Eq (.str (mk a)) (.str (mk b))=some (a==b):=xX a b
theorem iC {ws:List (List Nat)}:(wsD ws).length=ws.length:=List.length_map _
noncomputable def fComp:T:= .comp (.bin .Add (.var 5) (.blt .len (.cons (.var 4) .nil))) [5] true .range1 (.bin .Add (.blt .len (.cons (.var 1) .nil)) (.cst (.int 1))) .nil (.bop .And (.var 3) (.bop .And (.cmp .GtE (.var 5) (.blt .min1 (.cons (.var 3) .nil))) (.cmp .Eq (.sli (.var 1) (.var 5) (.bin .Add (.var 5) (.blt .len (.cons (.var 4) .nil))) (.cst .none)) (.var 4)))) [5]
noncomputable def fBody:S:=(.seq (.asg 3 false fComp) <| .skip)
section
variable {G:af} {F:FEnv} {t:List Nat} {x0 x2 x4 x5:Option (D×Bool)}
theorem gS {σ:MEnv} {b:Bool} {a:T} {w:List Nat} (h:ev G F σ true a=some (.str (mk w))) (hw:w.length≤1000):ev G F σ b (.blt .len (.cons a .nil))=some (dI w.length) :=
 aU (aC h) ((qw (by rw [aB];exact Nat.le_trans hw (by decide))).trans (by rw [aB];rfl))
theorem yL {σ:MEnv} {b r s:Bool} {a c:T} {x:D} (h:ev G F σ b a=some x) (ht:truthy x=some r) (h2:r=true→ev G F σ b c=some (.bool s)):∃ y,ev G F σ b (.bop .And a c)=some y∧truthy y=some (r&&s):=by
 cases r with
 |false=>exact ⟨x,ad h (ad ht rfl),ht⟩
 |true=>exact ⟨.bool s,ad h (ad ht (h2 rfl)),rfl⟩
theorem nt' {b:Bool} (h:(!b)=true):b=false:=nt h
theorem iy {n:Nat} (h:n≤1001):n≤1048576:=Nat.le_trans h (by decide)
theorem pG {w es:List Nat} (ht:t.length≤1000) (hw:w.length≤1000) (he:es.length≤1001):ev G F [x0,sv (mk t),x2,o (dn es),sv (mk w),x5] false fComp=some (dn (stepL t w es)) :=
 (jq (σ:=[x0,sv (mk t),x2,o (dn es),sv (mk w),x5]) (l:=List.range (t.length+1)) (c:=stepB t w es) (inj:=dI) (y:=fun k=>dI (k+w.length)) rfl (cV (n:=t.length+1) (bB (n:=1) (gS (ab rfl) ht) ai) (iy (Nat.succ_le_succ ht))) (show 5<6 by decide) fun k hk σ' h1 h2 h3 =>
  have c1:getE σ' 1=sv (mk t):=h2 1 (by decide)
  have c3:getE σ' 3=o (dn es):=h2 3 (by decide)
  have c4:getE σ' 4=sv (mk w):=h2 4 (by decide)
  have e5:∀ {b:Bool},ev G F σ' b (.bin .Add (.var 5) (.blt .len (.cons (.var 4) .nil)))=some (dI (k+w.length)):=bB (ab h1) (gS (ab c4) hw)
  ⟨yL (ab c3) (td (iy he)) fun hne=>jL (an (ab h1) (aU (aC (ab c3)) (zM (nt hne) (iy he))) (zH k _)) fun _ =>
   an (bz (ab c1) (ab h1) e5 aP (xq ht (Nat.le_of_lt_succ (List.mem_range.mp hk)) hw)) (ab c4) (nO _ _),fun _=>e5⟩).trans (congrArg (some ∘ D.list) (List.map_map (g:=dI) (f:=(· + w.length))).symm)
theorem pz (w es:List Nat) (ht:t.length≤1000):(stepL t w es).length≤1001:=by
 unfold stepL
 rw [List.length_map]
 exact Nat.le_trans (List.length_filter_le _ _) (by rw [List.length_range];exact Nat.succ_le_succ ht)
theorem iQ (ht:t.length≤1000):∀ (ws:List (List Nat)) (es:List Nat) (x4 x5:Option (D×Bool)),(∀ w∈ws,w.length≤1000)→es.length≤1001 →
  ∃ y4 y5,loopL (bodyT G F [4] true fBody) [x0,sv (mk t),x2,o (dn es),x4,x5] (wsD ws)=some ([x0,sv (mk t),x2,o (dn (endsL t ws es)),y4,y5],.next)
 | [],es,x4,x5,_,_=>⟨x4,x5,rfl⟩
 |w :: ws,es,x4,x5,hw,he =>
  let ⟨y4,y5,ih⟩:=iQ ht ws (stepL t w es) (sv (mk w)) x5 (fun x hx=>hw x (List.mem_cons_of_mem _ hx)) (pz w es ht)
  ⟨y4,y5,aW (ad (a:=[x0,sv (mk t),x2,o (dn es),sv (mk w),x5]) rfl (aG (pG ht (hw w List.mem_cons_self) he) rfl)) ih⟩
theorem rS {b:Bool} {n:Nat}:(cond b [n] []).length≤1001:=by
 cases b with
 |true=>exact (by decide:1≤1001)
 |false=>exact Nat.zero_le _
theorem tD {ps:List (List Nat)} (hne:ps≠[]) (hd:∀ p∈ps,46∉p) (hw:∀ p∈ps,p.length≤1000) (hn:ps.length≤100) (ht:t.length≤1000) :
  run G F 6 s3_law_fits [.str (mk (joinL ps)),.str (mk t)]=some (.bool (fitsN ps t)):=by
 have hsp:methD .split (.str (mk (joinL ps))) [.str "..."]=some (.list (wsD ps)):=(iA (by rw [aB];exact am (mX hw hn)) (by decide)).trans (by rw [ec,gN hne hd,List.map_map];rfl)
 have hl:bltD .len [.list (wsD ps)]=some (dI ps.length):=(uR (by rw [iC];exact Nat.le_trans hn (by decide))).trans (by rw [iC];rfl)
 cases ps with
 |nil=>exact absurd rfl hne
 |cons p ps =>
 cases ps with
 |nil=>exact au [sv (mk p),sv (mk t),none,none,none,none] rfl (aG (bi (ab rfl) rfl hsp) (aw (aL (oz (m:=1) (n:=1) (aU (aC rfl) hl) ai) rfl (aA (an rfl rfl (nO p t))))))
 |cons q r =>
  generalize mk (joinL (p :: q :: r))=W at *
  obtain ⟨y4,y5,h⟩:=iQ (G:=G) (F:=F) (x0:=sv W) (x2:=o (.list (wsD (p :: q :: r)))) ht (q :: r) (cond (t.take p.length==p) [p.length] []) none none (fun w h=>hw w (List.mem_cons_of_mem _ h)) rS
  have hp:=hw p List.mem_cons_self
  have e1:∀ {b:Bool},ev G F [sv W,sv (mk t),o (.list (wsD (p :: q :: r))),none,none,none] b (.blt .len (.cons (.idx (.var 2) (.cst (.int 0))) .nil))=some (dI p.length):=gS rfl hp
  have hs:(wsD (p :: q :: r)).length≤1048576:=by rw [iC];exact Nat.le_trans hn (by decide)
  exact au [sv W,sv (mk t),none,none,none,none] rfl (aG (bi (ab rfl) rfl hsp) (be (oz (m:=(p :: q :: r).length) (n:=1) (aU (aC rfl) hl) ai) rfl (aS
   (aG (ch dn (x:=[p.length]) (y:=[]) (an (bz (ab rfl) aP e1 aP (so ht (Nat.le_trans hp (by decide)))) (y:= .str (mk p)) rfl (nO _ _)) rfl (fun _=>bE (aC e1)) fun _=>bE oD)
   (fQ rfl (db (bz (x:= .list (wsD (p :: q :: r))) rfl ai aP aP (gc (k:=1) hs (by decide))) (bu (Nat.le_of_succ_le hs))) h
   (aA (an (gS (ab rfl) ht) (ab rfl) (kT _ _))))))))
end
section
variable {G:af} {fns:List Fn} {b1L:List Int} {b3L:List (Int×Str)} (C:gm G fns b1L b3L)
include C
theorem ww {k:Nat} {ps:List (List Nat)} {t:List Nat} (hne:ps≠[]) (hd:∀ p∈ps,46∉p) (hw:∀ p∈ps,p.length≤1000) (hn:ps.length≤100) (ht:t.length≤1000) :
  FF G fns spn2 sp2 (k+1) "_law_fits" [.str (mk (joinL ps)),.str (mk t)]=some (.bool (fitsN ps t)):=a8 rfl C.fits rfl (tD hne hd hw hn ht)
end
end Mine
set_option genSizeOf false
set_option genInjectivity false
namespace Mine
noncomputable def walkN (h:Nat→Bool):List Row→List Nat→List Nat
 | [],s=>s
 |r :: rs,s=>walkN h rs (appN (cond (h r.1) r.2.1 r.2.2) s)
theorem ca (h:Nat→Bool):∀ (xs ys:List Row) (s:List Nat),walkN h (xs++ys) s=walkN h ys (walkN h xs s)
 | [],_,_=>rfl
 |x :: xs,ys,s=>ca h xs ys _
theorem ut {f g:List Nat} {k:Nat} (hk:k<g.length):(appN f g).getD k 0=f.getD (g.getD k 0) 0:=by
 unfold appN
 rw [List.getD_eq_getElem?_getD,List.getElem?_map,List.getElem?_eq_getElem hk,List.getD_eq_getElem?_getD (l:=g),List.getElem?_eq_getElem hk]
 rfl
theorem cz {f g s:List Nat} (hg:pm g) (hs:pm s):appN f (appN g s)=appN (appN f g) s :=
 List.map_map.trans (List.map_congr_left fun k hk=>(ut (f:=f) (by rw [hg.len];exact hs.lt k hk)).symm)
theorem gQ {s:List Nat} (hs:pm s):appN id5 s=s:=eq_of_beq (ea (f:=fun s=>appN id5 s==s) (by decide +kernel) hs)
theorem yE:pmL.all (fun r=>appN (turnN r) (turnN r.reverse)==id5)=true:=by decide +kernel
theorem sM:pmL.all (fun r=>(appN (turnN (two5 r).reverse) (appN (turnN (one5 r).reverse) (appN (turnN (two5 r)) (turnN (one5 r))))==turnN r)&&(appN (turnN (one5 r).reverse) (turnN (one5 r))==id5)&&(appN (turnN (two5 r).reverse) (turnN (two5 r))==id5))=true:=by decide +kernel
theorem fV {b:Bool} {l l':List Nat} (h:pm l) (h':pm l'):pm (cond b l l'):=by
 cases b with
 |true=>exact h
 |false=>exact h'
section
variable {h:Nat→Bool}
theorem dS {n:Nat}:∀ (rs:List Row) {s:List Nat},(∀ x∈rs,cF n x)→pm s→pm (walkN h rs s)
 | [],s,_,hs=>hs
 |r :: rs,s,hr,hs =>
  let ⟨_,h1,h2⟩:=hr r List.mem_cons_self
  dS rs (fun x hx=>hr x (List.mem_cons_of_mem _ hx)) (c9 (fV h1 h2) hs)
theorem pc {n m:Nat} {on:List Nat} {rs:List Row} {s:List Nat} (hr:SP n m rs) (hs:pm s):walkN h (lastOn on rs) s=appN on (walkN h rs s):=by
 obtain ⟨ini,la,rfl⟩:=hr.ne
 obtain ⟨_,h1,h2⟩:=hr.ok la (List.mem_append_right _ List.mem_cons_self)
 have hp:pm (walkN h ini s):=dS _ (fun x hx=>hr.ok x (List.mem_append_left _ hx)) hs
 rw [eX,ca,ca]
 show appN (cond (h la.1) (appN on la.2.1) (appN on la.2.2)) _=appN on (appN (cond (h la.1) la.2.1 la.2.2) _)
 rw [cz (fV h1 h2) hp]
 cases h la.1 with
 |true=>rfl
 |false=>rfl
theorem bF {n:Nat}:∀ (d:Nat) (t:Tr) {r s:List Nat},t.ok n d=true→pm r→pm s→walkN h (stepsN t r) s=cond (t.tells h) (appN (turnN r) s) s
 |0,_,_,_,hl,_,_=>nomatch hl
 |d+1,.has m,r,s,_,hr,hs=>by
  show appN (cond (h m) (turnN r) id5) s=cond (h m) _ _
  cases h m with
  |true=>rfl
  |false=>exact gQ hs
 |d+1,.no a,r,s,hl,hr,hs=>by
  obtain ⟨p1,p2,_,_⟩:=aF hr
  show walkN h (lastOn (turnN r) (stepsN a r.reverse)) s=cond (!a.tells h) _ _
  rw [pc (aH d a hl p2) hs,bF d a hl p2 hs]
  cases a.tells h with
  |true=>exact (cz (aF p2).1 hs).trans ((congrArg (appN · s) (eq_of_beq (ea yE hr))).trans (gQ hs))
  |false=>rfl
 |d+1,.both a b,r,s,hl,hr,hs=>aa hl fun ha hb=>by
  obtain ⟨_,_,p1,p2⟩:=aF hr
  obtain ⟨q1,q2,_,_⟩:=aF p1
  obtain ⟨u1,u2,_,_⟩:=aF p2
  have q3:=(aF q2).1
  refine aa (ea sM hr) fun t t3=>aa t fun t1 t2=> ?_
  have f1:=dS (h:=h) _ (aH d a ha p1).ok hs
  have f2:=dS (h:=h) _ (aH d b hb p2).ok f1
  show walkN h (stepsN a (one5 r)++stepsN b (two5 r)++stepsN a (one5 r).reverse++stepsN b (two5 r).reverse) s=cond (a.tells h&&b.tells h) _ _
  rw [ca,ca,ca,bF d b hb u2 (dS _ (aH d a ha q2).ok f2),bF d a ha q2 f2,bF d b hb p2 f1,bF d a ha p1 hs]
  cases a.tells h with
  |true =>
   cases b.tells h with
   |true =>
    show appN _ (appN _ (appN _ (appN _ s)))=_
    rw [cz q1 hs,cz (c9 u1 q1) hs,cz (c9 q3 (c9 u1 q1)) hs,eq_of_beq t1];rfl
   |false=>exact (cz q1 hs).trans ((congrArg (appN · s) (eq_of_beq t2)).trans (gQ hs))
  |false =>
   cases b.tells h with
   |true=>exact (cz u1 hs).trans ((congrArg (appN · s) (eq_of_beq t3)).trans (gQ hs))
   |false=>rfl
end
noncomputable def iN (l:List Nat):List Int:=l.map fun (n:Nat)=>(n:Int)
theorem oJ (l:List Nat):dn l=dZ (iN l):=congrArg D.list List.map_map.symm
noncomputable def numN (l:List Nat):Int:=und 3 (iN l)
noncomputable def numB (l:List Nat):Bool:=decide (0<numN l)&&decide (numN l<32768)&&(List.range 5).all fun k=>(i2d (numN l) 3++[0])[k]? == some ((l.getD k 0:Nat):Int)
theorem wD:pmL.all numB=true:=by decide +kernel
theorem cb {l:List Nat} (h:pm l):(0<numN l∧numN l<32768)∧∀ k,k<5→(i2d (numN l) 3++[0])[k]? = some ((l.getD k 0:Nat):Int) :=
 aa (ea wD h) fun h h3=>aa h fun h1 h2=>⟨⟨de h1,de h2⟩,fun k hk=>eq_of_beq (List.all_eq_true.mp h3 k (List.mem_range.mpr hk))⟩
noncomputable def rowV (r:Row):Int:=und 3 (iN (r.2.1++r.2.2++[r.1]))
theorem fL {x y m:Int} (h:0≤x∧x<m):(x+m * y).fdiv m=y∧(x+m * y).fmod m=x:=by
 have hm:=Int.lt_of_le_of_lt h.1 h.2
 rw [Int.fdiv_eq_ediv_of_nonneg _ (Int.le_of_lt hm),Int.fmod_eq_emod_of_nonneg _ (Int.le_of_lt hm)]
 exact (Int.ediv_emod_unique hm).mpr ⟨rfl,h⟩
section
variable {r:Row} {n:Nat} (h:cF n r)
include h
theorem mQ:rowV r=numN r.2.1+32768 * (numN r.2.2+32768 * (r.1:Int)):=by
 unfold rowV iN
 rw [List.map_append,List.map_append,List.append_assoc,bG,bG,List.length_map,List.length_map,h.a.len,h.b.len,List.map_singleton,dK];rfl
theorem qd:(rowV r).fmod 32768=numN r.2.1∧((rowV r).fdiv 32768).fmod 32768=numN r.2.2∧((rowV r).fdiv 32768).fdiv 32768=(r.1:Int):=by
 have a:=(cb h.a).1
 have b:=(cb h.b).1
 rw [mQ h,(fL ⟨Int.le_of_lt a.1,a.2⟩).1,(fL ⟨Int.le_of_lt b.1,b.2⟩).1]
 exact ⟨(fL ⟨Int.le_of_lt a.1,a.2⟩).2,(fL ⟨Int.le_of_lt b.1,b.2⟩).2,rfl⟩
theorem iE (hn:n≤8):0<rowV r∧rowV r<64 ^ 6:=by
 have a:=(cb h.a).1
 have b:=(cb h.b).1
 have c:(r.1:Int)≤7:=Int.ofNat_le.mpr (Nat.le_of_lt_succ (Nat.lt_of_lt_of_le h.lt hn))
 rw [mQ h]
 exact ⟨Int.add_pos_of_pos_of_nonneg a.1 (Int.mul_nonneg (by decide) (Int.add_nonneg (Int.le_of_lt b.1) (Int.mul_nonneg (by decide) (Int.natCast_nonneg _)))),
  Int.lt_of_lt_of_le (Int.add_lt_add_of_lt_of_le a.2 (Int.mul_le_mul_of_nonneg_left (Int.add_le_add (Int.le_of_lt b.2) (Int.mul_le_mul_of_nonneg_left c (by decide))) (by decide))) (by decide)⟩
end
end Mine
set_option genSizeOf false
set_option genInjectivity false
namespace Mine
noncomputable def stepP (p:Nat) (s:List Nat×List Nat):List Nat×List Nat:=(s.1++[s.2.getD p 0],s.2.take p++s.2.drop (p+1))
noncomputable def ringP (p0 p1 p2 p3 p4:Nat):List Nat:=(stepP p4 (stepP p3 (stepP p2 (stepP p1 (stepP p0 ([],id5)))))).1
theorem qB:∀ p0<5,∀ p1<4,∀ p2<3,∀ p3<2,∀ p4<1,pmB (ringP p0 p1 p2 p3 p4)=true:=by decide +kernel
section
variable {f:Nat→Nat} (hf:∀ x y,f x=f y→x=y)
include hf
theorem fN (xs ys:List Nat):(xs.map f==ys.map f)=(xs==ys):=by
 by_cases h:xs=ys
 ·rw [h,beq_self_eq_true,beq_self_eq_true]
 ·rw [beq_eq_false_iff_ne.mpr h,beq_eq_false_iff_ne.mpr fun q=>h ((List.map_inj_right (fun x y=>hf x y)).mp q)]
theorem iM (t w:List Nat) (i:Nat):(((t.map f).drop i).take w.length==w.map f)=((t.drop i).take w.length==w):=by rw [← List.map_drop,← List.map_take,fN hf]
theorem lF (t w:List Nat) (i:Nat):isAt (t.map f) (w.map f) i=isAt t w i:=by
 unfold isAt
 rw [List.length_map,List.length_map,iM hf]
theorem qf (t w:List Nat) (lo hi:Nat):findL (t.map f) (w.map f) lo hi=findL t w lo hi:=by
 unfold findL
 refine congrArg (List.find? · _) (funext fun i=> ?_)
 unfold fitP
 rw [List.length_map,iM hf]
theorem gB (t:List Nat):∀ (ws:List (List Nat)) (lo hi:Nat),midL (t.map f) (ws.map (List.map f)) lo hi=midL t ws lo hi
 | [],_,_=>rfl
 |w :: ws,lo,hi=>by
  rw [List.map_cons,midL,midL,qf hf]
  cases findL t w lo hi with
  |none=>rfl
  |some i=>exact (congrArg (fun n=>midL (t.map f) (ws.map (List.map f)) (i+n) hi) (List.length_map f)).trans (gB t ws _ hi)
theorem jS (ws:List (List Nat)):(ws.map (List.map f)).getLastD []=(ws.getLastD []).map f:=by
 rw [List.getLastD_eq_getLast?,List.getLastD_eq_getLast?,List.getLast?_map]
 cases ws.getLast? with
 |none=>rfl
 |some _=>rfl
theorem iY (t:List Nat) (ws:List (List Nat)) (lo:Nat):tailL (t.map f) (ws.map (List.map f)) lo=tailL t ws lo:=by
 unfold tailL
 rw [jS hf,List.isEmpty_map,List.length_map,List.length_map,lF hf,gB hf,← List.map_dropLast,gB hf]
theorem wP:∀ (ps:List (List Nat)) (t:List Nat),emL (ps.map (List.map f)) (t.map f)=emL ps t
 | [],_=>rfl
 | [w],t=>fN hf w t
 |p :: q :: r,t=>by
  show (if (p.map f).isEmpty then tailL (t.map f) ((p :: q :: r).map (List.map f)) 0 else if isAt (t.map f) (p.map f) 0 then tailL (t.map f) ((q :: r).map (List.map f)) (p.map f).length else false)=_
  rw [List.isEmpty_map,lF hf,iY hf,iY hf,List.length_map];rfl
theorem pa (t w:List Nat) (es:List Nat):stepL (t.map f) (w.map f) es=stepL t w es:=by
 unfold stepL
 rw [List.length_map,List.length_map]
 refine congrArg (fun g=>((List.range (t.length+1)).filter g).map (· + w.length)) (funext fun k=> ?_)
 unfold stepB
 rw [List.length_map,iM hf]
theorem jk (t:List Nat):∀ (ws:List (List Nat)) (es:List Nat),endsL (t.map f) (ws.map (List.map f)) es=endsL t ws es
 | [],_=>rfl
 |w :: ws,es=>(congrArg (endsL (t.map f) (ws.map (List.map f))) (pa hf t w es)).trans (jk t ws _)
theorem qD:∀ (ps:List (List Nat)) (t:List Nat),fitsN (ps.map (List.map f)) (t.map f)=fitsN ps t
 | [],_=>rfl
 | [w],t=>fN hf w t
 |p :: q :: r,t=>by
  show (endsL (t.map f) ((q :: r).map (List.map f)) (cond ((t.map f).take (p.map f).length==p.map f) [(p.map f).length] [])).contains (t.map f).length=_
  rw [jk hf,List.length_map,List.length_map,← List.map_take,fN hf];rfl
end
noncomputable def menuL (a b:Nat):Nat→List (List Nat)
 |0=>[[a],[]]
 |1=>[[],[b]]
 |2=>[[a],[b]]
 |3=>[[],[a],[b],[]]
 |4=>[[],[a,b],[b],[]]
 |5=>[[b],[],[a],[]]
 |6=>[[a,a,a],[a,a]]
 |7=>[[],[b,a],[a]]
 |8=>[[a,b,a,b]]
 |_=>[[a,b],[a,b]]
noncomputable def bitN (m k:Nat):Bool:=decide (m / 2 ^ k % 2=1)
noncomputable def textL (a b:Nat) (m:Nat):List Nat:=(List.range 4).map fun k=>cond (bitN m k) b a
theorem wn (m:Nat) {k:Nat} (h:k<4):bitN (m % 16) k=bitN m k:=by
 unfold bitN
 rw [← Nat.testBit_eq_decide_div_mod_eq,← Nat.testBit_eq_decide_div_mod_eq,show 16=2 ^ 4 from rfl,Nat.testBit_mod_two_pow,decide_eq_true h];rfl
theorem rH (a b m:Nat):textL a b (m % 16)=textL a b m:=List.map_congr_left fun k hk=>by rw [wn m (List.mem_range.mp hk)]
noncomputable def renN (a b:Nat):Nat→Nat
 |0=>a
 |1=>b
 |n+2=>n+1000
theorem kz {a b:Nat}:∀ q,menuL a b q=(menuL 0 1 q).map (List.map (renN a b))
 |0=>rfl
 |1=>rfl
 |2=>rfl
 |3=>rfl
 |4=>rfl
 |5=>rfl
 |6=>rfl
 |7=>rfl
 |8=>rfl
 |_+9=>rfl
theorem sa (a b m:Nat):textL a b m=(textL 0 1 m).map (renN a b):=by
 unfold textL
 rw [List.map_map]
 refine List.map_congr_left fun k _=> ?_
 show _=renN a b (cond (bitN m k) 1 0)
 cases bitN m k with
 |true=>rfl
 |false=>rfl
noncomputable def menuB (q:Nat):Bool:=(!(menuL 0 1 q).isEmpty)&&decide ((menuL 0 1 q).length≤100)&&(menuL 0 1 q).all (fun p=>decide (p.length≤1000)&&p.all (decide <| · < 2))&&(List.range 16).all fun m=>emL (menuL 0 1 q) (textL 0 1 m)==fitsN (menuL 0 1 q) (textL 0 1 m)
theorem kZ:(List.range 10).all menuB=true:=by decide +kernel
section
variable {a b q:Nat} (hq:q<10)
include hq
theorem wp {m:Nat} (hf:∀ x y,renN a b x=renN a b y→x=y):emL (menuL a b q) (textL a b m)=fitsN (menuL a b q) (textL a b m):=by
 rw [kz,sa,wP hf,qD hf,← rH]
 exact aa (List.all_eq_true.mp kZ q (List.mem_range.mpr hq)) fun _ h=>eq_of_beq (List.all_eq_true.mp h _ (List.mem_range.mpr (Nat.mod_lt m (by decide))))
theorem yP (ha:97≤a) (hb:97≤b):∀ {x:Nat},x<2→renN a b x≠46
 |0,_=>Nat.ne_of_gt (Nat.lt_of_lt_of_le (by decide) ha)
 |1,_=>Nat.ne_of_gt (Nat.lt_of_lt_of_le (by decide) hb)
 |n+2,h=>absurd h (Nat.not_lt.mpr (Nat.le_add_left 2 n))
theorem vk (ha:97≤a) (hb:97≤b):menuL a b q≠[]∧(∀ p∈menuL a b q,46∉p)∧(∀ p∈menuL a b q,p.length≤1000)∧(menuL a b q).length≤100:=by
 rw [kz]
 refine aa (List.all_eq_true.mp kZ q (List.mem_range.mpr hq)) fun h _=>aa h fun h h3=>aa h fun h1 h2=>⟨fun e=> ?_,fun p hp he=> ?_,fun p hp=> ?_,by rw [List.length_map];exact de h2⟩
 ·rw [List.map_eq_nil_iff.mp e] at h1;exact nomatch h1
 ·obtain ⟨p',hp',rfl⟩:=List.mem_map.mp hp
  obtain ⟨x,hx,e⟩:=List.mem_map.mp he
  exact aa (List.all_eq_true.mp h3 p' hp') fun _ h4=>yP hq ha hb (de (List.all_eq_true.mp h4 x hx)) e
 ·obtain ⟨p',hp',rfl⟩:=List.mem_map.mp hp
  rw [List.length_map]
  exact aa (List.all_eq_true.mp h3 p' hp') fun h4 _=>de h4
end
theorem fR {a n:Nat} (ha:a<1000) (h:a=n+1000) {P:Prop}:P:=absurd ha (Nat.not_lt.mpr (h▸Nat.le_add_left 1000 n))
theorem u8 {a b:Nat} (hab:a≠b) (ha:a<1000) (hb:b<1000):∀ x y,renN a b x=renN a b y→x=y
 |0,0,_=>rfl
 |0,1,h=>absurd h hab
 |0,_+2,h=>fR ha h
 |1,0,h=>absurd h.symm hab
 |1,1,_=>rfl
 |1,_+2,h=>fR hb h
 |_+2,0,h=>fR ha h.symm
 |_+2,1,h=>fR hb h.symm
 |_+2,_+2,h=>congrArg (· + 2) (Nat.add_right_cancel h)
structure Ay (b1L:List Int) (b3L:List (Int×Str)) (f c:Nat):Prop where
 b1:b1L.contains ((ptN f c:Nat):Int)=false
 b3:b3v b3L (ptN f c)=⟨#[c]⟩
 u:uN.contains (ptN f c)=false
 pos:0<ptN f c
 lt:ptN f c<131072
structure nV (b1L:List Int) (b3L:List (Int×Str)):Prop where
 u:uN.all (fun u=>b1L.contains (u:Int)&&decide (u<131072))=true
 l:((List.range 12).all fun f=>(List.range 26).all fun c=> !b1L.contains ((ptN f (97+c):Nat):Int)&&(b3v b3L (ptN f (97+c))==⟨#[97+c]⟩) && !uN.contains (ptN f (97+c))&&decide (0<ptN f (97+c))&&decide (ptN f (97+c)<131072))=true
noncomputable def isLt (c:Nat):Prop:=∃ k,k<26∧c=97+k
theorem isLt.le {c:Nat} (h:isLt c):97≤c:=let ⟨k,_,e⟩:=h;e▸Nat.le_add_right 97 k
section
variable {b1L:List Int} {b3L:List (Int×Str)} (P:nV b1L b3L) {pick noise:Nat}
include P
theorem n9 {f c:Nat} (hf:f<12) (hc:isLt c):Ay b1L b3L f c:=by
 obtain ⟨k,hk,rfl⟩:=hc
 exact aa (List.all_eq_true.mp (List.all_eq_true.mp P.l f (List.mem_range.mpr hf)) k (List.mem_range.mpr hk)) fun h h5=>aa h fun h h4=>aa h fun h h3=>aa h fun h1 h2=>⟨nt h1,eq_of_beq h2,nt h3,de h4,de h5⟩
theorem lc {k:Nat}:∀ x∈marksN noise k,b1L.contains (x:Int)=true∧uN.contains x=true∧x<131072:=fun x hx=>by
 unfold marksN at hx
 revert hx
 cases decide (noise / 2 ^ k % 2=1) with
 |false=>exact fun hx=>nomatch hx
 |true =>
  intro hx
  have hm:x∈uN:=List.mem_singleton.mp hx▸getD_mem (Nat.mod_lt _ (by decide))
  exact aa (List.all_eq_true.mp P.u x hm) fun h1 h2=>⟨h1,List.contains_iff_mem.mpr hm,de h2⟩
theorem ou:∀ (cs:List Nat) (k:Nat),(∀ c∈cs,isLt c)→∀ x∈ptsN pick noise k cs,b1L.contains (x:Int)=uN.contains x∧x<131072
 | [],k,_,x,hx=>nomatch hx
 |c :: cs,k,hc,x,hx=>(List.mem_append.mp hx).elim (fun h=>let ⟨h1,h2,h3⟩:=lc P x h;⟨h1.trans h2.symm,h3⟩) fun h=>(List.mem_cons.mp h).elim
  (fun h=>let q:=n9 P (Nat.mod_lt (pick+5 * k) (show 0<12 by decide)) (hc c List.mem_cons_self);h▸⟨q.b1.trans q.u.symm,q.lt⟩) fun h=>ou cs (k+1) (fun x hx=>hc x (List.mem_cons_of_mem _ hx)) x h
theorem ju:∀ (cs:List Nat) (k:Nat),(∀ c∈cs,isLt c)→((ptsN pick noise k cs).filter fun x:Nat=> !b1L.contains (x:Int)).map (b3v b3L)=cs.map fun c=>⟨#[c]⟩
 | [],k,_=>rfl
 |c :: cs,k,hc=>by
  have h1:(marksN noise k).filter (fun x:Nat=> !b1L.contains (x:Int))=[]:=List.filter_eq_nil_iff.mpr fun x hx=>by rw [(lc P x hx).1];exact Bool.false_ne_true
  have q:=n9 P (Nat.mod_lt (pick+5 * k) (show 0<12 by decide)) (hc c List.mem_cons_self)
  rw [ptsN,List.filter_append,h1,List.nil_append,List.filter_cons,q.b1]
  show b3v b3L _ :: ((ptsN pick noise (k+1) cs).filter _).map _=_
  rw [q.b3,ju cs (k+1) fun x hx=>hc x (List.mem_cons_of_mem _ hx)];rfl
theorem lz:∀ (cs:List Nat) (k:Nat),cs≠[]→(∀ c∈cs,isLt c)→∃ ini z,ptsN pick noise k cs=ini++[z]∧0<z
 | [],k,h,_=>absurd rfl h
 | [c],k,_,hc=>⟨marksN noise k,_,rfl,(n9 P (Nat.mod_lt (pick+5 * k) (show 0<12 by decide)) (hc c List.mem_cons_self)).pos⟩
 |c :: d :: cs,k,_,hc =>
  let ⟨ini,z,h1,h2⟩:=lz (d :: cs) (k+1) (List.cons_ne_nil _ _) fun x hx=>hc x (List.mem_cons_of_mem _ hx)
  ⟨marksN noise k++(ptN ((pick+5 * k) % 12) c :: ini),z,by rw [ptsN,h1,List.append_assoc];rfl,h2⟩
end
noncomputable def wordsL:List Str:=["OPTIMIZED","NEWLOCALS","VARARGS","VARKEYWORDS","NESTED","GENERATOR","NOFREE","COROUTINE","ITERABLE_COROUTINE","ASYNC_GENERATOR"]
noncomputable def flagsS:Str:="OPTIMIZED NEWLOCALS VARARGS VARKEYWORDS NESTED GENERATOR NOFREE COROUTINE ITERABLE_COROUTINE ASYNC_GENERATOR"
theorem lR:Txt.split flagsS " "=wordsL:=by decide +kernel
noncomputable def digS (k:Nat):Str:=["1","2","4","8"].getD k ""
noncomputable def wordN (k:Nat):Str:=cond (decide (k<10)) (wordsL.getD k "") (("0x":Str)++digS (k % 4)++rep "0" (k / 4))
theorem ji:∀ b<28,pf (31 * 2 ^ b)=(List.range 5).map (fun k=>wordN (b+k)):=by decide +kernel
theorem words_0:Txt.join ", " (pf 0)=("0x0":Str):=by decide +kernel
end Mine
set_option genSizeOf false
set_option genInjectivity false
namespace Mine
structure Has (σ:MEnv) (l:List (Nat×D)):Prop where
 len:σ.length=44
 ge:∀ {i:Nat} {d:D},l.lookup i=some d→getE σ i=o d
theorem eS {i j:Nat} {d e:D} {l:List (Nat×D)} {P:Prop} (h:((i,d) :: l).lookup j=some e) (k1:j=i→d=e→P) (k2:i≠j→l.lookup j=some e→P):P:=by
 rw [List.lookup_cons] at h
 by_cases q:j=i
 ·rw [beq_iff_eq.mpr q] at h;exact k1 q (sm h)
 ·rw [beq_eq_false_iff_ne.mpr q] at h;exact k2 (Ne.symm q) h
theorem Has.set {σ:MEnv} {l:List (Nat×D)} (H:Has σ l) {i:Nat} {d:D} (hi:i<44):Has (setE σ i d false) ((i,d) :: l) :=
 ⟨setE_len.trans H.len,fun h=>eS h (fun e1 e2=>by rw [e1,← e2];exact cx (by rw [H.len];exact hi)) fun hn h=>(bU hn).trans (H.ge h)⟩
noncomputable def Sub (l:List (Nat×D)):List (Nat×D)→Prop
 | []=>True
 |p :: r=>l.lookup p.1=some p.2∧Sub l r
theorem Has.sub {σ:MEnv} {l:List (Nat×D)} (H:Has σ l):∀ {l':List (Nat×D)},Sub l l'→Has σ l'
 | [],_=>⟨H.len,fun h=>ah h⟩
 |(i,d) :: r,⟨h1,h2⟩=>⟨H.len,fun h=>eS h (fun e1 e2=>H.ge (e1▸e2▸h1)) fun _ h=>(H.sub h2).ge h⟩
noncomputable def Tells (r:Option (MEnv×Out)):Prop:=∃ σ,r=some (σ,.ret (.bool true))
theorem Tells.of {r r':Option (MEnv×Out)} (h:Tells r) (e:r'=r):Tells r':=e▸h
section
variable {G:af} {F:FEnv} {σ:MEnv} {l:List (Nat×D)}
theorem aI {i:Nat} {e:T} {d:D} {rest:S} (H:Has σ l) (hi:i<44) (h:ev G F σ false e=some d) (k:∀ {σ':MEnv},Has σ' ((i,d) :: l)→Tells (ex G F σ' rest)):Tells (ex G F σ (.seq (.asg i false e) rest)):=(k (H.set hi)).of (aG h rfl)
theorem oe {c:T} {x:D} {a rest:S} (h:ev G F σ true c=some x) (ht:truthy x=some false) (k:Tells (ex G F σ rest)):Tells (ex G F σ (.seq (.ifs c a .skip) rest)):=k.of (be h ht (aS rfl))
theorem uP {σ':MEnv} {tg:List Nat} {one:Bool} {k:IK} {it it2:T} {body rest:S} {xs:List D} (he:enumOk one k=true) (hi:evI G F (freeze σ it) false k it it2=some xs) (hl:loopL (bodyT G F tg one body) (freeze σ it) xs=some (σ',.next)) (h:Tells (ex G F σ' rest)):Tells (ex G F σ (.seq (.fors tg one k it it2 body .skip) rest)):=h.of (fQ he hi hl rfl)
theorem zD {e:T} (h:ev G F σ false e=some (.bool true)):Tells (ex G F σ (.seq (.ret e) .skip)):=⟨σ,aA h⟩
theorem Has.inn (H:Has σ l) {σ':MEnv} {i j:Nat} {d:D} (h:∀ j,j≠i→getE σ' j=getE σ j) (hj:j≠i) (hl:l.lookup j=some d):getE σ' j=o d:=(h j hj).trans (H.ge hl)
end
theorem rP {α β:Type} (f:α→β) (xs:List α) (lo hi st:Option Int):pickL (xs.map f) lo hi st=(pickL xs lo hi st).map f:=by
 unfold pickL
 rw [List.length_map,List.map_filterMap]
 exact congrArg (List.filterMap · _) (funext fun i=>List.getElem?_map)
theorem sj {α:Type} {xs:List α} {lo hi st:Option Int} {x:α} (h:x∈pickL xs lo hi st):x∈xs :=
 let ⟨_,_,h2⟩:=List.mem_filterMap.mp h
 List.mem_of_getElem? h2
theorem qP:∀ n<61,∀ k<6,(sliceRange (sliceBounds (some ((k:Nat):Int)) none (some 6) n).1 (sliceBounds (some ((k:Nat):Int)) none (some 6) n).2.1 (sliceBounds (some ((k:Nat):Int)) none (some 6) n).2.2).length≤60:=by decide +kernel
theorem iS {α:Type} {xs:List α} (h:xs.length≤60) {k:Nat} (hk:k<6):(pickL xs (some (k:Int)) none (some 6)).length≤60 :=
 Nat.le_trans (List.length_filterMap_le _ _) (qP xs.length (Nat.lt_succ_of_le h) k hk)
theorem rh {B:Nat}:∀ {l:List Nat},(∀ x∈l,x≤B)→l.sum≤l.length * B
 | [],_=>Nat.zero_le _
 |x :: l,h=>by
  rw [List.sum_cons,List.length_cons,Nat.succ_mul,Nat.add_comm]
  exact Nat.add_le_add (rh fun y hy=>h y (List.mem_cons_of_mem _ hy)) (h x List.mem_cons_self)
theorem mV:∀ l:List Nat,(l.map fun n:Nat=>(n:Int)).sum=((l.sum:Nat):Int)
 | []=>rfl
 |x :: l=>by
  rw [List.map_cons,List.sum_cons,List.sum_cons,mV l];rfl
theorem uX {l:List Nat} (h:l.length≤1048576):bltD .sum [dn l]=some (dI l.sum):=by
 show (if sizeOk (l.map dI).length then (ints? (l.map dI)).map (fun ns=>D.int ns.sum) else none)=_
 exact aq (am (by rw [List.length_map];exact h)) (aX (gu l) (congrArg D.int (mV l)))
theorem zC {xs:List Nat} {k:Nat} (h:xs.length≤60) (hk:k<6):sliD (dn xs) (.int (k:Int)) .none (.int 6)=some (dn (pickL xs (some (k:Int)) none (some 6))) :=
 jN (u':=none) (st':=some 6) (cw (Nat.le_trans (Nat.le_of_lt hk) (by decide))) rfl rfl (by decide) (by rw [List.length_map];exact Nat.le_trans h (by decide)) (rP _ _ _ _ _)
noncomputable def drawZ (ns:List Int):List Nat:=(ns.take 60).map fun x=>(x.fmod 1000000000).toNat
theorem fA (ns:List Int):(drawZ ns).length≤60:=by unfold drawZ;rw [List.length_map,List.length_take];exact Nat.min_le_left _ _
noncomputable def sumZ (ns:List Int) (k:Nat):Nat:=(pickL (drawZ ns) (some (k:Int)) none (some 6)).sum
theorem yO (x:Int):x.fmod 1000000000=(((x.fmod 1000000000).toNat:Nat):Int)∧(x.fmod 1000000000).toNat≤1000000000:=by
 obtain ⟨h1,h2⟩:=cB (b:=1000000000) (by decide) x
 exact ⟨(Int.toNat_of_nonneg h1).symm,Int.toNat_le.mpr (Int.le_of_lt h2)⟩
theorem vr (ns:List Int) {k:Nat} (hk:k<6):sumZ ns k≤60000000000 :=
 Nat.le_trans (rh (B:=1000000000) fun x hx=>let ⟨y,_,e⟩:=List.mem_map.mp (sj hx);e▸(yO y).2) (Nat.mul_le_mul_right 1000000000 (iS (fA ns) hk))
section
variable {G:af} {F:FEnv} {σ:MEnv}
theorem zE {b:Bool} {ns:List Int} {l:List (Nat×D)} (hns:ns.length≤63) (H:Has σ l) (h0:l.lookup 0=some (dZ ns)) :
  ev G F σ b (.comp (.bin .Mod (.var 38) (.bin .Pow (.cst (.int 10)) (.cst (.int 9)))) [38] true .plain (.sli (.var 0) (.cst .none) (.cst (.int 60)) (.cst .none)) .nil (.cst (.bool true)) [38])=some (dn (drawZ ns)) :=
 (aZ (l:=ns.take 60) (inj:= .int) (y:=fun x=>dI (x.fmod 1000000000).toNat) rfl (bK (bz (x:=dZ ns) (ab (H.ge h0)) aP ai aP (jp (n:=60) (by rw [List.length_map];exact Nat.le_trans hns (by decide)) (by decide))) (by rw [← List.map_take];exact bu (by rw [List.length_map,List.length_take];exact Nat.le_trans (Nat.min_le_left _ _) (by decide)))) (by rw [H.len];decide) fun x hx σ' h1 h2 h3 =>
  ag (y:= .int 1000000000) (ab h1) (by kernel_rfl!) ((uM (by decide)).trans (congrArg (some ∘ D.int) (yO x).1))).trans (congrArg (some ∘ D.list) (List.map_map (g:=dI) (f:=fun x:Int=>(x.fmod 1000000000).toNat)).symm)
noncomputable def iPair (p:Nat×Nat):D:= .tup [dI p.1,dI p.2]
theorem qW {α:Type} {b:Bool} {elt it it2:T} {k:IK} {i j:Nat} {l:List α} {f g:α→D} {y:α→D} (he:enumOk false k=true) (hf:feedD k (ev G F σ true it) (ev G F σ true it2)=some (l.map fun a=> .tup [f a,g a])) (hi:i<σ.length) (hj:j<σ.length) (hij:i≠j)
  (hy:∀ a∈l,∀ σ',getE σ' i=o (f a)→getE σ' j=o (g a)→(∀ m,m≠i→m≠j→getE σ' m=getE σ m)→ev G F σ' false elt=some (y a)):ev G F σ b (.comp elt [i,j] false k it it2 (.cst (.bool true)) [i,j])=some (.list (l.map y)) :=
 ky (τ:=fun a=>setE (setE (clearE (clearE σ [i]) [j]) i (f a) false) j (g a) false) he hf (fun a _=>rfl) fun a ha=>hy a ha _
  ((bU (Ne.symm hij)).trans (cx (by rw [az,az];exact hi))) (cx (by rw [setE_len,az,az];exact hj)) fun m h1 h2=>(bU (Ne.symm h2)).trans ((bU (Ne.symm h1)).trans ((fg h2).trans (fg h1)))
theorem sV {b:Bool} {cs:List (Nat×Nat)} {ns:List Int} {tp:T} {l:List (Nat×D)} (H:Has σ l) (h1:l.lookup 1=some (dn (drawZ ns))) (hc:∀ p∈cs,p.1<6) (hf:feedD .enum (ev G F σ true tp) (ev G F σ true .nil)=some (cs.map iPair)) :
  ev G F σ b (.comp (.bin .Add (.var 40) (.blt .sum (.cons (.sli (.var 1) (.var 39) (.cst .none) (.cst (.int 6))) .nil))) [39,40] false .enum tp .nil (.cst (.bool true)) [39,40])=some (.list (cs.map fun p=>dI (p.2+sumZ ns p.1))) :=
 qW (f:=fun p:Nat×Nat=>dI p.1) (g:=fun p=>dI p.2) rfl hf (by rw [H.len];decide) (by rw [H.len];decide) (by decide) fun p hp σ' g1 g2 g3 =>
  bB (ab g2) (aU (aC (bz (ab ((g3 1 (by decide) (by decide)).trans (H.ge h1))) (ab g1) aP ai (zC (fA ns) (hc p hp)))) (uX (Nat.le_trans (iS (fA ns) (hc p hp)) (by decide))))
theorem nM {ns:List Int} (hns:ns.length≤63) (H:Has σ [(0,dZ ns)]) (k:∀ {σ':MEnv} {d0 d1 d2 d3 d4 d5:Nat},d4≤60000001013→Has σ' [(2,dn [d0,d1,d2,d3,d4,d5])]→Tells (ex G F σ' s3t2)):Tells (ex G F σ s3t0) :=
 aI H (by decide) (zE hns H rfl) fun H1=>aI H1 (by decide) (sV (cs:=[(0,148),(1,74),(2,9503),(3,238),(4,1013),(5,265)]) (ns:=ns) H1 rfl (by decide) rfl) fun H2 =>
  k (d0:=148+sumZ ns 0) (d1:=74+sumZ ns 1) (d2:=9503+sumZ ns 2) (d3:=238+sumZ ns 3) (d4:=1013+sumZ ns 4) (d5:=265+sumZ ns 5) (Nat.le_trans (Nat.add_le_add_left (vr ns (by decide)) 1013) (by decide)) (H2.sub ⟨rfl,trivial⟩)
end
end Mine
set_option genSizeOf false
set_option genInjectivity false
namespace Mine
noncomputable def Tr.cnt:Tr→Nat
 | .has _=>1
 | .no a=>a.cnt
 | .both a b=>a.cnt+b.cnt+a.cnt+b.cnt
theorem iG:∀ t:Tr,1≤t.cnt
 | .has _=>Nat.le_refl 1
 | .no a=>iG a
 | .both a b=>Nat.le_trans (iG b) (Nat.le_add_left _ _)
theorem bW:∀ (t:Tr) (r:List Nat),(stepsN t r).length=t.cnt
 | .has _,_=>rfl
 | .no a,r=>by
  have h:=bW a r.reverse
  show (lastOn _ _).length=_
  unfold lastOn
  rw [List.length_append,List.length_dropLast,h]
  exact Nat.sub_add_cancel (iG a)
 | .both a b,r=>by
  rw [stepsN,List.length_append,List.length_append,List.length_append,bW a,bW b,bW a,bW b];rfl
theorem iI:∀ t:Tr,(denN t).cnt=t.cnt
 | .has _=>rfl
 | .no _=>rfl
 | .both _ _=>rfl
theorem gk (l r:Tr):∀ k:Nat,(joinN k l r).cnt=l.cnt+r.cnt+l.cnt+r.cnt
 |0=>rfl
 |1=>by rw [joinN,Tr.cnt,Tr.cnt,iI,iI]
 |_+2=>by rw [joinN,Tr.cnt,Tr.cnt,iI]
section
variable {n:Nat}
theorem cE:∀ {d:Nat} {t:Tr},t.ok n d=true→t.ok n (d+1)=true
 |0,_,h=>nomatch h
 |d+1,.has _,h=>h
 |d+1,.no _,h=>cE (d:=d) h
 |d+1,.both _ _,h=>aa h fun h1 h2=>Bool.and_eq_true_iff.mpr ⟨cE h1,cE h2⟩
theorem lH:∀ {d:Nat} {t:Tr},t.ok n d=true→(denN t).ok n (d+1)=true
 |0,_,h=>nomatch h
 |d+1,.has _,h=>h
 |d+1,.no _,h=>cE (cE (d:=d) h)
 |d+1,.both _ _,h=>h
theorem iq {d:Nat} {l r:Tr} (hl:l.ok n d=true) (hr:r.ok n d=true):∀ k:Nat,(joinN k l r).ok n (d+3)=true
 |0=>Bool.and_eq_true_iff.mpr ⟨cE (cE hl),cE (cE hr)⟩
 |1=>Bool.and_eq_true_iff.mpr ⟨lH hl,lH hr⟩
 |_+2=>Bool.and_eq_true_iff.mpr ⟨lH hl,cE hr⟩
end
noncomputable def oneN (d3 t:Nat):Tr:=cond (bitN d3 t) (.has t) (.no (.has t))
noncomputable def treeN (d3:Nat):Tr:=joinN (d3 / 144 % 3) (joinN (d3 / 16 % 3) (oneN d3 0) (oneN d3 1)) (joinN (d3 / 48 % 3) (oneN d3 2) (oneN d3 3))
theorem fO (d t:Nat):(oneN d t).cnt=1:=by
 unfold oneN
 cases bitN d t with
 |true=>rfl
 |false=>rfl
theorem gU {n:Nat} (d:Nat) {t:Nat} (h:t<n):(oneN d t).ok n 2=true:=by
 unfold oneN
 cases bitN d t with
 |true=>exact decide_eq_true h
 |false=>exact decide_eq_true h
theorem sR (d3:Nat):(treeN d3).cnt=16:=by
 unfold treeN
 rw [gk,gk,gk,fO,fO,fO,fO]
theorem fH {n:Nat} (hn:4≤n) (d3:Nat):(treeN d3).ok n 8=true :=
 iq (iq (gU d3 (Nat.lt_of_lt_of_le (by decide) hn)) (gU d3 (Nat.lt_of_lt_of_le (by decide) hn)) _) (iq (gU d3 (Nat.lt_of_lt_of_le (by decide) hn)) (gU d3 (Nat.lt_of_lt_of_le (by decide) hn)) _) _
noncomputable def aN (d0:Nat):Nat:=97+d0 % 26
noncomputable def bN (d0:Nat):Nat:=97+(d0 % 26+1+d0 / 26 % 25) % 26
theorem yU:∀ x<26,∀ y<25,x≠(x+1+y) % 26:=by decide +kernel
theorem s6 (d0:Nat):isLt (aN d0):=⟨_,Nat.mod_lt _ (by decide),rfl⟩
theorem rL (d0:Nat):isLt (bN d0):=⟨_,Nat.mod_lt _ (by decide),rfl⟩
theorem zL (d0:Nat):aN d0≠bN d0:=fun h=>yU _ (Nat.mod_lt d0 (by decide)) _ (Nat.mod_lt (d0 / 26) (by decide)) (Nat.add_left_cancel h)
theorem isLt.lt {c:Nat} (h:isLt c):c<123:=let ⟨_,h,e⟩:=h;e▸Nat.add_lt_add_left h 97
theorem isLt.chr {c:Nat} (h:isLt c):c≤1114111:=Nat.le_trans (Nat.le_of_lt h.lt) (by decide)
noncomputable def qN (d2 t:Nat):Nat:=d2 / 10 ^ t % 10
noncomputable def wantD (a b d2 t:Nat):D:= .str (mk (joinL (menuL a b (qN d2 t))))
section
variable {G:af} {F:FEnv} {σ:MEnv} {b:Bool} {l:List (Nat×D)} {dr:D}
theorem nN {n:Nat} (h:n≤1114111):bltD .chr [dI n]=some (.str (mk [n])):=aq (c:=(decide (0≤(n:Int))&&decide ((n:Int).toNat≤1114111))=true) (by rw [decide_eq_true (Int.natCast_nonneg n),decide_eq_true (show (n:Int).toNat≤1114111 from h)];rfl) rfl
theorem cZ {k:Int} {x:D} (H:Has σ l) (h2:l.lookup 2=some dr) (i:idxD dr (.int k)=some x):ev G F σ b (.idx (.var 2) (.cst (.int k)))=some x:=ay (ab (H.ge h2)) ai i
theorem bc:ev G F σ b (.cst (.str "..."))=some (.str (mk dots)):=congrArg (some ∘ D.str) ec
theorem z4:ev G F σ b (.cst (.str "......"))=some (.str (mk (dots++dots))):=congrArg (some ∘ D.str) (by decide)
theorem yB (u w:List Nat):mk u++mk w=mk (u++w):=congrArg Str.mk (List.append_toArray u w)
theorem ax {x y:T} {u w:List Nat} (h1:ev G F σ true x=some (.str (mk u))) (h2:ev G F σ true y=some (.str (mk w))) (hl:(Nat.ble u.length 1000&&Nat.ble w.length 1000)=true:=by rfl):ev G F σ b (.bin .Add x y)=some (.str (mk (u++w))) :=
 aa hl fun l1 l2=>ag h1 h2 (aq (c:=(sizeOk (mk u).length&&sizeOk (mk w).length)=true) (by rw [b8 (Nat.le_of_ble_eq_true l1),b8 (Nat.le_of_ble_eq_true l2)];rfl) (congrArg (some ∘ D.str) (yB u w)))
theorem uQ:∀ {cs:List Nat},cs.length=4→methD .join (.str "") [.list (cs.map fun c=> .str (mk [c]))]=some (.str (mk cs))
 | [a,b,c,d],_=>rfl
theorem u6 {a c:T} {m k:Nat} (h:ev G F σ true a=some (dI m)) (h2:ev G F σ true c=some (dI k)) (hm:m≤1000000) (hk:k≤1000):ev G F σ b (.bin .Pow a c)=some (dI (m ^ k)) :=
 ag h h2 ((zY (Int.natCast_nonneg k) (Nat.le_trans hk (by decide)) (Nat.lt_of_le_of_lt hm (by decide))).trans (congrArg (some ∘ D.int) (Int.natCast_pow m k).symm))
theorem zX {a c m:Nat}:idxD (.tup [.str (mk [a]),.str (mk [c])]) (dI (m % 2))=some (.str (mk [cond (decide (m % 2=1)) c a])):=by
 rcases Nat.mod_two_eq_zero_or_one m with h |h<;>rw [h]<;>rfl
theorem wf {a c d1:Nat} (H:Has σ l) (h2:l.lookup 2=some dr) (h3:l.lookup 3=some (.str (mk [a]))) (h4:l.lookup 4=some (.str (mk [c]))) (i1:idxD dr (.int 1)=some (dI d1)) :
  ev G F σ b (.meth .join (.cst (.str "")) (.cons (.comp (.idx (.tup (.cons (.var 3) (.cons (.var 4) .nil))) (.bin .BitAnd (.bin .RShift (.idx (.var 2) (.cst (.int 1))) (.var 39)) (.cst (.int 1)))) [39] true .range1 (.cst (.int 4)) .nil (.cst (.bool true)) [39]) .nil))=some (.str (mk (textL a c d1))) :=
 bi dB (aC ((aZ (l:=List.range 4) (inj:=dI) (y:=fun k=> .str (mk [cond (bitN d1 k) c a])) rfl (cV (n:=4) ai (by decide)) (by rw [H.len];decide) fun k hk σ' g1 g2 g3 =>
  ay (bH (aR (ab (H.inn g2 (by decide) h3)) (ab (H.inn g2 (by decide) h4)))) (nQ (ay (ab (H.inn g2 (by decide) h2)) ai i1) (ab g1)) zX).trans (congrArg (some ∘ D.list) (List.map_map (g:=fun c=>D.str (mk [c])) (f:=fun k=>cond (bitN d1 k) c a)).symm))) (uQ ((List.length_map _).trans List.length_range))
noncomputable def menuT:T:= .tup (.cons (.bin .Add (.var 3) (.cst (.str "..."))) (.cons (.bin .Add (.cst (.str "...")) (.var 4)) (.cons (.bin .Add (.bin .Add (.var 3) (.cst (.str "..."))) (.var 4)) (.cons (.bin .Add (.bin .Add (.bin .Add (.bin .Add (.cst (.str "...")) (.var 3)) (.cst (.str "..."))) (.var 4)) (.cst (.str "..."))) (.cons (.bin .Add (.bin .Add (.bin .Add (.bin .Add (.bin .Add (.cst (.str "...")) (.var 3)) (.var 4)) (.cst (.str "..."))) (.var 4)) (.cst (.str "..."))) (.cons (.bin .Add (.bin .Add (.bin .Add (.var 4) (.cst (.str "......"))) (.var 3)) (.cst (.str "..."))) (.cons (.bin .Add (.bin .Add (.bin .Add (.bin .Add (.bin .Add (.var 3) (.var 3)) (.var 3)) (.cst (.str "..."))) (.var 3)) (.var 3)) (.cons (.bin .Add (.bin .Add (.bin .Add (.bin .Add (.cst (.str "...")) (.var 4)) (.var 3)) (.cst (.str "..."))) (.var 3)) (.cons (.bin .Add (.bin .Add (.bin .Add (.var 3) (.var 4)) (.var 3)) (.var 4)) (.cons (.bin .Add (.bin .Add (.bin .Add (.bin .Add (.var 3) (.var 4)) (.cst (.str "..."))) (.var 3)) (.var 4)) .nil))))))))))
noncomputable def menuD (a c:Nat):D:= .tup ((List.range 10).map fun q=> .str (mk (joinL (menuL a c q))))
theorem wo {a c:Nat} (A:∀ {b:Bool},ev G F σ b (.var 3)=some (.str (mk [a]))) (B:∀ {b:Bool},ev G F σ b (.var 4)=some (.str (mk [c]))):ev G F σ false menuT=some (menuD a c) :=
 (bH (aD (ax A bc) (aD (ax bc B) (aD (ax (ax A bc) B) (aD (ax (ax (ax (ax bc A) bc) B) bc)
  (aD (ax (ax (ax (ax (ax bc A) B) bc) B) bc) (aD (ax (ax (ax B z4) A) bc) (aD (ax (ax (ax (ax (ax A A) A) bc) A) A)
  (aD (ax (ax (ax (ax bc B) A) bc) A) (aD (ax (ax (ax A B) A) B) (aC (ax (ax (ax (ax A B) bc) A) B))))))))))) rfl :)
theorem rX {a c d2:Nat} (H:Has σ l) (h2:l.lookup 2=some dr) (h6:l.lookup 6=some (menuD a c)) (i2:idxD dr (.int 2)=some (dI d2)) :
  ev G F σ b (.comp (.idx (.var 6) (.bin .Mod (.bin .FloorDiv (.idx (.var 2) (.cst (.int 2))) (.bin .Pow (.cst (.int 10)) (.var 41))) (.cst (.int 10)))) [41] true .range1 (.cst (.int 4)) .nil (.cst (.bool true)) [41])=some (lst (wantD a c d2) (List.range 4)) :=
 aZ (l:=List.range 4) (inj:=dI) rfl (cV (n:=4) ai (by decide)) (by rw [H.len];decide) fun t ht σ' g1 g2 g3 =>
  have ht:t≤3:=Nat.le_of_lt_succ (List.mem_range.mp ht)
  ay (ab (H.inn g2 (by decide) h6)) (bA 10 (pn (ay (ab (H.inn g2 (by decide) h2)) ai i2) (u6 (m:=10) ai (ab g1) (by decide) (Nat.le_trans ht (by decide))) (Nat.ne_of_gt (Nat.pow_pos (by decide))) (Nat.le_trans (Nat.pow_le_pow_right (by decide) ht) (by decide))) (by decide))
   (ei (by rw [List.getElem?_map,List.getElem?_range (Nat.mod_lt _ (by decide))];rfl) (by rw [List.length_map,List.length_range];decide))
variable (hD:∀ t:Tr,F "_law_denied" [t.toD]=some (denN t).toD) (hJ:∀ (k:Nat) (l r:Tr),F "_law_join" [dI k,l.toD,r.toD]=some (joinN k l r).toD)
include hD in
theorem vq {d3:Nat} (H:Has σ l) (h2:l.lookup 2=some dr) (i3:idxD dr (.int 3)=some (dI d3)) :
  ev G F σ b (.comp (.ite (.bin .BitAnd (.bin .RShift (.idx (.var 2) (.cst (.int 3))) (.var 41)) (.cst (.int 1))) (.tup (.cons (.cst (.str "has")) (.cons (.var 41) .nil))) (.call "_law_denied" (.cons (.tup (.cons (.cst (.str "has")) (.cons (.var 41) .nil))) .nil))) [41] true .range1 (.cst (.int 4)) .nil (.cst (.bool true)) [41])=some (lst (fun t=>(oneN d3 t).toD) (List.range 4)) :=
 aZ (l:=List.range 4) (inj:=dI) rfl (cV (n:=4) ai (by decide)) (by rw [H.len];decide) fun t ht σ' g1 g2 g3 =>
  have et:∀ {c:Bool},ev G F σ' c (.tup (.cons (.cst (.str "has")) (.cons (.var 41) .nil)))=some (Tr.has t).toD:=bH (aR dB (ab g1))
  ch Tr.toD (nQ (ay (ab (H.inn g2 (by decide) h2)) ai i3) (ab g1)) ij (fun _=>et) fun _=>aj (aC et) (hD (.has t))
include hD hJ
theorem rl {d0 d1 d2 d3:Nat} (i0:idxD dr (.int 0)=some (dI d0)) (i1:idxD dr (.int 1)=some (dI d1)) (i2:idxD dr (.int 2)=some (dI d2)) (i3:idxD dr (.int 3)=some (dI d3)) (H:Has σ [(2,dr)])
  (k:∀ {σ':MEnv},Has σ' [(2,dr),(5,.str (mk (textL (aN d0) (bN d0) d1))),(7,lst (wantD (aN d0) (bN d0) d2) (List.range 4)),(10,(treeN d3).toD)]→Tells (ex G F σ' s3t10)):Tells (ex G F σ s3t2) :=
 aI H (by decide) (aU (aC (bB (m:=97) ai (bA 26 (cZ H rfl i0) (by decide)))) (nN (s6 d0).chr)) fun H =>
 aI H (by decide) (aU (aC (bB (m:=97) ai (bA 26 (bB (bB (n:=1) (bA 26 (cZ H rfl i0) (by decide)) ai) (bA 25 (cH 26 (cZ H rfl i0) (by decide) (by decide)) (by decide))) (by decide)))) (nN (rL d0).chr)) fun H =>
 aI H (by decide) (wf H rfl rfl rfl i1) fun H =>
 aI H (by decide) (wo (ab (H.ge rfl)) (ab (H.ge rfl))) fun H =>
 aI H (by decide) (rX H rfl rfl i2) fun H =>
 aI H (by decide) (vq hD H rfl i3) fun H =>
 aI H (by decide) (bE (aR (aj (dY (bA 3 (cH 16 (cZ H rfl i3) (by decide) (by decide)) (by decide)) (ay (x:=lst (fun t=>(oneN d3 t).toD) (List.range 4)) (y:= .int 0) (d:=(oneN d3 0).toD) (ab (H.ge rfl)) ai rfl) (ay (x:=lst (fun t=>(oneN d3 t).toD) (List.range 4)) (y:= .int 1) (d:=(oneN d3 1).toD) (ab (H.ge rfl)) ai rfl)) (hJ _ _ _))
  (aj (dY (bA 3 (cH 48 (cZ H rfl i3) (by decide) (by decide)) (by decide)) (ay (x:=lst (fun t=>(oneN d3 t).toD) (List.range 4)) (y:= .int 2) (d:=(oneN d3 2).toD) (ab (H.ge rfl)) ai rfl) (ay (x:=lst (fun t=>(oneN d3 t).toD) (List.range 4)) (y:= .int 3) (d:=(oneN d3 3).toD) (ab (H.ge rfl)) ai rfl)) (hJ _ _ _)))) fun H =>
 aI H (by decide) (aj (dY (bA 3 (cH 144 (cZ H rfl i3) (by decide) (by decide)) (by decide)) (ay (y:= .int 0) (ab (H.ge rfl)) ai rfl) (ay (y:= .int 1) (ab (H.ge rfl)) ai rfl)) (hJ _ _ _)) fun H =>
 k (H.sub ⟨rfl,rfl,rfl,rfl,trivial⟩)
end
end Mine
set_option genSizeOf false
set_option genInjectivity false
namespace Mine
noncomputable def qZ (n:Int):Nat→Int
 |0=>n
 |k+1=>(qZ n k).fdiv ((5 - k:Nat):Int)
noncomputable def pZ (n:Int) (k:Nat):Nat:=((qZ n k).fmod ((5 - k:Nat):Int)).toNat
noncomputable def sZ (n:Int):Nat→List Nat×List Nat
 |0=>([],id5)
 |k+1=>stepP (pZ n k) (sZ n k)
noncomputable def psZ (n:Int):Nat→List Nat
 |0=>[]
 |k+1=>psZ n k++[pZ n k]
section
variable {n:Int} {k:Nat} (hk:k<5)
include hk
theorem jK:(0:Int)<((5 - k:Nat):Int):=Int.natCast_pos.mpr (Nat.sub_pos_of_lt hk)
theorem nA:(qZ n k).fmod ((5 - k:Nat):Int)=(pZ n k:Int):=(Int.toNat_of_nonneg (cB (jK hk) _).1).symm
theorem eC:pZ n k<5 - k:=by
 have h:=(cB (jK hk) (qZ n k)).2
 rw [nA hk] at h
 exact Int.ofNat_lt.mp h
theorem xW:qZ n (k+1) * ((5 - k:Nat):Int)+(pZ n k:Int)=qZ n k:=by
 rw [← nA hk,Int.add_comm,Int.mul_comm]
 exact Int.fmod_add_mul_fdiv _ _
end
theorem sub_one {k m:Nat} (hk:k<5) (h:m=5 - k):m - 1=5 - (k+1):=by rw [h,Nat.sub_sub]
theorem wB {L:List Nat} {p k:Nat} (h:L.length=k) (hp:p<k):(L.take p++L.drop (p+1)).length=k - 1:=by
 rw [List.length_append,List.length_take,List.length_drop,h,Nat.min_eq_left (Nat.le_of_lt hp)]
 rw [Nat.add_comm p 1,← Nat.sub_sub,Nat.add_comm,Nat.sub_add_cancel (Nat.le_sub_one_of_lt hp)]
theorem pb {n:Int}:∀ {k:Nat},k≤5→(sZ n k).1.length=k∧(sZ n k).2.length=5 - k∧(psZ n k).length=k
 |0,_=>⟨rfl,rfl,rfl⟩
 |k+1,h =>
  let ⟨h1,h2,h3⟩:=pb (n:=n) (Nat.le_of_succ_le h)
  ⟨List.length_append.trans (congrArg (· + 1) h1),(wB h2 (eC h)).trans (sub_one h rfl),List.length_append.trans (congrArg (· + 1) h3)⟩
theorem j3 (n:Int):∀ k,k≤5→(qZ n k).natAbs≤n.natAbs
 |0,_=>Nat.le_refl _
 |k+1,h=>by
  rw [qZ,Int.fdiv_eq_ediv_of_nonneg _ (Int.le_of_lt (jK h))]
  exact Nat.le_trans (Int.natAbs_ediv_le_natAbs _ _) (j3 n k (Nat.le_of_succ_le h))
theorem wM (n:Int):pm (sZ n 5).1:=dO (qB _ (eC (k:=0) (by decide)) _ (eC (k:=1) (by decide)) _ (eC (k:=2) (by decide)) _ (eC (k:=3) (by decide)) _ (eC (k:=4) (by decide)))
noncomputable def sgN (d5:Nat):Int:=1 - ((2 * (d5 % 2):Nat):Int)
theorem uH (d5:Nat):sgN d5=1∨sgN d5 = -1:=by
 unfold sgN
 rcases Nat.mod_two_eq_zero_or_one d5 with h |h<;>rw [h]
 ·exact .inl rfl
 ·exact .inr rfl
theorem zo {d4 d5:Nat}:((d4:Int) * sgN d5).natAbs=d4:=by
 rw [Int.natAbs_mul]
 rcases uH d5 with h |h<;>rw [h]<;>exact Nat.mul_one d4
theorem eJ {n:Int} (h:n.natAbs≤60000001013):small n=true:=eA (Nat.lt_of_le_of_lt h (by decide))
noncomputable def rBody:S:=(.seq (.unp [11,16] (.call "int_divmod" (.cons (.var 11) (.cons (.var 15) .nil)))) <|
  (.seq (.ifs (.un .Not (.cmp2 .LtE .Lt (.cst (.int 0)) (.var 16) (.var 15))) (.seq (.ret (.cst (.bool false))) <|
   .skip) .skip) <|
  (.seq (.multi [(12,false),(13,false),(14,false)] (.cons (.bin .Add (.var 12) (.list (.cons (.idx (.var 13) (.var 16)) .nil))) (.cons (.bin .Add (.sli (.var 13) (.cst .none) (.var 16) (.cst .none)) (.sli (.var 13) (.bin .Add (.var 16) (.cst (.int 1))) (.cst .none) (.cst .none))) (.cons (.bin .Add (.var 14) (.list (.cons (.var 16) .nil))) .nil)))) <|
  .skip)))
theorem wi {l:List Nat} {k:Nat} (h:l.length≤5) (hk:k≤5):sliD (dn l) .none (dI k) .none=some (dn (l.take k)):=(jp (by rw [List.length_map];exact Nat.le_trans h (by decide)) (Nat.le_trans hk (by decide))).trans (congrArg (some ∘ D.list) List.map_take.symm)
theorem wH {l:List Nat} {k:Nat} (h:l.length≤5) (hk:k≤5):sliD (dn l) (dI k) .none .none=some (dn (l.drop k)):=(gc (by rw [List.length_map];exact Nat.le_trans h (by decide)) (Nat.le_trans hk (by decide))).trans (congrArg (some ∘ D.list) List.map_drop.symm)
theorem bY {n:Nat} (h:n≤5):n≤1048576:=Nat.le_trans h (by decide)
section
variable {G:af} {F:FEnv} {σ:MEnv} {l:List (Nat×D)}
theorem y1 {o1 o2:CmpOp} {a c e:T} {x y z:D} {r b:Bool} (h1:ev G F σ true a=some x) (h2:ev G F σ true c=some y) (h3:ev G F σ true e=some z) (g1:cmpD o1 x y=some true) (g2:cmpD o2 y z=some r):ev G F σ b (.cmp2 o1 o2 a c e)=some (.bool r):=ad h1 (ad h2 (ad g1 (ad h3 (aX g2 rfl))))
theorem uJ {b:Bool} {dr:D} {d4 d5:Nat} (i4:idxD dr (.int 4)=some (dI d4)) (i5:idxD dr (.int 5)=some (dI d5)) (hd4:d4≤60000001013) (H:Has σ l) (h2:l.lookup 2=some dr) :
  ev G F σ b (.bin .Mult (.idx (.var 2) (.cst (.int 4))) (.bin .Sub (.cst (.int 1)) (.bin .Mult (.cst (.int 2)) (.bin .Mod (.idx (.var 2) (.cst (.int 5))) (.cst (.int 2))))))=some (.int ((d4:Int) * sgN d5)) :=
 ag (cZ H h2 i4) (ag ai (jJ (m:=2) ai (bA 2 (cZ H h2 i5) (by decide)) (by decide) (Nat.le_trans (Nat.le_of_lt (Nat.mod_lt _ (by decide))) (by decide))) (y:= .int ((2 * (d5 % 2):Nat):Int)) (d:= .int (sgN d5)) rfl) (nG (eJ hd4) (eJ (by
  rcases uH d5 with h |h<;>rw [h]<;>decide)))
variable (hDM:∀ a b:Int,small a=true→b≠0→small b=true→F "int_divmod" [.int a,.int b]=some (.tup [.int (a.fdiv b),.int (a.fmod b)])) {dr tx wd tr:D} {n:Int} (hn:n.natAbs≤60000001013)
noncomputable def ringL (dr tx wd tr:D) (n:Int) (k:Nat):List (Nat×D):=[(2,dr),(5,tx),(7,wd),(10,tr),(11,.int (qZ n k)),(12,dn (sZ n k).1),(13,dn (sZ n k).2),(14,dn (psZ n k))]
include hDM hn
theorem qx {k:Nat} (hk:k<5) (H:Has σ (ringL dr tx wd tr n k)):∃ σ',bodyT G F [15] true rBody σ (dI (5 - k))=some (σ',.next)∧Has σ' (ringL dr tx wd tr n (k+1)):=by
 obtain ⟨z1,z2,z3⟩:=pb (n:=n) (Nat.le_of_lt hk)
 have hp:=eC (n:=n) hk
 have h5:5 - k≤5:=Nat.sub_le 5 k
 have hd:=hDM (qZ n k) ((5 - k:Nat):Int) (eJ (Nat.le_trans (j3 n k (Nat.le_of_lt hk)) hn)) (Int.ne_of_gt (jK hk)) (bg (Nat.le_trans h5 (by decide)))
 rw [nA hk] at hd
 have H0:=H.set (i:=15) (d:=dI (5 - k)) (by decide)
 have H2:=(H0.set (i:=11) (d:= .int (qZ n (k+1))) (by decide)).set (i:=16) (d:=dI (pZ n k)) (by decide)
 refine ⟨_,fh (aj (aR (ab (H0.ge rfl)) (ab (H0.ge rfl))) hd) (be (om (x:= .bool true) (y1 (y:=dI (pZ n k)) (z:=dI (5 - k)) ai (ab (H2.ge rfl)) (ab (H2.ge rfl)) (congrArg some (decide_eq_true (Int.natCast_nonneg _))) (congrArg some (decide_eq_true (Int.ofNat_lt.mpr hp)))) rfl) rfl (aS
  (sD (dY (ag (ab (H2.ge rfl)) (bE (aC (ay (x:=dn (sZ n k).2) (y:=dI (pZ n k)) (ab (H2.ge rfl)) (ab (H2.ge rfl)) (tm (by rw [z2];exact hp) (bY (by rw [z2];exact h5)))))) (eT (xs:=(sZ n k).1) (ys:=[(sZ n k).2.getD (pZ n k) 0]) (bY (by rw [z1];exact Nat.le_of_lt hk)) dU))
   (ag (bz (x:=dn (sZ n k).2) (u':=dI (pZ n k)) (ab (H2.ge rfl)) aP (ab (H2.ge rfl)) aP (wi (by rw [z2];exact h5) (Nat.le_trans (Nat.le_of_lt hp) h5))) (bz (x:=dn (sZ n k).2) (ab (H2.ge rfl)) (bB (m:=pZ n k) (n:=1) (ab (H2.ge rfl)) ai) aP aP (wH (by rw [z2];exact h5) (Nat.le_trans hp h5))) (eT (bY (Nat.le_trans (List.length_take_le' _ _) (by rw [z2];exact h5))) (bY (Nat.le_trans (by rw [List.length_drop];exact Nat.sub_le _ _) (by rw [z2];exact h5)))))
   (ag (ab (H2.ge rfl)) (bE (aC (ab (H2.ge rfl)))) (eT (xs:=psZ n k) (ys:=[pZ n k]) (bY (by rw [z3];exact Nat.le_of_lt hk)) dU))) rfl rfl))),
  (((H2.set (i:=12) (d:=dn (sZ n (k+1)).1) (by decide)).set (i:=13) (d:=dn (sZ n (k+1)).2) (by decide)).set (i:=14) (d:=dn (psZ n (k+1))) (by decide)).sub ⟨rfl,rfl,rfl,rfl,rfl,rfl,rfl,rfl,trivial⟩⟩
theorem i8:∀ (m k:Nat) {σ:MEnv},k+m=5→Has σ (ringL dr tx wd tr n k)→∃ σ',loopL (bodyT G F [15] true rBody) σ ((List.range' k m).map fun k=>dI (5 - k))=some (σ',.next)∧Has σ' (ringL dr tx wd tr n 5)
 |0,k,_,h,H=>⟨_,rfl,h▸H⟩
 |m+1,k,_,h,H =>
  let ⟨_,h1,H1⟩:=qx hDM hn (k:=k) (h▸Nat.lt_add_of_pos_right (Nat.succ_pos m)) H
  let ⟨_,h2,H2⟩:=i8 m (k+1) ((Nat.succ_add_eq_add_succ k m).trans h) H1
  ⟨_,aW h1 h2,H2⟩
theorem qA (H:Has σ (ringL dr tx wd tr n 5)):ev G F σ false (.bin .Add (.bin .Mult (.bin .Add (.bin .Mult (.bin .Add (.bin .Mult (.bin .Add (.bin .Mult (.bin .Add (.var 11) (.idx (.var 14) (.cst (.int 4)))) (.cst (.int 2))) (.idx (.var 14) (.cst (.int 3)))) (.cst (.int 3))) (.idx (.var 14) (.cst (.int 2)))) (.cst (.int 4))) (.idx (.var 14) (.cst (.int 1)))) (.cst (.int 5))) (.idx (.var 14) (.cst (.int 0))))=some (.int n):=by
 have g:∀ {i:Nat} {x:D},idxD (dn (psZ n 5)) (dI i)=some x→ev G F σ true (.idx (.var 14) (.cst (dI i)))=some x:=fun h=>ay (ab (H.ge rfl)) ai h
 have s:∀ {k:Nat},k≤5→small (qZ n k)=true:=fun h=>eJ (Nat.le_trans (j3 n _ h) hn)
 have m:∀ {k i:Nat} {a c:T} {b:Bool},k<5→ev G F σ true a=some (.int (qZ n (k+1)))→ev G F σ true c=some (dI (pZ n k))→ev G F σ b (.bin .Add (.bin .Mult a (.cst (dI (5 - k)))) c)=some (.int (qZ n k)):=fun hk ha hc =>
  ag (ag ha ai (nG (s hk) (bg (Nat.le_trans (Nat.sub_le 5 _) (by decide))))) hc (congrArg (some ∘ D.int) (xW hk))
 have e4:ev G F σ true (.bin .Add (.var 11) (.idx (.var 14) (.cst (dI 4))))=some (.int (qZ n 4)):=ag (ab (H.ge rfl)) (g (i:=4) (x:=dI (pZ n 4)) rfl) (congrArg (some ∘ D.int) ((congrArg (· + (pZ n 4:Int)) (Int.mul_one _).symm).trans (xW (k:=4) (by decide))))
 exact m (k:=0) (i:=0) (by decide) (m (k:=1) (i:=0) (by decide) (m (k:=2) (i:=0) (by decide) (m (k:=3) (i:=0) (by decide) e4 (g (i:=3) rfl)) (g (i:=2) rfl)) (g (i:=1) rfl)) (g (i:=0) rfl)
end
section
variable {G:af} {F:FEnv} {σ:MEnv}
theorem qT (hDM:∀ a b:Int,small a=true→b≠0→small b=true→F "int_divmod" [.int a,.int b]=some (.tup [.int (a.fdiv b),.int (a.fmod b)])) {dr tx wd tr:D} {d4 d5:Nat} (i4:idxD dr (.int 4)=some (dI d4)) (i5:idxD dr (.int 5)=some (dI d5)) (hd4:d4≤60000001013) (H:Has σ [(2,dr),(5,tx),(7,wd),(10,tr)])
  (k:∀ {σ':MEnv} {r:List Nat},pm r→Has σ' [(2,dr),(5,tx),(7,wd),(10,tr),(12,dn r),(17,.int ((d4:Int) * sgN d5))]→Tells (ex G F σ' s3t13)):Tells (ex G F σ s3t10):=by
 have hn:((d4:Int) * sgN d5).natAbs≤60000001013:=by rw [zo];exact hd4
 have H0:=(((H.set (i:=11) (d:= .int ((d4:Int) * sgN d5)) (by decide)).set (i:=12) (d:=dn []) (by decide)).set (i:=13) (d:=dn id5) (by decide)).set (i:=14) (d:=dn []) (by decide)
 obtain ⟨σ5,h5,H5⟩:=i8 (G:=G) hDM hn 5 0 rfl (H0.sub (l':=ringL dr tx wd tr ((d4:Int) * sgN d5) 0) ⟨rfl,rfl,rfl,rfl,rfl,rfl,rfl,rfl,trivial⟩)
 exact (uP (σ':=σ5) rfl (db (bH (by rfl) (by rfl)) rfl) h5 (aI H5 (by decide) (qA hDM hn H5) fun H6=>k (wM _) (H6.sub ⟨rfl,rfl,rfl,rfl,rfl,rfl,trivial⟩))).of (uq (y:=dn []) (u:=dn []) (aD (uJ i4 i5 hd4 H rfl) (dY rfl rfl rfl)) rfl rfl)
end
end Mine
set_option genSizeOf false
set_option genInjectivity false
namespace Mine
theorem dm {a:Int} {k:Nat} (h0:0≤a) (h:a<2 ^ k) (hk:k≤4000):small a=true:=by
 obtain ⟨n,rfl⟩:=Int.eq_ofNat_of_zero_le h0
 rw [show (2:Int) ^ k=((2 ^ k:Nat):Int) from (Int.natCast_pow 2 k).symm] at h
 unfold small BIG
 exact decide_eq_true (Nat.lt_of_lt_of_le (Int.ofNat_lt.mp h) (Nat.pow_le_pow_right (by decide) hk))
theorem fU {d:D} (h:eqD d d=some true):cmpD .NotEq d d=some false:=congrArg (Option.map (!·)) h
theorem yH (a:Int):cmpD .NotEq (.int a) (.int a)=some false:=fU (congrArg some (beq_self_eq_true _))
theorem mF (l:List Int):cmpD .NotEq (dZ l) (dZ l)=some false:=fU ((kC l l).trans (congrArg some (beq_self_eq_true _)))
theorem jX (l:List Bool):cmpD .NotEq (hasD l) (hasD l)=some false:=fU ((qh l l).trans (congrArg some (beq_self_eq_true _)))
theorem o6 (x:Str):eqD (.str x) (.str x)=some true:=congrArg some (beq_self_eq_true x)
noncomputable def textV (pts:List Nat):Int:=und 17 (iN pts)
theorem uD {m:Nat} {l:List Nat} (h:∀ x∈l,x<2 ^ m):∀ d∈iN l,0≤d∧d<2 ^ m:=fun d hd=>by
 obtain ⟨x,hx,rfl⟩:=List.mem_map.mp hd
 rw [show (2:Int) ^ m=((2 ^ m:Nat):Int) from (Int.natCast_pow 2 m).symm]
 exact ⟨Int.natCast_nonneg x,Int.ofNat_lt.mpr (h x hx)⟩
structure Pts (pts:List Nat):Prop where
 lt:∀ x∈pts,x<131072
 len:pts.length≤8
 last:∃ ini z,pts=ini++[z]∧0<z
theorem j8 {l:List Nat}:(iN l).length=l.length:=List.length_map _
theorem iK {l:List Nat} {z:Nat}:iN (l++[z])=iN l++[(z:Int)]:=List.map_append
section
variable {pts:List Nat} (P:Pts pts)
include P
theorem Pts.bd:∀ d∈iN pts,0≤d∧d<2 ^ 17:=uD P.lt
theorem lM:textV pts<2 ^ 136:=by
 have h:=kF 17 _ P.bd
 rw [j8] at h
 refine Int.lt_of_lt_of_le h ?_
 rw [show (2:Int) ^ (17 * pts.length)=((2 ^ (17 * pts.length):Nat):Int) from (Int.natCast_pow 2 _).symm]
 exact Int.ofNat_le.mpr (Nat.pow_le_pow_right (n:=2) (by decide) (Nat.mul_le_mul_left 17 P.len))
theorem gH:0<textV pts:=by
 obtain ⟨ini,z,e,hz⟩:=P.last
 have h:=P.bd
 rw [e,iK] at h
 unfold textV
 rw [e,iK,bG,dK]
 exact Int.add_pos_of_nonneg_of_pos (cf 17 _ fun x hx=>(h x (List.mem_append_left _ hx)).1) (Int.mul_pos (a7 _) (Int.natCast_pos.mpr hz))
theorem eL:small (textV pts)=true:=dm (Int.le_of_lt (gH P)) (lM P) (by decide)
theorem wR:0<textV pts∧textV pts<64 ^ 23:=⟨gH P,Int.lt_of_lt_of_le (lM P) (by decide)⟩
theorem pV:i2d (textV pts) 17=iN pts:=by
 obtain ⟨ini,z,e,hz⟩:=P.last
 have h:=P.bd
 have hs:=eL P
 unfold textV at hs ⊢
 rw [e,iK] at h hs ⊢
 exact l6 (by decide) (by decide) h (Int.ne_of_gt (Int.natCast_pos.mpr hz)) hs
end
noncomputable def writtenN (pts:List Nat) (rows:List Row):List Int:=textV pts :: rows.map rowV
theorem vg {n:Nat} {w:Row} (h:cF n w) (hn:n≤8):∀ x∈w.2.1++w.2.2++[w.1],x<2 ^ 3:=fun x hx=>(List.mem_append.mp hx).elim (fun hx=>(List.mem_append.mp hx).elim (fun hx=>Nat.lt_trans (h.a.lt x hx) (by decide)) fun hx=>Nat.lt_trans (h.b.lt x hx) (by decide)) fun hx=>List.mem_singleton.mp hx▸Nat.lt_of_lt_of_le h.lt hn
theorem wA {n:Nat} {w:Row} (h:cF n w):(w.2.1++w.2.2++[w.1]).length=11:=by rw [List.length_append,List.length_append,h.a.len,h.b.len];rfl
theorem jd {n:Nat} {w:Row} (h:cF n w) (hn:n≤8):small (rowV w)=true:=let ⟨h0,h1⟩:=iE h hn;dm (k:=36) (Int.le_of_lt h0) h1 (by decide)
theorem mm {os:List Int} (h:os.length≤1048576):sliD (dZ os) .none (.int (-1)) .none=some (dZ os.dropLast):=(lE (by rw [List.length_map];exact h)).trans (congrArg (some ∘ D.list) (List.map_dropLast).symm)
theorem nr {os:List Int} (h:os.length≤600):readSpec [dZ os]=some (dZ (rd (os.length+1) os)):=ad (a:=dZ os) rfl (ad (a:=os.map .int) rfl (ad (a:=os) gy (aq (decide_eq_true h) rfl)))
section
variable {G:af} {F:FEnv} {σ:MEnv} {l:List (Nat×D)}
theorem pJ {α:Type} {b:Bool} {elt it it2:T} {k:IK} {i j m:Nat} {l:List α} {f g e:α→D} {y:α→D} (he:enumOk false k=true) (hf:feedD k (ev G F σ true it) (ev G F σ true it2)=some (l.map fun a=> .tup [f a,g a,e a])) (hi:i<σ.length) (hj:j<σ.length) (hm:m<σ.length) (hij:i≠j) (him:i≠m) (hjm:j≠m)
  (hy:∀ a∈l,∀ σ',getE σ' i=o (f a)→getE σ' j=o (g a)→getE σ' m=o (e a)→ev G F σ' false elt=some (y a)):ev G F σ b (.comp elt [i,j,m] false k it it2 (.cst (.bool true)) [i,j,m])=some (.list (l.map y)) :=
 ky (τ:=fun a=>setE (setE (setE (clearE (clearE (clearE σ [i]) [j]) [m]) i (f a) false) j (g a) false) m (e a) false) he hf (fun a _=>rfl) fun a ha=>hy a ha _
  ((bU (Ne.symm him)).trans ((bU (Ne.symm hij)).trans (cx (by rw [az,az,az];exact hi)))) ((bU (Ne.symm hjm)).trans (cx (by rw [setE_len,az,az,az];exact hj))) (cx (by rw [setE_len,setE_len,az,az,az];exact hm))
variable (hD2:∀ ds,F "_digits2int" ds=d2iSpec ds)
include hD2
theorem uV {n:Nat} {l:List Nat} (h:∀ x∈l,x<2 ^ n) (hn:n≤17) (hl:l.length≤11) (hs:small (und n (iN l))=true):F "_digits2int" [dn l,dI n]=some (.int (und n (iN l))):=by
 rw [hD2,oJ]
 exact lN (fun d hd=>(uD h d hd).1) (Nat.le_trans hn (by decide)) (by rw [j8];exact Nat.le_trans hl (by decide)) hs (by rw [j8];exact Nat.le_trans (Nat.mul_le_mul hl hn) (by decide))
theorem wv {b:Bool} {n:Nat} {rows:List Row} {it:T} (hok:∀ x∈rows,cF n x) (hn:n≤8) (H:Has σ l) (hz:rows.length≤1000) (hit:ev G F σ true it=some (rowsD rows)) :
  ev G F σ b (.comp (.call "_digits2int" (.cons (.bin .Add (.bin .Add (.var 19) (.var 20)) (.list (.cons (.var 41) .nil))) (.cons (.cst (.int 3)) .nil))) [41,19,20] false .plain it .nil (.cst (.bool true)) [41,19,20])=some (dZ (rows.map rowV)) :=
 (pJ (l:=rows) (f:=fun w:Row=>dI w.1) (g:=fun w=>dn w.2.1) (e:=fun w=>dn w.2.2) (y:=fun w=> .int (rowV w)) rfl (bK hit (bu (by rw [List.length_map];exact Nat.le_trans hz (by decide)))) (by rw [H.len];decide) (by rw [H.len];decide) (by rw [H.len];decide) (by decide) (by decide) (by decide) fun w hw σ' h1 h2 h3 =>
  have q:=hok w hw
  have z:∀ {l:List Nat},pm l→l.length≤1048576:=fun h=>bY (Nat.le_of_eq h.len)
  aj (aR (ag (ag (ab h2) (ab h3) (eT (z q.a) (z q.b))) (bE (aC (ab h1))) (eT (xs:=w.2.1++w.2.2) (ys:=[w.1]) (by rw [List.length_append,q.a.len,q.b.len];decide) dU)) ai) (uV hD2 (vg q hn) (by decide) (Nat.le_of_eq (wA q)) (jd q hn))).trans (congrArg (some ∘ D.list) (List.map_map (g:=D.int) (f:=rowV)).symm)
variable {dr wd rg:D} {cs pts:List Nat} {d1 d4 d5:Nat} {t:Tr} {rows:List Row} {n0:Int} (hOc:∀ vs:List Int,(∀ v∈vs,0<v∧v<64 ^ 23)→vs.length=17→F "_law_octets" [dZ vs]=some (dZ (tapeN [] vs))) (hRd:∀ ds,F "_law_read" ds=readSpec ds)
omit hD2 in
include hOc hRd in
theorem vU {vs:List Int} (hv:∀ v∈vs,0<v∧v<64 ^ 23) (hl:vs.length=17):∃ os:List Int,os.length≤391∧F "_law_octets" [dZ vs]=some (dZ os)∧F "_law_read" [dZ os]=some (dZ vs)∧F "_law_read" [dZ os.dropLast]=some (dZ vs.dropLast):=by
 have T:Tape (tapeN [] vs) vs:=km vs [] [] .nil fun v h=>Int.le_of_lt (hv v h).1
 have hz:(tapeN [] vs).length≤391:=i6 (M:=22) vs [] (fun v h=>⟨Int.le_of_lt (hv v h).1,(hv v h).2⟩) (by rw [hl];decide)
 have hd:(tapeN [] vs).dropLast.length≤600:=by rw [List.length_dropLast];exact Nat.le_trans (Nat.sub_le _ _) (Nat.le_trans hz (by decide))
 refine ⟨_,hz,hOc vs hv hl,?_,?_⟩
 ·rw [hRd,nr (Nat.le_trans hz (by decide)),T.rd (Nat.le_succ_of_le T.len)]
 ·rw [hRd,nr hd,T.rd_cut (by rw [List.length_dropLast];exact Nat.le_trans T.len (Nat.le_add_of_sub_le (Nat.le_refl _)))]
include hOc hRd
theorem qk (i1:idxD dr (.int 1)=some (dI d1)) (i4:idxD dr (.int 4)=some (dI d4)) (i5:idxD dr (.int 5)=some (dI d5)) (hd4:d4≤60000001013)
  (hPts:F "_law_points" [.str (mk cs),dI (d1 / 16),dI (d5 / 2)]=some (dn pts)) (hSt:F "_law_steps" [t.toD,rg]=some (rowsD rows)) (P:Pts pts) (hok:∀ x∈rows,cF 8 x) (hc:rows.length=16)
  (H:Has σ [(2,dr),(5,.str (mk cs)),(7,wd),(10,t.toD),(12,rg),(17,.int ((d4:Int) * sgN d5))])
  (k:∀ {σ':MEnv},Has σ' [(2,dr),(5,.str (mk cs)),(7,wd),(10,t.toD),(12,rg),(18,dn pts),(23,dZ (writtenN pts rows))]→Tells (ex G F σ' s3t18)):Tells (ex G F σ s3t13):=by
 have hl:(writtenN pts rows).length=17:=congrArg (· + 1) ((List.length_map _).trans hc)
 have hv:∀ v∈writtenN pts rows,0<v∧v<64 ^ 23:=fun v hv=>(List.mem_cons.mp hv).elim (fun e=>e▸wR P) fun hv=>by
  obtain ⟨w,hw,rfl⟩:=List.mem_map.mp hv
  obtain ⟨h0,h1⟩:=iE (hok w hw) (Nat.le_refl 8)
  exact ⟨h0,Int.lt_of_lt_of_le h1 (by decide)⟩
 obtain ⟨os,hz,f1,f2,f3⟩:=vU hOc hRd hv hl
 have hz':os.length≤1048576:=Nat.le_trans hz (by decide)
 have hl':(writtenN pts rows).length≤1048576:=by rw [hl];decide
 exact aI H (by decide) (aj (dY (ab (H.ge rfl)) (cH 16 (cZ H rfl i1) (by decide) (by decide)) (cH 2 (cZ H rfl i5) (by decide) (by decide))) hPts) fun H =>
  aI H (by decide) (ag (x:=dZ [textV pts]) (y:=dZ (rows.map rowV)) (bE (aC (aj (aR (ab (H.ge rfl)) ai) (uV hD2 (n:=17) P.lt (by decide) (Nat.le_trans P.len (by decide)) (eL P))))) (wv hD2 hok (Nat.le_refl 8) H (by rw [hc];decide) (aj (aR (ab (H.ge rfl)) (ab (H.ge rfl))) hSt)) (cC (xs:=[textV pts]) (ys:=rows.map rowV) dU (by rw [List.length_map,hc];decide))) fun H =>
  aI H (by decide) (aj (aC (ab (H.ge rfl))) f1) fun H=>aI H (by decide) (aj (aC (ab (H.ge rfl))) f2) fun H =>
  oe (x:= .bool false) (yf (r:=false) (s:=false) (an (ab (H.ge rfl)) (uJ i4 i5 hd4 H rfl) (yH _)) fun _=>yf (r:=false) (s:=false) (an (x:=dZ (writtenN pts rows)) (y:=dZ (writtenN pts rows)) (ab (H.ge rfl)) (ab (H.ge rfl)) (mF _)) fun _ =>
   an (x:=dZ (writtenN pts rows).dropLast) (y:=dZ (writtenN pts rows).dropLast) (aj (aC (bz (x:=dZ os) (u':= .int (-1)) (ab (H.ge rfl)) aP rfl aP (mm hz'))) f3) (bz (x:=dZ (writtenN pts rows)) (u':= .int (-1)) (ab (H.ge rfl)) aP rfl aP (mm hl')) (mF _)) rfl
  (k (H.sub ⟨rfl,rfl,rfl,rfl,rfl,rfl,rfl,trivial⟩))
end
end Mine
set_option genSizeOf false
set_option genInjectivity false
namespace Mine
theorem xf (b:Bool):(b==true)=b:=by
 cases b with
 |true=>rfl
 |false=>rfl
theorem sO (b:Bool):(b==false) = !b:=by
 cases b with
 |true=>rfl
 |false=>rfl
theorem iw (b:Bool):cmpD .Is (.bool b) (.bool true)=some b:=congrArg some (xf b)
theorem kE (b:Bool):cmpD .Is (.bool b) (.bool false)=some (!b):=congrArg some (sO b)
theorem qV (b:Bool):cmpD .IsNot (.bool b) (.bool true)=some (!b):=congrArg (Option.map (!·)) (iw b)
theorem oM (b:Bool):cmpD .IsNot (.bool b) (.bool false)=some (!!b):=congrArg (Option.map (!·)) (kE b)
theorem lK {a b m:Nat} (ha:isLt a) (hb:isLt b):(textL a b m).length=4∧∀ c∈textL a b m,isLt c:=by
 refine ⟨(List.length_map _).trans List.length_range,fun c hc=> ?_⟩
 obtain ⟨k,_,rfl⟩:=List.mem_map.mp hc
 cases bitN m k with
 |true=>exact hb
 |false=>exact ha
noncomputable def hsN (a b d1 d2:Nat):List Bool:=(List.range 4).map fun t=>emL (menuL a b (qN d2 t)) (textL a b d1)
theorem nh {a b d1 d2:Nat}:(hsN a b d1 d2).length=4:=(List.length_map _).trans List.length_range
theorem sF {a b d1 d2:Nat} (ha:isLt a) (hb:isLt b) (hab:a≠b):hsN a b d1 d2=(List.range 4).map fun t=>fitsN (menuL a b (qN d2 t)) (textL a b d1) :=
 List.map_congr_left fun t _=>wp (Nat.mod_lt _ (by decide)) (u8 hab (Nat.lt_trans ha.lt (by decide)) (Nat.lt_trans hb.lt (by decide)))
noncomputable abbrev chS (p:Nat):D:= .str ⟨#[p]⟩
noncomputable def Matcher (F:FEnv) (f:Str) (g:List (List Nat)→List Nat→Bool):Prop:=∀ {ps:List (List Nat)} {t:List Nat},ps≠[]→(∀ p∈ps,46∉p)→(∀ p∈ps,p.length≤1000)→ps.length≤100→t.length≤1000→F f [.str (mk (joinL ps)),.str (mk t)]=some (.bool (g ps t))
section
variable {G:af} {F:FEnv} {σ:MEnv} {l:List (Nat×D)} {b:Bool}
theorem uG {a c:T} {x:D} (h1:ev G F σ b a=some (.bool false)) (h2:ev G F σ b c=some x):ev G F σ b (.bop .Or a c)=some x:=ad h1 h2
theorem en {α:Type} {i:Nat} {elt it:T} {inj:α→D} {ps:List α} {g:α→Bool} (hf:ev G F σ true it=some (lst inj ps)) (hz:ps.length≤1000) (hi:i<σ.length) (hy:∀ a∈ps,∀ {σ':MEnv},getE σ' i=o (inj a)→(∀ j,j≠i→getE σ' j=getE σ j)→ev G F σ' false elt=some (.bool (g a))) :
  ev G F σ b (.comp elt [i] true .plain it .nil (.cst (.bool true)) [i])=some (hasD (ps.map g)) :=
 (aZ (l:=ps) (inj:=inj) rfl (bK hf (bu (by rw [List.length_map];exact Nat.le_trans hz (by decide)))) hi fun a ha σ' h1 h2 _=>hy a ha h1 h2).trans (congrArg (some ∘ D.list) (List.map_map (g:=D.bool) (f:=g)).symm)
theorem kY {f:Str} {g:List (List Nat)→List Nat→Bool} (hF:Matcher F f g) {a c d2 j:Nat} {t:List Nat} (ha:97≤a) (hc:97≤c) (ht:t.length≤1000) (H:Has σ l) (h7:l.lookup 7=some (lst (wantD a c d2) (List.range 4))) (hj:l.lookup j=some (.str (mk t))) (hn:j≠43) :
  ev G F σ b (.comp (.call f (.cons (.var 43) (.cons (.var j) .nil))) [43] true .plain (.var 7) .nil (.cst (.bool true)) [43])=some (hasD ((List.range 4).map fun s=>g (menuL a c (qN d2 s)) t)) :=
 en (ab (H.ge h7)) (by rw [List.length_range];decide) (by rw [H.len];decide) fun s _ {σ'} h1 h2 =>
  let ⟨m1,m2,m3,m4⟩:=vk (a:=a) (b:=c) (q:=qN d2 s) (Nat.mod_lt _ (by decide)) ha hc
  aj (aR (ab h1) (ab (H.inn h2 hn hj))) (hF m1 m2 m3 m4 ht)
variable {b1L:List Int} {b3L:List (Int×Str)} (hB1:∀ p:Nat,F "in_table_b1" [chS p]=some (.bool (b1L.contains (p:Int)))) (hB3:∀ p:Nat,F "map_table_b3" [chS p]=some (.str (b3v b3L p)))
  (hU:F "_law_unseen" []=some (.list (unseen.map .int))) (hI:∀ ds,F "_int2digits" ds=i2dSpec ds) {pts:List Nat} (hu:∀ x∈pts,b1L.contains (x:Int)=uN.contains x∧x<131072) (hz:pts.length≤1000)
include hI in
theorem uh {ws:List Int} (P:Pts pts) (H:Has σ l) (h23:l.lookup 23=some (dZ (textV pts :: ws))):ev G F σ b (.comp (.blt .chr (.cons (.var 42) .nil)) [42] true .plain (.call "_int2digits" (.cons (.idx (.var 23) (.cst (.int 0))) (.cons (.cst (.int 17)) .nil))) .nil (.cst (.bool true)) [42])=some (lst chS pts) :=
 aZ (l:=pts) (inj:=dI) rfl (bK (d:=dn pts) (aj (aR (ay (x:=dZ (textV pts :: ws)) (y:= .int 0) (d:= .int (textV pts)) (ab (H.ge h23)) ai rfl) ai) ((hI _).trans ((gA (n:=17) (Int.le_of_lt (gH P)) (eL P) (by decide) (by decide)).trans (by rw [pV P,oJ];rfl)))) (bu (by rw [List.length_map];exact Nat.le_trans P.len (by decide)))) (by rw [H.len];decide) fun p hp σ' h1 _ _ =>
  aU (aC (ab h1)) (nN (Nat.le_trans (Nat.le_of_lt (P.lt p hp)) (by decide)))
include hB1 hu hz in
theorem zR (H:Has σ l) (h24:l.lookup 24=some (lst chS pts)):ev G F σ b (.comp (.cmp .Is (.call "in_table_b1" (.cons (.var 38) .nil)) (.cst (.bool true))) [38] true .plain (.var 24) .nil (.cst (.bool true)) [38])=some (hasD (pts.map fun p=>uN.contains p)) :=
 en (ab (H.ge h24)) hz (by rw [H.len];decide) fun p hp {σ'} h1 _=>an (aj (aC (ab h1)) (hB1 p)) (gP rfl) ((iw _).trans (congrArg some (hu p hp).1))
include hU hz in
theorem zs (H:Has σ l) (h18:l.lookup 18=some (dn pts)):ev G F σ b (.comp (.cmp .In (.var 42) (.call "_law_unseen" .nil)) [42] true .plain (.var 18) .nil (.cst (.bool true)) [42])=some (hasD (pts.map fun p=>uN.contains p)) :=
 en (inj:=dI) (ab (H.ge h18)) hz (by rw [H.len];decide) fun p _ {σ'} h1 _=>an (ab h1) (aj oD hU) (kT p uN)
include hB1 hB3 hz in
theorem sX {cs:List Nat} (hm:(pts.filter fun x:Nat=> !b1L.contains (x:Int)).map (b3v b3L)=cs.map fun c=>⟨#[c]⟩) (h4:cs.length=4) (H:Has σ l) (h24:l.lookup 24=some (lst chS pts)) :
  ev G F σ b (.meth .join (.cst (.str "")) (.cons (.comp (.call "map_table_b3" (.cons (.var 38) .nil)) [38] true .plain (.var 24) .nil (.cmp .Is (.call "in_table_b1" (.cons (.var 38) .nil)) (.cst (.bool false))) [38]) .nil))=some (.str (mk cs)):=by
 have e:=congrArg (List.map D.str) hm
 rw [List.map_map,List.map_map] at e
 exact bi dB (aC ((eI (l:=pts) (inj:=chS) (c:=fun p=> !b1L.contains (p:Int)) (y:=fun p=> .str (b3v b3L p)) rfl (bK (ab (H.ge h24)) (bu (by rw [List.length_map];exact Nat.le_trans hz (by decide)))) (by rw [H.len];decide) fun p _ σ' h1 _ _ =>
  ⟨an (aj (aC (ab h1)) (hB1 p)) (gP rfl) (kE _),fun _=>aj (aC (ab h1)) (hB3 p)⟩).trans (congrArg (some ∘ D.list) e))) (uQ h4)
theorem Aa {hs:List Bool} (hl:hs.length≤1000) (H:Has σ l) (h26:l.lookup 26=some (hasD hs)):ev G F σ b (.comp (.cmp .Is (.var 38) (.cst (.bool true))) [38] true .plain (.var 26) .nil (.cst (.bool true)) [38])=some (hasD hs) :=
 (en (g:=fun b=>b) (ab (H.ge h26)) hl (by rw [H.len];decide) fun p _ {σ'} h1 _=>an (ab h1) (gP rfl) (iw p)).trans (by rw [List.map_id'])
theorem yK {hs:List Bool} (hl:hs.length≤1000) (H:Has σ l) (h26:l.lookup 26=some (hasD hs)):ev G F σ b (.comp (.var 38) [38] true .plain (.var 26) .nil (.bop .And (.cmp .IsNot (.var 38) (.cst (.bool true))) (.cmp .IsNot (.var 38) (.cst (.bool false)))) [38])=some (.list []) :=
 (eI (l:=hs) (inj:= .bool) (c:=fun b=> !b && !!b) (y:= .bool) rfl (bK (ab (H.ge h26)) (bu (by rw [List.length_map];exact Nat.le_trans hl (by decide)))) (by rw [H.len];decide) fun p _ σ' h1 _ _=>⟨jL (an (ab h1) (gP rfl) (qV p)) fun _=>an (ab h1) (gP rfl) (oM p),fun _=>ab h1⟩).trans (by
  rw [List.filter_eq_nil_iff.mpr fun b _=>by
   cases b with
   |true=>exact Bool.false_ne_true
   |false=>exact Bool.false_ne_true];rfl)
variable (hEm:Matcher F "_ellipsis_match" emL) (hFi:Matcher F "_law_fits" fitsN)
include hB1 hB3 hU hI hEm hFi
theorem n5 (P:nV b1L b3L) {dr tr rg:D} {a c d1 d2 pick noise:Nat} {pts:List Nat} {ws:List Int} (ha:isLt a) (hc:isLt c) (hac:a≠c) (hpts:pts=ptsN pick noise 0 (textL a c d1)) (Q:Pts pts)
  (H:Has σ [(2,dr),(5,.str (mk (textL a c d1))),(7,lst (wantD a c d2) (List.range 4)),(10,tr),(12,rg),(18,dn pts),(23,dZ (textV pts :: ws))])
  (k:∀ {σ':MEnv},Has σ' [(2,dr),(10,tr),(12,rg),(23,dZ (textV pts :: ws)),(26,hasD (hsN a c d1 d2))]→Tells (ex G F σ' s3t23)):Tells (ex G F σ s3t18):=by
 obtain ⟨cl,cL⟩:=lK (m:=d1) ha hc
 have hu:∀ x∈pts,b1L.contains (x:Int)=uN.contains x∧x<131072:=hpts▸ou P _ 0 cL
 have hme:(pts.filter fun x:Nat=> !b1L.contains (x:Int)).map (b3v b3L)=(textL a c d1).map fun c=>⟨#[c]⟩:=hpts▸ju P _ 0 cL
 have hz:pts.length≤1000:=Nat.le_trans Q.len (by decide)
 have ht:(textL a c d1).length≤1000:=by rw [cl];decide
 have hl:(hsN a c d1 d2).length≤1000:=by rw [nh];decide
 exact aI H (by decide) (uh hI Q H rfl) fun H=>oe (an (zR hB1 hu hz H rfl) (zs hU hz H rfl) (jX _)) rfl (aI H (by decide) (sX hB1 hB3 hz hme cl H rfl) fun H =>
  aI H (by decide) (kY (d2:=d2) hEm ha.le hc.le ht H rfl (j:=25) rfl (by decide)) fun H=>oe (x:= .list []) (uG (an (x:= .str (mk (textL a c d1))) (y:= .str (mk (textL a c d1))) (ab (H.ge rfl)) (ab (H.ge rfl)) (fU (o6 _))) (uG (an (Aa (hs:=hsN a c d1 d2) hl H rfl)
   ((kY (d2:=d2) hFi ha.le hc.le ht H rfl (j:=5) rfl (by decide)).trans (by rw [← sF ha hc hac])) (jX _)) (yK (hs:=hsN a c d1 d2) hl H rfl))) rfl (k (H.sub ⟨rfl,rfl,rfl,rfl,rfl,trivial⟩)))
end
end Mine
set_option genSizeOf false
set_option genInjectivity false
namespace Mine
noncomputable def wBody:S:=(.seq (.unp [29,19] (.call "int_divmod" (.cons (.var 28) (.cons (.bin .Pow (.cst (.int 8)) (.cst (.int 5))) .nil)))) <|
  (.seq (.unp [30,20] (.call "int_divmod" (.cons (.var 29) (.cons (.bin .Pow (.cst (.int 8)) (.cst (.int 5))) .nil)))) <|
  (.seq (.asg 31 false (.bin .Add (.call "_int2digits" (.cons (.ite (.idx (.var 26) (.var 30)) (.var 19) (.var 20)) (.cons (.cst (.int 3)) .nil))) (.list (.cons (.cst (.int 0)) .nil)))) <|
  (.seq (.asg 27 false (.comp (.idx (.var 31) (.var 39)) [39] true .plain (.var 27) .nil (.cst (.bool true)) [39])) <|
  .skip))))
theorem fy {l:List Nat} (h:pm l):small (numN l)=true:=let ⟨⟨h0,h1⟩,_⟩:=cb h;dm (k:=15) (Int.le_of_lt h0) h1 (by decide)
theorem zk {f:List Nat} (hf:pm f):appN f id5=f:=by
 obtain ⟨a,b,c,d,e,rfl⟩:=yn hf.len
 rfl
theorem w0 {l:List Nat} (h:pm l) {k:Nat} (hk:k<5):idxD (dZ (i2d (numN l) 3++[0])) (dI k)=some (dI (l.getD k 0)):=by
 obtain ⟨_,_,_,z⟩:=dT (n:=3) (Int.le_of_lt (cb h).1.1) (fy h) (by decide) (by decide)
 exact ei (by rw [List.getElem?_map,(cb h).2 k hk];rfl) (by rw [List.length_map,List.length_append];exact Nat.le_trans (Nat.add_le_add_right z 1) (by decide))
section
variable {G:af} {F:FEnv} {σ:MEnv} (hDM:∀ a b:Int,small a=true→b≠0→small b=true→F "int_divmod" [.int a,.int b]=some (.tup [.int (a.fdiv b),.int (a.fmod b)])) (hI:∀ ds,F "_int2digits" ds=i2dSpec ds) {dr tr rg to:D} {hs:List Bool} (hl:hs.length≤8)
noncomputable def walkL (dr tr rg to:D) (hs:List Bool) (s:List Nat):List (Nat×D):=[(2,dr),(10,tr),(12,rg),(23,to),(26,hasD hs),(27,dn s)]
theorem uZ {b:Bool}:ev G F σ b (.bin .Pow (.cst (.int 8)) (.cst (.int 5)))=some (.int 32768):=by kernel_rfl!
include hDM hI hl
theorem tF {s:List Nat} {w:Row} (hw:cF hs.length w) (hs5:pm s) (H:Has σ (walkL dr tr rg to hs s)) :
  ∃ σ',bodyT G F [28] true wBody σ (.int (rowV w))=some (σ',.next)∧Has σ' (walkL dr tr rg to hs (appN (cond (hs.getD w.1 false) w.2.1 w.2.2) s)):=by
 obtain ⟨e1,e2,e3⟩:=qd hw
 obtain ⟨r0,r1⟩:=iE hw hl
 have d1:=hDM _ 32768 (jd hw hl) (by decide) (bg (n:=32768) (by decide))
 have d2:=hDM ((rowV w).fdiv 32768) 32768 (dm (k:=21) (fJ (c:=2 ^ 21) (by decide) (Int.le_of_lt r0) r1).1 (fJ (by decide) (Int.le_of_lt r0) r1).2 (by decide)) (by decide) (bg (n:=32768) (by decide))
 rw [e1] at d1
 rw [e2,e3] at d2
 have hf:=fV (b:=hs.getD w.1 false) hw.a hw.b
 have H0:=H.set (i:=28) (d:= .int (rowV w)) (by decide)
 have H1:=(H0.set (i:=29) (d:= .int ((rowV w).fdiv 32768)) (by decide)).set (i:=19) (d:= .int (numN w.2.1)) (by decide)
 have H2:=(H1.set (i:=30) (d:=dI w.1) (by decide)).set (i:=20) (d:= .int (numN w.2.2)) (by decide)
 have H3:=H2.set (i:=31) (d:=dZ (i2d (numN (cond (hs.getD w.1 false) w.2.1 w.2.2)) 3++[0])) (by decide)
 have H4:=H3.set (i:=27) (d:=dn (appN (cond (hs.getD w.1 false) w.2.1 w.2.2) s)) (by decide)
 obtain ⟨_,_,_,z⟩:=dT (n:=3) (Int.le_of_lt (cb hf).1.1) (fy hf) (by decide) (by decide)
 exact ⟨_,fh (aj (aR (ab (H0.ge rfl)) uZ) d1) (fh (aj (aR (ab (H1.ge rfl)) uZ) d2)
  (aG (ag (aj (aR (ch (fun l=>D.int (numN l)) (ay (x:=hasD hs) (y:=dI w.1) (ab (H2.ge rfl)) (ab (H2.ge rfl)) (kK (f:=D.bool) false hw.lt (Nat.le_trans hl (by decide)))) rfl (fun _=>ab (H2.ge rfl)) fun _=>ab (H2.ge rfl)) ai) ((hI _).trans (gA (n:=3) (Int.le_of_lt (cb hf).1.1) (fy hf) (by decide) (by decide)))) (bE (aC ai)) (cC (f:=D.int) (ys:=[0]) (Nat.le_trans z (by decide)) dU))
  (aG ((aZ (l:=s) (inj:=dI) rfl (bK (d:=dn s) (ab (H3.ge rfl)) (bu (by rw [List.length_map,hs5.len];decide))) (by rw [H3.len];decide) fun k hk σ' h1 h2 h3=>ay (ab (H3.inn (j:=31) h2 (by decide) rfl)) (ab h1) (w0 hf (hs5.lt k hk))).trans (congrArg (some ∘ D.list) (List.map_map (g:=dI) (f:=fun k=>(cond (hs.getD w.1 false) w.2.1 w.2.2).getD k 0)).symm)) rfl))),H4.sub ⟨rfl,rfl,rfl,rfl,rfl,rfl,trivial⟩⟩
theorem ja:∀ (rows:List Row) {s:List Nat} {σ:MEnv},(∀ w∈rows,cF hs.length w)→pm s→Has σ (walkL dr tr rg to hs s) →
  ∃ σ',loopL (bodyT G F [28] true wBody) σ (rows.map fun w=> .int (rowV w))=some (σ',.next)∧Has σ' (walkL dr tr rg to hs (walkN (fun i=>hs.getD i false) rows s))
 | [],_,_,_,_,H=>⟨_,rfl,H⟩
 |w :: rows,_,_,hw,hs5,H =>
  let hw0:=hw w List.mem_cons_self
  let ⟨_,T1,H1⟩:=tF hDM hI hl hw0 hs5 H
  let ⟨_,T2,H2⟩:=ja rows (fun x hx=>hw x (List.mem_cons_of_mem _ hx)) (c9 (fV hw0.a hw0.b) hs5) H1
  ⟨_,aW T1 T2,H2⟩
theorem wa {u v:List Nat}:∀ b:Bool,cond b u v=u∨cond b u v=v
 |true=> .inl rfl
 |false=> .inr rfl
theorem pj {t:Tr} {r:List Nat} {tv:Int} {d:Nat} (hr:pm r) (ht:t.ok hs.length d=true) (hc:(stepsN t r).length=16) (hH:F "_law_holds" [t.toD,hasD hs]=some (.bool (t.tells fun i=>hs.getD i false))) (hT:F "_law_turn" [dn r]=some (dn (turnN r)))
  (H:Has σ [(2,dr),(10,t.toD),(12,dn r),(23,dZ (tv :: (stepsN t r).map rowV)),(26,hasD hs)])
  (k:∀ {σ':MEnv} {u:List Nat},(u=turnN r∨u=id5)→Has σ' [(2,dr),(27,dn u),(32,dn u)]→Tells (ex G F σ' s3t26)):Tells (ex G F σ s3t23) :=
 aI (d:=dn id5) H (by decide) rfl fun {σ1} H1=>by
  obtain ⟨σ2,T2,H2⟩:=ja (G:=G) hDM hI hl (stepsN t r) (aH d t ht hr).ok jG (H1.sub (l':=walkL dr t.toD (dn r) (dZ (tv :: (stepsN t r).map rowV)) hs id5) ⟨rfl,rfl,rfl,rfl,rfl,rfl,trivial⟩)
  have e:walkN (fun i=>hs.getD i false) (stepsN t r) id5=cond (t.tells fun i=>hs.getD i false) (turnN r) id5:=(bF d t ht hr jG).trans (by rw [zk (aF hr).1])
  rw [e] at H2
  have z:((tv :: (stepsN t r).map rowV).map D.int).length≤1048576:=by rw [List.length_map,List.length_cons,List.length_map,hc];decide
  exact uP rfl (db (bz (x:=dZ (tv :: (stepsN t r).map rowV)) (ab (H1.ge rfl)) ai aP aP (gc (k:=1) z (by decide))) (bu (Nat.le_of_succ_le z))) ((congrArg (loopL (bodyT G F [28] true wBody) σ1) (List.map_map (g:=D.int) (f:=rowV))).trans T2)
   (aI H2 (by decide) (ch dn (aj (aR (ab (H2.ge rfl)) (ab (H2.ge rfl))) hH) rfl (fun _=>aj (aC (ab (H2.ge rfl))) hT) fun _=>rfl) fun H3=>k (wa hDM hI hl _) (H3.sub ⟨rfl,rfl,rfl,trivial⟩))
end
end Mine
set_option genSizeOf false
set_option genInjectivity false
namespace Mine
noncomputable def movN (u:List Nat):List Nat:=(List.range 5).filter fun k=> !decide (u.getD k 0=k)
theorem vK:pmL.all (fun r=>movN (turnN r)==List.range 5)=true:=by decide +kernel
noncomputable def pfB (h:Nat):Bool:=decide ((pfl 32 0 h).2.1.natAbs<18446744073709551616)&&sizeOk (2 * (pf h).length+((pf h).map (·.length)).sum)
theorem zc:∀ b<28,((List.range 5).map fun k=>2 ^ (b+k)).sum=31 * 2 ^ b∧pfB (31 * 2 ^ b)=true:=by decide +kernel
theorem Ai:pfB 0=true:=by decide +kernel
theorem wO:∀ {j:Nat},j<4→idxD (.str "1248") (dI j)=some (.str (digS j))
 |0,_=>rfl
 |1,_=>rfl
 |2,_=>rfl
 |3,_=>rfl
 |n+4,h=>absurd h (Nat.not_lt.mpr (Nat.le_add_left 4 n))
theorem xi:∀ n<8,(rep "0" n).length≤1048576:=by decide
theorem ni:∀ j<4,(("0x":Str)++digS j).length≤1048576∧(digS j).length≤1048576:=by decide
theorem ve:methD .split (.str flagsS) [.str " "]=some (.list (wordsL.map .str)):=(iA (by decide +kernel) (by decide)).trans (by rw [lR])
theorem qC {x y:Str} (h1:x.length≤1048576) (h2:y.length≤1048576):binD .Add (.str x) (.str y)=some (.str (x++y)):=aq (c:=(sizeOk x.length&&sizeOk y.length)=true) (by rw [am h1,am h2];rfl) rfl
theorem zG {n:Nat} (h:n<8):binD .Mult (.str "0") (dI n)=some (.str (rep "0" n)):=by
 show (if (sizeOk (1 * n)&&idxOk (n:Int))=true then some (D.str (rep "0" n)) else none)=_
 rw [Nat.one_mul,am (Nat.le_trans (Nat.le_of_lt h) (by decide)),gR (Nat.le_trans (Nat.le_of_lt h) (by decide))];rfl
theorem z9 (a b:Nat):cmpD .NotEq (dI a) (dI b)=some (!decide (a=b)):=congrArg (Option.map (!·)) (nZ a b)
section
variable {G:af} {F:FEnv} {σ:MEnv}
theorem vH {k:Nat} (hk:k<32) (h34:getE σ 34=o (.str flagsS)) (h39:getE σ 39=o (dI k)) :
  ev G F σ false (.ite (.cmp .Lt (.var 39) (.cst (.int 10))) (.idx (.meth .split (.var 34) (.cons (.cst (.str " ")) .nil)) (.var 39)) (.bin .Add (.bin .Add (.cst (.str "0x")) (.idx (.cst (.str "1248")) (.bin .Mod (.var 39) (.cst (.int 4))))) (.bin .Mult (.cst (.str "0")) (.bin .FloorDiv (.var 39) (.cst (.int 4))))))=some (.str (wordN k)) :=
 ch D.str (ya (n:=10) (ab h39) ai) rfl (fun h=>ay (bi (ab h34) (aC dB) ve) (ab h39) (kK (f:=D.str) "" (de h:k<wordsL.length) (by decide))) fun _ =>
  have hm:=Nat.mod_lt k (show 0<4 by decide)
  have hd:k / 4<8:=Nat.div_lt_of_lt_mul hk
  ag (ag dB (ay dB (bA 4 (ab h39) (by decide)) (wO hm)) (qC (by decide) (ni _ hm).2)) (ag dB (cH 4 (ab h39) (by decide) (by decide)) (zG hd)) (qC (ni _ hm).1 (xi _ hd))
theorem ru {c:Bool} {i:Nat} {u:List Nat} {l:List (Nat×D)} {elt:T} {f:Nat→Nat} (hu:pm u) (H:Has σ l) (hi:l.lookup i=some (dn u)) (hn:i≠39) (hy:∀ k,k<5→∀ {σ':MEnv},getE σ' 39=o (dI k)→(∀ j,j≠39→getE σ' j=getE σ j)→ev G F σ' false elt=some (dI (f k))) :
  ev G F σ c (.comp elt [39] true .range1 (.cst (.int 5)) .nil (.cmp .NotEq (.idx (.var i) (.var 39)) (.var 39)) [39])=some (dn ((movN u).map f)) :=
 (eI (l:=List.range 5) (inj:=dI) (c:=fun k=> !decide (u.getD k 0=k)) (y:=fun k=>dI (f k)) rfl (cV (n:=5) ai (by decide)) (by rw [H.len];decide) fun k hk σ' h1 h2 _ =>
  ⟨an (ay (ab (H.inn h2 hn hi)) (ab h1) (yM hu (List.mem_range.mp hk))) (ab h1) (z9 _ _),fun _=>hy k (List.mem_range.mp hk) h1 h2⟩).trans (congrArg (some ∘ D.list) (List.map_map (g:=dI) (f:=f)).symm)
variable (hPf:∀ {h:Nat},(pfl 32 0 h).2.1.natAbs<18446744073709551616→sizeOk (2 * (pf h).length+((pf h).map (·.length)).sum)=true→F "pretty_flags" [dI h]=some (.str (Txt.join ", " (pf h))))
include hPf
theorem rC {b:Nat} {r u:List Nat} (hb:b<28) (hr:pm r) (hu:u=turnN r∨u=id5):∃ nm:Str,F "pretty_flags" [dI ((movN u).map fun k=>2 ^ (b+k)).sum]=some (.str nm) ∧
  ∀ {σ:MEnv},getE σ 36=o (lst D.str ((movN u).map fun k=>wordN (b+k)))→ev G F σ true (.ite (.var 36) (.meth .join (.cst (.str ", ")) (.cons (.var 36) .nil)) (.cst (.str "0x0")))=some (.str nm):=by
 rcases hu with rfl |rfl
 ·obtain ⟨h1,h2⟩:=zc b hb
  rw [eq_of_beq (ea vK hr),h1,← ji b hb]
  exact aa h2 fun h2 h3=>⟨_,hPf (de h2) h3,fun h=>eD (r:=true) (ab h) (by rw [ji b hb];rfl) (fun _=>bi dB (aC (ab h)) (qS h3)) fun e=>nomatch e⟩
 ·exact aa Ai fun h2 h3=>⟨_,hPf (h:=0) (de h2) h3,fun h=>eD (r:=false) (ab h) rfl (fun e=>nomatch e) fun _=>congrArg (some ∘ D.str) words_0.symm⟩
theorem n6 {dr:D} {d5:Nat} {r u:List Nat} (hr:pm r) (hu:u=turnN r∨u=id5) (i5:idxD dr (.int 5)=some (dI d5)) (H:Has σ [(2,dr),(27,dn u),(32,dn u)]):Tells (ex G F σ s3t26):=by
 have hup:pm u:=hu.elim (fun e=>e▸(aF hr).1) fun e=>e▸jG
 have hb:d5 / 32 % 28<28:=Nat.mod_lt _ (by decide)
 obtain ⟨nm,hnm,hj⟩:=rC (G:=G) hPf hb hr hu
 have hm:∀ k∈movN u,k<5:=fun k hk=>List.mem_range.mp (List.mem_filter.mp hk).1
 have hl:(movN u).length≤5:=List.length_filter_le _ _
 exact aI H (by decide) (bA 28 (cH 32 (cZ H rfl i5) (by decide) (by decide)) (by decide)) fun H=>aI (d:= .str flagsS) H (by decide) rfl fun H =>
  aI H (by decide) (ru (f:=fun k=>d5 / 32 % 28+k) hup H (i:=32) rfl (by decide) fun k hk {σ'} h1 h2=>bB (ab (H.inn (j:=33) h2 (by decide) rfl)) (ab h1)) fun H =>
  aI (d:=lst D.str ((movN u).map fun k=>wordN (d5 / 32 % 28+k))) H (by decide) ((aZ (l:=(movN u).map fun k=>d5 / 32 % 28+k) (inj:=dI) (y:=fun k=> .str (wordN k)) rfl (bK (ab (H.ge rfl)) (bu (by rw [List.length_map,List.length_map];exact bY hl))) (by rw [H.len];decide) fun k hk σ' h1 h2 _=>by
   obtain ⟨j,hj,rfl⟩:=List.mem_map.mp hk
   exact vH (Nat.lt_succ_of_le (Nat.add_le_add (Nat.le_of_lt_succ hb) (Nat.le_of_lt_succ (hm j hj)))) (H.inn (j:=34) h2 (by decide) rfl) h1).trans (by unfold lst;rw [List.map_map,List.map_map];rfl)) fun H =>
  aI H (by decide) (aj (aC (aU (aC (ru (f:=fun k=>2 ^ (d5 / 32 % 28+k)) hup H (i:=27) rfl (by decide) fun k hk {σ'} h1 h2=>u6 (m:=2) ai (bB (m:=d5 / 32 % 28) (ab (H.inn (j:=33) h2 (by decide) rfl)) (ab h1)) (by decide) (Nat.le_trans (Nat.le_of_lt (Nat.add_lt_add hb hk)) (by decide)))) (uX (by rw [List.length_map];exact bY hl)))) hnm) fun H =>
  zD (jL (r:=true) (s:=true) (an (x:=dn u) (y:=dn u) (ab (H.ge rfl)) (ab (H.ge rfl)) (by rw [oJ];exact (kC _ _).trans (congrArg some (beq_self_eq_true _)))) fun _=>an (x:= .str nm) (y:= .str nm) (ab (H.ge rfl)) (hj (H.ge rfl)) (o6 nm))
end
end Mine
set_option genSizeOf false
set_option genInjectivity false
namespace Mine
section
variable {G:af} {fns:List Fn} {b1L:List Int} {b3L:List (Int×Str)}
theorem bh {k:Nat} {f:Str} {ds:List D} {r:Option D} (h:(f==nR)=false) (e:FF G fns spn2 sp2 k f ds=r):FL G fns k f ds=r:=by
 unfold FL;rw [h];exact e
theorem zQ {k:Nat} {ds:List D}:FL G fns k "_law_read" ds=readSpec ds:=rfl
variable (C:gm G fns b1L b3L) (P:nV b1L b3L)
include C P
theorem nS {ns:List Int} (hns:ns.length≤63):run G (FL G fns 300) 44 s3t0 [.list (ns.map .int)]=some (.bool true):=by
 have hDM:∀ a b:Int,small a=true→b≠0→small b=true→FL G fns 300 "int_divmod" [.int a,.int b]=some (.tup [.int (a.fdiv b),.int (a.fmod b)]):=fun a b h1 h2 h3=>bh rfl (zp C.com (by decide) h1 h2 h3)
 have hI:∀ ds,FL G fns 300 "_int2digits" ds=i2dSpec ds:=fun ds=>bh rfl (qj (k:=299) (by decide))
 have t:Tells (ex G (FL G fns 300) (o (dZ ns) :: List.replicate 43 none) s3t0) :=
  nM hns ⟨rfl,fun h=>eS h (fun e1 e2=>by rw [e1,← e2];rfl) fun _ h=>ah h⟩ fun {_ d0 d1 d2 d3 d4 d5} hd4 H =>
  rl (fun t=>bh rfl (jy C (k:=299) t)) (fun k l r=>bh rfl (wC C (k:=298) k l r)) rfl rfl rfl rfl H fun H =>
  qT hDM (d4:=d4) (d5:=d5) rfl rfl hd4 H fun {_ r} hr H=>by
   obtain ⟨cl,cL⟩:=lK (m:=d1) (s6 d0) (rL d0)
   have Q:Pts (ptsN (d1 / 16) (d5 / 2) 0 (textL (aN d0) (bN d0) d1)):=⟨fun x hx=>(ou P _ 0 cL x hx).2,Nat.le_trans (kH _ _ _ 0) (by rw [cl];decide),lz P _ 0 (fun q=>by rw [q] at cl;exact nomatch cl) cL⟩
   have hc:(stepsN (treeN d3) r).length=16:=(bW _ r).trans (sR d3)
   refine qk (fun ds=>bh rfl (qO (k:=299) (by decide))) (fun vs h1 h2=>bh rfl (pi C (k:=299) (M:=22) (by decide) h1 (by rw [h2];decide))) (fun ds=>zQ) (d1:=d1) (d5:=d5) rfl rfl rfl hd4 (bh rfl (qQ C (k:=298) (by rw [cl];decide) fun c hc=>(cL c hc).le)) (bh rfl (j7 C (k:=291) 8 (by decide) (fH (by decide) d3) hr)) Q (aH 8 _ (fH (by decide) d3) hr).ok hc H fun H=> ?_
   refine n5 (F:=FL G fns 300) (fun p=>bh rfl (zJ C.com (k:=299))) (fun p=>bh rfl (zu C.com (k:=299))) (bh rfl (jg C.com (k:=299))) hI (fun h1 h2 h3 h4 h5=>bh rfl (Ab C.com (k:=299) h1 h2 h3 h4 h5)) (fun h1 h2 h3 h4 h5=>bh rfl (ww C (k:=299) h1 h2 h3 h4 h5)) P (s6 d0) (rL d0) (zL d0) rfl Q H fun H=> ?_
   have hs:(hsN (aN d0) (bN d0) d1 d2).length=4:=nh
   refine pj hDM hI (hs:=hsN (aN d0) (bN d0) d1 d2) (by rw [hs];decide) hr (fH (by rw [hs];decide) d3) hc (bh rfl (jV C (by rw [hs];decide) (k:=292) 8 (treeN d3) (fH (by rw [hs];decide) d3))) (bh rfl (mq C (k:=299) hr)) H fun hu H=> ?_
   exact n6 (fun h1 h2=>bh rfl (a8 rfl C.com.f1 rfl (yt C.com.nm h1 h2))) (d5:=d5) hr hu rfl H
 obtain ⟨σ',h⟩:=t
 exact au _ rfl h
end
end Mine
set_option genSizeOf false
set_option genInjectivity false
namespace Mine
noncomputable abbrev p3:Program:=PySem.Challenge.pw_ta0109_03
noncomputable abbrev l3:OpenLaw:=PySem.Challenge.rw_ta0109_03
noncomputable def R3:Option TS:=runT p3.main.scope ⟨[],[],[],[],0⟩ p3.main.body
theorem mJ:R3.isSome=true:=by decide +kernel
noncomputable def T3:TS:=R3.get mJ
theorem zB:runT p3.main.scope ⟨[],[],[],[],0⟩ p3.main.body=some T3:=(Option.some_get mJ).symm
theorem sN:T3.names.all (fun x=>p3.boundNames.contains x)=true:=by decide +kernel
theorem vS:laidNames.all (fun x=> !T3.names.contains x)=true:=by decide +kernel
noncomputable def sigs3:List fE:=[
 ⟨"pretty_flags",["flags","names","i","flag"],s_pretty_flags⟩,
 ⟨"_div2n1n",["a","b","n","pad","half_n","mask","b1","b2","q1","r","q2"],s_div2n1n⟩,
 ⟨"_divmod_pos",["a","b","n","a_digits","r","q_digits","a_digit","q_digit","q"],s_divmod_pos⟩,
 ⟨"int_divmod",["a","b","q","r"],s_int_divmod⟩,
 ⟨"_ellipsis_match",["want","got","ws","startpos","endpos","w"],s_ellipsis_match⟩,
 ⟨"in_table_b1",["code"],s_in_table_b1⟩,
 ⟨"map_table_b3",["code","r"],s_map_table_b3⟩,
 ⟨"_law_unseen",[],s_law_unseen⟩,
 ⟨"_law_points",["letters","pick","noise","great","points","k","form","own"],s3_law_points⟩,
 ⟨"_law_octets",["numbers","octets","number","last","k"],s3_law_octets⟩,
 ⟨"_law_fits",["want","text","pieces","ends","piece","k"],s3_law_fits⟩,
 ⟨"_law_turn",["ring","on","k"],s3_law_turn⟩,
 ⟨"_law_steps",["tree","ring","steps","on","one","two","k"],s3_law_steps⟩,
 ⟨"_law_denied",["tree"],s3_law_denied⟩,
 ⟨"_law_join",["kind","left","right"],s3_law_join⟩,
 ⟨"_law_holds",["tree","has"],s3_law_holds⟩]
noncomputable def lsig3:fE:=⟨"law",(["script","numbers","draws","a","b","text","menu","wants","ones","halves","tree","number","ring","left","picks","size"]:List Str)++(["pick","back","points","yes","no","written","octets","told","signs","meant","has","spots","row","upper","asked","figures"]:List Str)++(["due","base","flags","moved","words","named","x","k","c","t","point","want"]:List Str),s3t0⟩
noncomputable def fnames3:List Str:=["pretty_flags","_div2n1n","_div3n2n","_int2digits","_digits2int","_divmod_pos","int_divmod","_ellipsis_match","in_table_b1","map_table_b3","_law_unseen","_law_points","_law_octets","_law_read","_law_fits","_law_turn","_law_steps","_law_denied","_law_join","_law_holds"]
noncomputable def c3:Cx:={tbl:=[],fns:=fnames3,consts:=["ELLIPSIS_MARKER","_DIV_LIMIT"],sets:=["b1_set"],dicts:=["b3_exceptions","COMPILER_FLAG_NAMES"]}
noncomputable def dI3:DefItem:=itemOf (p3.main.body.getD 8 default)
noncomputable def dD3:DefItem:=itemOf (p3.main.body.getD 9 default)
noncomputable def dP3:DefItem:=itemOf (p3.main.body.getD 3 default)
noncomputable def dR3:DefItem:=itemOf (p3.main.body.getD 24 default)
noncomputable def dL3:DefItem:=itemOf (p3.main.body.getD 31 default)
theorem yD:l3.row.toRowW.promised:=⟨[.list [.int 3]],by decide +kernel,by decide +kernel⟩
theorem qa:T3.defs.map (fun d=>d.params)=T3.defs.map (fun d=>plainPar d.params):=by kernel_rfl
theorem r9:∀ d∈T3.defs,d.params=plainPar d.params:=fun d hd=>List.map_inj_left.mp qa d hd
theorem yl:sigs3.all (fun s=>sigOk c3 T3 s)=true:=by decide +kernel
theorem Ak:sigs3.map (bodyU c3 T3)=sigs3.map (bodyOf T3):=by kernel_rfl
theorem wE:sigOk c3 T3 lsig3=true:=by decide +kernel
theorem zx:bodyU c3 T3 lsig3=bodyOf T3 lsig3:=by kernel_rfl
theorem z0:HI T3 c3 54 dI3:=⟨by kernel_rfl,by decide +kernel,by kernel_rfl,by kernel_rfl,by decide +kernel⟩
theorem zU:HD T3 c3 54 dD3:=⟨by kernel_rfl,by decide +kernel,by kernel_rfl,by kernel_rfl,by decide +kernel⟩
theorem zW:HP T3 c3 dP3:=⟨by kernel_rfl,by decide +kernel,by kernel_rfl⟩
theorem zF:HR T3 c3 dR3:=⟨by kernel_rfl,by decide +kernel,by kernel_rfl⟩
theorem ox (said:l3.row.wellSaid=true) (eval:∀ ns:List Int,ns.length≤63→run (gOf T3) (FL (gOf T3) (sigs3.map (mkFn T3)) 300) lsig3.tbl.length lsig3.code [.list (ns.map .int)]=some (.bool true)):l3.row.Holds :=
 tA (c:=c3) (line:=54) (dL:=dL3) zB (by kernel_rfl) rfl said yD rfl (fun s=>rfl) (by decide +kernel) (by decide +kernel) (by decide +kernel) rfl (by decide +kernel) ⟨rfl,rfl,rfl,rfl,rfl,by decide +kernel⟩ rfl rfl rfl sN vS r9
  (by kernel_rfl) (by kernel_rfl) (by decide +kernel) (by decide +kernel) (by decide +kernel) yl Ak wE zx rfl (by decide +kernel) z0 zU zW zF eval
end Mine
set_option genSizeOf false
set_option genInjectivity false
namespace Mine
noncomputable def g3:af:=gOf T3
noncomputable def fns3:List Fn:=sigs3.map (mkFn T3)
noncomputable def b1L3:List Int:=(g3.iset "b1_set").getD []
noncomputable def b3L3:List (Int×Str):=(g3.idict "b3_exceptions").getD []
theorem Aq:uB g3 fns3 b1L3 b3L3 where
 lim:=by kernel_rfl
 mark:=by kernel_rfl
 b1:=by kernel_rfl
 b3:=by kernel_rfl
 nm:=by kernel_rfl
 f1:=⟨mkFn T3 (sigs3.getD 0 lsig3),by kernel_rfl,by kernel_rfl,by kernel_rfl,by kernel_rfl⟩
 f2:=⟨mkFn T3 (sigs3.getD 1 lsig3),by kernel_rfl,by kernel_rfl,by kernel_rfl,by kernel_rfl⟩
 f3:=⟨mkFn T3 (sigs3.getD 2 lsig3),by kernel_rfl,by kernel_rfl,by kernel_rfl,by kernel_rfl⟩
 f4:=⟨mkFn T3 (sigs3.getD 3 lsig3),by kernel_rfl,by kernel_rfl,by kernel_rfl,by kernel_rfl⟩
 f5:=⟨mkFn T3 (sigs3.getD 4 lsig3),by kernel_rfl,by kernel_rfl,by kernel_rfl,by kernel_rfl⟩
 f6:=⟨mkFn T3 (sigs3.getD 5 lsig3),by kernel_rfl,by kernel_rfl,by kernel_rfl,by kernel_rfl⟩
 f7:=⟨mkFn T3 (sigs3.getD 6 lsig3),by kernel_rfl,by kernel_rfl,by kernel_rfl,by kernel_rfl⟩
 f8:=⟨mkFn T3 (sigs3.getD 7 lsig3),by kernel_rfl,by kernel_rfl,by kernel_rfl,by kernel_rfl⟩
theorem zV:gm g3 fns3 b1L3 b3L3 where
 com:=Aq
 points:=⟨mkFn T3 (sigs3.getD 8 lsig3),by kernel_rfl,by kernel_rfl,by kernel_rfl,by kernel_rfl⟩
 octets:=⟨mkFn T3 (sigs3.getD 9 lsig3),by kernel_rfl,by kernel_rfl,by kernel_rfl,by kernel_rfl⟩
 fits:=⟨mkFn T3 (sigs3.getD 10 lsig3),by kernel_rfl,by kernel_rfl,by kernel_rfl,by kernel_rfl⟩
 turn:=⟨mkFn T3 (sigs3.getD 11 lsig3),by kernel_rfl,by kernel_rfl,by kernel_rfl,by kernel_rfl⟩
 steps:=⟨mkFn T3 (sigs3.getD 12 lsig3),by kernel_rfl,by kernel_rfl,by kernel_rfl,by kernel_rfl⟩
 denied:=⟨mkFn T3 (sigs3.getD 13 lsig3),by kernel_rfl,by kernel_rfl,by kernel_rfl,by kernel_rfl⟩
 join:=⟨mkFn T3 (sigs3.getD 14 lsig3),by kernel_rfl,by kernel_rfl,by kernel_rfl,by kernel_rfl⟩
 holds:=⟨mkFn T3 (sigs3.getD 15 lsig3),by kernel_rfl,by kernel_rfl,by kernel_rfl,by kernel_rfl⟩
theorem g_ltbl:lsig3.tbl.length=44:=by decide +kernel
end Mine
set_option genSizeOf false
set_option genInjectivity false
namespace Mine
theorem Ax:nV b1L3 b3L3:=⟨by decide +kernel,by decide +kernel⟩
end Mine
namespace Mine
theorem law3_holds (said:l3.row.wellSaid=true):l3.row.Holds:=ox said fun ns hns=>nS zV Ax hns
end Mine
set_option maxRecDepth 100000 in
set_option maxHeartbeats 8000000 in
theorem PySem.Challenge.cw_ta0109_03_holds : PySem.Challenge.rw_ta0109_03.Holds := by
 exact holds_law (by decide +kernel) Mine.law3_holds
