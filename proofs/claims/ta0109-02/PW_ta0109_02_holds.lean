import PyProof.Rows.All
import Wide.All
import OpenK.AllK
import Wide.FinOn
import Lean
import PySem.Challenge.RW_ta0109_02
open PySem PySem.W PyProof.Rows
set_option Elab.async false
set_option linter.all false
set_option genSizeOf false
set_option genInjectivity false
namespace Mine
theorem ah {α:Type} {a:α} {P:Prop} (h:none=some a):P:=nomatch h
theorem sm {α:Type} {a b:α} (h:some a=some b):a=b:=Option.some.inj h
theorem ae {α β:Type} {o:Option α} {f:α→Option β} {r:β} {P:Prop} (h:o.bind f=some r) (k:∀ a,o=some a→f a=some r→P):P:=by
 cases o with
 |none=>exact ah h
 |some a=>exact k a rfl h
theorem ax {α β:Type} {o:Option α} {f:α→β} {r:β} {P:Prop} (h:o.map f=some r) (k:∀ a,o=some a→f a=r→P):P:=by
 cases o with
 |none=>exact ah h
 |some a=>exact k a rfl (sm h)
theorem gd {α:Type} {c:Prop} [i:Decidable c] {o:Option α} {r:α} {P:Prop} (h:(if c then o else none)=some r) (k:c→o=some r→P):P:=by
 cases i with
 |isTrue hc=>exact k hc h
 |isFalse hc=>exact ah h
theorem eH {α:Type} {c:Prop} [i:Decidable c] {o:Option α} {r:α} {P:Prop} (h:(if c then none else o)=some r) (k:¬ c→o=some r→P):P:=by
 cases i with
 |isTrue hc=>exact ah h
 |isFalse hc=>exact k hc h
theorem ad {α β:Type} {o:Option α} {f:α→Option β} {a:α} {r:Option β} (h:o=some a) (k:f a=r):o.bind f=r:=by rw [h];exact k
theorem aJ {α β:Type} {o:Option α} {f:α→β} {a:α} {b:β} (h:o=some a) (k:f a=b):o.map f=some b:=by rw [h,← k];rfl
theorem ao {α:Type} {c:Prop} [Decidable c] {o:Option α} {r:Option α} (hc:c) (k:o=r):(if c then o else none)=r:=by rw [if_pos hc];exact k
theorem gf {α:Type} {c:Prop} [Decidable c] {o:Option α} {r:Option α} (hc:¬ c) (k:o=r):(if c then none else o)=r:=by rw [if_neg hc];exact k
theorem aa {a b:Bool} {P:Prop} (h:(a&&b)=true) (k:a=true→b=true→P):P:=by
 cases a with
 |false=>cases h
 |true=>exact k rfl h
noncomputable def one? {α:Type}:List α→Option α
 | []=>none
 |a :: r=>match r with
  | []=>some a
  |_ :: _=>none
noncomputable def two? {α:Type}:List α→Option (α×α)
 | []=>none
 |a :: r=>(one? r).map fun b=>(a,b)
theorem kF {α:Type} {P:List α→Prop} {l:List α} {a:α} (h:one? l=some a) (k:P [a]):P l:=by
 cases l with
 |nil=>exact ah h
 |cons b r =>
  cases r with
  |nil=>exact sm h▸k
  |cons _ _=>exact ah h
theorem jX {α:Type} {P:List α→Prop} {l:List α} {p:α×α} (h:two? l=some p) (k:P [p.1,p.2]):P l:=by
 cases l with
 |nil=>exact ah h
 |cons b r=>exact ax h fun a h1 h2=>kF (P:=fun r=>P (b :: r)) h1 (by rw [← h2] at k;exact k)
inductive D where
 |none
 |bool (b:Bool)
 |int (i:Int)
 |str (s:Str)
 |list (xs:List D)
 |tup (xs:List D)
 |dmap (l:List (Str×Int))
noncomputable def D.scalar:D→Bool
 | .none=>true
 | .bool _=>true
 | .int _=>true
 | .str _=>true
 | .list _=>false
 | .tup _=>false
 | .dmap _=>false
noncomputable def D.int? : D→Option Int
 | .int i=>some i
 |_=>Option.none
noncomputable def D.str? : D→Option Str
 | .str i=>some i
 |_=>Option.none
noncomputable def D.list? : D→Option (List D)
 | .list i=>some i
 |_=>Option.none
noncomputable def D.tup? : D→Option (List D)
 | .tup i=>some i
 |_=>Option.none
noncomputable def D.bool? : D→Option Bool
 | .bool i=>some i
 |_=>Option.none
noncomputable def D.nil? : D→Bool
 | .none=>true
 |_=>false
theorem aM {P:D→Prop} {d:D} {i:Int} (h:d.int? = some i) (k:P (.int i)):P d:=by
 cases d with
 |int j=>exact sm h▸k
 |_=>exact ah h
theorem cV {P:D→Prop} {d:D} {i:Str} (h:d.str? = some i) (k:P (.str i)):P d:=by
 cases d with
 |str j=>exact sm h▸k
 |_=>exact ah h
theorem bE {P:D→Prop} {d:D} {i:List D} (h:d.list? = some i) (k:P (.list i)):P d:=by
 cases d with
 |list j=>exact sm h▸k
 |_=>exact ah h
theorem mF {P:D→Prop} {d:D} {i:Bool} (h:d.bool? = some i) (k:P (.bool i)):P d:=by
 cases d with
 |bool j=>exact sm h▸k
 |_=>exact ah h
theorem pM {P:D→Prop} {d:D} (h:d.nil? = true) (k:P .none):P d:=by
 cases d with
 |none=>exact k
 |_=>exact nomatch h
theorem nV {a b:List D} (h:D.tup a=D.tup b):a=b:=sm (congrArg D.tup? h)
theorem uE {a b:List D} (h:D.list a=D.list b):a=b:=sm (congrArg D.list? h)
theorem An {a b:Int} (h:D.int a=D.int b):a=b:=sm (congrArg D.int? h)
theorem boolI {a b:Bool} (h:D.bool a=D.bool b):a=b:=sm (congrArg D.bool? h)
theorem cT {P:D→Prop} {d:D} {i:List D} (h:d.tup? = some i) (k:P (.tup i)):P d:=by
 cases d with
 |tup j=>exact sm h▸k
 |_=>exact ah h
noncomputable def allEq (f:D→D→Option Bool):List D→List D→Option Bool
 | [],[]=>some true
 |x :: xs,y :: ys=>(f x y).bind fun a=>(allEq f xs ys).map fun b=>a&&b
 | [],_ :: _=>none
 |_ :: _,[]=>none
noncomputable def eqS (r:List D→List D→Option Bool) (a b:D):Option Bool:=match a with
 | .none=>if b.nil? then some true else none
 | .bool a=>b.bool?.map (a == ·)
 | .int a=>b.int?.map (a == ·)
 | .str a=>b.str?.map (a == ·)
 | .list xs=>b.list?.bind fun ys=>if xs.length=ys.length then r xs ys else some false
 | .tup xs=>b.tup?.bind fun ys=>if xs.length=ys.length then r xs ys else none
 | .dmap _=>none
noncomputable def eqN:Nat→D→D→Option Bool
 |0=>eqS fun _ _=>none
 |n+1=>eqS (allEq (eqN n))
noncomputable def eqD (a b:D):Option Bool:=eqN 4 a b
inductive BF where
 |len |ord |chr |sum |max2 |min2 |max1 |min1 |hex |divmod
inductive MF where
 |split |startswith |endswith |find3 |lower |join |count |bitlen
inductive IK where
 |plain |range1 |range2 |enum |rev
inductive T where
 |var (i:Nat)
 |glob (x:Str)
 |cst (d:D)
 |bin (op:Operator) (a b:T)
 |un (op:UnaryOp) (a:T)
 |cmp (op:CmpOp) (a b:T)
 |cmp2 (o1 o2:CmpOp) (a b c:T)
 |bop (op:BoolOp) (a b:T)
 |ite (c a b:T)
 |nil
 |cons (a r:T)
 |list (es:T)
 |tup (es:T)
 |idx (a i:T)
 |sli (a l u st:T)
 |comp (elt:T) (tg:List Nat) (one:Bool) (k:IK) (it it2 cond:T) (locs:List Nat)
 |lrange (a b:T)
 |call (f:Str) (args:T)
 |callb (f:Str) (args:T)
 |blt (f:BF) (args:T)
 |meth (m:MF) (o args:T)
 |inset (x:Str) (a:T)
 |dget (x:Str) (a:T) (dflt:T)
 |ddisp (ks:List Str) (es:T)
inductive S where
 |skip
 |seq (a b:S)
 |asg (i:Nat) (x:Bool) (e:T)
 |unp (is:List Nat) (e:T)
 |multi (is:List (Nat×Bool)) (es:T)
 |aug (i:Nat) (op:Operator) (e:T)
 |app (i:Nat) (e:T)
 |ext (i:Nat) (e:T)
 |revm (i:Nat)
 |del (i:Nat) (e:T)
 |seti (i:Nat) (k v:T)
 |ifs (c:T) (a b:S)
 |fors (tg:List Nat) (one:Bool) (k:IK) (it it2:T) (body els:S)
 |ret (e:T)
 |retv (i:Nat)
 |brk
 |asrt (e:T)
 |bad
noncomputable abbrev MEnv:=List (Option (D×Bool))
noncomputable abbrev FEnv:=Str→List D→Option D
structure ag where
 dd:Bool
 const:Str→Option D
 iset:Str→Option (List Int)
 idict:Str→Option (List (Int×Str))
@[irreducible] noncomputable def BIG:Nat:=2 ^ 4000
noncomputable def small (a:Int):Bool:=decide (a.natAbs<BIG)
noncomputable def idxOk (i:Int):Bool:=decide (i.natAbs<4611686018427387904)
noncomputable def sizeOk (n:Nat):Bool:=decide (n≤1048576)
noncomputable def truthy:D→Option Bool
 | .none=>some false
 | .bool b=>some b
 | .int i=>some (!(i==0))
 | .str s=>if sizeOk s.length then some (!(s.length==0)) else none
 | .list xs=>if sizeOk xs.length then some (!xs.isEmpty) else none
 | .tup xs=>if sizeOk xs.length then some (!xs.isEmpty) else none
 | .dmap _=>none
noncomputable def rep (x:Str):Nat→Str
 |0=>Str.empty
 |n+1=>x++rep x n
noncomputable def ii {α:Type} (f:Int→Int→Option α) (x y:D):Option α:=x.int?.bind fun a=>y.int?.bind fun b=>f a b
theorem nu {α:Type} {f:Int→Int→Option α} {x y:D} {d:α} {P:D→D→Prop} (h:ii f x y=some d) (k:∀ a b,f a b=some d→P (.int a) (.int b)):P x y :=
 ae h fun a h1 h=>ae h fun b h2 h=>aM (P:=(P · y)) h1 (aM (P:=P (.int a)) h2 (k a b h))
noncomputable def addD (x y:D):Option D:=match x with
 | .int a=>y.int?.map fun b=> .int (a+b)
 | .str a=>y.str?.bind fun b=>if sizeOk a.length&&sizeOk b.length then some (.str (a++b)) else none
 | .list a=>y.list?.bind fun b=>if sizeOk a.length&&sizeOk b.length then some (.list (a++b)) else none
 |_=>none
noncomputable def mulD (x y:D):Option D:=y.int?.bind fun b=>match x with
 | .int a=>if small a&&small b then some (.int (a * b)) else none
 | .str a=>if sizeOk (a.length * b.toNat)&&idxOk b then some (.str (rep a b.toNat)) else none
 | .list a=>if sizeOk (a.length * b.toNat)&&idxOk b then some (.list ((List.replicate b.toNat a).flatten)) else none
 |_=>none
noncomputable def binD (op:Operator) (x y:D):Option D:=match op with
 | .Add=>addD x y
 | .Sub=>ii (fun a b=>some (.int (a - b))) x y
 | .Mult=>mulD x y
 | .FloorDiv=>ii (fun a b=>if b==0 || !small b then none else some (.int (a.fdiv b))) x y
 | .Mod=>ii (fun a b=>if b==0 then none else some (.int (a.fmod b))) x y
 | .Pow=>ii (fun a b=>if decide (0≤b)&&decide (b.toNat≤1000000)&&decide (a.natAbs<18446744073709551616) then some (.int (a ^ b.toNat)) else none) x y
 | .LShift=>ii (fun a b=>if decide (0≤b)&&decide (b.toNat≤1000000)&&small a then some (.int (a * 2 ^ b.toNat)) else none) x y
 | .RShift=>ii (fun a b=>if decide (0≤b) then some (.int (a.fdiv (2 ^ b.toNat))) else none) x y
 | .BitAnd=>ii (fun a b=>some (.int (Builtin.bitAnd a b))) x y
 | .BitOr=>ii (fun a b=>some (.int (Builtin.bitOr a b))) x y
 | .BitXor=>ii (fun a b=>some (.int (Builtin.bitXor a b))) x y
 |_=>none
noncomputable def unD (op:UnaryOp) (d:D):Option D:=match op with
 | .Not=>(truthy d).map fun b=> .bool (!b)
 | .USub=>d.int?.map fun a=> .int (-a)
 | .Invert=>d.int?.map fun a=> .int (Builtin.bitNot a)
 | .UAdd=>none
noncomputable def memD (d:D):List D→Option Bool
 | []=>some false
 |x :: xs=>(eqD x d).bind fun a=>(memD d xs).map fun b=>a || b
noncomputable def strIn (y x:Str):Bool:= !(Builtin.Str.occurrences x y 0 x.length 1).isEmpty
noncomputable def isD (a b:D):Option Bool:=match b with
 | .none=>some a.nil?
 | .bool c=>some (match a with | .bool e=>e==c |_=>false)
 |_=>none
noncomputable def inD (d b:D):Option Bool:=match b with
 | .str x=>d.str?.map (strIn · x)
 | .list xs=>memD d xs
 | .tup xs=>memD d xs
 |_=>none
noncomputable def cmpD (op:CmpOp) (a b:D):Option Bool:=match op with
 | .Eq=>eqD a b
 | .NotEq=>(eqD a b).map (!·)
 | .Lt=>ii (fun a b=>some (decide (a<b))) a b
 | .LtE=>ii (fun a b=>some (decide (a≤b))) a b
 | .Gt=>ii (fun a b=>some (decide (b<a))) a b
 | .GtE=>ii (fun a b=>some (decide (b≤a))) a b
 | .In=>inD a b
 | .NotIn=>(inD a b).map (!·)
 | .Is=>isD a b
 | .IsNot=>(isD a b).map (!·)
noncomputable def idxL (xs:List D) (i:Int):Option D :=
 if idxOk i then
  if 0≤i then xs[i.toNat]? else if 0≤i+xs.length then xs[(i+xs.length).toNat]? else none
 else none
noncomputable def idxD (a i:D):Option D:=match a with
 | .list xs=>i.int?.bind (idxL xs)
 | .tup xs=>i.int?.bind (idxL xs)
 | .str x=>i.int?.bind (idxL (x.cps.toList.map fun c=> .str ⟨#[c]⟩))
 | .dmap l=>i.str?.bind fun k=>(l.lookup k).map .int
 |_=>none
noncomputable def part? : D→Option (Option Int)
 | .none=>some none
 | .int i=>if idxOk i then some (some i) else none
 |_=>none
noncomputable def pickL {α:Type} (xs:List α) (lo hi st:Option Int):List α :=
 (sliceRange (sliceBounds lo hi st xs.length).1 (sliceBounds lo hi st xs.length).2.1 (sliceBounds lo hi st xs.length).2.2).filterMap (xs[·]?)
noncomputable def sliD (a l u st:D):Option D :=
 (part? l).bind fun l=>(part? u).bind fun u=>(part? st).bind fun st =>
  if st==some 0 then none else match a with
  | .list xs=>if sizeOk xs.length then some (.list (pickL xs l u st)) else none
  | .str x=>if sizeOk x.length then some (.str ⟨(pickL x.cps.toList l u st).toArray⟩) else none
  |_=>none
noncomputable def ints? : List D→Option (List Int)
 | []=>some []
 |d :: r=>d.int?.bind fun i=>(ints? r).map (i :: ·)
noncomputable def difL:List Str→Bool
 | []=>true
 |k :: r=> !r.contains k&&difL r
noncomputable def ddOk (ks:List Str) (is:List Int):Bool:=ks.length==is.length&&difL ks && !ks.isEmpty&&decide (ks.length≤15)
noncomputable def strs? : List D→Option (List Str)
 | []=>some []
 |d :: r=>d.str?.bind fun i=>(strs? r).map (i :: ·)
noncomputable def cntD (d:D):List D→Option Nat
 | []=>some 0
 |x :: xs=>(eqD x d).bind fun b=>(cntD d xs).map fun n=>n+if b then 1 else 0
noncomputable def hexS (i:Int):Str:=PySem.baseText "0x" 16 i
noncomputable def lenD (d:D):Option D:=match d with
 | .list xs=>if sizeOk xs.length then some (.int xs.length) else none
 | .str x=>if sizeOk x.length then some (.int x.length) else none
 |_=>none
noncomputable def bestD (f:Int→Int→Int) (d:D):Option D:=d.list?.bind fun xs=>(ints? xs).bind fun ns=>match ns with
 | []=>none
 |n :: ns=>if sizeOk ns.length then some (.int (ns.foldl f n)) else none
noncomputable def bltD (f:BF) (ds:List D):Option D:=match f with
 | .len=>(one? ds).bind lenD
 | .ord=>(one? ds).bind fun d=>d.str?.bind fun x=>if x.length==1 then some (.int (x.cps.getD 0 0:Nat)) else none
 | .chr=>(one? ds).bind fun d=>d.int?.bind fun i=>if decide (0≤i)&&decide (i.toNat≤1114111) then some (.str ⟨#[i.toNat]⟩) else none
 | .sum=>(one? ds).bind fun d=>d.list?.bind fun xs=>if sizeOk xs.length then (ints? xs).map fun ns=> .int ns.sum else none
 | .max2=>(two? ds).bind fun p=>ii (fun a b=>some (.int (if b > a then b else a))) p.1 p.2
 | .min2=>(two? ds).bind fun p=>ii (fun a b=>some (.int (if b<a then b else a))) p.1 p.2
 | .max1=>(one? ds).bind (bestD fun a b=>if b > a then b else a)
 | .min1=>(one? ds).bind (bestD fun a b=>if b<a then b else a)
 | .hex=>(one? ds).bind fun d=>d.int?.bind fun i=>if decide (i.natAbs<18446744073709551616) then some (.str (hexS i)) else none
 | .divmod=>(two? ds).bind fun p=>ii (fun a b=>if b==0 || !small b then none else some (.tup [.int (a.fdiv b),.int (a.fmod b)])) p.1 p.2
noncomputable def findIn (x y:Str) (lo hi:Int):Option Int :=
 if idxOk lo&&idxOk hi&&decide (0≤lo)&&decide (0≤hi) then
  some (match Builtin.Str.occurrences x y lo.toNat (min hi.toNat x.length) 1 with
   |i :: _=>(i:Int)
   | []=> -1)
 else none
noncomputable def ss {α:Type} (f:Str→Str→Option α) (d:D) (ds:List D):Option α:=d.str?.bind fun x=>(one? ds).bind fun e=>e.str?.bind fun y=>f x y
noncomputable def findD3 (x:Str):List D→Option D
 | []=>none
 |y :: r=>y.str?.bind fun y=>(two? r).bind fun p=>p.1.int?.bind fun lo=>p.2.int?.bind fun hi=>(findIn x y lo hi).map .int
noncomputable def joinD (x:Str) (d:D):Option D:=d.list?.bind fun ys=>(strs? ys).bind fun ts=>if sizeOk (x.length * ts.length+(ts.map (·.length)).sum) then some (.str (Txt.join x ts)) else none
noncomputable def methD (f:MF) (d:D) (ds:List D):Option D:=match f with
 | .split=>ss (fun x y=>if sizeOk x.length&&decide (0<y.length) then some (.list ((Txt.split x y).map .str)) else none) d ds
 | .startswith=>ss (fun x y=>some (.bool (Txt.startswith x y))) d ds
 | .endswith=>ss (fun x y=>some (.bool (Txt.endswith x y))) d ds
 | .find3=>d.str?.bind fun x=>findD3 x ds
 | .lower=>d.str?.bind fun x=>if ds.isEmpty&&sizeOk x.length then some (.str (Txt.lower x)) else none
 | .join=>d.str?.bind fun x=>(one? ds).bind (joinD x)
 | .count=>d.list?.bind fun xs=>(one? ds).bind fun e=>if sizeOk xs.length then (cntD e xs).map fun (n:Nat)=> .int (n:Int) else none
 | .bitlen=>d.int?.bind fun i=>if ds.isEmpty then some (.int (Builtin.Int.intBits i)) else none
noncomputable def setE (σ:MEnv) (i:Nat) (d:D) (x:Bool):MEnv:=σ.set i (some (d,x))
noncomputable def clearE (σ:MEnv) (is:List Nat):MEnv:=is.foldl (fun σ i=>σ.set i none) σ
noncomputable def getE (σ:MEnv) (i:Nat):Option (D×Bool):=(σ[i]?).join
noncomputable def setAll (σ:MEnv):List Nat→List D→Option MEnv
 | [],[]=>some σ
 |i :: is,d :: ds=>setAll (setE σ i d false) is ds
 | [],_ :: _=>none
 |_ :: _,[]=>none
noncomputable def enumOk (one:Bool):IK→Bool
 | .enum=> !one
 |_=>true
noncomputable def isL:D→Bool
 | .list _=>true
 |_=>false
noncomputable def freshBin (op:Operator) (d:D):Bool:=match op with
 | .Add=>isL d
 | .Mult=>isL d
 |_=>false
noncomputable def freshSli (d:D):Bool:=isL d
noncomputable def freshM:MF→Bool
 | .split=>true
 |_=>false
noncomputable def freshT (t:T) (d:D):Bool:=match t with
 | .list _=>true
 | .lrange _ _=>true
 | .comp .. =>true
 | .bin op _ _=>freshBin op d
 | .sli .. =>freshSli d
 | .meth m _ _=>freshM m
 |_=>false
noncomputable def bindT (σ:MEnv) (tg:List Nat) (one:Bool) (d:D):Option MEnv :=
 if one then (one? tg).map fun i=>setE σ i d false else d.tup?.bind fun ds=>setAll σ tg ds
noncomputable def compL (f:D→Option (Option D)):List D→Option (List D)
 | []=>some []
 |x :: xs=>(f x).bind fun o=>(compL f xs).map fun ys=>o.elim ys (· :: ys)
noncomputable def enumD (k:Nat):List D→List D
 | []=>[]
 |x :: xs=> .tup [.int k,x] :: enumD (k+1) xs
noncomputable def rangeD (a:Int):Nat→List D
 |0=>[]
 |n+1=> .int a :: rangeD (a+1) n
noncomputable def iterD (d:D):Option (List D):=match d with
 | .list xs=>if sizeOk xs.length then some xs else none
 | .tup xs=>if sizeOk xs.length then some xs else none
 | .str x=>if sizeOk x.length then some (x.cps.toList.map fun c=> .str ⟨#[c]⟩) else none
 |_=>none
noncomputable def rngD (m n:Int):Option (List D):=if sizeOk (n - m).toNat&&idxOk n&&idxOk m then some (rangeD m (n - m).toNat) else none
noncomputable def feedD (k:IK) (o p:Option D):Option (List D):=match k with
 | .plain=>o.bind iterD
 | .range1=>o.bind fun d=>d.int?.bind (rngD 0)
 | .range2=>o.bind fun d=>d.int?.bind fun m=>p.bind fun e=>e.int?.bind (rngD m)
 | .enum=>o.bind fun d=>(iterD d).map (enumD 0)
 | .rev=>o.bind fun d=>d.list?.bind fun xs=>if sizeOk xs.length then some xs.reverse else none
noncomputable def stops:BoolOp→Bool→Bool
 | .And,b=> !b
 | .Or,b=>b
variable (G:ag) (F:FEnv)
noncomputable def ev (σ:MEnv) (b:Bool):T→Option D
 | .var i=>(getE σ i).bind fun p=>if p.2 && !b then none else some p.1
 | .glob x=>G.const x
 | .cst d=>if d.scalar then some d else none
 | .bin op a c=>(ev σ true a).bind fun x=>(ev σ true c).bind fun y=>binD op x y
 | .un op a=>(ev σ true a).bind fun x=>unD op x
 | .cmp op a c=>(ev σ true a).bind fun x=>(ev σ true c).bind fun y=>(cmpD op x y).map .bool
 | .cmp2 o1 o2 a c d=>(ev σ true a).bind fun x=>(ev σ true c).bind fun y=>(cmpD o1 x y).bind fun r =>
   cond r ((ev σ true d).bind fun z=>(cmpD o2 y z).map .bool) (some (.bool false))
 | .bop op a c=>(ev σ b a).bind fun x=>(truthy x).bind fun r=>cond (stops op r) (some x) (ev σ b c)
 | .ite c a d=>(ev σ true c).bind fun x=>(truthy x).bind fun r=>cond r (ev σ b a) (ev σ b d)
 | .nil=>some (.tup [])
 | .cons a r=>(ev σ b a).bind fun x=>(ev σ b r).bind fun y=>y.tup?.map fun xs=> .tup (x :: xs)
 | .list es=>(ev σ false es).bind fun y=>y.tup?.bind fun xs=>if sizeOk xs.length then some (.list xs) else none
 | .tup es=>(ev σ false es).bind fun y=>y.tup?.bind fun xs=>if sizeOk xs.length then some (.tup xs) else none
 | .idx a i=>(ev σ true a).bind fun x=>(ev σ true i).bind fun y=>idxD x y
 | .sli a l u st=>(ev σ true a).bind fun x=>(ev σ true l).bind fun l=>(ev σ true u).bind fun u=>(ev σ true st).bind fun st=>sliD x l u st
 | .comp elt tg one k it it2 c locs=>if !enumOk one k then none else
   (feedD k (ev σ true it) (ev σ true it2)).bind fun xs =>
    (compL (fun d=>(bindT (clearE σ locs) tg one d).bind fun σ'=>(ev σ' true c).bind fun x=>(truthy x).bind fun r=>cond r ((ev σ' false elt).map some) (some none)) xs).map .list
 | .lrange a c=>(ev σ true a).bind fun d=>d.int?.bind fun m=>(ev σ true c).bind fun e=>e.int?.bind fun n=>(rngD m n).map .list
 | .call f args=>(ev σ false args).bind fun y=>y.tup?.bind fun ds=>F f ds
 | .callb f args=>(ev σ true args).bind fun y=>y.tup?.bind fun ds=>(F f ds).bind fun r=>if r.scalar then some r else none
 | .blt f args=>(ev σ true args).bind fun y=>y.tup?.bind fun ds=>bltD f ds
 | .meth m o args=>(ev σ true o).bind fun d=>(ev σ true args).bind fun y=>y.tup?.bind fun ds=>methD m d ds
 | .inset x a=>(ev σ true a).bind fun d=>d.int?.bind fun i=>(G.iset x).map fun l=> .bool (l.contains i)
 | .dget x a dflt=>(ev σ true a).bind fun d=>d.int?.bind fun i=>(ev σ true dflt).bind fun d=>(G.idict x).bind fun l =>
   if d.scalar then some ((l.lookup i).elim d .str) else none
 | .ddisp ks es=>(ev σ false es).bind fun y=>y.tup?.bind fun ds=>(ints? ds).bind fun is=>if G.dd&&ddOk ks is then some (.dmap (ks.zip is)) else none
noncomputable def isRange:IK→Bool
 | .range1=>true
 | .range2=>true
 |_=>false
noncomputable def evI (σ:MEnv) (b:Bool) (k:IK) (it it2:T):Option (List D):=feedD k (ev G F σ (b || isRange k) it) (ev G F σ true it2)
inductive Out where
 |next |brk |ret (d:D)
noncomputable def Out.isNext:Out→Bool
 | .next=>true
 | .brk=>false
 | .ret _=>false
noncomputable def Out.aft (e:Option (MEnv×Out)) (σ:MEnv):Out→Option (MEnv×Out)
 | .next=>e
 | .brk=>some (σ,.next)
 | .ret d=>some (σ,.ret d)
noncomputable def Out.fin:Out→Option D
 | .next=>some .none
 | .brk=>none
 | .ret d=>some d
noncomputable def loopL (f:MEnv→D→Option (MEnv×Out)):MEnv→List D→Option (MEnv×Out)
 |σ,[]=>some (σ,.next)
 |σ,x :: xs=>(f σ x).bind fun p=>cond p.2.isNext (loopL f p.1 xs) (some p)
noncomputable def freeze (σ:MEnv):T→MEnv
 | .var i=>(getE σ i).elim σ fun p=>setE σ i p.1 false
 |_=>σ
noncomputable def setMulti (σ:MEnv):List (Nat×Bool)→List D→Option MEnv
 | [],[]=>some σ
 |p :: is,d :: ds=>setMulti (setE σ p.1 d p.2) is ds
 | [],_ :: _=>none
 |_ :: _,[]=>none
noncomputable def freshAll:List (Nat×Bool)→T→List D→Bool
 | [],.nil,[]=>true
 |p :: is,.cons e r,d :: ds=>(!p.2 || freshT e d)&&freshAll is r ds
 |_,_,_=>false
noncomputable def augOk:Operator→Bool
 | .Add=>true
 | .Sub=>true
 | .BitXor=>true
 |_=>false
noncomputable def own? (σ:MEnv) (i:Nat):Option (List D):=(getE σ i).bind fun p=>p.1.list?.bind fun xs=>if p.2&&sizeOk xs.length then some xs else none
noncomputable def nxt (σ:MEnv):Option (MEnv×Out):=some (σ,.next)
noncomputable def ex (σ:MEnv):S→Option (MEnv×Out)
 | .skip=>some (σ,.next)
 | .seq a c=>(ex σ a).bind fun p=>cond p.2.isNext (ex p.1 c) (some p)
 | .asg i x e=>(ev G F σ false e).bind fun d=>if x && !freshT e d then none else some (setE σ i d x,.next)
 | .unp is e=>(ev G F σ false e).bind fun d=>d.tup?.bind fun ds=>(setAll σ is ds).map fun σ'=>(σ',.next)
 | .multi is es=>(ev G F σ false es).bind fun y=>y.tup?.bind fun ds=>if freshAll is es ds then (setMulti σ is ds).map fun σ'=>(σ',.next) else none
 | .aug i op e=>(getE σ i).bind fun p=>p.1.int?.bind fun a=>(ev G F σ true e).bind fun y=>y.int?.bind fun c =>
   if p.2 || !augOk op then none else (binD op (.int a) (.int c)).map fun d=>(setE σ i d false,.next)
 | .app i e=>(own? σ i).bind fun xs=>(ev G F σ false e).map fun d=>(setE σ i (.list (xs++[d])) true,.next)
 | .ext i e=>(own? σ i).bind fun xs=>(ev G F σ false e).bind fun y=>y.list?.bind fun ys=>if sizeOk ys.length then some (setE σ i (.list (xs++ys)) true,.next) else none
 | .revm i=>(own? σ i).map fun xs=>(setE σ i (.list xs.reverse) true,.next)
 | .del i e=>(own? σ i).bind fun xs=>(ev G F σ true e).bind fun y=>y.int?.bind fun k =>
   if decide (0≤k)&&decide (k<xs.length) then some (setE σ i (.list (xs.eraseIdx k.toNat)) true,.next)
   else if decide (k = -1)&&decide (0<xs.length) then some (setE σ i (.list (xs.eraseIdx (xs.length - 1))) true,.next) else none
 | .seti i k v=>(own? σ i).bind fun xs=>(ev G F σ true k).bind fun y=>y.int?.bind fun k=>(ev G F σ false v).bind fun d =>
   if decide (0≤k)&&decide (k<xs.length) then some (setE σ i (.list (xs.set k.toNat d)) true,.next) else none
 | .ifs c a e=>(ev G F σ true c).bind fun x=>(truthy x).bind fun r=>cond r (ex σ a) (ex σ e)
 | .fors tg one k it it2 body els=>if !enumOk one k then none else (evI G F (freeze σ it) false k it it2).bind fun xs =>
   (loopL (fun σ d=>(bindT σ tg one d).bind fun σ'=>ex σ' body) (freeze σ it) xs).bind fun p=>p.2.aft (ex p.1 els) p.1
 | .ret e=>(ev G F σ false e).map fun d=>(σ,.ret d)
 | .retv i=>(getE σ i).map fun p=>(σ,.ret p.1)
 | .brk=>some (σ,.brk)
 | .asrt e=>(ev G F σ true e).bind fun x=>(truthy x).bind fun r=>cond r (some (σ,.next)) none
 | .bad=>none
noncomputable def run (n:Nat) (body:S) (ds:List D):Option D :=
 (ex G F (ds.map (fun d=>some (d,false))++List.replicate (n - ds.length) none) body).bind fun p=>p.2.fin
theorem xI {a b c:Bool} {P:Prop} (h:(a&&b&&c)=true) (k:a=true→b=true→c=true→P):P:=aa h fun h hc=>aa h fun ha hb=>k ha hb hc
theorem de {p:Prop} [Decidable p] (h:decide p=true):p:=of_decide_eq_true h
theorem iC {a b:Bool} {P:Prop} (h:¬ (a || b)=true) (k:a=false→b=false→P):P:=by
 cases a with
 |true=>exact absurd rfl h
 |false=>exact k rfl (Bool.eq_false_iff.mpr h)
theorem nz {b:Int} (h:(b==0)=false):b≠0:=fun e=>by rw [e] at h;cases h
theorem cO {n:Nat} (h:n≤1048576):(n:Int)<2 ^ 63:=Int.lt_of_le_of_lt (Int.ofNat_le.mpr h) (by decide)
theorem aF {n:Nat} (h:sizeOk n=true):n≤1048576:=of_decide_eq_true h
theorem nt {b:Bool} (h:(!b)=true):b=false:=Bool.not_eq_true' _▸h
theorem mP {l:List Str} {x:Str} (h:(!l.contains x)=true):x∉l:=fun q=>nomatch (List.contains_iff_mem.mpr q).symm.trans (nt h)
theorem eP {l:List Str} {x:Str} (h:l.contains x=true):x∈l:=List.contains_iff_mem.mp h
theorem Ab {b:Int} (h:b.toNat≤1000000):b≤1000000:=Int.toNat_le.mp h
theorem Aa {a b:Nat} (h1:sizeOk a=true) (h2:sizeOk b=true):a+b≤16777216:=Nat.le_trans (Nat.add_le_add (aF h1) (aF h2)) (by decide)
theorem bP {n:Nat} (h:n≤1048576):n≤sizeLine:=by rw [sizeLine_eq];exact Nat.le_trans h (by decide)
theorem dU {l:List Str} {i:Nat} (h:i<l.length):l[i]? = some (l.getD i Str.empty):=by
 rw [List.getD_eq_getElem?_getD,List.getElem?_eq_getElem h];rfl
theorem lX {a:Array Value} {j:Nat} {v:Value} (g:a.toList[j]? = some v) (h:j<a.size):a[j]=v:=by
 rw [Array.getElem?_toList,Array.getElem?_eq_getElem h] at g
 exact Option.some.inj g
theorem xm {i:Int} (h:i.toNat≤1114111):i≤1114111:=Int.toNat_le.mp h
theorem iB {j:Int} {n:Nat} (h0:0≤j) (h:j<n) (hn:n≤1048576) : -(2 ^ 63:Int)≤j∧j<2 ^ 63:=⟨Int.le_trans (by decide) h0,Int.lt_trans h (Int.lt_of_le_of_lt (Int.ofNat_le.mpr hn) (by decide))⟩
theorem lA {a b c d:Nat} (ha:a≤1048576) (hb:b≤1048576) (z:c=a) (z2:d=b):c+d≤2097152:=z▸z2▸Nat.add_le_add ha hb
theorem bq {α:Type} [BEq α] [ReflBEq α] {a:α} {b:Bool} (h:(some a).map (a == ·)=some b):b=true:=by rw [← sm h];exact BEq.rfl
end Mine
set_option genSizeOf false
set_option genInjectivity false
namespace Mine
structure Cx where
 tbl:List Str
 fns:List Str
 consts:List Str
 sets:List Str
 dicts:List Str
noncomputable def idOf (l:List Str) (x:Str):Option Nat:=l.findIdx? (· == x)
noncomputable def seeK:Option NameKind→Bool
 |some .local=>true
 |some .cell=>true
 |some .free=>true
 |_=>false
noncomputable def stoK:Option NameKind→Bool
 |some .local=>true
 |some .cell=>true
 |_=>false
noncomputable def celK:Option NameKind→Bool
 |some .cell=>true
 |some .free=>true
 |_=>false
noncomputable def seen (sc:Scope) (x:Str):Bool:=seeK (sc.names.lookup x)
noncomputable def storable (sc:Scope) (x:Str):Bool:=stoK (sc.names.lookup x)
noncomputable def isGlob (sc:Scope) (x:Str):Bool:=sc.names.lookup x==some .globalImplicit
noncomputable def dbg (x:Str):Bool:= !(x==("__debug__":Str))
noncomputable def dcl (x:Str):Bool:= !(x==("__classdict__":Str))
noncomputable def bfs:List (Str×Nat×BF):=[("len",1,.len),("ord",1,.ord),("chr",1,.chr),("sum",1,.sum),("max",2,.max2),("min",2,.min2),("max",1,.max1),("min",1,.min1),("hex",1,.hex),("divmod",2,.divmod)]
noncomputable def bNm:BF→Str
 | .len=>"len" | .ord=>"ord" | .chr=>"chr" | .sum=>"sum" | .max2=>"max" | .min2=>"min" | .max1=>"max" | .min1=>"min" | .hex=>"hex" | .divmod=>"divmod"
noncomputable def mNm:MF→Str
 | .split=>"split" | .startswith=>"startswith" | .endswith=>"endswith" | .find3=>"find" | .lower=>"lower" | .join=>"join" | .count=>"count" | .bitlen=>"bit_length"
noncomputable def locsOf (c:Cx) (sc:Scope):List Nat:=sc.names.filterMap fun p=>if p.2 == .local || p.2 == .cell then idOf c.tbl p.1 else none
noncomputable def distinctN:List (Str×NameKind)→Bool
 | []=>true
 |p :: r=> !(r.any fun q=>q.1==p.1)&&distinctN r
noncomputable def cellish (sc:Scope) (x:Str):Bool:=celK (sc.names.lookup x)
noncomputable def scOk (sc sc':Scope):Bool:=sc'.kind == .function&&distinctN sc'.names&&sc'.names.all fun p=> !(p.2 == .free) || cellish sc p.1
noncomputable def genK:Comprehension→List Expr
 |⟨t,i,fs,_⟩=>t :: i :: fs
noncomputable def info (sc:Scope):Expr→List Expr×Nat×Scope×List (Option Expr)
 | .BinOp l _ r _=>([l,r],0,sc,[])
 | .UnaryOp _ a _=>([a],0,sc,[])
 | .BoolOp _ vs _=>(vs,0,sc,[])
 | .IfExp t a b _=>([t,a,b],0,sc,[])
 | .Compare l _ cs _=>(l :: cs,0,sc,[])
 | .Call f as _ _=>(f :: as,0,sc,[])
 | .Attribute o _ _=>([o],0,sc,[])
 | .Subscript a i _=>([a,i],0,sc,[])
 | .Slice l u st _=>([l.getD default,u.getD default,st.getD default],0,sc,[l,u,st])
 | .List es _=>(es,0,sc,[])
 | .Tuple es k _=>(es,k,sc,[])
 | .Constant _ k _=>([],k,sc,[])
 | .ListComp elt gens sc' _=>(elt :: gens.flatMap genK,0,sc',[])
 | .Dict ks vs _=>(ks.filterMap id++vs,ks.length,sc,[])
 |_=>([],0,sc,[])
noncomputable def noSc:Scope:=default
noncomputable def kids (e:Expr):List Expr:=(info noSc e).1
noncomputable def isCall (e:Expr):Bool:=e.ctorIdx==16
noncomputable def hd (l:List Expr):Expr:=l.headD default
noncomputable def kid (k:Nat) (e:Expr):Expr:=(kids e).getD k default
noncomputable def numE (e:Expr):Nat:=(info noSc e).2.1
noncomputable def scE (sc:Scope) (e:Expr):Scope:=(info sc e).2.2.1
noncomputable def part3 (e:Expr):List (Option Expr):=(info noSc e).2.2.2
noncomputable def constE:D→Const
 | .bool b=> .bool b
 | .int i=> .int i
 | .str x=> .str x
 |_=> .none
noncomputable def isLst:T→Bool
 | .nil=>true
 | .cons _ _=>true
 |_=>false
noncomputable def tailM (op:BoolOp) (m:Option BoolOp) (es:List Expr):Bool:=m==some op && !es.tail.isEmpty
noncomputable def tailB (t:T) (m:Option BoolOp) (es:List Expr):Bool:=match t with
 | .bop op _ _=>tailM op m es
 |_=>false
noncomputable def isNilT:T→Bool
 | .nil=>true
 |_=>false
noncomputable def IK.two:IK→Bool
 | .range2=>true
 |_=>false
noncomputable def IK.bare:IK→Bool
 | .plain=>true
 |_=>false
noncomputable def isSetE (e:Expr):Bool:=e.ctorIdx==7
noncomputable def isSliceE (e:Expr):Bool:=e.ctorIdx==26
noncomputable def isTrueT:T→Bool
 | .cst (.bool true)=>true
 |_=>false
noncomputable def isNoneT:T→Bool
 | .cst .none=>true
 |_=>false
noncomputable def nameE (c:Cx) (i:Nat) (e:Expr):Expr:= .Name (c.tbl.getD i Str.empty) e.pos
noncomputable def tgE (c:Cx) (tg:List Nat) (one:Bool) (e:Expr):Expr:=cond one (nameE c (tg.headD 0) e) (.Tuple (List.zipWith (nameE c) tg (kids e)) (numE e) e.pos)
noncomputable def stoI (c:Cx) (sc:Scope) (i:Nat):Bool:=decide (i<c.tbl.length)&&storable sc (c.tbl.getD i Str.empty)
noncomputable def tgB (c:Cx) (sc:Scope) (tg:List Nat) (one:Bool) (e:Expr):Bool:=cond one (tg.length==1) ((kids e).length==tg.length)&&tg.all (stoI c sc)
noncomputable def callE (f:Str) (args:List Expr) (e:Expr):Expr:= .Call (.Name f (kid 0 e).pos) args [] e.pos
noncomputable def rangeS:Str:="range"
noncomputable def enumS:Str:="enumerate"
noncomputable def revS:Str:="reversed"
noncomputable def listS:Str:="list"
noncomputable def getS:Str:="get"
noncomputable def gl (sc:Scope) (f:Str):Bool:=isGlob sc f&&dbg f
noncomputable def slE (t:T) (r:Bool×Expr) (o:Option Expr):Bool×Option Expr:=(cond o.isSome r.1 (isNoneT t),o.map fun _=>r.2)
noncomputable def e1 (t:T) (r:Bool×List Expr):Bool×Expr:=(!isLst t&&r.1,hd r.2)
noncomputable def el (t:T) (r:Bool×List Expr):Bool×List Expr:=(isLst t&&r.1,r.2)
noncomputable def argsE (e:Expr):List Expr:=(kids e).tail
noncomputable def bopE (op:BoolOp) (b:T) (t:Bool) (x:Bool×Expr) (y:Bool×List Expr) (x':Bool×Expr) (y':Bool×List Expr) (pos:Pos):Bool×List Expr :=
 cond t (x.1 && !isLst b&&y.1,x.2 :: y.2) (x'.1 && !isLst b&&y'.1,[.BoolOp op (x'.2 :: y'.2) pos])
noncomputable def itE (sc:Scope) (k:IK) (y:Expr) (z:Bool×Expr) (i:Expr):Bool×Expr:=match k with
 | .plain=>(!isSetE y,y)
 | .range1=>(gl sc rangeS,callE rangeS [y] i)
 | .range2=>(gl sc rangeS&&z.1,callE rangeS [y,z.2] i)
 | .enum=>(gl sc enumS,callE enumS [y] i)
 | .rev=>(gl sc revS,callE revS [y] i)
noncomputable def keyE (k:Str) (e:Expr):Option Expr:=some (.Constant (.str k) (numE e) e.pos)
noncomputable def un (c:Cx) (sc:Scope):T→Option BoolOp→List Expr→Bool×List Expr
 | .var i,_,es=>(decide (i<c.tbl.length)&&seen sc (c.tbl.getD i Str.empty)&&dbg (c.tbl.getD i Str.empty)&&dcl (c.tbl.getD i Str.empty),[nameE c i (hd es)])
 | .glob x,_,es=>(isGlob sc x&&c.consts.contains x&&dbg x,[.Name x (hd es).pos])
 | .cst d,_,es=>(d.scalar,[.Constant (constE d) (numE (hd es)) (hd es).pos])
 | .bin op a b,_,es =>
  let x:=e1 a (un c sc a none [kid 0 (hd es)]);let y:=e1 b (un c sc b none [kid 1 (hd es)])
  (x.1&&y.1,[.BinOp x.2 op y.2 (hd es).pos])
 | .un op a,_,es=>let x:=e1 a (un c sc a none [kid 0 (hd es)]);(x.1,[.UnaryOp op x.2 (hd es).pos])
 | .cmp op a b,_,es =>
  let x:=e1 a (un c sc a none [kid 0 (hd es)]);let y:=e1 b (un c sc b none [kid 1 (hd es)])
  (x.1&&y.1 && !behindInMarks op y.2,[.Compare x.2 [op] [y.2] (hd es).pos])
 | .cmp2 o p a b d,_,es =>
  let x:=e1 a (un c sc a none [kid 0 (hd es)]);let y:=e1 b (un c sc b none [kid 1 (hd es)]);let z:=e1 d (un c sc d none [kid 2 (hd es)])
  (x.1&&y.1&&z.1 && !behindInMarks p z.2,[.Compare x.2 [o,p] [y.2,z.2] (hd es).pos])
 | .bop op a b,m,es=>bopE op b (tailM op m es) (e1 a (un c sc a none [hd es])) (un c sc b (some op) es.tail) (e1 a (un c sc a none [kid 0 (hd es)])) (un c sc b (some op) (argsE (hd es))) (hd es).pos
 | .ite d a b,_,es =>
  let z:=e1 d (un c sc d none [kid 0 (hd es)]);let x:=e1 a (un c sc a none [kid 1 (hd es)]);let y:=e1 b (un c sc b none [kid 2 (hd es)])
  (z.1&&x.1&&y.1,[.IfExp z.2 x.2 y.2 (hd es).pos])
 | .nil,_,_=>(true,[])
 | .cons a r,_,es=>let x:=e1 a (un c sc a none [hd es]);let y:=el r (un c sc r none es.tail);(x.1&&y.1,x.2 :: y.2)
 | .list t,_,es=>let x:=el t (un c sc t none (kids (hd es)));(x.1,[.List x.2 (hd es).pos])
 | .tup t,_,es=>let x:=el t (un c sc t none (kids (hd es)));(x.1,[.Tuple x.2 (numE (hd es)) (hd es).pos])
 | .idx a i,_,es =>
  let x:=e1 a (un c sc a none [kid 0 (hd es)]);let y:=e1 i (un c sc i none [kid 1 (hd es)])
  (x.1&&y.1 && !isSliceE y.2,[.Subscript x.2 y.2 (hd es).pos])
 | .sli a l u st,_,es =>
  let s:=kid 1 (hd es);let p:=part3 s
  let x:=e1 a (un c sc a none [kid 0 (hd es)])
  let l:=slE l (e1 l (un c sc l none [kid 0 s])) (p.getD 0 none);let u:=slE u (e1 u (un c sc u none [kid 1 s])) (p.getD 1 none);let st:=slE st (e1 st (un c sc st none [kid 2 s])) (p.getD 2 none)
  (x.1&&l.1&&u.1&&st.1,[.Subscript x.2 (.Slice l.2 u.2 st.2 s.pos) (hd es).pos])
 | .comp elt tg one k it it2 cnd locs,_,es =>
  let e:=hd es;let sc':=scE sc e;let i:=kid 2 e
  let x:=e1 elt (un c sc' elt none [kid 0 e])
  let y:=e1 it (un c sc it none [cond k.bare i (kid 1 i)]);let z:=e1 it2 (un c sc it2 none [kid 2 i])
  let w:=e1 cnd (un c sc' cnd none [kid 3 e])
  let iter:=itE sc k y.2 z i
  let nc:=isTrueT cnd&&(kids e).tail.tail.tail.isEmpty
  (x.1&&y.1&&iter.1&&(nc || w.1)&&tgB c sc' tg one (kid 1 e)&&scOk sc sc'&&locs==locsOf c sc',[.ListComp x.2 [⟨tgE c tg one (kid 1 e),iter.2,cond nc [] [w.2],0⟩] sc' e.pos])
 | .lrange a b,_,es =>
  let r:=kid 1 (hd es)
  let x:=e1 a (un c sc a none [kid 1 r]);let y:=e1 b (un c sc b none [kid 2 r])
  (x.1&&y.1&&gl sc listS&&gl sc rangeS,[callE listS [callE rangeS [x.2,y.2] r] (hd es)])
 | .call f t,_,es=>let x:=el t (un c sc t none (argsE (hd es)));(x.1&&gl sc f&&c.fns.contains f,[callE f x.2 (hd es)])
 | .callb f t,_,es=>let x:=el t (un c sc t none (argsE (hd es)));(x.1&&gl sc f&&c.fns.contains f,[callE f x.2 (hd es)])
 | .blt f t,_,es=>let x:=el t (un c sc t none (argsE (hd es)));(x.1&&gl sc (bNm f),[callE (bNm f) x.2 (hd es)])
 | .meth m o t,_,es =>
  let p:=kid 0 (hd es)
  let x:=el t (un c sc t none (argsE (hd es)));let y:=e1 o (un c sc o none [kid 0 p])
  (x.1&&y.1&&p.pos.endLine==(hd es).pos.line && !isCall y.2&&decide (x.2.length<30),[.Call (.Attribute y.2 (mNm m) p.pos) x.2 [] (hd es).pos])
 | .inset x a,_,es=>let y:=e1 a (un c sc a none [kid 0 (hd es)]);(y.1&&isGlob sc x&&c.sets.contains x,[.Compare y.2 [.In] [.Name x (kid 1 (hd es)).pos] (hd es).pos])
 | .dget x a d,_,es =>
  let p:=kid 0 (hd es);let two:=(kids (hd es)).tail.tail.isEmpty
  let y:=e1 a (un c sc a none [kid 1 (hd es)]);let z:=e1 d (un c sc d none [kid 2 (hd es)])
  (y.1&&cond two (isNoneT d) z.1&&p.pos.endLine==(hd es).pos.line&&isGlob sc x&&c.dicts.contains x,[.Call (.Attribute (.Name x (kid 0 p).pos) getS p.pos) (y.2 :: cond two [] [z.2]) [] (hd es).pos])
 | .ddisp ks t,_,es =>
  let e:=hd es;let x:=el t (un c sc t none ((kids e).drop (numE e)))
  (x.1&&ks.length==x.2.length&&(List.zipWith keyE ks (kids e)).length==ks.length,[.Dict (List.zipWith keyE ks (kids e)) x.2 e.pos])
noncomputable def sinfo:Stmt→List Expr×List Stmt×List Stmt×Option Expr
 | .Assign ts v _=>(v :: ts,[],[],none)
 | .AugAssign t _ v _=>([v,t],[],[],none)
 | .Expr e _=>([e],[],[],none)
 | .Delete ts _=>(ts,[],[],none)
 | .If t a b _=>([t],a,b,none)
 | .For t i a b _=>([i,t],a,b,none)
 | .Return e _=>(e.toList,[],[],none)
 | .Assert t m _=>([t],[],[],m)
 |_=>([],[],[],none)
noncomputable def skids (s:Stmt):List Expr:=(sinfo s).1
noncomputable def sbod (s:Stmt):List Stmt:=(sinfo s).2.1
noncomputable def sels (s:Stmt):List Stmt:=(sinfo s).2.2.1
noncomputable def smsg (s:Stmt):Option Expr:=(sinfo s).2.2.2
noncomputable def skid (k:Nat) (st:Stmt):Expr:=(skids st).getD k default
noncomputable def hs (l:List Stmt):Stmt:=l.headD default
noncomputable def isSeq:S→Bool
 | .skip=>true
 | .seq _ _=>true
 |_=>false
noncomputable def appendS:Str:="append"
noncomputable def extendS:Str:="extend"
noncomputable def reverseS:Str:="reverse"
noncomputable def isTupE (e:Expr):Bool:=e.ctorIdx==25
noncomputable def isBadC (e:Expr):Bool:=e.ctorIdx==9 || e.ctorIdx==10
noncomputable def unE (c:Cx) (sc:Scope) (t:T) (e:Expr):Bool×Expr:=e1 t (un c sc t none [e])
noncomputable def ownM (c:Cx) (i:Nat) (m:Str) (as:List Expr) (st:Stmt):Stmt:= .Expr (.Call (.Attribute (nameE c i (kid 0 (kid 0 (skid 0 st)))) m (kid 0 (skid 0 st)).pos) as [] (skid 0 st).pos) st.pos
noncomputable def ownB (st:Stmt):Bool:=(kid 0 (skid 0 st)).pos.endLine==(skid 0 st).pos.line
noncomputable def vars (c:Cx) (is:List Nat) (e:Expr):Expr:= .Tuple (List.zipWith (nameE c) is (kids e)) (numE e) e.pos
noncomputable def varsB (c:Cx) (sc:Scope) (is:List Nat) (e:Expr):Bool:=(kids e).length==is.length&&is.all (stoI c sc)
noncomputable def unS (c:Cx) (sc:Scope):S→List Stmt→Bool×List Stmt
 | .skip,_=>(true,[])
 | .seq a b,ss =>
  let x:=unS c sc a [hs ss];let y:=unS c sc b ss.tail
  (!isSeq a&&isSeq b&&x.1&&y.1,hs x.2 :: y.2)
 | .asg i _ e,ss=>let s:=hs ss;let x:=unE c sc e (skid 0 s);(x.1&&stoI c sc i && !isBadC x.2,[.Assign [nameE c i (skid 1 s)] x.2 s.pos])
 | .unp is e,ss=>let s:=hs ss;let x:=unE c sc e (skid 0 s);(x.1&&varsB c sc is (skid 1 s) && !isTupE x.2,[.Assign [vars c is (skid 1 s)] x.2 s.pos])
 | .multi is es,ss =>
  let s:=hs ss;let v:=skid 0 s;let x:=el es (un c sc es none (kids v))
  (x.1&&varsB c sc (is.map (·.1)) (skid 1 s)&&is.all (fun p=> !p.2) && !(x.2.all (constantsAlone 8))&&decide (is.length<30),[.Assign [vars c (is.map (·.1)) (skid 1 s)] (.Tuple x.2 (numE v) v.pos) s.pos])
 | .aug i op e,ss=>let s:=hs ss;let x:=unE c sc e (skid 0 s);(x.1&&stoI c sc i,[.AugAssign (nameE c i (skid 1 s)) op x.2 s.pos])
 | .app i e,ss=>let s:=hs ss;let x:=unE c sc e (kid 1 (skid 0 s));(x.1&&stoI c sc i&&ownB s,[ownM c i appendS [x.2] s])
 | .ext i e,ss=>let s:=hs ss;let x:=unE c sc e (kid 1 (skid 0 s));(x.1&&stoI c sc i&&ownB s,[ownM c i extendS [x.2] s])
 | .revm i,ss=>let s:=hs ss;(stoI c sc i&&ownB s,[ownM c i reverseS [] s])
 | .del i e,ss=>let s:=hs ss;let x:=unE c sc e (kid 1 (skid 0 s));(x.1&&stoI c sc i,[.Delete [.Subscript (nameE c i (kid 0 (skid 0 s))) x.2 (skid 0 s).pos] s.pos])
 | .seti i k v,ss =>
  let s:=hs ss;let t:=skid 1 s;let x:=unE c sc k (kid 1 t);let y:=unE c sc v (skid 0 s)
  (x.1&&y.1&&stoI c sc i,[.Assign [.Subscript (nameE c i (kid 0 t)) x.2 t.pos] y.2 s.pos])
 | .ifs t a b,ss =>
  let s:=hs ss;let x:=unE c sc t (skid 0 s);let y:=unS c sc a (sbod s);let z:=unS c sc b (sels s)
  (x.1&&isSeq a&&y.1&&isSeq b&&z.1,[.If x.2 y.2 z.2 s.pos])
 | .fors tg one k it it2 a b,ss =>
  let s:=hs ss;let i:=skid 0 s;let u:=unE c sc it (cond k.bare i (kid 1 i));let v:=unE c sc it2 (kid 2 i)
  let x:=itE sc k u.2 v i;let y:=unS c sc a (sbod s);let z:=unS c sc b (sels s)
  (u.1&&x.1&&tgB c sc tg one (skid 1 s)&&isSeq a&&y.1&&isSeq b&&z.1,[.For (tgE c tg one (skid 1 s)) x.2 y.2 z.2 s.pos])
 | .ret e,ss=>let s:=hs ss;let x:=unE c sc e (skid 0 s);let n:=(skids s).isEmpty;(cond n (isNoneT e) x.1,[.Return (cond n none (some x.2)) s.pos])
 | .retv i,ss=>let s:=hs ss;(decide (i<c.tbl.length)&&seen sc (c.tbl.getD i Str.empty),[.Return (some (nameE c i (skid 0 s))) s.pos])
 | .brk,ss=>(true,[.Break (hs ss).pos])
 | .asrt e,ss=>let s:=hs ss;let x:=unE c sc e (skid 0 s);(x.1,[.Assert x.2 (smsg s) s.pos])
 | .bad,ss=>(true,[hs ss])
noncomputable def codeB (c:Cx) (sc:Scope) (code:S) (body:List Stmt):Bool:=isSeq code&&(unS c sc code body).1
end Mine
set_option genSizeOf false
set_option genInjectivity false
namespace Mine
noncomputable def TupAt (h:Heap) (a:Addr) (items:Array Value):Prop:=∃ n,h.get? a=some {cls:= .type "tuple",data:= .seq items n}
noncomputable def dicD:Data→Bool
 | .dict _ _=>true
 |_=>false
noncomputable def fldD:Data→Bool
 | .fields _=>true
 |_=>false
noncomputable def nonC:Value→Bool
 | .none=>true
 |_=>false
noncomputable def isTab (o:Obj):Bool:=dicD o.data || (nonC o.cls&&fldD o.data)
theorem cE {o:Obj} {v:Option Value} (h:o.data = .cell v):isTab o=false:=by
 unfold isTab;rw [h];exact Bool.and_false _
theorem bg {o:Obj} {v:FuncData} (h:o.data = .func v):isTab o=false:=by
 unfold isTab;rw [h];exact Bool.and_false _
theorem db {o:Obj} {t:String} (h:o.cls = .type t) (hd:dicD o.data=false):isTab o=false:=by
 unfold isTab;rw [h,hd];rfl
theorem bd {o:Obj} {t:String} {vs:Array Value} (h:o.cls = .type t) (hd:o.data = .fields vs):isTab o=false:=db h (by rw [hd];rfl)
theorem og {o:Obj} {t:String} (h:o.cls = .type t) (hd:o.data = .plain):isTab o=false:=db h (by rw [hd];rfl)
theorem TupAt.at' {h h':Heap} {a:Addr} {items:Array Value} (x:TupAt h a items) (e:∀ o,isTab o=false→h.get? a=some o→h'.get? a=some o):TupAt h' a items :=
 let ⟨n,ho⟩:=x;⟨n,e _ rfl ho⟩
theorem PL.at' {h h':Heap} {a:Addr} {items:Array Value} (x:h.PlainList a items) (e:∀ o,isTab o=false→h.get? a=some o→h'.get? a=some o):h'.PlainList a items :=
 let ⟨n,ho⟩:=x;⟨n,e _ rfl ho⟩
theorem PL.al {h:Heap} {a:Addr} {items:Array Value} (x:h.PlainList a items):∃ o,h.get? a=some o:=let ⟨_,ho⟩:=x;⟨_,ho⟩
theorem PL.lt {h:Heap} {a:Addr} {items:Array Value} (x:h.PlainList a items):a<h.objs.size:=let ⟨_,ho⟩:=x;Heap.lt_size ho
theorem PL.isList {h:Heap} {a:Addr} {items:Array Value} (x:h.PlainList a items):h.IsList a items:=let ⟨n,ho⟩:=x;⟨_,ho,rfl,n,rfl⟩
theorem TupAt.al {h:Heap} {a:Addr} {items:Array Value} (x:TupAt h a items):∃ o,h.get? a=some o:=let ⟨_,ho⟩:=x;⟨_,ho⟩
theorem TupAt.lt {h:Heap} {a:Addr} {items:Array Value} (x:TupAt h a items):a<h.objs.size:=let ⟨_,ho⟩:=x;Heap.lt_size ho
theorem TupAt.isTup {h:Heap} {a:Addr} {items:Array Value} (x:TupAt h a items):IsTup h a items:=let ⟨n,ho⟩:=x;⟨_,ho,rfl,n,rfl⟩
noncomputable def Kq (h h':Heap):Prop:=∀ b o,h.get? b=some o→h'.get? b=some o
theorem Kq.refl (h:Heap):Kq h h:=fun _ _ e=>e
theorem Kq.trans {a b c:Heap} (x:Kq a b) (y:Kq b c):Kq a c:=fun i o e=>y i o (x i o e)
theorem Kq.push (h:Heap) (o:Obj):Kq h (h.push o):=fun _ _ e=>Heap.get?_push_of_some _ e
theorem az (h:Heap):h.get? h.objs.size=none:=by
 cases e:h.get? h.objs.size with
 |none=>rfl
 |some o=>exact absurd (Heap.lt_size e) (Nat.lt_irrefl _)
noncomputable def Al (h:Heap) (b:Addr):Prop:=∃ o,h.get? b=some o
noncomputable def Dt (h:Heap) (b:Addr):Prop:=∃ o es n,h.get? b=some o∧o.data = .dict es n
theorem Dt.kq {h h':Heap} {b:Addr} (d:Dt h b) (k:∀ o,h.get? b=some o→h'.get? b=some o):Dt h' b:=let ⟨o,es,n,e1,e2⟩:=d;⟨o,es,n,k o e1,e2⟩
theorem Ns.dt {h:Heap} {a:Addr} {m:Str→Option Value} (x:h.Ns a m):Dt h a:=let ⟨o,es,ep,e1,e2,_⟩:=x;⟨o,es,ep,e1,e2⟩
theorem PL.nodt {h:Heap} {a:Addr} {items:Array Value} (x:h.PlainList a items):¬ Dt h a:=fun ⟨o,es,n,e1,e2⟩=>by
 obtain ⟨k,ho⟩:=x;rw [ho] at e1;cases e1;cases e2
theorem Cell.nodt {h:Heap} {a:Addr} {v:Option Value} (x:h.IsCell a v):¬ Dt h a:=fun ⟨o,es,n,e1,e2⟩=>by
 obtain ⟨o',h1,h2⟩:=x;rw [h1] at e1;cases e1;rw [h2] at e2;cases e2
class Tabs where
 tb:Addr→Prop
 q:Int→Int→Str
 fa:Addr→Prop
 dm:List (Str×Int)→Obj→Prop
 dmi:∀ {l l':List (Str×Int)} {o:Obj},dm l o→dm l' o→l=l'
variable [Tabs]
inductive TabV (h:Heap) (b:Addr):List Value→Prop
 |nil:TabV h b []
 |cons {l c:Int} {t u:Tok} {a:Addr} {o:Obj} {vs:Array Value} {tq:Tok} {r:List Value}:h.get? a=some o→o.cls = .type "code"→o.data = .fields vs→vs[1]? = some (.str (Tabs.q l c) tq)→TabV h b r→TabV h b (.int l t :: .int c u :: .ref a :: r)
noncomputable def NT (b:Addr) (o:Obj):Prop:=isTab o=false∨(dicD o.data=true∧¬ Tabs.fa b)
noncomputable def Gw (h':Heap) (b:Addr) (o:Obj):Prop :=
 h'.get? b=some o∨(Tabs.tb b∧∃ vs more:Array Value,o.cls = .none∧o.data = .fields vs∧h'.get? b=some {o with data:= .fields (vs++more)}∧TabV h' b more.toList) ∨
  (Tabs.fa b∧∃ es n sl,o.data = .dict es n∧h'.get? b=some {o with slots:=sl})
theorem Gw.ob {h':Heap} {b:Addr} {o:Obj} (g:Gw h' b o) (t:NT b o):h'.get? b=some o:=by
 rcases g with g |⟨_,vs,more,e1,e2,_⟩ |⟨f,es,n,sl,e1,_⟩
 ·exact g
 ·rcases t with t |t
  ·unfold isTab at t;rw [e1,e2] at t;cases t
  ·rw [e2] at t;exact nomatch t.1
 ·rcases t with t |t
  ·unfold isTab at t;rw [e1] at t;cases t
  ·exact absurd f t.2
theorem Gw.al {h':Heap} {b:Addr} {o:Obj} (g:Gw h' b o):Al h' b:=by
 rcases g with g |⟨_,vs,more,_,_,e,_⟩ |⟨_,es,n,sl,_,e⟩
 ·exact ⟨_,g⟩
 ·exact ⟨_,e⟩
 ·exact ⟨_,e⟩
theorem Gw.dict {h':Heap} {b:Addr} {o:Obj} {es:Array DictEntry} {n:Nat} (g:Gw h' b o) (hd:o.data = .dict es n):∃ sl,h'.get? b=some {o with slots:=sl}:=by
 rcases g with g |⟨_,vs,more,_,e2,_⟩ |⟨_,es',n',sl,_,e⟩
 ·exact ⟨o.slots,g⟩
 ·rw [hd] at e2;cases e2
 ·exact ⟨sl,e⟩
theorem Gw.obF {h':Heap} {b:Addr} {o:Obj} {es:Array DictEntry} {n:Nat} (g:Gw h' b o) (hd:o.data = .dict es n) (hf:¬ Tabs.fa b):h'.get? b=some o:=by
 rcases g with g |⟨_,vs,more,_,e2,_⟩ |⟨f,_⟩
 ·exact g
 ·rw [hd] at e2;cases e2
 ·exact absurd f hf
theorem Dt.gw {h h':Heap} {b:Addr} (d:Dt h b) (k:∀ o,h.get? b=some o→Gw h' b o):Dt h' b:=by
 obtain ⟨o,es,n,e1,e2⟩:=d
 obtain ⟨sl,e3⟩:=(k o e1).dict e2
 exact ⟨_,es,n,e3,e2⟩
noncomputable def Kp (h h':Heap):Prop:=∀ b o,h.get? b=some o→Gw h' b o
theorem Kp.of {h h':Heap} (k:∀ b o,h.get? b=some o→h'.get? b=some o):Kp h h':=fun b o e=> .inl (k b o e)
theorem Kp.refl (h:Heap):Kp h h:=fun _ _ e=> .inl e
theorem Kp.ob {h h':Heap} {b:Addr} {o:Obj} (k:Kp h h') (e:h.get? b=some o) (t:NT b o):h'.get? b=some o:=(k b o e).ob t
theorem Kp.at {h h':Heap} (k:Kp h h') (a:Addr):∀ o,isTab o=false→h.get? a=some o→h'.get? a=some o:=fun _ t e=>k.ob e (.inl t)
noncomputable def Cd (h h':Heap):Prop:=(∀ a o vs,o.cls = .type "code"→o.data = .fields vs→h.get? a=some o→h'.get? a=some o)∧∀ b,Dt h b→Dt h' b
theorem Cd.refl (h:Heap):Cd h h:=⟨fun _ _ _ _ _ e=>e,fun _ e=>e⟩
theorem Cd.trans {a b c:Heap} (x:Cd a b) (y:Cd b c):Cd a c:=⟨fun i o vs h1 h2 e=>y.1 i o vs h1 h2 (x.1 i o vs h1 h2 e),fun b d=>y.2 b (x.2 b d)⟩
theorem Kp.cd {h h':Heap} (k:Kp h h'):Cd h h':=⟨fun _ _ _ h1 h2 e=>k.ob e (.inl (bd h1 h2)),fun b d=>d.gw (k b)⟩
noncomputable def Cc (h h':Heap):Prop:=∀ a o vs,o.cls = .type "code"→o.data = .fields vs→h.get? a=some o→h'.get? a=some o
theorem TabV.up {h h':Heap} {b:Addr} (k:Cc h h'):∀ {l:List Value},TabV h b l→TabV h' b l
 |_,.nil=> .nil
 |_,.cons e1 e2 e3 e4 r=> .cons (k _ _ _ e2 e3 e1) e2 e3 e4 (r.up k)
theorem TabV.app {h:Heap} {b:Addr} {m:List Value} (y:TabV h b m):∀ {l:List Value},TabV h b l→TabV h b (l++m)
 |_,.nil=>y
 |_,.cons e1 e2 e3 e4 r=> .cons e1 e2 e3 e4 (TabV.app y r)
theorem Gw.thenC {h1 h2:Heap} {b:Addr} {o:Obj} (g:Gw h1 b o) (k:∀ o,h1.get? b=some o→Gw h2 b o) (kk:Cc h1 h2):Gw h2 b o:=by
 rcases g with g |⟨t,vs,more,e1,e2,e3,e4⟩ |⟨t,es,n,sl,e1,e2⟩
 ·exact k _ g
 ·rcases k _ e3 with g |⟨_,vs',more',f1,f2,f3,f4⟩ |⟨_,es,n,sl,f1,_⟩
  ·exact .inr (.inl ⟨t,vs,more,e1,e2,g,e4.up kk⟩)
  ·cases f2
   refine .inr (.inl ⟨t,vs,more++more',e1,e2,?_,?_⟩)
   ·rw [← Array.append_assoc];exact f3
   ·rw [Array.toList_append];exact TabV.app f4 (e4.up kk)
  ·cases f1
 ·obtain ⟨sl',e3⟩:=(k _ e2).dict e1
  exact .inr (.inr ⟨t,es,n,sl',e1,e3⟩)
theorem Gw.then {h1 h2:Heap} {b:Addr} {o:Obj} (g:Gw h1 b o) (k:∀ o,h1.get? b=some o→Gw h2 b o) (kk:Cd h1 h2):Gw h2 b o:=g.thenC k kk.1
theorem Kp.trans {a b c:Heap} (x:Kp a b) (y:Kp b c):Kp a c:=fun i o e=>(x i o e).then (y i) y.cd
theorem Kp.push (h:Heap) (o:Obj):Kp h (h.push o):= .of fun _ _ e=>Heap.get?_push_of_some _ e
theorem Cc.sb {b c:Heap} {D:Addr} (sb:∀ x o,x≠D→b.get? x=some o→c.get? x=some o) (hd:∀ o,b.get? D=some o→∀ vs,o.data ≠ .fields vs):Cc b c:=fun x o vs _ h2 e=>sb x o (fun q=>hd o (q▸e) vs h2) e
theorem Cd.sb {b c:Heap} {D:Addr} (sb:∀ x o,x≠D→b.get? x=some o→c.get? x=some o) (hd:∀ o,b.get? D=some o→∀ vs,o.data ≠ .fields vs) (hdt:Dt b D→Dt c D):Cd b c :=
 ⟨fun x o vs _ h2 e=>sb x o (fun q=>hd o (q▸e) vs h2) e,fun x d=>by
  by_cases q:x=D
  ·subst q;exact hdt d
  ·exact d.kq fun o e=>sb x o q e⟩
theorem Kp.sb {a b c:Heap} {D:Addr} (k:Kp a b) (hn:a.get? D=none) (sb:∀ x o,x≠D→b.get? x=some o→c.get? x=some o) (hd:∀ o,b.get? D=some o→∀ vs,o.data ≠ .fields vs):Kp a c :=
 fun x o e=>(k x o e).thenC (fun o' e'=> .inl (sb x o' (fun q=>by rw [q,hn] at e;cases e) e')) (Cc.sb sb hd)
theorem Dt.al {h:Heap} {b:Addr} (d:Dt h b):Al h b:=let ⟨o,_,_,e,_⟩:=d;⟨o,e⟩
theorem Cd.sbn {a b c:Heap} {D:Addr} (x:Cd a b) (hn:a.get? D=none) (sb:∀ x o,x≠D→b.get? x=some o→c.get? x=some o) (hd:∀ o,b.get? D=some o→∀ vs,o.data ≠ .fields vs):Cd a c :=
 ⟨fun i o vs h1 h2 e=>Cc.sb sb hd i o vs h1 h2 (x.1 i o vs h1 h2 e),fun i d=>(x.2 i d).kq fun o e=>sb i o (fun q=>by obtain ⟨o',e'⟩:=d.al;rw [q,hn] at e';cases e') e⟩
theorem PL.nofields {h:Heap} {a:Addr} {items:Array Value} (x:h.PlainList a items):∀ o,h.get? a=some o→∀ vs,o.data ≠ .fields vs:=fun o e vs q=>by
 obtain ⟨n,ho⟩:=x;rw [e] at ho;cases ho;cases q
theorem Ns.nofields {h:Heap} {a:Addr} {m:Str→Option Value} (x:h.Ns a m):∀ o,h.get? a=some o→∀ vs,o.data ≠ .fields vs:=fun o e vs q=>by
 obtain ⟨o',es,ep,ho,hd,_⟩:=x;rw [e] at ho;cases ho;rw [hd] at q;cases q
theorem Kp.none {h h':Heap} {b:Addr} (k:Kp h h') (e:h'.get? b=none):h.get? b=none:=by
 cases q:h.get? b with
 |none=>rfl
 |some o=>obtain ⟨o',e'⟩:=(k _ _ q).al;rw [e] at e';cases e'
theorem Kp.ns {h h':Heap} {a:Addr} {m:Str→Option Value} (k:Kp h h') (n:h.Ns a m):h'.Ns a m:=by
 obtain ⟨o,es,ep,e1,e2,e3⟩:=n
 obtain ⟨sl,e4⟩:=(k a o e1).dict e2
 exact ⟨_,es,ep,e4,e2,e3⟩
theorem Ns.gw {h h':Heap} {a:Addr} {m:Str→Option Value} (n:h.Ns a m) (k:∀ o,h.get? a=some o→Gw h' a o):h'.Ns a m:=by
 obtain ⟨o,es,ep,e1,e2,e3⟩:=n
 obtain ⟨sl,e4⟩:=(k o e1).dict e2
 exact ⟨_,es,ep,e4,e2,e3⟩
theorem Kp.cell {h h':Heap} {a:Addr} {v:Option Value} (k:Kp h h') (n:h.IsCell a v):h'.IsCell a v:=by
 obtain ⟨o,e1,e2⟩:=n
 exact ⟨o,k.ob e1 (.inl (cE e2)),e2⟩
class Frk where
 fs:Option (List Env)
 dl:Option Addr
structure KB [Frk] (hB h:Heap):Prop where
 kp:Kp hB h
 al:∀ l,Frk.fs=some l→∀ e∈l,e.scope.kind ≠ .module∧∃ L,e.frame=some L∧Tabs.fa L∧Dt h L
 dl:∀ b,Frk.dl=some b→Dt h b
section
variable [Frk]
theorem KB.cdt {hB h h':Heap} (k:KB hB h) (kp:Kp hB h') (c:Cd h h'):KB hB h':=⟨kp,fun l hl e he=>let ⟨h1,L,h2,h3,h4⟩:=k.al l hl e he;⟨h1,L,h2,h3,c.2 L h4⟩,fun b hb=>c.2 b (k.dl b hb)⟩
theorem KB.trans {hB h h':Heap} (k:KB hB h) (y:Kp h h'):KB hB h':=k.cdt (k.kp.trans y) y.cd
theorem KB.ob {h h':Heap} {b:Addr} {o:Obj} (k:KB h h') (e:h.get? b=some o) (t:NT b o):h'.get? b=some o:=k.kp.ob e t
theorem KB.none {h h':Heap} {b:Addr} (k:KB h h') (e:h'.get? b=Option.none):h.get? b=Option.none:=k.kp.none e
theorem KB.ns {h h':Heap} {a:Addr} {m:Str→Option Value} (k:KB h h') (n:h.Ns a m):h'.Ns a m:=k.kp.ns n
end
theorem Al.keep {h h':Heap} {b:Addr} (k:Kp h h') (a:Al h b):Al h' b:=let ⟨o,e⟩:=a;(k _ _ e).al
theorem Al.ne {h:Heap} {a b:Addr} (x:Al h a) (y:h.get? b=none):a≠b:=by
 rintro rfl;obtain ⟨o,e⟩:=x;rw [y] at e;cases e
mutual
noncomputable def Den (h:Heap) (X:Addr→Prop):D→Value→Prop
 | .none,v=>v = .none
 | .bool b,v=>v = .bool b
 | .int i,v=>∃ t,v = .int i t
 | .str x,v=>∃ t,v = .str x t
 | .list ds,v=>∃ a items,v = .ref a∧¬ X a∧h.PlainList a items∧DenL h X ds items.toList
 | .tup ds,v=>∃ a items,v = .ref a∧¬ X a∧TupAt h a items∧DenL h X ds items.toList
 | .dmap l,v=>∃ a o,v = .ref a∧¬ X a∧(h.get? a=some o∧dicD o.data=true∧¬ Tabs.fa a)∧Tabs.dm l o
noncomputable def DenL (h:Heap) (X:Addr→Prop):List D→List Value→Prop
 | [],vs=>vs=[]
 |d :: ds,vs=>∃ v r,vs=v :: r∧Den h X d v∧DenL h X ds r
end
mutual
theorem Den.mono {h h':Heap} {X X':Addr→Prop} (hk:∀ b o,¬ X b→NT b o→h.get? b=some o→h'.get? b=some o) (hx:∀ b,Al h b→¬ X b→¬ X' b) :
  ∀ (d:D) (v:Value),Den h X d v→Den h' X' d v
 | .none,v,e=>e
 | .bool b,v,e=>e
 | .int i,v,e=>e
 | .str x,v,e=>e
 | .list ds,v,⟨a,items,e,n,l,r⟩=>⟨a,items,e,hx a (PL.al l) n,PL.at' l fun o t=>hk a o n (.inl t),DenL.mono hk hx ds _ r⟩
 | .tup ds,v,⟨a,items,e,n,l,r⟩=>⟨a,items,e,hx a (TupAt.al l) n,TupAt.at' l fun o t=>hk a o n (.inl t),DenL.mono hk hx ds _ r⟩
 | .dmap l,v,⟨a,o,e,n,⟨e1,e2⟩,q⟩=>⟨a,o,e,hx a ⟨o,e1⟩ n,⟨hk a o n (.inr e2) e1,e2⟩,q⟩
theorem DenL.mono {h h':Heap} {X X':Addr→Prop} (hk:∀ b o,¬ X b→NT b o→h.get? b=some o→h'.get? b=some o) (hx:∀ b,Al h b→¬ X b→¬ X' b) :
  ∀ (ds:List D) (vs:List Value),DenL h X ds vs→DenL h' X' ds vs
 | [],vs,e=>e
 |d :: ds,vs,⟨v,r,e,a,b⟩=>⟨v,r,e,Den.mono hk hx d v a,DenL.mono hk hx ds r b⟩
end
theorem Den.keep {h h':Heap} {X:Addr→Prop} {d:D} {v:Value} (k:Kp h h') (e:Den h X d v):Den h' X d v:=Den.mono (fun b o _ t e=>k.ob e t) (fun _ _ n=>n) d v e
theorem DenL.keep {h h':Heap} {X:Addr→Prop} {ds:List D} {vs:List Value} (k:Kp h h') (e:DenL h X ds vs):DenL h' X ds vs:=DenL.mono (fun b o _ t e=>k.ob e t) (fun _ _ n=>n) ds vs e
noncomputable def DenT (h:Heap) (X:Addr→Prop):D→Value→Prop
 | .list ds,v=>∃ a items,v = .ref a∧h.PlainList a items∧DenL h X ds items.toList
 |d,v=>Den h X d v
theorem Den.top {h:Heap} {X:Addr→Prop} {d:D} {v:Value} (e:Den h X d v):DenT h X d v:=by
 cases d with
 |list ds=>obtain ⟨a,items,e,_,l,r⟩:=e;exact ⟨a,items,e,l,r⟩
 |_=>exact e
theorem DenT.keep {h h':Heap} {X:Addr→Prop} {d:D} {v:Value} (k:Kp h h') (e:DenT h X d v):DenT h' X d v:=by
 cases d with
 |list ds=>obtain ⟨a,items,e,l,r⟩:=e;exact ⟨a,items,e,PL.at' l (k.at a),r.keep k⟩
 |_=>exact Den.keep k e
noncomputable def DenR (h:Heap) (X:Addr→Prop) (b:Bool) (d:D) (v:Value):Prop:=if b then DenT h X d v else Den h X d v
theorem DenR.top {h:Heap} {X:Addr→Prop} {b:Bool} {d:D} {v:Value} (e:DenR h X b d v):DenT h X d v:=by
 cases b
 ·exact Den.top e
 ·exact e
theorem DenR.keep {h h':Heap} {X:Addr→Prop} {b:Bool} {d:D} {v:Value} (k:Kp h h') (e:DenR h X b d v):DenR h' X b d v:=by
 cases b
 ·exact Den.keep k e
 ·exact DenT.keep k e
theorem Den.toR {h:Heap} {X:Addr→Prop} {b:Bool} {d:D} {v:Value} (e:Den h X d v):DenR h X b d v:=by
 cases b
 ·exact e
 ·exact Den.top e
theorem Den.scal {h h':Heap} {X X':Addr→Prop} {d:D} {v:Value} (hs:d.scalar=true) (e:Den h X d v):Den h' X' d v:=by
 cases d<;>first |exact e |cases hs
theorem DenL.length {h:Heap} {X:Addr→Prop}:∀ {ds:List D} {vs:List Value},DenL h X ds vs→vs.length=ds.length
 | [],vs,e=>by rw [show vs=[] from e];rfl
 |d :: ds,vs,⟨v,r,e,_,b⟩=>by rw [e,List.length_cons,List.length_cons,b.length]
theorem DenL.get {h:Heap} {X:Addr→Prop}:∀ {ds:List D} {vs:List Value} {i:Nat} {d:D},DenL h X ds vs→ds[i]? = some d→∃ v,vs[i]? = some v∧Den h X d v
 |d :: ds,vs,0,_,⟨v,r,e,a,_⟩,hi=>by
  cases hi;exact ⟨v,by rw [e];rfl,a⟩
 |d :: ds,vs,i+1,_,⟨v,r,e,_,b⟩,hi=>by
  obtain ⟨v',h1,h2⟩:=b.get (i:=i) (by simpa using hi)
  exact ⟨v',by rw [e];simpa using h1,h2⟩
theorem DenL.get' {h:Heap} {X:Addr→Prop} {ds:List D} {vs:List Value} {i:Nat} {v:Value} (x:DenL h X ds vs) (hv:vs[i]? = some v):∃ d,ds[i]? = some d∧Den h X d v:=by
 have hi:i<vs.length:=(List.getElem?_eq_some_iff.mp hv).1
 rw [x.length] at hi
 obtain ⟨v',h1,h2⟩:=x.get (List.getElem?_eq_getElem hi)
 rw [hv] at h1;cases h1
 exact ⟨_,List.getElem?_eq_getElem hi,h2⟩
theorem DenL.append {h:Heap} {X:Addr→Prop}:∀ {ds es:List D} {vs ws:List Value},DenL h X ds vs→DenL h X es ws→DenL h X (ds++es) (vs++ws)
 | [],es,vs,ws,e,f=>by rw [show vs=[] from e];exact f
 |d :: ds,es,vs,ws,⟨v,r,e,a,b⟩,f=>⟨v,r++ws,by rw [e];rfl,a,b.append f⟩
theorem DenL.single {h:Heap} {X:Addr→Prop} {d:D} {v:Value} (e:Den h X d v):DenL h X [d] [v]:=⟨v,[],rfl,e,rfl⟩
theorem DenL.of_get {h:Heap} {X:Addr→Prop}:∀ {ds:List D} {vs:List Value},vs.length=ds.length→(∀ (i:Nat) d,ds[i]? = some d→∃ v,vs[i]? = some v∧Den h X d v)→DenL h X ds vs
 | [],vs,hl,_=>List.eq_nil_of_length_eq_zero hl
 |d :: ds,[],hl,_=>by cases hl
 |d :: ds,v :: r,hl,hg=>by
  obtain ⟨v',h1,h2⟩:=hg 0 d rfl
  cases h1
  exact ⟨v,r,rfl,h2,DenL.of_get (by simpa using hl) fun i d hd=>by
   obtain ⟨v',h1,h2⟩:=hg (i+1) d (by simpa using hd)
   exact ⟨v',by simpa using h1,h2⟩⟩
theorem DenL.reverse {h:Heap} {X:Addr→Prop}:∀ {ds:List D} {vs:List Value},DenL h X ds vs→DenL h X ds.reverse vs.reverse
 | [],vs,e=>by rw [show vs=[] from e];exact rfl
 |d :: ds,vs,⟨v,r,e,a,b⟩=>by
  rw [e,List.reverse_cons,List.reverse_cons]
  exact b.reverse.append (.single a)
theorem DenL.set {h:Heap} {X:Addr→Prop} {d:D} {v:Value} (hd:Den h X d v):∀ {ds:List D} {vs:List Value} {i:Nat},DenL h X ds vs→DenL h X (ds.set i d) (vs.set i v)
 | [],vs,i,e=>by rw [show vs=[] from e];exact rfl
 |e :: ds,vs,0,⟨v',r,e',a,b⟩=>⟨v,r,by rw [e'];rfl,hd,b⟩
 |e :: ds,vs,i+1,⟨v',r,e',a,b⟩=>⟨v',r.set i v,by rw [e'];rfl,a,b.set hd⟩
theorem DenL.erase {h:Heap} {X:Addr→Prop}:∀ {ds:List D} {vs:List Value} {i:Nat},DenL h X ds vs→DenL h X (ds.eraseIdx i) (vs.eraseIdx i)
 | [],vs,i,e=>by rw [show vs=[] from e];exact rfl
 |e :: ds,vs,0,⟨v',r,e',a,b⟩=>by rw [e'];exact b
 |e :: ds,vs,i+1,⟨v',r,e',a,b⟩=>⟨v',r.eraseIdx i,by rw [e'];rfl,a,b.erase⟩
theorem DenL.pick {h:Heap} {X:Addr→Prop} {ds:List D} {vs:List Value} (x:DenL h X ds vs):∀ (is:List Nat),DenL h X (is.filterMap (ds[·]?)) (is.filterMap (vs[·]?))
 | []=>rfl
 |i :: is=>by
  have ih:=x.pick is
  simp only [List.filterMap_cons]
  cases hd:ds[i]? with
  |none =>
   have:vs[i]? = none:=by
    rw [List.getElem?_eq_none_iff] at hd ⊢;rw [x.length];exact hd
   rw [this];exact ih
  |some d =>
   obtain ⟨v,h1,h2⟩:=x.get hd
   rw [h1];exact ⟨v,_,rfl,h2,ih⟩
theorem DenL.tail_mem {h:Heap} {X:Addr→Prop} {ds:List D} {vs:List Value} (x:DenL h X ds vs):∀ d∈ds,∃ v,v∈vs∧Den h X d v:=fun d hd=>by
 obtain ⟨i,hi⟩:=List.getElem?_of_mem hd
 obtain ⟨v,h1,h2⟩:=x.get hi
 exact ⟨v,List.mem_of_getElem? h1,h2⟩
theorem fW {h:Heap} {X:Addr→Prop}:∀ {ds:List D} {ns:List Int} {vs:List Value},ints? ds=some ns→DenL h X ds vs→IntsAre vs ns∧ns.length=ds.length
 | [],ns,vs,e,x=>by rw [← sm e,show vs=[] from x];exact ⟨.nil,rfl⟩
 |d :: ds,ns,vs,e,⟨v,r,e',a,b⟩=>ae e fun i hi e=>ax e fun ns' e1 e2=>aM (P:=fun d=>Den h X d v→_) hi (fun ⟨t,ht⟩=>by
  have ⟨h1,h2⟩:=fW e1 b
  rw [e',ht,← e2]
  exact ⟨by constructor;exact h1,congrArg (· + 1) h2⟩) a
theorem kH {h:Heap} {X:Addr→Prop}:∀ {ds:List D} {ts:List Str} {vs:List Value},strs? ds=some ts→DenL h X ds vs→∃ l:List (Str×Tok),vs=strValues l∧l.map (·.1)=ts
 | [],ts,vs,e,x=>⟨[],x,sm e⟩
 |d :: ds,ts,vs,e,⟨v,r,e',a,b⟩=>ae e fun y hi e=>ax e fun ts' e1 e2=>cV (P:=fun d=>Den h X d v→_) hi (fun ⟨t,ht⟩=>by
  have ⟨l,h1,h2⟩:=kH e1 b
  exact ⟨(y,t) :: l,by rw [e',ht,h1];rfl,by rw [← e2,← h2];rfl⟩) a
structure FrM (env:Env) (h:Heap) (m cm:Str→Option Value):Prop where
 ns:h.Ns env.locals m
 cell:∀ n c,env.cells.lookup n=some c→h.IsCell c (cm n)
 offL:∀ n c,env.cells.lookup n=some c→c≠env.locals
 inj:∀ n n' c,env.cells.lookup n=some c→env.cells.lookup n'=some c→n=n'
 has:∀ x,env.kindOf x=some .cell∨env.kindOf x=some .free→∃ c,env.cells.lookup x=some c
noncomputable def valK (l c:Option Value):Option NameKind→Option Value
 |some .local=>l
 |some .cell=>c
 |some .free=>c
 |_=>none
noncomputable def valOf (env:Env) (m cm:Str→Option Value) (x:Str):Option Value:=valK (m x) (cm x) (env.kindOf x)
theorem FrM.keep {env:Env} {h h':Heap} {m cm:Str→Option Value} (F:FrM env h m cm) (k:Kp h h'):FrM env h' m cm :=
 ⟨k.ns F.ns,fun n c e=>k.cell (F.cell n c e),F.offL,F.inj,F.has⟩
noncomputable def DenV (h:Heap) (X:Addr→Prop) (x:Bool) (d:D) (v:Value):Prop :=
 if x then ∃ a items ds,v = .ref a∧d = .list ds∧h.PlainList a items∧DenL h X ds items.toList else Den h X d v
theorem DenV.keep {h h':Heap} {X:Addr→Prop} {x:Bool} {d:D} {v:Value} (k:Kp h h') (e:DenV h X x d v):DenV h' X x d v:=by
 cases x
 ·exact Den.keep k e
 ·obtain ⟨a,items,ds,e1,e2,l,r⟩:=e
  exact ⟨a,items,ds,e1,e2,PL.at' l (k.at a),r.keep k⟩
theorem DenV.top {h:Heap} {X:Addr→Prop} {x:Bool} {d:D} {v:Value} (e:DenV h X x d v):DenT h X d v:=by
 cases x
 ·exact Den.top e
 ·obtain ⟨a,items,ds,e1,e2,l,r⟩:=e
  subst e2;exact ⟨a,items,e1,l,r⟩
structure je (env:Env):Prop where
 kind:env.scope.kind = .function
 glob:env.globals=mainGlobals
 blt:env.builtins=builtinsNs
structure RR (env:Env) (tbl:List Str) (Ex:Addr→Prop) (ow:Nat→Addr) (σ:MEnv) (h:Heap):Prop where
 ok:je env
 nd:tbl.Nodup
 lt:∀ b,Ex b→Al h b
 own:Ex env.locals∧∀ n c,env.cells.lookup n=some c→Ex c
 fr:∃ m cm,FrM env h m cm∧∀ i x d b,tbl[i]? = some x→getE σ i=some (d,b)→seen env.scope x=true→∃ v,valOf env m cm x=some v∧DenV h Ex b d v∧(b=true→v = .ref (ow i))
theorem RR.keep {env:Env} {tbl:List Str} {Ex:Addr→Prop} {ow:Nat→Addr} {σ:MEnv} {h h':Heap} (R:RR env tbl Ex ow σ h) (k:Kp h h'):RR env tbl Ex ow σ h':=by
 obtain ⟨ok,nd,lt,own,m,cm,F,hv⟩:=R
 refine ⟨ok,nd,fun b hb=>(lt b hb).keep k,own,m,cm,F.keep k,fun i x d b h1 h2 h3=> ?_⟩
 obtain ⟨v,e,dv,hw⟩:=hv i x d b h1 h2 h3
 exact ⟨v,e,dv.keep k,hw⟩
theorem fe {sc:Scope} {x:Str} (h:seen sc x=true):sc.names.lookup x=some .local∨sc.names.lookup x=some .cell∨sc.names.lookup x=some .free:=by
 unfold seen at h
 cases hk:sc.names.lookup x with
 |none=>rw [hk] at h;cases h
 |some k=>cases k<;>first |exact .inl rfl |exact .inr (.inl rfl) |exact .inr (.inr rfl) |(rw [hk] at h;cases h)
theorem idOf_get {l:List Str} {x:Str} {i:Nat} (h:idOf l x=some i):l[i]? = some x:=by
 unfold idOf at h
 obtain ⟨hi,hp,_⟩:=List.findIdx?_eq_some_iff_getElem.mp h
 rw [List.getElem?_eq_getElem hi]
 simpa using hp
section
variable {M:Model} {A:Around} {E:Value→Shared→Prop} {s:Shared} {env:Env} {tbl:List Str} {Ex:Addr→Prop} {ow:Nat→Addr} {σ:MEnv}
theorem cY {x:Str} {i:Nat} {d:D} {b:Bool} {Q:Value→Shared→Prop} (R:RR env tbl Ex ow σ s.heap) (hs:seen env.scope x=true) (hi:tbl[i]? = some x)
  (hg:getE σ i=some (d,b)) (hcd:(x==("__classdict__":Str))=false) (h:∀ v,DenV s.heap Ex b d v→(b=true→v = .ref (ow i))→Q v s):wpAny M A (loadName env x) Q E s:=by
 obtain ⟨ok,nd,lt,own,m,cm,F,hv⟩:=R
 obtain ⟨v,e,dv,hw⟩:=hv i x d b hi hg hs
 have hk:=fe hs
 unfold valOf Env.kindOf at e
 rcases hk with hk |hk |hk
 ·rw [hk] at e
  exact wpAny_loadName_local ok.kind hk F.ns e (h v dv hw)
 ·rw [hk] at e
  obtain ⟨c,hc⟩:=F.has x (.inl hk)
  exact wpAny_loadName_cell ok.kind hk hc (e▸F.cell x c hc) (h v dv hw)
 ·rw [hk] at e
  obtain ⟨c,hc⟩:=F.has x (.inr hk)
  exact wpAny_loadName_free ok.kind hk hc (e▸F.cell x c hc) (h v dv hw) hcd
theorem ro {x:Str} {i:Nat} {pos:Pos} {d:D} {b:Bool} {Q:Value→Shared→Prop} (R:RR env tbl Ex ow σ s.heap) (hs:seen env.scope x=true) (hi:tbl[i]? = some x)
  (hg:getE σ i=some (d,b)) (hd:(x==("__debug__":Str))=false) (hcd:(x==("__classdict__":Str))=false) (h:∀ v,DenV s.heap Ex b d v→Q v s):wpAny M A (eval (.Name x pos) env) Q E s :=
 wpAny_Name (cY R hs hi hg hcd fun v dv _=>h v dv) hd
end
end Mine
set_option genSizeOf false
set_option genInjectivity false
namespace Mine
variable [Tabs] [Frk]
theorem cx {a:Int} (h:small a=true):Builtin.Int.intBits a≤4000:=PySem.intBits_le_iff.mpr (by unfold small BIG at h;simpa using h)
theorem dc {x y:Int} (h:small y=true):Builtin.divisionGoesByPylong x y=false:=by
 refine PyProof.noPylong_of_log2 ?_
 have h2:y.natAbs<2 ^ 4000:=by unfold small BIG at h;simpa using h
 by_cases h0:y.natAbs=0
 ·rw [h0];decide
 ·exact Nat.lt_trans ((Nat.log2_lt h0).mpr h2) (by decide)
noncomputable def FrV (h h':Heap) (Ex:Addr→Prop) (d:D) (v:Value):Prop :=
 ∃ a items ds,v = .ref a∧h.get? a=none∧d = .list ds∧h'.PlainList a items∧DenL h' (fun b=>Ex b∨b=a) ds items.toList
noncomputable def Ps (s:Shared) (Ex:Addr→Prop) (d:D) (fr:Bool) (Q:Value→Shared→Prop):Prop :=
 ∀ v h' tk,Kp s.heap h'→Den h' Ex d v→(fr=true→FrV s.heap h' Ex d v)→Q v {s with heap:=h',toks:=tk}
theorem Ps.now {s:Shared} {Ex:Addr→Prop} {d:D} {Q:Value→Shared→Prop} {v:Value} (P:Ps s Ex d false Q) (tk:Nat) (hd:Den s.heap Ex d v):Q v {s with toks:=tk} :=
 P v s.heap tk (Kp.refl _) hd (fun h=>by cases h)
theorem Ps.here {s:Shared} {Ex:Addr→Prop} {d:D} {Q:Value→Shared→Prop} {v:Value} (P:Ps s Ex d false Q) (hd:Den s.heap Ex d v):Q v s:=P.now s.toks hd
structure Ar (n:Nat) (A:Around):Prop where
 hd:A.handled=none
 depth:A.depth+n≤900
 units:A.units+4 * n≤9000
 fr:∀ l,Frk.fs=some l→A.frames=some l
theorem Ar.mono {n m:Nat} {A:Around} (h:Ar n A) (l:m≤n):Ar m A:=⟨h.hd,Nat.le_trans (Nat.add_le_add_left l _) h.depth,Nat.le_trans (Nat.add_le_add_left (Nat.mul_le_mul_left 4 l) _) h.units,h.fr⟩
theorem Ar.deep (off:Frk.fs=none) {n:Nat} {A:Around} (h:Ar (n+1) A) (env:Env):Ar n (A.deeper env) :=
 ⟨h.hd,Nat.le_trans (Nat.le_of_eq ((Nat.add_assoc _ _ _).trans (congrArg _ (Nat.add_comm 1 n)))) h.depth,Nat.le_trans (show A.units+3+4 * n≤A.units+(4 * n+4) from Nat.le_trans (Nat.le_of_eq ((Nat.add_assoc _ _ _).trans (congrArg _ (Nat.add_comm 3 _)))) (Nat.add_le_add_left (Nat.add_le_add_left (by decide) _) _)) h.units,fun l hl=>ah (off.symm.trans hl)⟩
section
variable {prog:Program} {w:World} {A:Around} {E:Value→Shared→Prop} {s:Shared} {Ex:Addr→Prop}
theorem Ps.newList {ds:List D} {items:List Value} {fr:Bool} {Q:Value→Shared→Prop} (P:Ps s Ex (.list ds) fr Q) (lt:∀ b,Ex b→Al s.heap b) (hd:DenL s.heap Ex ds items) (tk:Nat) :
  Q (.ref s.heap.objs.size) {s with heap:=s.heap.push {cls:= .type "list",data:= .seq items.toArray},toks:=tk}:=by
 have k:=Kp.push s.heap {cls:= .type "list",data:= .seq items.toArray}
 have pl:(s.heap.push {cls:= .type "list",data:= .seq items.toArray}).PlainList s.heap.objs.size items.toArray:=⟨0,Heap.get?_push_size _ rfl⟩
 refine P _ _ tk k ⟨_,_,rfl,fun e=>(lt _ e).ne (az _) rfl,pl,hd.keep k⟩ fun _=>⟨_,_,ds,rfl,az _,rfl,pl,?_⟩
 exact DenL.mono (fun b o _ t e=>k.ob e t) (fun b hb n e=>e.elim n fun e=>hb.ne (az _) e) _ _ hd
theorem Ps.int {i:Int} {d:D} {Q:Value→Shared→Prop} (P:Ps s Ex d false Q) (h:some (D.int i)=some d) (t:Tok) (tk:Nat):Q (.int i t) {s with toks:=tk}:=P.now tk (sm h▸⟨t,rfl⟩)
theorem Ps.str {i:Str} {d:D} {Q:Value→Shared→Prop} (P:Ps s Ex d false Q) (h:some (D.str i)=some d) (t:Tok) (tk:Nat):Q (.str i t) {s with toks:=tk}:=P.now tk (sm h▸⟨t,rfl⟩)
theorem aT {op:Operator} {a b d:D} {va vb:Value} {Q:Value→Shared→Prop} {f:Int→Int→Option D} (ha:DenT s.heap Ex a va) (hb:DenT s.heap Ex b vb) (hd:ii f a b=some d)
  (h:∀ i j t u,f i j=some d→wpAny (model prog w) A (binaryOp op (.int i t) (.int j u)) Q E s):wpAny (model prog w) A (binaryOp op va vb) Q E s :=
 nu (P:=fun a b=>DenT s.heap Ex a va→DenT s.heap Ex b vb→_) hd (fun i j hf ⟨t,ha⟩ ⟨u,hb⟩=>by rw [ha,hb];exact h i j t u hf) ha hb
end
end Mine
set_option genSizeOf false
set_option genInjectivity false
namespace Mine
variable [Tabs] [Frk]
noncomputable def vkd:Value→Nat
 | .none=>0
 | .bool _=>1
 | .int _ _=>2
 | .str _ _=>3
 |_=>4
noncomputable def dkd:D→Nat
 | .none=>0
 | .bool _=>1
 | .int _=>2
 | .str _=>3
 | .list _=>4
 | .tup _=>4
 | .dmap _=>4
theorem pC {h:Heap} {X:Addr→Prop} {d:D} {v:Value} (e:DenT h X d v):vkd v=dkd d:=by
 cases d with
 |none=>rw [show v=_ from e];rfl
 |bool b=>rw [show v=_ from e];rfl
 |int i=>obtain ⟨t,e⟩:=e;rw [e];rfl
 |str i=>obtain ⟨t,e⟩:=e;rw [e];rfl
 |list ds=>obtain ⟨a,_,e,_⟩:=e;rw [e];rfl
 |tup ds=>obtain ⟨a,_,e,_⟩:=e;rw [e];rfl
 |dmap l=>obtain ⟨a,_,e,_⟩:=e;rw [e];rfl
theorem dS {h:Heap} {X X':Addr→Prop} {d d':D} {v:Value} {P:Prop} (e:DenT h X d v) (f:DenT h X' d' v) (n:Nat.beq (dkd d) (dkd d')=false):P :=
 absurd ((pC e).symm.trans (pC f)) (Nat.ne_of_beq_eq_false n)
theorem qY {h:Heap} {a:Addr} {i j:Array Value} {P:Prop} (l:h.PlainList a i) (t:TupAt h a j):P:=by
 obtain ⟨n,l⟩:=l
 obtain ⟨m,t⟩:=t
 rw [l] at t
 exact absurd (Value.type.inj (congrArg Obj.cls (sm t))) (by decide)
theorem qJ {h:Heap} {a:Addr} {i:Array Value} {o:Obj} {P:Prop} (l:h.PlainList a i) (t:h.get? a=some o) (d:dicD o.data=true):P:=by
 obtain ⟨n,l⟩:=l
 rw [l] at t
 rw [← sm t] at d
 exact nomatch d
theorem lP {h:Heap} {a:Addr} {i:Array Value} {o:Obj} {P:Prop} (l:TupAt h a i) (t:h.get? a=some o) (d:dicD o.data=true):P:=by
 obtain ⟨n,l⟩:=l
 rw [l] at t
 rw [← sm t] at d
 exact nomatch d
theorem zW {h:Heap} {a:Addr} {i j:Array Value} (l:h.PlainList a i) (t:h.PlainList a j):i=j:=by
 obtain ⟨n,l⟩:=l
 obtain ⟨m,t⟩:=t
 rw [l] at t
 exact (Data.seq.inj (congrArg Obj.data (sm t))).1
theorem yo {h:Heap} {a:Addr} {i j:Array Value} (l:TupAt h a i) (t:TupAt h a j):i=j:=by
 obtain ⟨n,l⟩:=l
 obtain ⟨m,t⟩:=t
 rw [l] at t
 exact (Data.seq.inj (congrArg Obj.data (sm t))).1
mutual
theorem Den.fn {h:Heap} {X X':Addr→Prop}:∀ (d d':D) (v:Value),DenT h X d v→DenT h X' d' v→d=d'
 | .none,d',v,e,f=>by
  cases d' with
  |none=>rfl
  |_=>exact dS e f rfl
 | .bool b,d',v,e,f=>by
  cases d' with
  |bool b'=>exact congrArg D.bool (Value.bool.inj ((show v=_ from e).symm.trans f))
  |_=>exact dS e f rfl
 | .int b,d',v,e,f=>by
  cases d' with
  |int b' =>
   obtain ⟨t,e⟩:=e
   obtain ⟨u,f⟩:=f
   exact congrArg D.int (Value.int.inj (e.symm.trans f)).1
  |_=>exact dS e f rfl
 | .str b,d',v,e,f=>by
  cases d' with
  |str b' =>
   obtain ⟨t,e⟩:=e
   obtain ⟨u,f⟩:=f
   exact congrArg D.str (Value.str.inj (e.symm.trans f)).1
  |_=>exact dS e f rfl
 | .list ds,d',v,e,f=>by
  cases d' with
  |list ds' =>
   obtain ⟨a,items,e,l,r⟩:=e
   obtain ⟨a',items',e',l',r'⟩:=f
   obtain rfl:=Value.ref.inj (e.symm.trans e')
   obtain rfl:=zW l l'
   rw [DenL.fn ds ds' _ r r']
  |tup ds' =>
   obtain ⟨a,items,e,l,r⟩:=e
   obtain ⟨a',items',e',_,l',_⟩:=f
   obtain rfl:=Value.ref.inj (e.symm.trans e')
   exact qY l l'
  |dmap l =>
   obtain ⟨a,items,e,l,r⟩:=e
   obtain ⟨a',o,e',_,t,_⟩:=f
   obtain rfl:=Value.ref.inj (e.symm.trans e')
   exact qJ l t.1 t.2.1
  |_=>exact dS (d:= .list ds) e f rfl
 | .tup ds,d',v,e,f=>by
  cases d' with
  |tup ds' =>
   obtain ⟨a,items,e,_,l,r⟩:=e
   obtain ⟨a',items',e',_,l',r'⟩:=f
   obtain rfl:=Value.ref.inj (e.symm.trans e')
   obtain rfl:=yo l l'
   rw [DenL.fn ds ds' _ r r']
  |list ds' =>
   obtain ⟨a,items,e,_,l,_⟩:=e
   obtain ⟨a',items',e',l',r'⟩:=f
   obtain rfl:=Value.ref.inj (e.symm.trans e')
   exact qY l' l
  |dmap l =>
   obtain ⟨a,items,e,_,l,r⟩:=e
   obtain ⟨a',o,e',_,t,_⟩:=f
   obtain rfl:=Value.ref.inj (e.symm.trans e')
   exact lP l t.1 t.2.1
  |_=>exact dS (d:= .tup ds) e f rfl
 | .dmap m,d',v,e,f=>by
  cases d' with
  |dmap m' =>
   obtain ⟨a,o,e,_,t,q⟩:=e
   obtain ⟨a',o',e',_,t',q'⟩:=f
   obtain rfl:=Value.ref.inj (e.symm.trans e')
   obtain rfl:=sm (t.1.symm.trans t'.1)
   exact congrArg D.dmap (Tabs.dmi q q')
  |list ds' =>
   obtain ⟨a,o,e,_,t,_⟩:=e
   obtain ⟨a',items,e',l,r⟩:=f
   obtain rfl:=Value.ref.inj (e.symm.trans e')
   exact qJ l t.1 t.2.1
  |tup ds' =>
   obtain ⟨a,o,e,_,t,_⟩:=e
   obtain ⟨a',items,e',_,l,r⟩:=f
   obtain rfl:=Value.ref.inj (e.symm.trans e')
   exact lP l t.1 t.2.1
  |_=>exact dS (d:= .dmap m) e f rfl
theorem DenL.fn {h:Heap} {X X':Addr→Prop}:∀ (ds ds':List D) (vs:List Value),DenL h X ds vs→DenL h X' ds' vs→ds=ds'
 | [],ds',vs,e,f=>by
  cases ds' with
  |nil=>rfl
  |cons d' ds' =>
   obtain ⟨v',r',e',_⟩:=f
   exact nomatch (show vs=[] from e).symm.trans e'
 |d :: ds,ds',vs,e,f=>by
  obtain ⟨v,r,e,a,b⟩:=e
  cases ds' with
  |nil=>exact nomatch (show vs=[] from f).symm.trans e
  |cons d' ds' =>
   obtain ⟨v',r',e',a',b'⟩:=f
   obtain ⟨rfl,rfl⟩:=List.cons.inj (e.symm.trans e')
   rw [Den.fn d d' v a.top a'.top,DenL.fn ds ds' r b b']
end
theorem qj {f:D→D→Option Bool}:∀ {xs ys:List D} {b:Bool},allEq f xs ys=some b→xs.length=ys.length∧∃ e:Nat→Bool,(∀ i x y,xs[i]? = some x→ys[i]? = some y→f x y=some (e i))∧(List.range xs.length).all e=b:=by
 intro xs
 induction xs with
 |nil =>
  intro ys b h
  cases ys with
  |nil=>exact ⟨rfl,fun _=>true,fun i x y h=>(nomatch (List.getElem?_nil (i:=i)).symm.trans h),sm h⟩
  |cons _ _=>exact ah h
 |cons x xs ih =>
  intro ys b h
  cases ys with
  |nil=>exact ah h
  |cons y ys =>
   refine ae h fun a h1 h=>ax h fun c h2 h3=> ?_
   obtain ⟨hl,e,he,ha⟩:=ih h2
   refine ⟨congrArg (· + 1) hl,fun i=>Nat.casesOn i a e,fun i x' y' hx hy=> ?_,?_⟩
   ·cases i with
    |zero=>rw [← sm hx,← sm hy];exact h1
    |succ i=>exact he i x' y' hx hy
   ·rw [List.length_cons,List.range_succ_eq_map,List.all_cons,List.all_map,← h3,← ha];rfl
theorem f9 {r:List D→List D→Option Bool} (hr:∀ ds b,r ds ds=some b→b=true) (d:D) (b:Bool) (h:eqS r d d=some b):b=true:=by
 cases d with
 |none=>exact (sm h).symm
 |bool c=>exact bq (a:=c) h
 |int c=>exact bq (a:=c) h
 |str c=>exact bq (a:=c) h
 |list ds=>exact hr ds b ((if_pos rfl).symm.trans h)
 |tup ds=>exact hr ds b ((if_pos rfl).symm.trans h)
 |dmap _=>exact ah h
theorem ey {f:D→D→Option Bool} (hf:∀ d b,f d d=some b→b=true):∀ (ds:List D) (b:Bool),allEq f ds ds=some b→b=true
 | [],b,h=>(sm h).symm
 |d :: ds,b,h=>ae h fun a h1 h=>ax h fun c h2 h3=>by rw [← h3,hf d a h1,ey hf ds c h2];rfl
theorem jw:∀ (n:Nat) (d:D) (b:Bool),eqN n d d=some b→b=true
 |0=>f9 fun _ _ h=>ah h
 |n+1=>f9 (ey (jw n))
open PySem.SeqAt
noncomputable def ItemsEq (s:Shared) (A:Around) (r:List D→List D→Option Bool):Prop:=∀ X Y (xs ys:List D) (its its2:Array Value) (b:Bool),DenL s.heap X xs its.toList→DenL s.heap Y ys its2.toList→r xs ys=some b →
 xs.length=ys.length∧∃ e:Nat→Bool,(∀ j (h1:j<its.size) (h2:j<its2.size),EqAt A.in1 s its[j] its2[j] (e j))∧(List.range xs.length).all e=b
theorem ak {h:Heap} {X:Addr→Prop} {xs:List D} {its:Array Value} (r:DenL h X xs its.toList):its.size=xs.length:=Array.length_toList.symm.trans r.length
theorem mO {X Y:Addr→Prop} {s:Shared} {a b:D} {va vb:Value} {r:Bool} {A:Around} {f:List D→List D→Option Bool} (hu:A.units<cLine) (F:ItemsEq s A f) (ha:DenT s.heap X a va) (hb:DenT s.heap Y b vb) (h:eqS f a b=some r):RcAt A s va vb r∧RcNeAt A s va vb (!r):=by
 revert hb
 cases a with
 |none=>exact gd h fun hb e=>pM (P:=fun b=>DenT s.heap Y b vb→_) hb fun hb=>by rw [show va=_ from ha,show vb=_ from hb,← sm e];exact ⟨RcAt.none_none,RcNeAt.none_none⟩
 |bool x=>exact ax h fun y hb e=>mF (P:=fun b=>DenT s.heap Y b vb→_) hb fun hb=>by rw [show va=_ from ha,show vb=_ from hb,← e];exact ⟨RcAt.bool_bool _ _,RcNeAt.bool_bool _ _⟩
 |int x=>exact ax h fun y hb e=>aM (P:=fun b=>DenT s.heap Y b vb→_) hb fun ⟨u,hb⟩=>by obtain ⟨t,ha⟩:=ha;rw [ha,hb,← e];exact ⟨RcAt.int_int _ _ _ _,RcNeAt.int_int _ _ _ _⟩
 |str x=>exact ax h fun y hb e=>cV (P:=fun b=>DenT s.heap Y b vb→_) hb fun ⟨u,hb⟩=>by obtain ⟨t,ha⟩:=ha;rw [ha,hb,← e];exact ⟨RcAt.str_str _ _ _ _,RcNeAt.str_str _ _ _ _⟩
 |list xs =>
  refine ae h fun ys hb h=>bE (P:=fun b=>DenT s.heap Y b vb→_) hb fun hb=> ?_
  obtain ⟨p,its,e1,l1,r1⟩:=ha
  obtain ⟨q,its2,e2,l2,r2⟩:=hb
  have z1:=ak r1
  have z2:=ak r2
  rw [e1,e2]
  by_cases hl:xs.length=ys.length
  ·rw [if_pos hl] at h
   obtain ⟨_,e,he,hall⟩:=F X Y xs ys its its2 r r1 r2 h
   rw [← hall,← z1]
   have z:=z1.trans (hl.trans z2.symm)
   exact ⟨RcAt.lists (PL.isList l1) (PL.isList l2) z hu he,RcNeAt.lists (PL.isList l1) (PL.isList l2) z hu he⟩
  ·rw [if_neg hl] at h
   rw [← sm h]
   have z:(its.size != its2.size)=true:=by rw [z1,z2];exact bne_iff_ne.mpr hl
   exact ⟨RcAt.lists_lengths (PL.isList l1) (PL.isList l2) z hu,RcNeAt.lists_lengths (PL.isList l1) (PL.isList l2) z hu⟩
 |tup xs =>
  refine ae h fun ys hb h=>cT (P:=fun b=>DenT s.heap Y b vb→_) hb fun hb=>gd h fun hl h=> ?_
  obtain ⟨p,its,e1,_,l1,r1⟩:=ha
  obtain ⟨q,its2,e2,_,l2,r2⟩:=hb
  have z1:=ak r1
  have z2:=ak r2
  rw [e1,e2]
  obtain ⟨_,e,he,hall⟩:=F X Y xs ys its its2 r r1 r2 h
  have z:=z1.trans (hl.trans z2.symm)
  have k1:=RcAt.tuples (A:=A) (e:=e) (TupAt.isTup l1) (TupAt.isTup l2) hu he
  have k2:=RcNeAt.tuples (A:=A) (e:=e) (TupAt.isTup l1) (TupAt.isTup l2) hu he
  have q1:min its.size its2.size=xs.length:=by rw [← z,Nat.min_self,z1]
  rw [q1,z,beq_self_eq_true,Bool.and_true,hall] at k1 k2
  exact ⟨k1,k2⟩
 |dmap _=>exact ah h
theorem mj {X Y:Addr→Prop} {s:Shared} {a b:D} {va vb:Value} {r:Bool} {A:Around} {f:List D→List D→Option Bool} (hu:A.units<cLine) (F:ItemsEq s A f) (hr:∀ ds b,f ds ds=some b→b=true) (ha:DenT s.heap X a va) (hb:DenT s.heap Y b vb) (h:eqS f a b=some r):EqAt A s va vb r:=by
 have refs:∀ p q,va = .ref p→vb = .ref q→EqAt A s va vb r:=fun p q e1 e2=>by
  subst e1 e2
  by_cases hpq:p=q
  ·subst hpq
   obtain rfl:=Den.fn _ _ _ ha hb
   rw [f9 hr _ r h]
   exact EqAt.same _
  ·exact EqAt.of_refs hpq (mO hu F ha hb h).1
 revert hb refs
 cases a with
 |none=>exact gd h fun hb e=>pM (P:=fun b=>DenT s.heap Y b vb→_) hb fun hb _=>by rw [show va=_ from ha,show vb=_ from hb,← sm e];exact EqAt.same _
 |bool x=>exact ax h fun y hb e=>mF (P:=fun b=>DenT s.heap Y b vb→_) hb fun hb _=>by rw [show va=_ from ha,show vb=_ from hb,← e];exact EqAt.bool_bool _ _
 |int x=>exact ax h fun y hb e=>aM (P:=fun b=>DenT s.heap Y b vb→_) hb fun ⟨u,hb⟩ _=>by obtain ⟨t,ha⟩:=ha;rw [ha,hb,← e];exact EqAt.int_int _ _ _ _
 |str x=>exact ax h fun y hb e=>cV (P:=fun b=>DenT s.heap Y b vb→_) hb fun ⟨u,hb⟩ _=>by obtain ⟨t,ha⟩:=ha;rw [ha,hb,← e];exact EqAt.str_str _ _ _ _
 |list xs =>
  refine ae h fun ys hb h=>bE (P:=fun b=>DenT s.heap Y b vb→_) hb fun hb refs=> ?_
  obtain ⟨p,_,e1,_⟩:=ha
  obtain ⟨q,_,e2,_⟩:=hb
  exact refs p q e1 e2
 |tup xs =>
  refine ae h fun ys hb h=>cT (P:=fun b=>DenT s.heap Y b vb→_) hb fun hb refs=> ?_
  obtain ⟨p,_,e1,_⟩:=ha
  obtain ⟨q,_,e2,_⟩:=hb
  exact refs p q e1 e2
 |dmap _=>exact ah h
theorem jC {s:Shared} {A:Around} {f:D→D→Option Bool} (hf:∀ X Y a b va vb r,DenT s.heap X a va→DenT s.heap Y b vb→f a b=some r→EqAt A.in1 s va vb r):ItemsEq s A (allEq f):=fun X Y xs ys its its2 b r1 r2 h=>by
 obtain ⟨hl,e,he,hall⟩:=qj h
 refine ⟨hl,e,fun j h1 h2=> ?_,hall⟩
 have hx:=List.getElem?_eq_getElem (l:=xs) (i:=j) (ak r1▸h1)
 have hy:=List.getElem?_eq_getElem (l:=ys) (i:=j) (ak r2▸h2)
 obtain ⟨v1,g1,d1⟩:=r1.get hx
 obtain ⟨v2,g2,d2⟩:=r2.get hy
 rw [lX g1 h1,lX g2 h2]
 exact hf X Y _ _ _ _ _ d1.top d2.top (he j _ _ hx hy)
theorem ej {s:Shared}:∀ (n:Nat) (A:Around),A.units+n<cLine→∀ (X Y:Addr→Prop) (a b:D) (va vb:Value) (r:Bool),DenT s.heap X a va→DenT s.heap Y b vb→eqN n a b=some r→EqAt A s va vb r
 |0,A,hu,X,Y,a,b,va,vb,r,ha,hb,h=>mj hu (fun _ _ _ _ _ _ _ _ _ h=>ah h) (fun _ _ h=>ah h) ha hb h
 |n+1,A,hu,X,Y,a,b,va,vb,r,ha,hb,h =>
  mj (Nat.lt_of_le_of_lt (Nat.le_add_right _ _) hu) (jC (ej n A.in1 (Nat.lt_of_le_of_lt (Nat.le_of_eq (Nat.succ_add_eq_add_succ _ _)) hu))) (ey (jw n)) ha hb h
theorem pk {X Y:Addr→Prop} {s:Shared} {a b:D} {va vb:Value} {r:Bool} {A:Around} (hu:A.units+5<cLine) (ha:DenT s.heap X a va) (hb:DenT s.heap Y b vb) (h:eqD a b=some r):RcAt A s va vb r∧RcNeAt A s va vb (!r) :=
 mO (Nat.lt_of_le_of_lt (Nat.le_add_right _ _) hu) (jC (ej 3 A.in1 (Nat.lt_of_le_of_lt (Nat.le_of_eq (Nat.add_assoc A.units 1 3)) (Nat.lt_of_succ_lt hu)))) ha hb h
end Mine
set_option genSizeOf false
set_option genInjectivity false
namespace Mine
variable [Tabs] [Frk]
open PySem.SeqAt
noncomputable def hitV (h:Heap) (X:Addr→Prop) (d:D) (xs:List D) (y:Value):Bool :=
 @decide (∃ x∈xs,Den h X x y∧eqD x d=some true) (Classical.propDecidable _)
theorem lp {h:Heap} {X:Addr→Prop} {d x:D} {xs:List D} {y:Value} {b:Bool} (hm:x∈xs) (hx:Den h X x y) (hb:eqD x d=some b):hitV h X d xs y=b:=by
 unfold hitV
 cases b with
 |true=>exact @decide_eq_true _ (Classical.propDecidable _) ⟨x,hm,hx,hb⟩
 |false =>
  refine @decide_eq_false _ (Classical.propDecidable _) fun ⟨x',_,hx',he⟩=> ?_
  rw [Den.fn _ _ _ hx.top hx'.top,he] at hb
  exact nomatch sm hb
theorem kS {d:D}:∀ {xs:List D} {r:Bool},memD d xs=some r→(∀ x∈xs,∃ b,eqD x d=some b)∧(r=true↔∃ x∈xs,eqD x d=some true)
 | [],r,h=>by rw [← sm h];exact ⟨fun _ hx=>(nomatch hx),⟨fun q=>(nomatch q),fun ⟨_,hx,_⟩=>(nomatch hx)⟩⟩
 |x :: xs,r,h=>ae h fun a h1 h=>ax h fun b h2 h3=>by
  obtain ⟨i1,i2⟩:=kS h2
  refine ⟨fun y hy=> ?_,?_⟩
  ·rcases List.mem_cons.mp hy with rfl |hy
   ·exact ⟨a,h1⟩
   ·exact i1 y hy
  ·rw [← h3]
   simp only [Bool.or_eq_true,List.mem_cons,exists_eq_or_imp,h1,i2,Option.some.injEq]
theorem y0 {X Y:Addr→Prop} {s:Shared} {A:Around} {d:D} {v:Value} {xs:List D} {its:List Value} {r:Bool} (hu:A.units+4<cLine) (hv:DenT s.heap Y d v) (hx:DenL s.heap X xs its) (h:memD d xs=some r) :
  (∀ y,y∈its→EqAt A s y v (hitV s.heap X d xs y))∧its.any (hitV s.heap X d xs)=r:=by
 obtain ⟨h1,h2⟩:=kS h
 constructor
 ·intro y hy
  obtain ⟨i,hi⟩:=List.getElem?_of_mem hy
  obtain ⟨x,hx1,hx2⟩:=hx.get' hi
  obtain ⟨b,hb⟩:=h1 x (List.mem_of_getElem? hx1)
  rw [lp (List.mem_of_getElem? hx1) hx2 hb]
  exact ej 4 _ hu _ _ _ _ _ _ _ hx2.top hv hb
 ·rw [Bool.eq_iff_iff,h2,List.any_eq_true]
  constructor
  ·rintro ⟨y,hy,he⟩
   obtain ⟨x,hx1,_,hx2⟩:= @of_decide_eq_true _ (Classical.propDecidable _) he
   exact ⟨x,hx1,hx2⟩
  ·rintro ⟨x,hx1,hx2⟩
   obtain ⟨y,hy,hd⟩:=hx.tail_mem x hx1
   exact ⟨y,hy,lp hx1 hd hx2⟩
theorem fI {h:Heap} {X:Addr→Prop} {xs:List D} {its:Array Value} (r:DenL h X xs its.toList):its.isEmpty=xs.isEmpty:=by
 have z:=ak r
 rw [Array.isEmpty,z]
 cases xs<;>rfl
section
variable {prog:Program} {w:World} {A:Around} {E:Value→Shared→Prop} {s:Shared} {Ex:Addr→Prop}
theorem pZ {A:Around} (hu:A.units+6<cLine):A.in1.units+4<cLine:=Nat.lt_of_le_of_lt (Nat.le_of_eq (Nat.add_assoc A.units 1 4)) (Nat.lt_of_succ_lt hu)
theorem iA {a b:D} {va vb:Value} {r:Bool} (hu:A.units+6<cLine) (ha:DenT s.heap Ex a va) (hb:DenT s.heap Ex b vb) (h:inD a b=some r) :
  (∀ {Q:Value→Shared→Prop},Q (.bool r) s→wpAny (model prog w) A (compareOp .In va vb) Q E s)∧(∀ {Q:Value→Shared→Prop},Q (.bool (!r)) s→wpAny (model prog w) A (compareOp .NotIn va vb) Q E s):=by
 have hu:=pZ hu
 cases b with
 |str x =>
  obtain ⟨u,hb⟩:=hb
  revert ha
  refine ax h fun y hy e=>cV (P:=fun a=>DenT s.heap Ex a va→_) hy fun ⟨t,ha⟩=> ?_
  rw [ha,hb,← e]
  exact ⟨P.in_str,P.notIn_str⟩
 |list xs =>
  obtain ⟨p,its,e1,l1,r1⟩:=hb
  obtain ⟨k1,k2⟩:=y0 (A:=A.in1) hu ha r1 h
  rw [e1]
  rw [Array.any_toList] at k2
  exact ⟨fun hq=>in_listAt _ (PL.isList l1) (fun y hy=>k1 y (Array.mem_toList_iff.mpr hy)) (by rw [k2];exact hq),fun hq=>notIn_listAt _ (PL.isList l1) (fun y hy=>k1 y (Array.mem_toList_iff.mpr hy)) (by rw [k2];exact hq)⟩
 |tup xs =>
  obtain ⟨p,its,e1,_,l1,r1⟩:=hb
  obtain ⟨k1,k2⟩:=y0 (A:=A.in1) hu ha r1 h
  rw [e1]
  rw [Array.any_toList] at k2
  exact ⟨fun hq=>in_tupleAt _ (TupAt.isTup l1) (fun y hy=>k1 y (Array.mem_toList_iff.mpr hy)) (by rw [k2];exact hq),fun hq=>notIn_tupleAt _ (TupAt.isTup l1) (fun y hy=>k1 y (Array.mem_toList_iff.mpr hy)) (by rw [k2];exact hq)⟩
 |_=>exact ah h
theorem iW {X Y:Addr→Prop} {h:Heap} {a b:D} {va vb:Value} {r:Bool} (ha:DenT h X a va) (hb:DenT h Y b vb) (hr:isD a b=some r):plainIs va vb=true∧(va==vb)=r:=by
 cases b with
 |none =>
  rw [show vb=_ from hb,← sm hr]
  cases a with
  |none=>rw [show va=_ from ha];exact ⟨rfl,rfl⟩
  |bool _=>rw [show va=_ from ha];exact ⟨rfl,rfl⟩
  |int _=>obtain ⟨t,ha⟩:=ha;rw [ha];exact ⟨rfl,rfl⟩
  |str _=>obtain ⟨t,ha⟩:=ha;rw [ha];exact ⟨rfl,rfl⟩
  |list _=>obtain ⟨p,_,ha,_⟩:=ha;rw [ha];exact ⟨rfl,rfl⟩
  |tup _=>obtain ⟨p,_,ha,_⟩:=ha;rw [ha];exact ⟨rfl,rfl⟩
  |dmap _=>obtain ⟨p,_,ha,_⟩:=ha;rw [ha];exact ⟨rfl,rfl⟩
 |bool c =>
  rw [show vb=_ from hb,← sm hr]
  cases a with
  |none=>rw [show va=_ from ha];exact ⟨rfl,rfl⟩
  |bool b'=>rw [show va=_ from ha];exact ⟨rfl,by cases b'<;>cases c<;>rfl⟩
  |int _=>obtain ⟨t,ha⟩:=ha;rw [ha];exact ⟨rfl,rfl⟩
  |str _=>obtain ⟨t,ha⟩:=ha;rw [ha];exact ⟨rfl,rfl⟩
  |list _=>obtain ⟨p,_,ha,_⟩:=ha;rw [ha];exact ⟨rfl,rfl⟩
  |tup _=>obtain ⟨p,_,ha,_⟩:=ha;rw [ha];exact ⟨rfl,rfl⟩
  |dmap _=>obtain ⟨p,_,ha,_⟩:=ha;rw [ha];exact ⟨rfl,rfl⟩
 |_=>exact ah hr
theorem cZ {op:CmpOp} {a b:D} {va vb:Value} {r:Bool} {f:Int→Int→Bool} {Q:Value→Shared→Prop} (ha:DenT s.heap Ex a va) (hb:DenT s.heap Ex b vb) (h:ii (fun a b=>some (f a b)) a b=some r) (hq:Q (.bool r) s)
  (k:∀ i j t u,Q (.bool (f i j)) s→wpAny (model prog w) A (compareOp op (.int i t) (.int j u)) Q E s):wpAny (model prog w) A (compareOp op va vb) Q E s :=
 nu (P:=fun a b=>DenT s.heap Ex a va→DenT s.heap Ex b vb→_) h (fun i j hf ⟨t,ha⟩ ⟨u,hb⟩=>by rw [ha,hb];exact k i j t u (sm hf▸hq)) ha hb
theorem bU {op:CmpOp} {a b:D} {va vb:Value} {r:Bool} {Q:Value→Shared→Prop} (hu:A.units+6<cLine) (ha:DenT s.heap Ex a va) (hb:DenT s.heap Ex b vb) (h:cmpD op a b=some r)
  (hq:Q (.bool r) s):wpAny (model prog w) A (compareOp op va vb) Q E s:=by
 cases op with
 |Eq=>exact (pk (Nat.lt_of_succ_lt hu) ha hb h).1 prog w E Q hq
 |NotEq=>exact ax h fun b' h e=>(pk (Nat.lt_of_succ_lt hu) ha hb h).2 prog w E Q (e▸hq)
 |Lt=>exact cZ ha hb h hq fun _ _ _ _=>PyProof.Rows.lt_int
 |LtE=>exact cZ ha hb h hq fun _ _ _ _=>PyProof.Rows.le_int
 |Gt=>exact cZ ha hb h hq fun _ _ _ _=>PyProof.Rows.gt_int
 |GtE=>exact cZ ha hb h hq fun _ _ _ _=>PyProof.Rows.ge_int
 |In=>exact (iA hu ha hb h).1 hq
 |NotIn=>exact ax h fun b' h e=>(iA hu ha hb h).2 (e▸hq)
 |Is=>exact have ⟨h1,h2⟩:=iW ha hb h;wpAny_is_plain h1 (h2▸hq)
 |IsNot=>exact ax h fun b' h e=>have ⟨h1,h2⟩:=iW ha hb h;wpAny_isNot_plain h1 (by rw [h2,e];exact hq)
theorem cU {a:D} {va:Value} {r:Bool} {Q:Bool→Shared→Prop} (ha:DenT s.heap Ex a va) (h:truthy a=some r) (hq:∀ tk,Q r {s with toks:=tk}):wpAny (model prog w) A (PySem.truthy va) Q E s:=by
 cases a with
 |none=>obtain rfl:=sm h;rw [show va = .none from ha];exact fun _ _ _=>hq s.toks
 |bool b=>rw [show va = .bool _ from ha];exact wpAny_truthy_bool (sm h▸hq s.toks)
 |int i=>obtain ⟨t,ha⟩:=ha;rw [ha];exact PyProof.Rows.truthy_int (show Q (!(i==0)) s from sm h▸hq s.toks)
 |str x =>
  refine gd h fun hs h=> ?_
  obtain ⟨t,ha⟩:=ha;rw [ha]
  refine PySem.P.truthy_str (Int.not_le.mpr (cO (aF hs))) ?_
  have e:((x.length:Int) != 0) = !(x.length==0):=by
   cases x.length with
   |zero=>rfl
   |succ n=>rfl
  rw [e,sm h]
  exact hq (s.toks+1+1)
 |list xs =>
  refine gd h fun hs h=> ?_
  obtain ⟨p,its,e1,l1,r1⟩:=ha
  rw [e1]
  refine wpAny_truthy_list (PL.isList l1) (by rw [ak r1];exact cO (aF hs)) ?_
  rw [fI r1,sm h]
  exact hq _
 |tup xs =>
  refine gd h fun hs h=> ?_
  obtain ⟨p,its,e1,_,l1,r1⟩:=ha
  rw [e1]
  refine PyProof.Rows.truthy_tuple (TupAt.isTup l1) (by rw [ak r1];exact cO (aF hs)) ?_
  rw [fI r1,sm h]
  exact hq _
 |dmap _=>exact ah h
theorem qm {op:UnaryOp} {a d:D} {va:Value} {Q:Value→Shared→Prop} (ha:DenT s.heap Ex a va) (h:unD op a=some d) (P:Ps s Ex d false Q):wpAny (model prog w) A (unaryOp op va) Q E s:=by
 cases op with
 |Not=>exact ax h fun b h e=>PyProof.Rows.not_of (cU ha h fun tk=>P.now tk (e▸rfl))
 |USub=>exact ax h fun i hi e=>aM (P:=fun a=>DenT s.heap Ex a va→_) hi (fun ⟨t,ha⟩=>by rw [ha];exact PyProof.Rows.neg_int (P.int (congrArg some e) _ _)) ha
 |Invert=>exact ax h fun i hi e=>aM (P:=fun a=>DenT s.heap Ex a va→_) hi (fun ⟨t,ha⟩=>by rw [ha];exact PyProof.Rows.invert_int (P.int (congrArg some e) _ _)) ha
 |UAdd=>exact ah h
end
end Mine
set_option genSizeOf false
set_option genInjectivity false
namespace Mine
variable [Tabs] [Frk]
open Builtin Builtin.Str
section
variable {prog:Program} {w:World} {A:Around} {E:Value→Shared→Prop} {s:Shared} {Ex:Addr→Prop}
theorem jZ (x:Str):∀ n,(rep x n).cps.toList=(List.replicate n x.cps.toList).flatten
 |0=>rfl
 |n+1=>by
  show (x.cps++(rep x n).cps).toList=_
  rw [Array.toList_append,jZ x n];rfl
theorem iM:∀ (l:List (Array Nat)) (acc:Array Nat),(l.foldl (· ++ ·) acc).toList=acc.toList++(l.map Array.toList).flatten
 | [],acc=>by simp
 |a :: l,acc=>by rw [List.foldl_cons,iM l];simp
theorem wA (x:Str) (n:Int):Txt.mul x n=rep x n.toNat:=by
 have ext:∀ a b:Str,a.cps.toList=b.cps.toList→a=b:=fun a b h=>by
  cases a;cases b;simp only [Str.mk.injEq];exact Array.toList_inj.mp h
 apply ext
 rw [jZ]
 unfold Txt.mul
 by_cases h1:n<1
 ·rw [if_pos h1,Int.toNat_of_nonpos (Int.le_of_lt_add_one h1)];rfl
 ·rw [if_neg h1]
  split
  ·rename_i h
   simp only [Bool.or_eq_true,beq_iff_eq] at h
   rcases h with h |h
   ·subst h;simp
   ·have:x.cps.toList=[]:=by have h':x.cps.size=0:=h;simpa using h'
    rw [this];simp
  ·show ((List.replicate n.toNat x.cps).foldl (· ++ ·) #[]).toList=_
   rw [iM];simp
theorem cK {i:Int} (h:idxOk i=true) : -(2 ^ 63:Int)≤i∧i<2 ^ 63 :=
 have h:(i.natAbs:Int)<(4611686018427387904:Nat):=Int.ofNat_lt.mpr (of_decide_eq_true h)
 have h:(i.natAbs:Int)<2 ^ 63:=Int.lt_trans h (by decide)
 ⟨Int.neg_le_of_neg_le (Int.le_trans (by rw [← Int.natAbs_neg];exact Int.le_natAbs) (Int.le_of_lt h)),Int.lt_of_le_of_lt Int.le_natAbs h⟩
theorem rF {x:Str} {n:Int} (h:sizeOk (x.length * n.toNat)=true) (hi:idxOk n=true):MulOk x n:=by
 have hs:=aF h
 refine ⟨?_,fun h1 _=> ?_,fun _ _=>decide_eq_false (Nat.not_lt.mpr (bP hs))⟩
 ·rw [decide_eq_false (Int.not_lt.mpr (cK hi).1),decide_eq_false (Int.not_le.mpr (cK hi).2)];rfl
 ·refine Int.not_lt.mpr (Int.le_ediv_of_mul_le (Int.lt_of_lt_of_le Int.zero_lt_one (Int.not_lt.mp h1)) ?_)
  rw [← Int.toNat_of_nonneg (Int.le_trans (by decide) (Int.not_lt.mp h1))]
  exact Int.le_trans (Int.ofNat_le.mpr hs) (by decide)
theorem sd {a b:Int} (h:b.toNat≤1000000) (h3:small a=true):(Builtin.Int.intBits a:Int)+b≤2 ^ 27:=Int.le_trans (Int.add_le_add (Int.ofNat_le.mpr (cx h3)) (Ab h)) (by decide)
theorem si {k:Nat} {n:Int} (h1:sizeOk (k * n.toNat)=true) (h2:idxOk n=true):¬(!Builtin.List.listFitsIndex n)=true∧¬k * n.toNat > (2 ^ 63 - 1) / 8∧¬Builtin.List.listTooLong (k * n.toNat)=true:=by
 have h1:=aF h1
 refine ⟨?_,Nat.not_lt.mpr (Nat.le_trans h1 (by decide)),fun q=>Nat.not_lt.mpr (bP h1) (of_decide_eq_true q)⟩
 unfold Builtin.List.listFitsIndex
 rw [decide_eq_true (cK h2).1,decide_eq_true (cK h2).2];exact Bool.false_ne_true
theorem gG:∀ (l:List (Array Value)) (acc:Array Value),(l.foldl (fun x1 x2=>x1++x2) acc).toList=acc.toList++(l.map Array.toList).flatten
 | [],acc=>by simp
 |a :: l,acc=>by rw [List.foldl_cons,gG l];simp
theorem ni (its:Array Value) (n:Nat):List.foldl (fun x1 x2=>x1++x2) #[] (List.replicate (if its.isEmpty=true then 0 else n) its)=((List.replicate n its.toList).flatten).toArray:=by
 apply Array.toList_inj.mp
 rw [gG]
 split
 ·rename_i h
  have:its.toList=[]:=by simpa using h
  rw [this];simp
 ·simp
theorem DenL.flat {h:Heap} {X:Addr→Prop} {ds:List D} {vs:List Value} (x:DenL h X ds vs):∀ n,DenL h X (List.replicate n ds).flatten (List.replicate n vs).flatten
 |0=>rfl
 |n+1=>by rw [List.replicate_succ,List.replicate_succ,List.flatten_cons,List.flatten_cons];exact x.append (x.flat n)
theorem nZ {a b d:D} {va vb:Value} {Q:Value→Shared→Prop} (lt:∀ b,Ex b→Al s.heap b) (ha:DenT s.heap Ex a va) (hb:DenT s.heap Ex b vb) (hd:addD a b=some d) (P:Ps s Ex d (isL d) Q) :
  wpAny (model prog w) A (binaryOp .Add va vb) Q E s:=by
 revert hb
 cases a with
 |int i =>
  obtain ⟨t,ha⟩:=ha
  exact ax hd fun j hj e=>aM (P:=fun b=>DenT s.heap Ex b vb→_) hj fun ⟨u,hb⟩=>by subst e;rw [ha,hb];exact PyProof.Rows.add_int (P.now _ ⟨_,rfl⟩)
 |str x =>
  obtain ⟨t,ha⟩:=ha
  refine ae hd fun y hy hd=>cV (P:=fun b=>DenT s.heap Ex b vb→_) hy fun ⟨u,hb⟩=>gd hd fun hs e=> ?_
  obtain rfl:=sm e
  rw [ha,hb]
  exact PyProof.Rows.add_str (fun t' tk=>P.now tk ⟨_,rfl⟩) (aa hs fun h1 h2=>by rw [sizeLine_eq];exact Aa h1 h2)
 |list xs =>
  refine ae hd fun ys hy hd=>bE (P:=fun b=>DenT s.heap Ex b vb→_) hy fun hb=>gd hd fun hs e=> ?_
  obtain rfl:=sm e
  obtain ⟨p,its,e1,⟨n1,l1⟩,r1⟩:=ha
  obtain ⟨q,its2,e2,⟨n2,l2⟩,r2⟩:=hb
  rw [e1,e2]
  refine PySem.P.add_list l1 l2 ?_ (aa hs fun h1 h2=>by rw [sizeLine_eq,ak r1,ak r2];exact Aa h1 h2)
  have:=P.newList (ds:=xs++ys) (items:=its.toList++its2.toList) lt (r1.append r2) s.toks
  rw [show (its.toList++its2.toList).toArray=its++its2 from Array.toList_inj.mp (by simp)] at this
  exact this
 |_=>exact ah hd
theorem m5 {a b d:D} {va vb:Value} {Q:Value→Shared→Prop} (lt:∀ b,Ex b→Al s.heap b) (ha:DenT s.heap Ex a va) (hb:DenT s.heap Ex b vb) (hd:mulD a b=some d) (P:Ps s Ex d (isL d) Q) :
  wpAny (model prog w) A (binaryOp .Mult va vb) Q E s:=by
 revert hb
 refine ae hd fun n hn hd=>aM (P:=fun b=>DenT s.heap Ex b vb→_) hn fun ⟨u,hb⟩=> ?_
 rw [hb]
 cases a with
 |int i =>
  obtain ⟨t,ha⟩:=ha
  refine gd hd fun hs e=> ?_
  obtain rfl:=sm e
  rw [ha]
  exact aa hs fun h1 h2=>PyProof.Rows.mul_int (P.now _ ⟨_,rfl⟩) (IntMulOk.of_bits (Nat.le_trans (cx h1) (by decide)) (Nat.le_trans (cx h2) (by decide)))
 |str x =>
  obtain ⟨t,ha⟩:=ha
  refine gd hd fun hs e=> ?_
  obtain rfl:=sm e
  rw [ha]
  exact aa hs fun h1 h2=>SB.mul (rF h1 h2) fun t' k=>P.now k ⟨_,by rw [wA]⟩
 |list xs =>
  obtain ⟨p,its,e1,⟨n1,l1⟩,r1⟩:=ha
  refine gd hd fun hs e=>aa hs fun h1 h2=> ?_
  obtain rfl:=sm e
  obtain ⟨g1,g2,g3⟩:=si (ak r1▸h1) h2
  rw [e1]
  refine wpAny_binaryOp_repeat_ref (T:="list") (U:="int") (by decide) ⟨_,l1,rfl⟩ (fun s'=>typeIs_int s' n u) noFill_list_mul F.fills_int_mul F.slot_int_rmul repeat_list F.slot_int_index.lookup
   (call_meets F.slot_int_rmul (typeIs_int s n u) F.entry_int_rmul (F.args_int_rmul_2 _ _) (int___rmul___int_list n u p its n1) ⟨l1,rfl,⟨_,l1,rfl⟩,?_⟩)
  refine call_meets F.slot_list_mul ⟨_,l1,rfl⟩ F.entry_list_mul (F.args_list_mul_2 _ _) (AutoListH.list___mul___list_int_3 p its n1 n u g1 g2 g3) ⟨l1,?_⟩
  have:=P.newList (ds:=(List.replicate n.toNat xs).flatten) (items:=(List.replicate n.toNat its.toList).flatten) lt (r1.flat _) s.toks
  rw [← ni] at this
  exact this
 |_=>exact ah hd
theorem ez {op:Operator} {a b d:D} {va vb:Value} {Q:Value→Shared→Prop} (lt:∀ b,Ex b→Al s.heap b) (ha:DenT s.heap Ex a va) (hb:DenT s.heap Ex b vb) (hd:binD op a b=some d) (P:Ps s Ex d (freshBin op d) Q) :
  wpAny (model prog w) A (binaryOp op va vb) Q E s:=by
 cases op with
 |Add=>exact nZ lt ha hb hd P
 |Mult=>exact m5 lt ha hb hd P
 |Sub=>exact aT ha hb hd fun _ _ _ _ e=>PyProof.Rows.sub_int (P.int e _ _)
 |Mod=>exact aT ha hb hd fun _ _ _ _ e=>eH e fun hb e=>PyProof.Rows.mod_int (nz (Bool.eq_false_iff.mpr hb)) (P.int e _ _)
 |Pow=>exact aT ha hb hd fun _ _ _ _ e=>gd e fun hs e=>xI hs fun h1 h2 h3=>PyProof.Rows.pow_int_small (de h1) (Ab (de h2)) (de h3) (P.int e _ _)
 |LShift=>exact aT ha hb hd fun _ _ _ _ e=>gd e fun hs e=>xI hs fun h1 h2 h3=>PyProof.Rows.lshift_int (de h1) (sd (de h2) h3) (P.int e _ _)
 |RShift=>exact aT ha hb hd fun _ _ _ _ e=>gd e fun hs e=>PyProof.Rows.rshift_int (de hs) (P.int e _ _)
 |BitAnd=>exact aT ha hb hd fun _ _ _ _ e=>PyProof.Rows.and_int (P.int e _ _)
 |BitOr=>exact aT ha hb hd fun _ _ _ _ e=>PyProof.Rows.or_int (P.int e _ _)
 |BitXor=>exact aT ha hb hd fun _ _ _ _ e=>PyProof.Rows.xor_int (P.int e _ _)
 |FloorDiv=>exact aT ha hb hd fun _ _ _ _ e=>eH e fun hb e=>iC hb fun h1 h2=>PyProof.Rows.floordiv_int (nz h1) (P.int e _ _) (.inl (dc (by rw [← Bool.not_eq_false',h2])))
 |_=>exact ah hd
end
end Mine
set_option genSizeOf false
set_option genInjectivity false
namespace Mine
variable [Tabs] [Frk]
open Builtin Builtin.Str
theorem g0 {d:D} {v:Value} {h:Heap} {X:Addr→Prop} {l:Option Int} (hd:DenT h X d v) (hp:part? d=some l):IsPart v l∧∃ l':Option (Int×Tok),v=partValue l'∧l'.map (·.1)=l:=by
 cases d with
 |none=>rw [show v = .none from hd,← sm hp];exact ⟨.none,none,rfl,rfl⟩
 |int i =>
  obtain ⟨t,hd⟩:=hd
  exact gd hp fun _ e=>by rw [hd,← sm e];exact ⟨.int i t,some (i,t),rfl,rfl⟩
 |_=>exact ah hp
theorem iS {α β:Type} {xs:List α} {ys:List β} (h:xs.length=ys.length) (lo hi st:Option Int):∃ is:List Nat,pickL xs lo hi st=is.filterMap (xs[·]?)∧pickL ys lo hi st=is.filterMap (ys[·]?):=by
 unfold pickL
 rw [h]
 exact ⟨_,rfl,rfl⟩
theorem kO (items:Array Value) (lo hi st:Option Int):slicePick items lo hi st=(pickL items.toList lo hi st).toArray:=by
 unfold slicePick pickL
 rw [Array.length_toList]
 congr 1
 congr 1
 funext i
 simp
theorem iK (x:Str) (l u st:Option (Int×Tok)):slicePicked x l u st=sliceRange (sliceBounds (l.map (·.1)) (u.map (·.1)) (st.map (·.1)) x.length).1 (sliceBounds (l.map (·.1)) (u.map (·.1)) (st.map (·.1)) x.length).2.1 (sliceBounds (l.map (·.1)) (u.map (·.1)) (st.map (·.1)) x.length).2.2:=rfl
theorem gE {α:Type} (xs:List α):(List.range xs.length).filterMap (xs[·]?)=xs:=by
 induction xs with
 |nil=>rfl
 |cons x xs ih =>
  rw [List.length_cons,List.range_succ_eq_map,List.filterMap_cons]
  simp only [List.getElem?_cons_zero,List.filterMap_map]
  congr 1
theorem vf (n:Nat) (i:Int):clipAt n i≤n:=Int.toNat_le.mpr (Int.max_le.mpr ⟨Int.natCast_nonneg n,Int.min_le_right _ _⟩)
theorem nq {lo hi st:Option Int} {n:Nat} (hs:st.getD 1=1):sliceBounds lo hi st n=(((lo.elim 0 (clipAt n):Nat):Int),((hi.elim n (clipAt n):Nat):Int),1):=by
 cases st with
 |none=>exact sliceBounds_plain lo hi n
 |some k =>
  obtain rfl:k=1:=hs
  exact sliceBounds_plain lo hi n
theorem oZ {a b n:Nat} (hb:b≤n) (h:b - a=n):(List.range (b - a)).map (a + ·)=List.range n:=by
 rw [h]
 cases n with
 |zero=>rfl
 |succ n =>
  cases a with
  |zero=>exact (List.map_congr_left fun k _=>Nat.zero_add k).trans (List.map_id' _)
  |succ a=>exact absurd (h▸Nat.sub_lt (Nat.pos_of_ne_zero fun q=>by rw [q,Nat.zero_sub] at h;exact nomatch h) (Nat.succ_pos a)) (Nat.not_lt.mpr hb)
theorem nM {lo hi:Option Int} {st:Option Int} {n:Nat} (hs:st.getD 1=1) (hl:(sliceRange (sliceBounds lo hi st n).1 (sliceBounds lo hi st n).2.1 (sliceBounds lo hi st n).2.2).length=n) :
  sliceRange (sliceBounds lo hi st n).1 (sliceBounds lo hi st n).2.1 (sliceBounds lo hi st n).2.2=List.range n:=by
 rw [nq hs] at hl ⊢
 have hb:hi.elim n (clipAt n)≤n:=by
  cases hi with
  |none=>exact Nat.le_refl n
  |some i=>exact vf n i
 rw [show sliceRange (((lo.elim 0 (clipAt n):Nat):Int),((hi.elim n (clipAt n):Nat):Int),(1:Int)).1 (((lo.elim 0 (clipAt n):Nat):Int),((hi.elim n (clipAt n):Nat):Int),(1:Int)).2.1 (((lo.elim 0 (clipAt n):Nat):Int),((hi.elim n (clipAt n):Nat):Int),(1:Int)).2.2=_ from sliceRange_one _ _] at hl ⊢
 rw [List.length_map,List.length_range] at hl
 exact oZ hb hl
section
variable {prog:Program} {w:World} {A:Around} {E:Value→Shared→Prop} {s:Shared} {Ex:Addr→Prop}
theorem mi {i:Int} {k:Nat} (h0:0≤i) (h1:i.toNat<k):seqIndex? i k=some i.toNat:=by
 unfold seqIndex?
 simp only [if_neg (Int.not_lt.mpr h0)]
 rw [if_pos (by simp only [Bool.and_eq_true,decide_eq_true_eq];exact ⟨h0,(Int.toNat_lt h0).mp h1⟩)]
theorem mr {i:Int} {k:Nat} (h:i<0) (h0:0≤i+k):seqIndex? i k=some (i+k).toNat:=by
 unfold seqIndex?
 simp only [if_pos h]
 rw [if_pos (by simp only [Bool.and_eq_true,decide_eq_true_eq];exact ⟨h0,by have:=Int.add_lt_add_right h k;rw [Int.zero_add] at this;exact this⟩)]
theorem gc {xs:List D} {i:Int} {d:D} {P:Prop} (h:idxL xs i=some d) (k:(-(2 ^ 63:Int)≤i∧i<2 ^ 63)→∀ j,seqIndex? i xs.length=some j→xs[j]? = some d→(0≤i→j=i.toNat)→P):P :=
 gd h fun h1 h=>by
  by_cases h0:0≤i
  ·rw [if_pos h0] at h
   exact k (cK h1) _ (mi h0 (List.getElem?_eq_some_iff.mp h).1) h fun _=>rfl
  ·rw [if_neg h0] at h
   exact gd h fun h2 h=>k (cK h1) _ (mr (Int.not_le.mp h0) h2) h fun q=>absurd q h0
theorem ve {i:Int} (h : -(2 ^ 63:Int)≤i∧i<2 ^ 63):(decide (i < -(2 ^ 63:Int)) || decide (i≥2 ^ 63))=false:=by
 rw [decide_eq_false (Int.not_lt.mpr h.1),decide_eq_false (Int.not_le.mpr h.2)];rfl
theorem qO {i:Int} {k j:Nat} (h:seqIndex? i k=some j) (q:i<0) : -(k:Int)≤i∧j=(i+k).toNat:=by
 unfold seqIndex? at h
 simp only [if_pos q] at h
 exact gd h fun h1 e=>⟨aa h1 fun h1 _=>Int.le_of_sub_nonneg (by rw [Int.sub_neg];exact de h1),(sm e).symm⟩
noncomputable def vint:Value→Option Int
 | .int i _=>some i
 |_=>none
noncomputable def DmObj (prog:Program) (w:World) (l:List (Str×Int)) (o:Obj):Prop:=∃ kvs:List (Str×Value),o.IsDictOf (strKind prog w) kvs∧kvs.map (fun p=>(p.1,vint p.2))=l.map fun p=>(p.1,some p.2)
theorem wR {v:Value} {i:Int} (h:vint v=some i):∃ t,v = .int i t:=by
 cases v with
 |int j t=>exact ⟨t,by rw [sm h]⟩
 |_=>exact ah h
theorem t7 {k:Str} {i:Int}:∀ {kvs:List (Str×Value)} {l:List (Str×Int)},kvs.map (fun p=>(p.1,vint p.2))=l.map (fun p=>(p.1,some p.2))→l.lookup k=some i→∃ t,valueAt kvs k=some (.int i t)
 |_,[],_,h=>ah h
 | [],_ :: _,e,_=>nomatch e
 |(k',v) :: kvs,(k'',j) :: l,e,h=>by
  obtain ⟨e1,e2⟩:=List.cons.inj e
  obtain ⟨e3,e4⟩:=Prod.mk.inj e1
  obtain ⟨t,rfl⟩:=wR e4
  obtain rfl:k'=k'':=e3
  by_cases q:k'=k
  ·subst q
   rw [List.lookup_cons_self] at h
   exact ⟨t,(congrArg (Option.map Prod.snd) (List.find?_cons_of_pos (p:=fun kv:Str×Value=>decide (kv.1=k')) (decide_eq_true rfl))).trans (congrArg (fun z=>some (Value.int z t)) (sm h))⟩
  ·rw [List.lookup_cons,beq_eq_false_iff_ne.mpr (fun e=>q e.symm)] at h
   obtain ⟨t',z⟩:=t7 e2 h
   exact ⟨t',(congrArg (Option.map Prod.snd) (List.find?_cons_of_neg (p:=fun kv:Str×Value=>decide (kv.1=k)) (by rw [decide_eq_false q];exact Bool.false_ne_true))).trans z⟩
omit [Tabs] [Frk] in
theorem tB {prog:Program} {w:World} {es:List DictEntry} {a b:List (Str×Value)} (x:Pairs (strKind prog w) es a):Pairs (strKind prog w) es b→a=b:=by
 induction x generalizing b with
 |nil=>exact fun y=>by cases y;rfl
 |cons h v _ ih =>
  intro y
  cases y with
  |cons h' v' y=>rw [ih y,Prod.ext ((strKind prog w).inj _ _ _ h h') (v.symm.trans v')]
omit [Tabs] [Frk] in
theorem xL {prog:Program} {w:World} {l l':List (Str×Int)} {o:Obj} (x:DmObj prog w l o) (y:DmObj prog w l' o):l=l':=by
 obtain ⟨kvs,⟨es,ep,_,e1,_,e2,_⟩,q⟩:=x
 obtain ⟨kvs',⟨es',ep',_,e1',_,e2',_⟩,q'⟩:=y
 obtain ⟨rfl,_⟩:=Data.dict.inj (e1.symm.trans e1')
 obtain rfl:=tB e2 e2'
 exact (List.map_inj_right fun p p' h=>Prod.ext (Prod.mk.inj h).1 (sm (Prod.mk.inj h).2)).mp (q.symm.trans q')
theorem mW {a i d:D} {va vi:Value} {Q:Value→Shared→Prop} (ha:DenT s.heap Ex a va) (hi:DenT s.heap Ex i vi) (hd:idxD a i=some d) (hm:∀ l o,Tabs.dm l o→DmObj prog w l o) (P:Ps s Ex d false Q) :
  wpAny (model prog w) A (getItem va vi) Q E s:=by
 revert hi
 cases a with
 |list xs =>
  obtain ⟨p,its,e1,l1,r1⟩:=ha
  rw [e1]
  refine ae hd fun n hn hd=>aM (P:=fun i=>DenT s.heap Ex i vi→_) hn fun ⟨t,hi⟩=>gc hd fun hb j hj hx h0=> ?_
  rw [hi]
  obtain ⟨v,g,dv⟩:=r1.get hx
  rw [← ak r1] at hj
  rw [Array.getElem?_toList] at g
  by_cases q:0≤n
  ·exact wpAny_getItem_list (PL.isList l1) q hb.2 (h0 q▸g) (P.here dv)
  ·exact wpAny_getItem_list_neg (PL.isList l1) (Int.not_le.mp q) (qO hj (Int.not_le.mp q)).1 hb.1 ((qO hj (Int.not_le.mp q)).2▸g) (P.here dv)
 |tup xs =>
  obtain ⟨p,its,e1,_,l1,r1⟩:=ha
  rw [e1]
  refine ae hd fun n hn hd=>aM (P:=fun i=>DenT s.heap Ex i vi→_) hn fun ⟨t,hi⟩=>gc hd fun hb j hj hx h0=> ?_
  rw [hi]
  obtain ⟨v,g,dv⟩:=r1.get hx
  rw [← ak r1] at hj
  rw [Array.getElem?_toList] at g
  exact PyProof.Rows.getItem_tuple (j:=j) (TupAt.isTup l1) hb.1 hb.2 hj g (P.here dv)
 |str x =>
  obtain ⟨u,ha⟩:=ha
  rw [ha]
  refine ae hd fun n hn hd=>aM (P:=fun i=>DenT s.heap Ex i vi→_) hn fun ⟨t,hi⟩=>gc hd fun hb j hj hx h0=> ?_
  rw [hi]
  rw [List.length_map,Array.length_toList] at hj
  rw [List.getElem?_map,Array.getElem?_toList] at hx
  refine ax hx fun c hc e=>PySem.P.getItem_str (ve hb) (c:=c) ?_ (P.now _ (e▸⟨_,rfl⟩))
  show (seqIndex? n x.cps.size).bind _=_
  rw [hj];exact hc
 |dmap l =>
  obtain ⟨p,o,e1,_,t,q⟩:=ha
  obtain ⟨kvs,k1,k2⟩:=hm _ _ q
  rw [e1]
  refine ae hd fun k hk hd=>cV (P:=fun i=>DenT s.heap Ex i vi→_) hk fun ⟨u,hi⟩=>ax hd fun n hn e=> ?_
  rw [hi]
  obtain ⟨t',k3⟩:=t7 k2 hn
  exact wpAny_getItem_of (strKind_is prog w k u) (Heap.dictOf_iff.mpr ⟨o,t.1,k1⟩).mapOf k3 (P.now _ (e▸⟨_,rfl⟩))
 |_=>exact ah hd
theorem gO {α β:Type} {xs:List α} {ys:List β} (h:xs.length=ys.length):∀ is:List Nat,(is.filterMap (xs[·]?)).length=(is.filterMap (ys[·]?)).length
 | []=>rfl
 |i :: is=>by
  have ih:=gO h is
  simp only [List.filterMap_cons]
  by_cases hi:i<xs.length
  ·rw [List.getElem?_eq_getElem hi,List.getElem?_eq_getElem (h▸hi)]
   exact congrArg (· + 1) ih
  ·rw [List.getElem?_eq_none (Nat.not_lt.mp hi),List.getElem?_eq_none (h▸Nat.not_lt.mp hi)]
   exact ih
theorem sx {α:Type} (xs:List α) (lo hi st:Option Int):(pickL xs lo hi st).length≤xs.length:=by
 have:=slicePick_size_le (Array.replicate xs.length Value.none) lo hi st
 rw [kO] at this
 obtain ⟨is,q1,q2⟩:=iS (xs:=(Array.replicate xs.length Value.none).toList) (ys:=xs) (by simp) lo hi st
 rw [q1,List.size_toArray,gO (ys:=xs) (by simp),← q2] at this
 simpa using this
theorem qe {x:Str} {t:Tok} {l u st:Option (Int×Tok)} {sl:Addr} {Q:Value→Shared→Prop} (hx:x.length≤1048576) (hsl:s.heap.IsSliceOf sl (partValue l) (partValue u) (partValue st)) (h0:st.map (·.1)≠some 0)
  (P:Ps s Ex (.str ⟨(pickL x.cps.toList (l.map (·.1)) (u.map (·.1)) (st.map (·.1))).toArray⟩) false Q):wpAny (model prog w) A (getItem (.str x t) (.ref sl)) Q E s:=by
 have e2:pickL x.cps.toList (l.map (·.1)) (u.map (·.1)) (st.map (·.1))=(slicePicked x l u st).filterMap (x.cps[·]?):=by
  rw [iK];unfold pickL;rw [Array.length_toList]
  show List.filterMap _ (sliceRange (sliceBounds _ _ _ x.length).1 _ _)=_
  congr 1;funext i;exact Array.getElem?_toList
 refine wpAny_getItem_str_slice (l:=l) (u:=u) (st:=st) hsl ?_ ?_
 ·cases st with
  |none=>rfl
  |some c=>exact decide_eq_false fun e=>h0 (congrArg some e)
 ·unfold sliceMade
  split
  ·rename_i hc
   refine aa hc fun h1 h2=> ?_
   refine P.now s.toks ⟨t,?_⟩
   rw [e2,iK,nM (beq_iff_eq.mp h1) (beq_iff_eq.mp h2)]
   have:=gE x.cps.toList
   rw [Array.length_toList] at this
   show Value.str x t=Value.str ⟨(List.filterMap _ (List.range x.cps.size)).toArray⟩ t
   rw [show (fun i=>x.cps[i]?)=(fun i=>x.cps.toList[i]?) from funext fun i=>Array.getElem?_toList.symm,this]
  ·rw [← e2]
   refine ⟨?_,P.now _ ⟨_,rfl⟩⟩
   show (pickL x.cps.toList _ _ _).toArray.size≤sizeLine
   rw [List.size_toArray,sizeLine_eq]
   exact Nat.le_trans (sx _ _ _ _) (Nat.le_trans (Nat.le_of_eq Array.length_toList) (Nat.le_trans hx (by decide)))
theorem nH {a l u st d:D} {va vl vu vs:Value} {sl:Addr} {Q:Value→Shared→Prop} (lt:∀ b,Ex b→Al s.heap b) (ha:DenT s.heap Ex a va) (hl:DenT s.heap Ex l vl) (hu:DenT s.heap Ex u vu) (hs:DenT s.heap Ex st vs)
  (hsl:s.heap.IsSliceOf sl vl vu vs) (hd:sliD a l u st=some d) (P:Ps s Ex d (freshSli d) Q) :
  wpAny (model prog w) A (getItem va (.ref sl)) Q E s:=by
 refine ae hd fun l' hl' hd=>ae hd fun u' hu' hd=>ae hd fun st' hs' hd=>eH hd fun h0 hd=> ?_
 have h0:st'≠some 0:=fun e=>h0 (by rw [e];rfl)
 obtain ⟨pl,l2,el,ml⟩:=g0 hl hl'
 obtain ⟨pu,u2,eu,mu⟩:=g0 hu hu'
 obtain ⟨ps,s2,es,ms⟩:=g0 hs hs'
 cases a with
 |list xs =>
  refine gd hd fun hsz e=> ?_
  obtain rfl:=sm e
  obtain ⟨p,its,e1,l1,r1⟩:=ha
  rw [e1]
  obtain ⟨is,q1,q2⟩:=iS r1.length l' u' st'
  refine wpAny_getItem_list_slice (PL.isList l1) hsl pl pu ps h0 ?_ (by rw [sizeLine_eq,ak r1];exact Nat.le_trans (aF hsz) (by decide))
  rw [kO,q1]
  exact P.newList (ds:=pickL xs l' u' st') (items:=is.filterMap (its.toList[·]?)) lt (by rw [q2];exact r1.pick is) s.toks
 |str x =>
  refine gd hd fun hsz e=> ?_
  obtain rfl:=sm e
  obtain ⟨t,ha⟩:=ha
  subst ha el eu es ml mu ms
  exact qe (aF hsz) hsl h0 P
 |_=>exact ah hd
end
end Mine
set_option genSizeOf false
set_option genInjectivity false
namespace Mine
variable [Tabs] [Frk]
open Builtin Builtin.Str
noncomputable def DenRL (h:Heap) (X:Addr→Prop) (b:Bool):List D→List Value→Prop
 | [],vs=>vs=[]
 |d :: ds,vs=>∃ v r,vs=v :: r∧DenR h X b d v∧DenRL h X b ds r
theorem DenRL.denL {h:Heap} {X:Addr→Prop}:∀ {ds:List D} {vs:List Value},DenRL h X false ds vs→DenL h X ds vs
 | [],_,e=>e
 |d :: ds,vs,⟨v,r,e,a,q⟩=>⟨v,r,e,a,DenRL.denL q⟩
theorem DenT.free {h:Heap} {X:Addr→Prop} {d:D} {v:Value} (e:DenT h X d v):Den h (fun _=>False) d v:=by
 cases d with
 |list ds =>
  obtain ⟨a,items,e,l,r⟩:=e
  exact ⟨a,items,e,id,l,r.mono (fun _ _ _ _ e=>e) (fun _ _ _=>id)⟩
 |none=>exact e
 |bool _=>exact e
 |int _=>exact e
 |str _=>exact e
 |tup _=>exact Den.mono (fun _ _ _ _ e=>e) (fun _ _ _=>id) _ _ e
 |dmap _=>exact Den.mono (fun _ _ _ _ e=>e) (fun _ _ _=>id) _ _ e
theorem DenRL.free {h:Heap} {X:Addr→Prop} {b:Bool}:∀ {ds:List D} {vs:List Value},DenRL h X b ds vs→DenL h (fun _=>False) ds vs
 | [],_,e=>e
 |d :: ds,vs,⟨v,r,e,a,q⟩=>⟨v,r,e,a.top.free,DenRL.free q⟩
theorem DenRL.one {h:Heap} {X:Addr→Prop} {b:Bool} {d:D} {vs:List Value} (e:DenRL h X b [d] vs):∃ v,vs=[v]∧DenR h X b d v:=by
 obtain ⟨v,r,e,a,q⟩:=e
 exact ⟨v,by rw [e,show r=[] from q],a⟩
theorem DenRL.two {h:Heap} {X:Addr→Prop} {b:Bool} {d e:D} {vs:List Value} (x:DenRL h X b [d,e] vs):∃ v u,vs=[v,u]∧DenR h X b d v∧DenR h X b e u:=by
 obtain ⟨v,r,e,a,q⟩:=x
 obtain ⟨u,e',a'⟩:=q.one
 exact ⟨v,u,by rw [e,e'],a,a'⟩
theorem DenRL.three {h:Heap} {X:Addr→Prop} {b:Bool} {d e f:D} {vs:List Value} (x:DenRL h X b [d,e,f] vs):∃ v u x,vs=[v,u,x]∧DenR h X b d v∧DenR h X b e u∧DenR h X b f x:=by
 obtain ⟨v,r,e,a,q⟩:=x
 obtain ⟨u,x,e',a',a''⟩:=q.two
 exact ⟨v,u,x,by rw [e,e'],a,a',a''⟩
noncomputable def bName:BF→String
 | .len=>"len" | .ord=>"ord" | .chr=>"chr" | .sum=>"sum" | .max2=>"max" | .min2=>"min" | .max1=>"max" | .min1=>"min" | .hex=>"hex" | .divmod=>"divmod"
theorem ny {le:Int→Int→Prop} (rf:∀ a,le a a) (tr:∀ a b c,le a b→le b c→le a c) {f:Int→Int→Int} (hf:∀ a b,(f a b=a∨f a b=b)∧le a (f a b)∧le b (f a b)):∀ (ns:List Int) (n:Int),ns.foldl f n∈n :: ns∧∀ m∈n :: ns,le m (ns.foldl f n)
 | [],n=>⟨List.mem_cons_self,fun m hm=>List.mem_singleton.mp hm▸rf _⟩
 |k :: ns,n=>by
  obtain ⟨h1,h2⟩:=ny rf tr hf ns (f n k)
  obtain ⟨g1,g2,g3⟩:=hf n k
  have h3:=h2 _ List.mem_cons_self
  refine ⟨?_,fun m hm=> ?_⟩
  ·rcases List.mem_cons.mp h1 with e |e
   ·rw [List.foldl_cons,e]
    rcases g1 with g1 |g1<;>rw [g1]
    ·exact List.mem_cons_self
    ·exact List.mem_cons_of_mem _ List.mem_cons_self
   ·exact List.mem_cons_of_mem _ (List.mem_cons_of_mem _ e)
  ·rcases List.mem_cons.mp hm with rfl |hm
   ·exact tr _ _ _ g2 h3
   ·rcases List.mem_cons.mp hm with rfl |hm
    ·exact tr _ _ _ g3 h3
    ·exact h2 m (List.mem_cons_of_mem _ hm)
theorem Am (ns:List Int) (n:Int):ns.foldl (fun a b=>if b > a then b else a) n∈n :: ns∧∀ m∈n :: ns,m≤ns.foldl (fun a b=>if b > a then b else a) n :=
 ny (le:=(· ≤ ·)) Int.le_refl (fun _ _ _=>Int.le_trans) (fun a b=>by
  by_cases h:b > a
  ·rw [if_pos h];exact ⟨.inr rfl,Int.le_of_lt h,Int.le_refl _⟩
  ·rw [if_neg h];exact ⟨.inl rfl,Int.le_refl _,Int.not_lt.mp h⟩) ns n
theorem Ag (ns:List Int) (n:Int):ns.foldl (fun a b=>if b<a then b else a) n∈n :: ns∧∀ m∈n :: ns,ns.foldl (fun a b=>if b<a then b else a) n≤m :=
 ny (le:=fun a b=>b≤a) Int.le_refl (fun _ _ _ h1 h2=>Int.le_trans h2 h1) (fun a b=>by
  by_cases h:b<a
  ·rw [if_pos h];exact ⟨.inr rfl,Int.le_of_lt h,Int.le_refl _⟩
  ·rw [if_neg h];exact ⟨.inl rfl,Int.le_refl _,Int.not_lt.mp h⟩) ns n
theorem oj {h:Heap} {X:Addr→Prop} {ds:List D} {ns:List Int} {its:Array Value} (e:ints? ds=some ns) (r:DenL h X ds its.toList) :
  ∃ xs:Array (Int×Tok),its=intItems xs∧ns=xs.toList.map (·.1):=by
 obtain ⟨h1,h2⟩:=fW e r
 obtain ⟨xs,hx⟩:=h1.allInts.items
 have hx':its=intItems xs:=hx
 subst hx'
 exact ⟨xs,rfl,by rw [← nums_intItems,h1.numsOf]⟩
section
variable {prog:Program} {w:World} {A:Around} {E:Value→Shared→Prop} {s:Shared} {Ex:Addr→Prop}
theorem jx {c:Prop} [Decidable c] {i j:Int} {t u:Tok} {P:Value→Prop} (h:∀ t,P (.int (if c then i else j) t)):P (if c then .int i t else .int j u):=by
 by_cases hc:c
 ·rw [if_pos hc] at h ⊢;exact h _
 ·rw [if_neg hc] at h ⊢;exact h _
theorem jq {d:D} {v:Value} {ns:List Int} {xs:List D} (hd:DenT s.heap Ex d v) (hl:d.list? = some xs) (hn:ints? xs=some ns):∃ p ys,v = .ref p∧s.heap.PlainList p (intItems ys)∧ns=ys.toList.map (·.1):=by
 revert hd
 refine bE (P:=fun d=>DenT s.heap Ex d v→_) hl fun ⟨p,its,e1,l1,r1⟩=> ?_
 obtain ⟨ys,e2,e3⟩:=oj hn r1
 exact ⟨p,ys,e1,e2▸l1,e3⟩
theorem rJ {le:Int→Int→Prop} (anti:∀ a b,le a b→le b a→a=b) {ys:Array (Int×Tok)} {v:Value} {j:Nat} {m:Int} (hv:(intItems ys)[j]? = some v) (hj:j<ys.size) (b2:∀ i,i≤ys.size - 1→le (numAt ys i) (numAt ys j)) (m1:m∈ys.toList.map (·.1)) (m2:∀ k∈ys.toList.map (·.1),le k m):∃ t,v = .int m t:=by
 have hv':v = .int (numAt ys j) ys[j].2:=by
  unfold intItems at hv
  rw [Array.getElem?_map,Array.getElem?_eq_getElem hj] at hv
  rw [← sm hv]
  unfold numAt
  rw [Array.getElem?_eq_getElem hj];rfl
 have hl:(ys.toList.map (·.1)).length=ys.size:=by rw [List.length_map,Array.length_toList]
 refine ⟨_,hv'.trans (congrArg (Value.int · _) (anti _ _ ?_ ?_))⟩
 ·apply m2
  rw [numAt_eq]
  exact PySem.getD_mem (by rw [hl];exact hj)
 ·obtain ⟨i,hi,he⟩:=PySem.mem_getD m1
  rw [← he,← numAt_eq]
  exact b2 i (Nat.le_sub_one_of_lt (hl▸hi))
theorem gP {nm:String} {d e:D} {v:Value} {Q:Value→Shared→Prop} {le:Int→Int→Prop} {f:Int→Int→Int} (anti:∀ a b,le a b→le b a→a=b) (hd:DenT s.heap Ex d v) (h:bestD f d=some e) (P:Ps s Ex e false Q)
  (hf:∀ ns n,ns.foldl f n∈n :: ns∧∀ m∈n :: ns,le m (ns.foldl f n))
  (call':∀ (p:Addr) (ys:Array (Int×Tok)),s.heap.PlainList p (intItems ys)→0<ys.size→ys.size≤1048577→(∀ v h' tk j,j<ys.size→(∀ i,i≤ys.size - 1→le (numAt ys i) (numAt ys j))→(intItems ys)[j]? = some v→Kp s.heap h'→Q v {s with heap:=h',toks:=tk})→wpAny (model prog w) A (call (.builtin nm) [.ref p]) Q E s) :
  wpAny (model prog w) A (call (.builtin nm) [v]) Q E s:=by
 refine ae h fun xs hx h=>ae h fun ns hn h=> ?_
 obtain ⟨p,ys,e1,l1,e3⟩:=jq hd hx hn
 cases ns with
 |nil=>exact ah h
 |cons n ns =>
  refine gd h fun hs h=> ?_
  have hl:ys.size=ns.length+1:=by
   have:=congrArg List.length e3
   rw [List.length_map,Array.length_toList] at this
   exact this.symm
  rw [e1]
  refine call' p ys l1 (hl▸Nat.succ_pos _) (hl▸Nat.succ_le_succ (aF hs)) fun v h' tk j hj b2 hv hk=> ?_
  obtain ⟨m1,m2⟩:=hf ns n
  rw [e3] at m1 m2
  obtain ⟨t,e⟩:=rJ anti hv hj b2 m1 m2
  rw [e]
  exact P _ _ _ hk (sm h▸⟨_,rfl⟩) fun h=>nomatch h
@[elab_as_elim] theorem bj {hp:Heap} {ds:List D} {d:D} {vs:List Value} {P:List Value→Prop} (hd:one? ds=some d) (h:DenRL hp Ex true ds vs) (k:∀ v,DenT hp Ex d v→P [v]):P vs :=
 kF (P:=fun ds=>DenRL hp Ex true ds vs→P vs) hd (fun h=>let ⟨v,e,hv⟩:=h.one;e▸k v hv.top) h
@[elab_as_elim] theorem fA {hp:Heap} {ds:List D} {d:D×D} {vs:List Value} {P:List Value→Prop} (hd:two? ds=some d) (h:DenRL hp Ex true ds vs) (k:∀ v u,DenT hp Ex d.1 v→DenT hp Ex d.2 u→P [v,u]):P vs :=
 jX (P:=fun ds=>DenRL hp Ex true ds vs→P vs) hd (fun h=>let ⟨v,u,e,hv,hu⟩:=h.two;e▸k v u hv.top hu.top) h
@[elab_as_elim] theorem aI {hp:Heap} {d:D} {i:Int} {v:Value} {P:Value→Prop} (hd:d.int? = some i) (h:DenT hp Ex d v) (k:∀ t,P (.int i t)):P v :=
 aM (P:=fun d=>DenT hp Ex d v→P v) hd (fun ⟨t,e⟩=>e▸k t) h
@[elab_as_elim] theorem bQ {hp:Heap} {d:D} {i:Str} {v:Value} {P:Value→Prop} (hd:d.str? = some i) (h:DenT hp Ex d v) (k:∀ t,P (.str i t)):P v :=
 cV (P:=fun d=>DenT hp Ex d v→P v) hd (fun ⟨t,e⟩=>e▸k t) h
@[elab_as_elim] theorem dW {hp:Heap} {d:D} {xs:List D} {v:Value} {P:Value→Prop} (hd:d.list? = some xs) (h:DenT hp Ex d v) (k:∀ p its,hp.PlainList p its→DenL hp Ex xs its.toList→P (.ref p)):P v :=
 bE (P:=fun d=>DenT hp Ex d v→P v) hd (fun ⟨p,its,e,l,r⟩=>e▸k p its l r) h
@[elab_as_elim] theorem jm {hp:Heap} {α:Type} {a b:D} {f:Int→Int→Option α} {r:α} {v u:Value} {P:Value→Value→Prop} (hd:ii f a b=some r) (h:DenT hp Ex a v) (h2:DenT hp Ex b u) (k:∀ i j t t',f i j=some r→P (.int i t) (.int j t')):P v u :=
 ae hd fun i hi hd=>ae hd fun j hj hd=>aI (P:=(P · u)) hi h fun t=>aI (P:=P (.int i t)) hj h2 fun t'=>k i j t t' hd
theorem oG {d e:D} {v:Value} {Q:Value→Shared→Prop} (hd:DenT s.heap Ex d v) (h:lenD d=some e) (P:Ps s Ex e false Q):wpAny (model prog w) A (call (.builtin "len") [v]) Q E s:=by
 cases d with
 |list xs =>
  obtain ⟨p,its,e1,l1,r1⟩:=hd
  refine gd h fun hs e=> ?_
  rw [e1]
  refine len_list (PL.isList l1) (by rw [ak r1];exact cO (aF hs)) ?_
  rw [ak r1];exact P.int e _ _
 |str x =>
  obtain ⟨t,e1⟩:=hd
  refine gd h fun hs e=> ?_
  rw [e1]
  exact PySem.P.len_str (Int.not_le.mpr (cO (aF hs))) (P.int e _ _)
 |_=>exact ah h
theorem nY {f:BF} {ds:List D} {vs:List Value} {d:D} {Q:Value→Shared→Prop} (hh:A.handled=none) (lt:∀ b,Ex b→Al s.heap b) (h:DenRL s.heap Ex true ds vs) (hd:bltD f ds=some d) (P:Ps s Ex d false Q) :
  wpAny (model prog w) A (call (.builtin (bName f)) vs) Q E s:=by
 have kp:∀ (i:Int) (h':Heap) (tk:Nat) (t:Tok),some (D.int i)=some d→(∀ b o,s.heap.get? b=some o→h'.get? b=some o)→Q (.int i t) {s with heap:=h',toks:=tk}:=fun i h' tk t e hk=>P _ _ _ (.of hk) (sm e▸⟨_,rfl⟩) fun h=>nomatch h
 cases f with
 |len =>
  refine ae hd fun a ha hd=> ?_
  refine bj ha h fun v hv=> ?_
  exact oG hv hd P
 |ord =>
  refine ae hd fun a ha hd=>ae hd fun x hx hd=>gd hd fun hs e=> ?_
  refine bj ha h fun v hv=> ?_
  refine bQ hx hv fun t=> ?_
  exact ord_of_one (beq_iff_eq.mp hs) (P.int e _ _)
 |chr =>
  refine ae hd fun a ha hd=>ae hd fun i hi hd=>gd hd fun hs e=>aa hs fun h1 h2=> ?_
  refine bj ha h fun v hv=> ?_
  refine aI hi hv fun t=> ?_
  exact chr_of_range (de h1) (xm (de h2)) (P.str e _ _)
 |sum =>
  refine ae hd fun a ha hd=>ae hd fun xs hx hd=>gd hd fun _ hd=>ax hd fun ns hn e=> ?_
  refine bj ha h fun v hv=> ?_
  obtain ⟨p,ys,e1,l1,e3⟩:=jq hv hx hn
  rw [e1]
  refine sum_intListG hh (PL.isList l1) fun h' tk t' hk=>kp _ _ _ _ ?_ hk
  rw [preSum_eq,List.take_of_length_le (by rw [List.length_map,Array.length_toList];exact Nat.le_refl _),← e3,e]
 |max2 =>
  refine ae hd fun a ha hd=> ?_
  refine fA ha h fun v u hv hu=> ?_
  refine jm hd hv hu fun i j t t' e=>max_two_ints hh fun h' tk hk=> ?_
  exact jx (P:=fun v=>Q v {s with heap:=h',toks:=tk}) (fun t=>kp _ _ _ t e hk)
 |min2 =>
  refine ae hd fun a ha hd=> ?_
  refine fA ha h fun v u hv hu=> ?_
  refine jm hd hv hu fun i j t t' e=>min_two_ints hh fun h' tk hk=> ?_
  exact jx (P:=fun v=>Q v {s with heap:=h',toks:=tk}) (fun t=>kp _ _ _ t e hk)
 |max1 =>
  refine ae hd fun a ha hd=> ?_
  refine bj ha h fun v hv=> ?_
  exact gP (le:=(· ≤ ·)) (fun _ _=>Int.le_antisymm) hv hd P (fun ns n=>Am ns n) fun p ys l1 h0 hz k =>
   max_intList hh (PL.isList l1) h0 fun v h' tk hv hk=>let ⟨b1,b2⟩:=argBest_gt (numAt ys) (ys.size - 1);k v h' tk _ (Nat.lt_of_le_of_lt b1 (Nat.sub_one_lt_of_lt h0)) b2 hv (.of hk)
 |min1 =>
  refine ae hd fun a ha hd=> ?_
  refine bj ha h fun v hv=> ?_
  exact gP (le:=fun a b=>b≤a) (fun _ _ h1 h2=>Int.le_antisymm h2 h1) hv hd P (fun ns n=>Ag ns n) fun p ys l1 h0 hz k =>
   min_intList hh (PL.isList l1) h0 fun v h' tk hv hk=>let ⟨b1,b2⟩:=argBest_lt (numAt ys) (ys.size - 1);k v h' tk _ (Nat.lt_of_le_of_lt b1 (Nat.sub_one_lt_of_lt h0)) b2 hv (.of hk)
 |hex =>
  refine ae hd fun a ha hd=>ae hd fun i hi hd=>gd hd fun hs e=> ?_
  refine bj ha h fun v hv=> ?_
  refine aI hi hv fun t=> ?_
  exact PySem.P.hex_of_int (P.str e _ _) (PySem.baseText_under (by decide) (by decide) (de hs))
 |divmod =>
  refine ae hd fun a ha hd=> ?_
  refine fA ha h fun v u hv hu=> ?_
  refine jm hd hv hu fun i j t t' e=>eH e fun hb e=>iC hb fun h1 h2=> ?_
  obtain rfl:=sm e
  refine divmod_int (nz h1) ?_ (.inl (dc (by rw [← Bool.not_eq_false',h2])))
  have k:=Kp.push s.heap {cls:= .type "tuple",data:= .seq #[.int (i.fdiv j) s.toks,.int (i.fmod j) (s.toks+1)]}
  exact P _ _ _ k ⟨_,_,rfl,fun e=>(lt _ e).ne (az _) rfl,⟨0,Heap.get?_push_size _ rfl⟩,⟨_,_,rfl,⟨_,rfl⟩,_,_,rfl,⟨_,rfl⟩,rfl⟩⟩ fun h=>nomatch h
end
end Mine
set_option genSizeOf false
set_option genInjectivity false
namespace Mine
variable [Tabs] [Frk]
open Builtin Builtin.Str
noncomputable def mId:MF→String
 | .split=>"str.split" | .startswith=>"str.startswith" | .endswith=>"str.endswith" | .find3=>"str.find" | .lower=>"str.lower" | .join=>"str.join" | .count=>"list.count" | .bitlen=>"int.bit_length"
noncomputable def mTy:MF→String
 | .count=>"list" | .bitlen=>"int" |_=>"str"
theorem yQ (f:MF):PlainAttrs (mTy f)∧Slot (mTy f) (mNm f) (mId f)∧typeOf (.builtin (mId f))=pure (.type "method_descriptor"):=by
 cases f
 ·exact ⟨F.plainAttrs_str,F.slot_str_split,F.type_str_split⟩
 ·exact ⟨F.plainAttrs_str,F.slot_str_startswith,F.type_str_startswith⟩
 ·exact ⟨F.plainAttrs_str,F.slot_str_endswith,F.type_str_endswith⟩
 ·exact ⟨F.plainAttrs_str,F.slot_str_find,F.type_str_find⟩
 ·exact ⟨F.plainAttrs_str,F.slot_str_lower,F.type_str_lower⟩
 ·exact ⟨F.plainAttrs_str,F.slot_str_join,F.type_str_join⟩
 ·exact ⟨F.plainAttrs_list,F.slot_list_count,F.type_list_count⟩
 ·exact ⟨F.plainAttrs_int,PyProof.Rows.slot_int_bit_length,PyProof.Rows.type_int_bit_length⟩
theorem zC {f:MF} {d r:D} {ds:List D} {s:Shared} {Ex:Addr→Prop} {v:Value} (h:methD f d ds=some r) (hd:DenT s.heap Ex d v):s.TypeIs v (mTy f)∧(∀ a,v = .ref a→∃ ob,s.heap.get? a=some ob∧ob.dict=none):=by
 have st:∀ {x},d.str? = some x→s.TypeIs v "str"∧(∀ a,v = .ref a→∃ ob,s.heap.get? a=some ob∧ob.dict=none):=fun hx=>by
  refine bQ hx hd fun t=> ?_
  exact ⟨typeIs_str _ _ _,fun _ e=>nomatch e⟩
 cases f with
 |count =>
  refine ae h fun xs hx _=> ?_
  refine dW hx hd fun p its l r=> ?_
  exact ⟨(PL.isList l).typeIs,fun a e=>let ⟨n,ho⟩:=l;⟨_,Value.ref.inj e▸ho,rfl⟩⟩
 |bitlen =>
  refine ae h fun xs hx _=> ?_
  refine aI hx hd fun t=> ?_
  exact ⟨typeIs_int _ _ _,fun _ e=>nomatch e⟩
 |_=>exact ae h fun x hx _=>st hx
theorem lz (x y:Str) (i j:Int) (t u v w:Tok):Gives («str.find» ⟨[.str x t,.str y u,.int i v,.int j w],[]⟩)
  (.int (match occurrences x y (fromIndex x.length i) (min (fromIndex x.length j) x.length) 1 with |k :: _=>(k:Int) | []=> -1)):=by
 show Gives (match occurrences x y (fromIndex x.length i) (min (fromIndex x.length j) x.length) 1 with |k :: _=>retInt k | []=>(do rule "str.find.not-found";retInt (-1))) _
 cases occurrences x y (fromIndex x.length i) (min (fromIndex x.length j) x.length) 1 with
 |nil=>exact .rule (.of_eq rfl)
 |cons k l=>exact .of_eq rfl
theorem eU {n:Nat} {i:Int} (h:0≤i):fromIndex n i=i.toNat:=by
 unfold fromIndex
 split
 ·omega
 ·omega
theorem lW {X Y:Addr→Prop} {s:Shared} {A:Around} {d:D} {v:Value} (hu:A.units+5<cLine) (hv:DenT s.heap Y d v):∀ {xs:List D} {its:List Value} {n:Nat},DenL s.heap X xs its→cntD d xs=some n →
  (∀ y,y∈its→∃ x b,Den s.heap X x y∧eqD x d=some b)∧∀ e:Value→Bool,(∀ y x b,y∈its→Den s.heap X x y→eqD x d=some b→e y=b)→its.countP e=n
 | [],its,n,hx,h=>by
  rw [show its=[] from hx,← sm h]
  exact ⟨fun y hy=>(nomatch hy),fun e _=>rfl⟩
 |x :: xs,its,n,⟨y,r,e',a,b⟩,h=>ae h fun bb h1 h=>ax h fun m h2 h3=>by
  rw [e',← h3]
  obtain ⟨i1,i2⟩:=lW hu hv b h2
  refine ⟨fun z hz=> ?_,fun e he=> ?_⟩
  ·rcases List.mem_cons.mp hz with rfl |hz
   ·exact ⟨x,bb,a,h1⟩
   ·exact i1 z hz
  ·rw [List.countP_cons,i2 e fun y x b hy=>he y x b (List.mem_cons_of_mem _ hy),he y x bb List.mem_cons_self a h1]
theorem vj {x:Str} {ts:List Str} (h:x.length * ts.length+(ts.map (·.length)).sum≤1048576):JoinOk x ts=true:=by
 unfold JoinOk
 rw [StrLaws.joinTotal]
 rw [Nat.mul_comm] at h
 have:tooLong ((ts.map (·.length)).sum+ts.length * x.length)=false:=by
  unfold tooLong
  rw [sizeLine_eq]
  exact decide_eq_false (by omega)
 rw [this];rfl
theorem jH {h:Heap} {X:Addr→Prop}:∀ (l:List (Str×Tok)),DenL h X ((l.map (·.1)).map .str) (strValues l)
 | []=>rfl
 |p :: l=>⟨_,_,rfl,⟨_,rfl⟩,jH l⟩
section
variable {prog:Program} {w:World} {A:Around} {E:Value→Shared→Prop} {s:Shared} {Ex:Addr→Prop}
theorem lG {x y:Str} {t u:Tok} {Q:Value→Shared→Prop} {fr:Bool} (lt:∀ b,Ex b→Al s.heap b) (hx:x.length≤1048576) (hy:0<y.length) (P:Ps s Ex (.list ((Txt.split x y).map .str)) fr Q) :
  wpAny (model prog w) A (call (.builtin "str.split") [.str x t,.str y u]) Q E s:=by
 have hy0:(y.length==0)=false:=by simp;omega
 have key:∀ (l:List (Str×Tok)) tk,l.map (·.1)=Txt.split x y→Q (.ref s.heap.objs.size) {s with heap:=s.heap.push {cls:= .type "list",data:= .seq (strValues l).toArray},toks:=tk}:=fun l tk hl=>by
  refine P.newList lt ?_ tk
  rw [← hl];exact jH l
 have ho:=StrLaws.occ_length_le x y 0 x.length (x.length+1)
 cases h1:(decide (x.length<y.length) || decide (strKind x<strKind y))
 ·cases hf:(occurrences x y 0 x.length (x.length+1)).isEmpty
  ·refine call_meets F.slot_str_split (typeIs_str _ _ _) F.entry_str_split (F.args_str_split_2 _ _) (meets_str_split_sep x y t u h1 hy0 hf (by rw [sizeLine_eq];omega) (by rw [length_partsBetween,sizeLine_eq];omega)) ?_
   show wants Q E _ {s with toks:=_,heap:=s.heap.push {cls:= .type "list",data:= .seq (strsFrom s.toks (partsBetween x (occurrences x y 0 x.length (x.length+1)) y.length)).toArray}}
   rw [strsFrom_eq]
   exact key (numbered s.toks _) _ ((numbered_texts _ _).trans ((if_neg (ne_true_of_eq_false h1)).trans (if_neg (ne_true_of_eq_false hf))).symm)
  ·exact call_meets F.slot_str_split (typeIs_str _ _ _) F.entry_str_split (F.args_str_split_2 _ _) (meets_str_split_not_found x y t u h1 hy0 hf)
    (key [(x,t)] _ ((if_neg (ne_true_of_eq_false h1)).trans (if_pos hf)).symm)
 ·exact call_meets F.slot_str_split (typeIs_str _ _ _) F.entry_str_split (F.args_str_split_2 _ _) (meets_str_split_cannot_occur x y t u h1)
   (key [(x,t)] _ (if_pos h1).symm)
theorem qR {x:Str} {ds:List D} {r:D} {vs:List Value} {P:List Value→Prop} (hd:findD3 x ds=some r) (h:DenRL s.heap Ex true ds vs) (k:∀ y lo hi t u v,(findIn x y lo hi).map .int=some r→P [.str y t,.int lo u,.int hi v]):P vs:=by
 cases ds with
 |nil=>exact ah hd
 |cons d ds =>
  obtain ⟨v,w,e,hv,hw⟩:=h
  refine ae hd fun y hy hd=>ae hd fun p hp hd=>ae hd fun lo hl hd=>ae hd fun hi hh hd=> ?_
  rw [e]
  refine bQ hy hv.top fun t=> ?_
  refine fA hp hw fun a b ha hb=> ?_
  refine aI hl ha fun u=> ?_
  refine aI hh hb fun q=> ?_
  exact k y lo hi t u q hd
theorem jN {f:Str→Str→Option D} {d r:D} {ds:List D} {v:Value} {vs:List Value} {P:Value→List Value→Prop} (hd:ss f d ds=some r) (hv:DenT s.heap Ex d v) (h:DenRL s.heap Ex true ds vs) (k:∀ x y t u,f x y=some r→P (.str x t) [.str y u]):P v vs :=
 ae hd fun x hx hd=>ae hd fun e he hd=>ae hd fun y hy hd=>bj (P:=P v) he h fun w hw=>bQ (P:=fun v=>P v [w]) hx hv fun t=>bQ (P:=fun w=>P (.str x t) [w]) hy hw fun u=>k x y t u hd
theorem lS {ds:List D} {vs:List Value} (hd:ds.isEmpty=true) (h:DenRL s.heap Ex true ds vs):vs=[]:=by
 cases ds with
 |nil=>exact h
 |cons _ _=>exact nomatch hd
theorem lF {d e r:D} {xs:List D} {v u:Value} {Q:Value→Shared→Prop} (hu:A.units+6<cLine) (hv:DenT s.heap Ex d v) (hx:d.list? = some xs) (h:DenT s.heap Ex e u) (hd:(cntD e xs).map (fun (n:Nat)=>D.int (n:Int))=some r) (P:Ps s Ex r false Q) :
  wpAny (model prog w) A (call (.builtin "list.count") [v,u]) Q E s:=by
 refine ax hd fun n hn e1=> ?_
 refine dW hx hv fun p its l r1=> ?_
 obtain ⟨n0,l1⟩:=l
 have hu1:A.in1.units+5<cLine:=Nat.lt_of_le_of_lt (Nat.le_of_eq (Nat.add_assoc A.units 1 5)) hu
 obtain ⟨k1,k2⟩:=lW (A:=A.in1) hu1 h r1 hn
 have hit:∀ y x b,y∈its.toList→Den s.heap Ex x y→eqD x e=some b→hitV s.heap Ex e xs y=b:=fun y x b hy hx hb=>by
  obtain ⟨i,hi⟩:=List.getElem?_of_mem hy
  obtain ⟨x',hx1,hx2⟩:=r1.get' hi
  rw [Den.fn _ _ _ hx.top hx2.top] at hb
  exact lp (List.mem_of_getElem? hx1) hx2 hb
 refine call_meets F.slot_list_count ⟨_,l1,rfl⟩ F.entry_list_count (F.args_list_count_2 _ _) (PySem.SeqAt.list_countAt p its n0 none #[] u (hitV s.heap Ex e xs)) ⟨l1,fun y hy=> ?_,?_⟩
 ·obtain ⟨x,b,hx,hb⟩:=k1 y (Array.mem_toList_iff.mpr hy)
  rw [hit y x b (Array.mem_toList_iff.mpr hy) hx hb]
  exact ej 4 _ (Nat.lt_of_succ_lt hu1) _ _ _ _ _ _ _ hx.top h hb
 ·rw [k2 _ hit]
  exact P.int (congrArg some e1) _ _
theorem na {x:Str} {t:Tok} {e r:D} {u:Value} {Q:Value→Shared→Prop} (h:DenT s.heap Ex e u) (hd:joinD x e=some r) (P:Ps s Ex r false Q):wpAny (model prog w) A (call (.builtin "str.join") [.str x t,u]) Q E s:=by
 refine ae hd fun ys hy hd=>ae hd fun ts ht hd=>gd hd fun hs hd=> ?_
 refine dW hy h fun p its l1 r1=> ?_
 obtain ⟨l,h1,h2⟩:=kH ht r1
 exact SC.join (l:=l) (by rw [← h1];exact PL.isList l1) h2 (vj (aF hs)) fun t' k=>P.str hd _ _
theorem lE {f:MF} {d:D} {ds:List D} {v:Value} {vs:List Value} {r:D} {Q:Value→Shared→Prop} (hu:A.units+6<cLine) (lt:∀ b,Ex b→Al s.heap b) (hv:DenT s.heap Ex d v) (h:DenRL s.heap Ex true ds vs) (hd:methD f d ds=some r) (P:Ps s Ex r (freshM f) Q) :
  wpAny (model prog w) A (call (.builtin (mId f)) (v :: vs)) Q E s:=by
 cases f with
 |split=>exact jN (P:=fun v vs=>wpAny (model prog w) A (call (.builtin "str.split") (v :: vs)) Q E s) hd hv h fun x y t u e=>gd e fun hs e=>aa hs fun h1 h2=>by obtain rfl:=sm e;exact lG lt (aF h1) (de h2) P
 |startswith=>exact jN (P:=fun v vs=>wpAny (model prog w) A (call (.builtin "str.startswith") (v :: vs)) Q E s) hd hv h fun x y t u e=>SC.startswith (P.here (sm e▸rfl))
 |endswith=>exact jN (P:=fun v vs=>wpAny (model prog w) A (call (.builtin "str.endswith") (v :: vs)) Q E s) hd hv h fun x y t u e=>SC.endswith (P.here (sm e▸rfl))
 |find3 =>
  refine ae hd fun x hx hd=> ?_
  refine bQ hx hv fun t0=> ?_
  refine qR (P:=fun vs=>wpAny (model prog w) A (call (.builtin "str.find") (.str x t0 :: vs)) Q E s) hd h fun y lo hi t u v e=>ax e fun i hf e=>gd hf fun hs hf=> ?_
  refine aa hs fun hs h4=>aa hs fun hs h3=> ?_
  refine call_gives F.slot_str_find (typeIs_str _ _ _) F.entry_str_find (F.args_str_find_4 _ _ _ _) (lz _ _ _ _ _ _ _ _) ?_
  rw [eU (de h3),eU (de h4)]
  exact P.int (congrArg some ((congrArg D.int (sm hf)).trans e)) _ _
 |lower =>
  refine ae hd fun x hx hd=>gd hd fun hs hd=>aa hs fun h1 h2=> ?_
  rw [lS h1 h]
  refine bQ hx hv fun t0=> ?_
  exact SC.lower (fit_lower (Nat.le_trans (aF h2) (by decide))) (P.str hd _ _)
 |join =>
  refine ae hd fun x hx hd=>ae hd fun e he hd=> ?_
  refine bj he h fun u hu=> ?_
  refine bQ hx hv fun t0=> ?_
  exact na hu hd P
 |count =>
  refine ae hd fun xs hx hd=>ae hd fun e he hd=>gd hd fun _ hd=> ?_
  refine bj he h fun u hu'=> ?_
  exact lF hu hv hx hu' hd P
 |bitlen =>
  refine ae hd fun x hx hd=>gd hd fun h1 hd=> ?_
  rw [lS h1 h]
  refine aI hx hv fun t0=> ?_
  exact PyProof.Rows.call_int_bit_length (P.int hd _ _)
end
end Mine
set_option genSizeOf false
set_option genInjectivity false
namespace Mine
variable [Tabs] [Frk]
noncomputable def ScEq (env:Env) (sc:Scope):Prop:=∀ x,env.scope.names.lookup x=sc.names.lookup x∨(sc.names.lookup x=some .free∧env.scope.names.lookup x=some .cell)
theorem ScEq.seen {env:Env} {sc:Scope} {x:Str} (h:ScEq env sc) (hs:seen sc x=true):Mine.seen env.scope x=true:=by
 unfold Mine.seen at hs ⊢
 rcases h x with h |⟨h1,h2⟩
 ·rw [h];exact hs
 ·rw [h2];rfl
theorem ScEq.glob {env:Env} {sc:Scope} {x:Str} (h:ScEq env sc) (hs:isGlob sc x=true):env.kindOf x=some .globalImplicit:=by
 have hs:(sc.names.lookup x==_)=true:=hs
 rcases h x with h |⟨h1,h2⟩
 ·exact h.trans (beq_iff_eq.mp hs)
 ·rw [h1] at hs;exact absurd hs (by decide)
noncomputable def bnames:List Str:=["len","ord","chr","sum","max","min","hex","divmod","range","enumerate","reversed","list","next","iter","StopIteration"]
structure Base (prog:Program) (w:World) (c:Cx) (G:ag) (hB:Heap) (mg mb:Str→Option Value):Prop where
 ns:hB.Ns mainGlobals mg
 bn:hB.Ns builtinsNs mb
 blt:∀ x,x∈bnames→mg x=none∧mb x=bootBuiltins x
 cst:∀ x d,x∈c.consts→G.const x=some d→d.scalar=true∧∃ v,mg x=some v∧Den hB (fun _=>False) d v
 iset:∀ x l,x∈c.sets→G.iset x=some l→∃ a,mg x=some (.ref a)∧∀ (A:Around) (E:Value→Shared→Prop) (s:Shared) (i:Int) (t:Tok) (Q:Value→Shared→Prop),KB hB s.heap→A.units+12<cLine→(∀ tk,Q (.bool (l.contains i)) {s with toks:=tk}) →
  wpAny (model prog w) A (compareOp .In (.int i t) (.ref a)) Q E s
 idict:∀ x l,x∈c.dicts→G.idict x=some l→∃ a,mg x=some (.ref a)∧∀ (s:Shared),KB hB s.heap→s.TypeIs (.ref a) "dict"∧(∃ ob,s.heap.get? a=some ob∧ob.dict=none) ∧
  ∀ (A:Around) (E:Value→Shared→Prop) (i:Int) (t:Tok) (Q:Value→Shared→Prop) (dv:Value),A.units+12<cLine→(∀ tk,match l.lookup i with |some v=>∀ t',Q (.str v t') {s with toks:=tk} |none=>Q dv {s with toks:=tk}) →
   wpAny (model prog w) A (call (.builtin "dict.get") [.ref a,.int i t,dv]) Q E s∧(dv = .none→wpAny (model prog w) A (call (.builtin "dict.get") [.ref a,.int i t]) Q E s)
 ndb:∀ x,x∈c.sets∨x∈c.dicts→(x==("__debug__":Str))=false
 fn:∀ x,x∈c.fns→∃ a o fd,mg x=some (.ref a)∧hB.get? a=some o∧o.data = .func fd
 dm:∀ l o,Tabs.dm l o→DmObj prog w l o
 dk:G.dd=true→(∀ l o,DmObj prog w l o→Tabs.dm l o)∧∃ L,Frk.dl=some L∧∀ b,Tabs.fa b→b=L
noncomputable def Ctr (prog:Program) (w:World) (hB:Heap) (n:Nat) (F:FEnv) (f:Str) (a:Addr):Prop :=
 ∀ (A:Around) (E:Value→Shared→Prop) (s:Shared) (X:Addr→Prop) (ds:List D) (vs:List Value) (r:D) (Q:Value→Shared→Prop),Ar n A→KB hB s.heap→(∀ b,X b→Al s.heap b)→DenL s.heap X ds vs→F f ds=some r →
  (∀ v h' tk,Kp s.heap h'→Den h' X r v→Q v {s with heap:=h',toks:=tk})→wpAny (model prog w) A (call (.ref a) vs) Q E s
noncomputable def Pe (s:Shared) (Ex:Addr→Prop) (b:Bool) (d:D) (fr:Bool) (Q:Value→Shared→Prop):Prop :=
 ∀ v h' tk,Kp s.heap h'→DenR h' Ex b d v→(fr=true→FrV s.heap h' Ex d v)→Q v {s with heap:=h',toks:=tk}
theorem FrV.from {h h₁ h':Heap} {Ex:Addr→Prop} {d:D} {v:Value} (k:Kp h h₁) (e:FrV h₁ h' Ex d v):FrV h h' Ex d v:=by
 obtain ⟨a,items,ds,e1,e2,r⟩:=e
 exact ⟨a,items,ds,e1,k.none e2,r⟩
theorem Pe.from {s:Shared} {Ex:Addr→Prop} {b:Bool} {d:D} {fr:Bool} {Q:Value→Shared→Prop} (P:Pe s Ex b d fr Q) {h₁:Heap} {tk:Nat} (k:Kp s.heap h₁):Ps {s with heap:=h₁,toks:=tk} Ex d fr Q :=
 fun v h' tk' k' hd hf=>P v h' tk' (k.trans k') (hd.toR) fun e=>(hf e).from k
structure Wd where
 P:Program
 w:World
 c:Cx
 G:ag
 F:FEnv
 hB:Heap
 n:Nat
noncomputable abbrev Wd.Ok (X:Wd) (mg mb:Str→Option Value):Prop:=Base X.P X.w X.c X.G X.hB mg mb
noncomputable def Wd.Ct (X:Wd) (mg:Str→Option Value):Prop:=∀ f a,f∈X.c.fns→mg f=some (.ref a)→Ctr X.P X.w X.hB X.n X.F f a
structure At (X:Wd) (sc:Scope) (σ:MEnv) where
 A:Around
 s:Shared
 env:Env
 Ex:Addr→Prop
 ow:Nat→Addr
 hsc:ScEq env sc
 R:RR env X.c.tbl Ex ow σ s.heap
 k:KB X.hB s.heap
 ar:Ar X.n A
noncomputable abbrev At.to {X:Wd} {sc:Scope} {σ:MEnv} (p:At X sc σ) {h:Heap} (k:Kp p.s.heap h) (tk:Nat):At X sc σ where
 A:=p.A
 s:={p.s with heap:=h,toks:=tk}
 env:=p.env
 Ex:=p.Ex
 ow:=p.ow
 hsc:=p.hsc
 R:=p.R.keep k
 k:=p.k.trans k
 ar:=p.ar
section
variable (X:Wd) (sc:Scope)
noncomputable def VS (t:T) (e:Expr):Prop:=∀ (σ:MEnv) (p:At X sc σ) (E:Value→Shared→Prop) (b:Bool) (d:D) (Q:Value→Shared→Prop),ev X.G X.F σ b t=some d →
 Pe p.s p.Ex b d (freshT t d) Q→wpAny (model X.P X.w) p.A (eval e p.env) Q E p.s
noncomputable def IsS (t:T) (e:Expr):Prop:=∀ (σ:MEnv) (p:At X sc σ) (E:Value→Shared→Prop) (d:D) (r:Bool) (Q:Bool→Shared→Prop),ev X.G X.F σ true t=some d→truthy d=some r →
 (∀ h' tk,Kp p.s.heap h'→Q r {p.s with heap:=h',toks:=tk})→wpAny (model X.P X.w) p.A (isTrue e p.env (eval e p.env)) Q E p.s
noncomputable def AS (t:T) (es:List Expr):Prop :=
 (∀ env pos,(backTo pos (starEach es env)).any (·.1)=false∧(backTo pos (starEach es env)).all (fun x=> !x.1)=true∧(es=[]∧t = .nil∧backTo pos (starEach es env)=[]∨∃ x r,backTo pos (starEach es env)=(false,x) :: r)) ∧
 ∀ (σ:MEnv) (p:At X sc σ) (E:Value→Shared→Prop) (b:Bool) (ds:List D) (pos:Pos) (Q:List Value→Shared→Prop),ev X.G X.F σ b t=some (.tup ds) →
  (∀ vs h' tk,Kp p.s.heap h'→DenRL h' p.Ex b ds vs→Q vs {p.s with heap:=h',toks:=tk})→wpAny (model X.P X.w) p.A (spliced (backTo pos (starEach es p.env))) Q E p.s
end
theorem FrV.keep {h h₁ h':Heap} {Ex:Addr→Prop} {d:D} {v:Value} (k:Kp h₁ h') (e:FrV h h₁ Ex d v):FrV h h' Ex d v:=by
 obtain ⟨a,items,ds,e1,e2,e3,l,r⟩:=e
 exact ⟨a,items,ds,e1,e2,e3,PL.at' l (k.at a),r.keep k⟩
theorem Ar.cl {n:Nat} {A:Around} (h:Ar n A):A.units+12<cLine :=
 Nat.lt_of_le_of_lt (Nat.add_le_add_right (Nat.le_trans (Nat.le_add_right _ _) h.units) 12) (by decide)
theorem Ar.cl6 {n:Nat} {A:Around} (h:Ar n A):A.units+6<cLine:=Nat.lt_of_le_of_lt (Nat.add_le_add_left (by decide) _) h.cl
section
variable {X:Wd} {sc:Scope}
theorem At.here {σ:MEnv} {p:At X sc σ} {b:Bool} {d:D} {Q:Value→Shared→Prop} {v:Value} (P:Pe p.s p.Ex b d false Q) (hd:Den p.s.heap p.Ex d v) (tk:Nat):Q v {p.s with toks:=tk} :=
 P v p.s.heap tk (Kp.refl _) hd.toR fun e=>nomatch e
theorem yJ {x:Str} {i:Nat} {pos:Pos} (hs:seen sc x=true) (hi:X.c.tbl[i]? = some x) (hd:(x==("__debug__":Str))=false) (hcd:(x==("__classdict__":Str))=false):VS X sc (.var i) (.Name x pos):=fun σ p E b d Q h P=>by
 refine ae h fun q hg h=>eH h fun hx h=> ?_
 refine ro p.R (p.hsc.seen hs) hi hg hd hcd fun v hv=>P v p.s.heap p.s.toks (Kp.refl _) ?_ (fun e=>nomatch e)
 rw [← sm h]
 cases b with
 |true=>exact hv.top
 |false =>
  rw [Bool.not_false,Bool.and_true,Bool.not_eq_true] at hx
  rw [hx] at hv
  exact hv
theorem wh {x:Str} {pos:Pos} {mg mb:Str→Option Value} (B:X.Ok mg mb) (hs:isGlob sc x=true) (hi:x∈X.c.consts) (hd:(x==("__debug__":Str))=false):VS X sc (.glob x) (.Name x pos):=fun σ p E b d Q h P=>by
 obtain ⟨h1,v,h2,h3⟩:=B.cst x d hi h
 exact PySem.Calls.Name_function_global p.R.ok.kind (p.hsc.glob hs) (PySem.Calls.loadGlobal_global (by rw [p.R.ok.glob];exact p.k.ns B.ns) h2 (At.here P (h3.scal h1) _)) hd
theorem pR {k:D} {kd:Nat} {pos:Pos}:VS X sc (.cst k) (.Constant (constE k) kd pos):=fun σ p E b d Q h P=>by
 refine gd h fun hs h=> ?_
 obtain rfl:=sm h
 cases k with
 |none=>exact wpAny_Constant_none (At.here P rfl _)
 |bool _=>exact wpAny_Constant_bool (At.here P rfl _)
 |int _=>exact wpAny_Constant_int (At.here P ⟨_,rfl⟩ _)
 |str _=>exact wpAny_Constant_str (At.here P ⟨_,rfl⟩ _)
 |list _=>exact nomatch hs
 |tup _=>exact nomatch hs
 |dmap _=>exact nomatch hs
theorem xP {op:Operator} {ta tb:T} {a b:Expr} {pos:Pos} (ha:VS X sc ta a) (hb:VS X sc tb b):VS X sc (.bin op ta tb) (.BinOp a op b pos):=fun σ p E bb d Q h P=>by
 refine ae h fun x hx h=>ae h fun y hy h=> ?_
 refine wpAny_BinOp (ha σ p E true x _ hx fun va h1 tk1 k1 d1 _=>hb σ (p.to k1 tk1) E true y _ hy fun vb h2 tk2 k2 d2 _=> ?_)
 exact ez (p.R.keep (k1.trans k2)).lt (d1.keep k2).top d2.top h (P.from (k1.trans k2))
theorem ub {op:UnaryOp} {ta:T} {a:Expr} {pos:Pos} (ha:VS X sc ta a):VS X sc (.un op ta) (.UnaryOp op a pos):=fun σ p E bb d Q h P=>by
 refine ae h fun x hx h=> ?_
 exact wpAny_UnaryOp (ha σ p E true x _ hx fun va h1 tk1 k1 d1 _=>qm d1.top h (P.from k1))
theorem mQ {op:CmpOp} {ta tb:T} {a b:Expr} (ha:VS X sc ta a) (hb:VS X sc tb b) {σ:MEnv} (p:At X sc σ) {E:Value→Shared→Prop} {x y:D} {r:Bool} {Q:Value→Shared→Prop} (hx:ev X.G X.F σ true ta=some x) (hy:ev X.G X.F σ true tb=some y) (hr:cmpD op x y=some r)
  (P:∀ h' tk,Kp p.s.heap h'→Q (.bool r) {p.s with heap:=h',toks:=tk}):wpAny (model X.P X.w) p.A (eval a p.env) (fun va s₁=>wpAny (model X.P X.w) p.A (eval b p.env) (fun vb s₂=>wpAny (model X.P X.w) p.A (compareOp op va vb) Q E s₂) E s₁) E p.s :=
 ha σ p E true x _ hx fun va h1 tk1 k1 d1 _=>hb σ (p.to k1 tk1) E true y _ hy fun vb h2 tk2 k2 d2 _=>bU p.ar.cl6 (d1.keep k2).top d2.top hr (P h2 tk2 (k1.trans k2))
theorem yS {op:CmpOp} {ta tb:T} {a b:Expr} {pos:Pos} (ha:VS X sc ta a) (hb:VS X sc tb b) (hm:behindInMarks op b=false):VS X sc (.cmp op ta tb) (.Compare a [op] [b] pos):=fun σ p E bb d Q h P=>by
 refine ae h fun x hx h=>ae h fun y hy h=>ax h fun r hr e=> ?_
 exact wpAny_Compare1 (mQ ha hb p hx hy hr fun h' tk k=>P _ h' tk k (Den.toR (e▸rfl)) fun e=>nomatch e) hm
theorem yv {op:CmpOp} {ta tb:T} {a b:Expr} {pos:Pos} (ha:VS X sc ta a) (hb:VS X sc tb b) (hm:behindInMarks op b=false):IsS X sc (.cmp op ta tb) (.Compare a [op] [b] pos):=fun σ p E d r0 Q h ht P=>by
 refine ae h fun x hx h=>ae h fun y hy h=>ax h fun r hr e=> ?_
 obtain rfl:r=r0:=sm ((congrArg truthy e).trans ht)
 exact wpAny_isTrue_Compare1 (mQ ha hb p hx hy hr fun h' tk k=>wpAny_truthy_bool (P h' tk k)) hm
theorem md {o1 o2:CmpOp} {e1 e2:Expr} {t1 t2:Sem Value} (h:behindInMarks o2 e2=false):markedEach [o1,o2] [e1,e2] [t1,t2]=[t1,t2]:=by
 show [t1,markedBehindIn o2 e2 t2]=_
 unfold markedBehindIn
 rw [h]
theorem wq {o1 o2:CmpOp} {ta tb tc:T} {a b e:Expr} {pos:Pos} (ha:VS X sc ta a) (hb:VS X sc tb b) (hc:VS X sc tc e) (hm:behindInMarks o2 e=false) :
  VS X sc (.cmp2 o1 o2 ta tb tc) (.Compare a [o1,o2] [b,e] pos):=fun σ p E bb d Q h P=>by
 refine ae h fun x hx h=>ae h fun y hy h=>ae h fun r hr h=> ?_
 rw [arm_eval_Compare,arm_evalEach_cons,arm_evalEach_cons,arm_evalEach_nil,md hm]
 refine wpAny_bind (ha σ p E true x _ hx fun va h1 tk1 k1 d1 _=> ?_)
 refine wpAny_bind (wpAny_holding (hb σ (p.to k1 tk1) E true y _ hy fun vb h2 tk2 k2 d2 _=> ?_))
 refine wpAny_bind (wpAny_standAt (wpAny_bind (wpAny_holding (bU p.ar.cl6 (d1.keep k2).top d2.top hr ?_))))
 refine wpAny_bind (wpAny_release (wpAny_bind (wpAny_holding (wpAny_truthy_bool ?_))))
 cases r with
 |true =>
  rw [if_pos rfl]
  refine ae h fun z hz h=>ax h fun r hr2 e=> ?_
  refine wpAny_bind (wpAny_holding (hc σ (p.to (k1.trans k2) tk2) E true z _ hz fun vc h3 tk3 k3 d3 _=> ?_))
  refine wpAny_bind (wpAny_standAt (wpAny_operateT ?_))
  exact bU p.ar.cl6 (d2.keep k3).top d3.top hr2 (P _ _ _ ((k1.trans k2).trans k3) (Den.toR (e▸rfl)) fun e=>nomatch e)
 |false =>
  rw [if_neg (by decide)]
  exact wpAny_pure (P _ _ _ (k1.trans k2) (Den.toR (sm h▸rfl)) fun e=>nomatch e)
theorem vh {o1 o2:CmpOp} {ta tb tc:T} {a b e:Expr} {pos:Pos} (ha:VS X sc ta a) (hb:VS X sc tb b) (hc:VS X sc tc e) (hm:behindInMarks o2 e=false) :
  IsS X sc (.cmp2 o1 o2 ta tb tc) (.Compare a [o1,o2] [b,e] pos):=fun σ p E d r0 Q h ht P=>by
 refine ae h fun x hx h=>ae h fun y hy h=>ae h fun r hr h=> ?_
 rw [arm_isTrue_Compare,arm_evalEach_cons,arm_evalEach_cons,arm_evalEach_nil,md hm]
 refine wpAny_bind (ha σ p E true x _ hx fun va h1 tk1 k1 d1 _=> ?_)
 refine wpAny_bind (wpAny_holding (hb σ (p.to k1 tk1) E true y _ hy fun vb h2 tk2 k2 d2 _=> ?_))
 refine wpAny_bind (wpAny_standAt (wpAny_bind (wpAny_holding (bU p.ar.cl6 (d1.keep k2).top d2.top hr ?_))))
 refine wpAny_bind (wpAny_release (wpAny_bind (wpAny_holding (wpAny_truthy_bool ?_))))
 cases r with
 |true =>
  rw [if_pos rfl]
  refine ae h fun z hz h=>ax h fun r hr2 e=> ?_
  obtain rfl:r=r0:=sm ((congrArg truthy e).trans ht)
  refine wpAny_bind (wpAny_holding (hc σ (p.to (k1.trans k2) tk2) E true z _ hz fun vc h3 tk3 k3 d3 _=> ?_))
  refine wpAny_bind (wpAny_standAt (wpAny_bind (wpAny_operateT ?_)))
  exact bU p.ar.cl6 (d2.keep k3).top d3.top hr2 (wpAny_holding (wpAny_truthy_bool (P _ _ ((k1.trans k2).trans k3))))
 |false =>
  rw [if_neg (by decide)]
  obtain rfl:false=r0:=sm ((congrArg truthy (sm h)).trans ht)
  exact wpAny_pure (P _ _ (k1.trans k2))
end
end Mine
set_option genSizeOf false
set_option genInjectivity false
namespace Mine
variable [Tabs] [Frk]
section
variable {X:Wd} {sc:Scope}
theorem gi {t:T} {e:Expr} (h:VS X sc t e) (he:∀ env whole,isTrue e env whole=(do let v ← whole;standAt e.pos;holding [v] (PySem.truthy v))):IsS X sc t e:=fun σ p E d r Q hd ht P =>
 wpAny_isTrue_value (h σ p E true d _ hd fun v h1 tk1 k1 d1 _=>cU d1.top ht fun tk=>P h1 tk k1) (he _ _)
theorem xg {ta:T} {a:Expr} {pos:Pos} (ha:IsS X sc ta a):IsS X sc (.un .Not ta) (.UnaryOp .Not a pos):=fun σ p E d r Q h ht P=>by
 refine ae h fun x hx h=>ax h fun b hb e=> ?_
 obtain rfl:(!b)=r:=sm ((congrArg truthy e).trans ht)
 exact wpAny_isTrue_Not (ha σ p E x b _ hx hb P)
theorem yp {tc ta tb:T} {e a b:Expr} {pos:Pos} (hc:IsS X sc tc e) (ha:VS X sc ta a) (hb:VS X sc tb b):VS X sc (.ite tc ta tb) (.IfExp e a b pos):=fun σ p E bb d Q h P=>by
 refine ae h fun x hx h=>ae h fun r ht h=> ?_
 refine wpAny_IfExp (hc σ p E x r _ hx ht fun h1 tk1 k1=> ?_)
 cases r with
 |true =>
  rw [if_pos rfl]
  exact ha σ (p.to k1 tk1) E bb d Q h fun v h' tk k' hd _=>P v h' tk (k1.trans k') hd fun e=>nomatch e
 |false =>
  rw [if_neg (by decide)]
  exact hb σ (p.to k1 tk1) E bb d Q h fun v h' tk k' hd _=>P v h' tk (k1.trans k') hd fun e=>nomatch e
theorem yB {tc ta tb:T} {e a b:Expr} {pos:Pos} (hc:IsS X sc tc e) (ha:IsS X sc ta a) (hb:IsS X sc tb b):IsS X sc (.ite tc ta tb) (.IfExp e a b pos):=fun σ p E d r0 Q h hr P=>by
 refine ae h fun x hx h=>ae h fun r ht h=> ?_
 rw [arm_isTrue_IfExp]
 refine wpAny_bind (hc σ p E x r _ hx ht fun h1 tk1 k1=> ?_)
 cases r with
 |true =>
  rw [if_pos rfl]
  exact ha σ (p.to k1 tk1) E d r0 Q h hr fun h' tk k'=>P h' tk (k1.trans k')
 |false =>
  rw [if_neg (by decide)]
  exact hb σ (p.to k1 tk1) E d r0 Q h hr fun h' tk k'=>P h' tk (k1.trans k')
noncomputable def BS (X:Wd) (sc:Scope) (t:T) (op:BoolOp) (es:List Expr):Prop :=
 (∀ (σ:MEnv) (p:At X sc σ) (E:Value→Shared→Prop) (b:Bool) (d:D) (pos:Pos) (Q:Value→Shared→Prop),ev X.G X.F σ b t=some d→Pe p.s p.Ex b d false Q→wpAny (model X.P X.w) p.A (boolOp pos op (evalEach es p.env)) Q E p.s) ∧
 (∀ (σ:MEnv) (p:At X sc σ) (E:Value→Shared→Prop) (d:D) (r:Bool) (Q:Bool→Shared→Prop),ev X.G X.F σ true t=some d→truthy d=some r→(∀ h' tk,Kp p.s.heap h'→Q r {p.s with heap:=h',toks:=tk})→wpAny (model X.P X.w) p.A (allTrue op es p.env) Q E p.s)
theorem xz {t:T} {e:Expr} {op:BoolOp} (h:VS X sc t e) (hi:IsS X sc t e):BS X sc t op [e]:=by
 refine ⟨fun σ p E b d pos Q hd P=> ?_,fun σ p E d r Q hd ht P=> ?_⟩
 ·rw [arm_evalEach_cons,arm_evalEach_nil]
  exact h σ p E b d Q hd fun v h' tk k' hd _=>P v h' tk k' hd fun e=>nomatch e
 ·rw [arm_allTrue_cons]
  refine wpAny_bind (hi σ p E d r _ hd ht fun h1 tk1 k1=> ?_)
  have:=P h1 tk1 k1
  cases op<;>cases r<;>exact wpAny_pure this
theorem wa {ta tr:T} {a:Expr} {r1:Expr} {rest:List Expr} {op:BoolOp} (h:VS X sc ta a) (hi:IsS X sc ta a) (hr:BS X sc tr op (r1 :: rest)):BS X sc (.bop op ta tr) op (a :: r1 :: rest):=by
 refine ⟨fun σ p E b d pos Q hd P=> ?_,fun σ p E d r0 Q hd ht0 P=> ?_⟩
 ·refine ae hd fun x hx hd=>ae hd fun r ht hd=> ?_
  rw [arm_evalEach_cons,arm_evalEach_cons]
  refine wpAny_bind (h σ p E b x _ hx fun v h1 tk1 k1 d1 _=> ?_)
  refine wpAny_bind (wpAny_standAt (wpAny_bind (wpAny_holding (cU d1.top ht fun tk=> ?_))))
  have stop:=fun e:some x=some d=>P v h1 tk k1 (sm e▸d1) fun e=>nomatch e
  have go:=fun hd=>hr.1 σ (p.to k1 tk) E b d pos Q hd fun v h' tk k' hd _=>P v h' tk (k1.trans k') hd fun e=>nomatch e
  cases op<;>cases r<;>first |exact wpAny_pure (stop hd) |exact go hd
 ·refine ae hd fun x hx hd=>ae hd fun r ht hd=> ?_
  rw [arm_allTrue_cons]
  refine wpAny_bind (hi σ p E x r _ hx ht fun h1 tk1 k1=> ?_)
  have stop:=fun e:some x=some d=>(show r=r0 from sm (ht.symm.trans ((congrArg truthy (sm e)).trans ht0)))▸P h1 tk1 k1
  have go:=fun hd=>hr.2 σ (p.to k1 tk1) E d r0 Q hd ht0 fun h' tk k'=>P h' tk (k1.trans k')
  cases op<;>cases r<;>first |exact wpAny_pure (stop hd) |exact go hd
theorem wH {op:BoolOp} {ta tr:T} {es:List Expr} {pos:Pos} (h:BS X sc (.bop op ta tr) op es):VS X sc (.bop op ta tr) (.BoolOp op es pos):=fun σ p E bb d Q hd P=>by
 rw [arm_eval_BoolOp]
 exact h.1 σ p E bb d pos Q hd P
theorem uS {t:T} {op:BoolOp} {es:List Expr} {pos:Pos} (h:BS X sc t op es):IsS X sc t (.BoolOp op es pos):=fun σ p E d r Q hd ht P =>
 wpAny_isTrue_BoolOp (h.2 σ p E d r Q hd ht P)
theorem yE:AS X sc .nil [] :=
 ⟨fun env pos=>⟨rfl,rfl,.inl ⟨rfl,rfl,rfl⟩⟩,fun σ p E b ds pos Q h P=>PySem.Calls.spliced_nil (P [] p.s.heap p.s.toks (Kp.refl _) (by rw [← nV (sm h)];rfl))⟩
theorem wQ {te tr:T} {e:Expr} {r:List Expr} (hst:∀ rest env,starEach (e :: rest) env=(false,eval e env) :: starEach rest env) (he:VS X sc te e) (hr:AS X sc tr r):AS X sc (.cons te tr) (e :: r):=by
 have e1:∀ env pos,backTo pos (starEach (e :: r) env)=(false,eval e env) :: backTo pos (starEach r env):=fun env pos=>by rw [hst];rfl
 refine ⟨fun env pos=> ?_,fun σ p E b ds pos Q h P=> ?_⟩
 ·obtain ⟨h1,h2,_⟩:=hr.1 env pos
  rw [e1]
  exact ⟨by rw [List.any_cons,h1];rfl,by rw [List.all_cons,h2];rfl,.inr ⟨_,_,rfl⟩⟩
 ·refine ae h fun x hx h=>ae h fun y hy h=>ax h fun xs hxs e=> ?_
  rw [e1]
  refine PySem.Calls.spliced_cons (he σ p E b x _ hx fun v h1 tk1 k1 d1 f1=> ?_)
  refine hr.2 σ (p.to k1 tk1) E b xs pos _ (cT (P:=fun y=>ev X.G X.F σ b tr=some y→_) hxs id hy) fun vs h2 tk2 k2 d2=> ?_
  exact P (v :: vs) h2 tk2 (k1.trans k2) (nV e▸⟨v,vs,rfl,d1.keep k2,d2⟩)
theorem eS {α:Type} {t:T} {σ:MEnv} {b:Bool} {f:List D→Option α} {r:α} {P:Prop} {G:ag} {F:FEnv} (h:((ev G F σ b t).bind fun y=>y.tup?.bind f)=some r) (k:∀ ds,ev G F σ b t=some (.tup ds)→f ds=some r→P):P :=
 ae h fun y hy h=>ae h fun ds hds h=>cT (P:=fun y=>ev G F σ b t=some y→P) hds (fun hy=>k ds hy h) hy
theorem vz {t:T} {es:List Expr} {pos:Pos} (h:AS X sc t es):VS X sc (.list t) (.List es pos):=fun σ p E b d Q hd P=>by
 refine eS hd fun xs hxs hd=>gd hd fun hs hd=> ?_
 obtain rfl:=sm hd
 refine wpAny_List (h.2 σ p E false xs pos _ hxs fun vs h1 tk1 k1 d1=> ?_)
 have dl:=d1.denL
 exact ⟨dl.length▸bP (aF hs),Ps.newList (s:={p.s with heap:=h1,toks:=tk1}) (P.from k1) (p.R.keep k1).lt dl tk1⟩
theorem pS {t:T} {es:List Expr} {kk:Nat} {pos:Pos} (h:AS X sc t es):VS X sc (.tup t) (.Tuple es kk pos):=fun σ p E b d Q hd P=>by
 refine eS hd fun xs hxs hd=>gd hd fun hs hd=> ?_
 obtain rfl:=sm hd
 refine wpAny_Tuple (h.2 σ p E false xs pos _ hxs fun vs h1 tk1 k1 d1=> ?_)
 have dl:=d1.denL
 have k2:=Kp.push h1 {cls:= .type "tuple",data:= .seq vs.toArray}
 exact ⟨dl.length▸bP (aF hs),P _ _ _ (k1.trans k2) (Den.toR ⟨_,_,rfl,fun e=>((p.R.keep k1).lt _ e).ne (az _) rfl,⟨0,Heap.get?_push_size _ rfl⟩,dl.keep k2⟩) fun e=>nomatch e⟩
noncomputable def Subs (s:Shared) (v:Value):Prop:=∃ T id,s.TypeIs v T∧typeLookup (.type T) "__getitem__"=pure (some (.builtin id))
theorem kI {a:D} {va:Value} {s:Shared} {Ex:Addr→Prop} (hm:∀ l o,Tabs.dm l o→DmObj X.P X.w l o) (ha:DenT s.heap Ex a va) (h:(match a with | .list _=>true | .tup _=>true | .str _=>true | .dmap _=>true |_=>false)=true):Subs s va:=by
 cases a with
 |list xs=>obtain ⟨p,its,e,l,r⟩:=ha;rw [e];exact ⟨_,_,(PL.isList l).typeIs,slot_list_getitem.lookup⟩
 |tup xs=>obtain ⟨p,its,e,_,l,r⟩:=ha;rw [e];exact ⟨_,_,(TupAt.isTup l).typeIs,F.slot_tuple_getitem.lookup⟩
 |str x=>obtain ⟨t,e⟩:=ha;rw [e];exact ⟨_,_,typeIs_str _ _ _,F.slot_str_getitem.lookup⟩
 |dmap l=>obtain ⟨p,o,e,_,t,q⟩:=ha;obtain ⟨kvs,k1,_⟩:=hm _ _ q;rw [e];exact ⟨_,_,(Heap.dictOf_iff.mpr ⟨o,t.1,k1⟩).mapOf.typeIs,slot_dict_getitem.lookup⟩
 |_=>exact nomatch h
theorem sA {a i d:D} {va:Value} {s:Shared} {Ex:Addr→Prop} (hm:∀ l o,Tabs.dm l o→DmObj X.P X.w l o) (ha:DenT s.heap Ex a va) (h:idxD a i=some d):Subs s va:=kI hm ha (by
 cases a with
 |list _=>rfl
 |tup _=>rfl
 |str _=>rfl
 |dmap _=>rfl
 |_=>exact ah h)
theorem sT {a l u st d:D} {va:Value} {s:Shared} {Ex:Addr→Prop} (hm:∀ l o,Tabs.dm l o→DmObj X.P X.w l o) (ha:DenT s.heap Ex a va) (h:sliD a l u st=some d):Subs s va:=kI hm ha (ae h fun _ _ h=>ae h fun _ _ h=>ae h fun _ _ h=>eH h fun _ h=>by
 cases a with
 |list _=>rfl
 |tup _=>rfl
 |str _=>rfl
 |_=>exact ah h)
theorem kW {A:Around} {E:Value→Shared→Prop} {s:Shared} {value slice:Expr} {o i:Value} {ops:List Value} {Q:Value→Shared→Prop} (hT:Subs s o) (hs:subscripted slice false o i=operate ops (getItem o i)) (h:wpAny (model X.P X.w) A (getItem o i) Q E s) :
  wpAny (model X.P X.w) A (subscriptTail value slice o i) Q E s:=by
 obtain ⟨T,id,hT,hl⟩:=hT
 unfold subscriptTail
 refine wpAny_bind ?_
 rw [getitemInPython_of_ne hT.not_modules]
 refine wpAny_bind (wpAny_specialOf hT hl ?_)
 have fin:wpAny (model X.P X.w) A (subscripted slice false o i) (fun r s₃=>wpAny (model X.P X.w) A (letTemporaryGo value o r >>= fun _=>pure r) Q E s₃) E s:=by
  rw [hs]
  exact wpAny_operating (wpAny_mono h (fun r s₃ h₃=>wpAny_bind (wpAny_letTemporaryGo (wpAny_pure h₃))) fun _ _ x=>x)
 first
  |exact wpAny_pure (wpAny_bind fin)
  |exact wpAny_bind (wpAny_pure (wpAny_bind fin))
  |exact wpAny_bind fin
theorem yD {i:Expr} (h:isSliceE i=false) (o v:Value):subscripted i false o v=operate [o,v] (getItem o v):=by
 cases i<;>first |rfl |exact nomatch h
theorem xN {mg mb:Str→Option Value} (B:X.Ok mg mb) {ta ti:T} {a i:Expr} {pos:Pos} (ha:VS X sc ta a) (hi:VS X sc ti i) (hs:isSliceE i=false):VS X sc (.idx ta ti) (.Subscript a i pos):=fun σ p E b d Q hd P=>by
 refine ae hd fun x hx hd=>ae hd fun y hy hd=> ?_
 refine Subscript_ (ha σ p E true x _ hx fun va h1 tk1 k1 d1 _=>hi σ (p.to k1 tk1) E true y _ hy fun vi h2 tk2 k2 d2 _=> ?_)
 have d1':=(d1.keep k2).top
 exact kW (sA B.dm (s:={p.s with heap:=h2,toks:=tk2}) d1' hd) (yD hs _ _) (mW d1' d2.top hd B.dm (P.from (k1.trans k2)))
noncomputable def OS (X:Wd) (sc:Scope) (t:T) (e:Option Expr):Prop:=∀ (σ:MEnv) (p:At X sc σ) (E:Value→Shared→Prop) (d:D) (Q:Value→Shared→Prop),ev X.G X.F σ true t=some d→Pe p.s p.Ex true d false Q→wpAny (model X.P X.w) p.A (evalPart e p.env) Q E p.s
theorem wK:OS X sc (.cst .none) none:=fun σ p E d Q h P=>evalPart_none_step (At.here P (sm h▸rfl) _)
theorem uT {t:T} {e:Expr} (h:VS X sc t e):OS X sc t (some e):=fun σ p E d Q hd P =>
 evalPart_some_step (h σ p E true d Q hd fun v h' tk k' hd _=>P v h' tk k' hd fun e=>nomatch e)
theorem yX {mg mb:Str→Option Value} (B:X.Ok mg mb) {ta tl tu ts:T} {a:Expr} {l u st:Option Expr} {p0 pos:Pos} (ha:VS X sc ta a) (hl:OS X sc tl l) (hu:OS X sc tu u) (hst:OS X sc ts st) :
  VS X sc (.sli ta tl tu ts) (.Subscript a (.Slice l u st p0) pos):=fun σ p E b d Q hd P=>by
 refine ae hd fun x hx hd=>ae hd fun y hy hd=>ae hd fun z hz hd=>ae hd fun q hq hd=> ?_
 refine Subscript_ (ha σ p E true x _ hx fun va h1 tk1 k1 d1 _=>wpAny_Slice (hl σ (p.to k1 tk1) E y _ hy fun vl h2 tk2 k2 d2 _=> ?_))
 refine hu σ (p.to (k1.trans k2) tk2) E z _ hz fun vu h3 tk3 k3 d3 _=> ?_
 refine hst σ (p.to ((k1.trans k2).trans k3) tk3) E q _ hq fun vs h4 tk4 k4 d4 _=> ?_
 have k5:=Kp.push h4 {cls:= .type "slice",data:= .fields #[vl,vu,vs]}
 have k45:=k4.trans k5
 have k35:=Kp.trans k3 k45
 have kk:=k1.trans (Kp.trans k2 k35)
 have dx:=(d1.keep (Kp.trans k2 k35)).top
 refine kW (ops:=if st.isNone then [.ref h4.objs.size,va] else [va,.ref h4.objs.size]) (sT B.dm (s:={p.s with heap:=h4.push {cls:= .type "slice",data:= .fields #[vl,vu,vs]},toks:=tk4}) dx hd) ?_ ?_
 ·cases st<;>rfl
 ·exact nH (p.R.keep kk).lt dx (d2.keep k35).top (d3.keep k45).top (d4.keep k5).top ⟨_,Heap.get?_push_size _ rfl,rfl,rfl⟩ hd (P.from kk)
end
end Mine
set_option genSizeOf false
set_option genInjectivity false
namespace Mine
variable [Tabs] [Frk]
theorem zd (f:BF):bNm f∈bnames∧bootBuiltins (bNm f)=some (.builtin (bName f)):=by cases f<;>exact ⟨by decide,by decide +kernel⟩
section
variable {X:Wd} {sc:Scope} {mg mb:Str→Option Value} {σ:MEnv}
theorem bp {t:T} {es:List Expr} (h:AS X sc t es) (p:At X sc σ) {E:Value→Shared→Prop} {b:Bool} {ds:List D} {pos:Pos} {f:Value} {Q:Args→Shared→Prop} (hd:ev X.G X.F σ b t=some (.tup ds))
  (P:∀ vs h' tk,Kp p.s.heap h'→DenRL h' p.Ex b ds vs→Q ⟨vs,[]⟩ {p.s with heap:=h',toks:=tk}):wpAny (model X.P X.w) p.A (evalArgs f true (backTo pos (starEach es p.env)) []) Q E p.s:=by
 rcases (h.1 p.env pos).2.2 with ⟨he,ht,hl⟩ |⟨x,r,hl⟩
 ·rw [hl]
  subst ht
  exact PyProof.Rows.evalArgs_none (P [] p.s.heap p.s.toks (Kp.refl _) (by rw [← nV (sm hd)];rfl))
 ·have:=h.2 σ p E b ds pos (fun vs s'=>Q ⟨vs,[]⟩ s') hd P
  rw [hl] at this ⊢
  exact PySem.Calls.evalArgs_plain this
theorem fc (p:At X sc σ) {E:Value→Shared→Prop} {x:Str} {pos:Pos} {v:Value} {Q:Value→Shared→Prop} (B:X.Ok mg mb) (hs:isGlob sc x=true) (hd:(x==("__debug__":Str))=false) (hv:mg x=some v) (h:Q v p.s):wpAny (model X.P X.w) p.A (eval (.Name x pos) p.env) Q E p.s :=
 PySem.Calls.Name_function_global p.R.ok.kind (p.hsc.glob hs) (PySem.Calls.loadGlobal_global (by rw [p.R.ok.glob];exact p.k.ns B.ns) hv h) hd
theorem cJ (p:At X sc σ) {E:Value→Shared→Prop} {x:Str} {pos:Pos} {v:Value} {Q:Value→Shared→Prop} (B:X.Ok mg mb) (hs:isGlob sc x=true) (hd:(x==("__debug__":Str))=false) (hn:x∈bnames) (hv:bootBuiltins x=some v) (h:Q v p.s):wpAny (model X.P X.w) p.A (eval (.Name x pos) p.env) Q E p.s :=
 PySem.Calls.Name_function_global p.R.ok.kind (p.hsc.glob hs) (PySem.Calls.loadGlobal_builtin (by rw [p.R.ok.glob];exact p.k.ns B.ns) (B.blt x hn).1 (by rw [p.R.ok.blt];exact p.k.ns B.bn) ((B.blt x hn).2.trans hv) h) hd
theorem jJ (B:X.Ok mg mb) (CT:X.Ct mg) {t:T} {es:List Expr} {f:Str} {np pos:Pos} (h:AS X sc t es) (hs:isGlob sc f=true) (hd:(f==("__debug__":Str))=false) (hf:f∈X.c.fns) (p:At X sc σ) {E:Value→Shared→Prop} {b:Bool} {ds:List D} {r:D} {Y:Addr→Prop} {Q:Value→Shared→Prop}
  (hds:ev X.G X.F σ b t=some (.tup ds)) (hr:X.F f ds=some r) (hY:∀ b,Y b→p.Ex b) (hden:∀ h' vs,DenRL h' p.Ex b ds vs→DenL h' Y ds vs) (P:∀ v h' tk,Kp p.s.heap h'→Den h' Y r v→Q v {p.s with heap:=h',toks:=tk}):wpAny (model X.P X.w) p.A (eval (.Call (.Name f np) es [] pos) p.env) Q E p.s:=by
 obtain ⟨a,o,fd,hm,ho,hfd⟩:=B.fn f hf
 refine wpAny_Call_ofName (fc p B hs hd hm ?_)
 refine PySem.Calls.callWith_function (o:=o) (fd:=fd) (bp h p hds fun vs h' tk k' dl=>⟨⟨(p.k.trans k').ob ho (.inl (bg hfd)),hfd⟩,?_⟩)
 exact CT f a hf hm p.A E _ Y ds vs r Q p.ar (p.k.trans k') (fun b hb=>(p.R.keep k').lt b (hY b hb)) (hden h' vs dl) hr fun v h2 tk2 k2 dv=>P v h2 tk2 (k'.trans k2) dv
theorem we {t:T} {es:List Expr} {f:Str} {np pos:Pos} (B:X.Ok mg mb) (CT:X.Ct mg) (h:AS X sc t es) (hs:isGlob sc f=true) (hd:(f==("__debug__":Str))=false) (hf:f∈X.c.fns):VS X sc (.call f t) (.Call (.Name f np) es [] pos):=fun σ p E b d Q he P=>by
 refine eS he fun ds hds he=> ?_
 exact jJ B CT h hs hd hf p hds he (fun _ e=>e) (fun _ _ dl=>dl.denL) fun v h2 tk2 k2 dv=>P v h2 tk2 k2 dv.toR fun e=>nomatch e
theorem sV {t:T} {es:List Expr} {f:Str} {np pos:Pos} (B:X.Ok mg mb) (CT:X.Ct mg) (h:AS X sc t es) (hs:isGlob sc f=true) (hd:(f==("__debug__":Str))=false) (hf:f∈X.c.fns):VS X sc (.callb f t) (.Call (.Name f np) es [] pos):=fun σ p E b d Q he P=>by
 refine eS he fun ds hds he=>ae he fun r hr he=>gd he fun hsc he=> ?_
 obtain rfl:=sm he
 exact jJ B CT h hs hd hf p hds hr (fun _ e=>e.elim) (fun _ _ dl=>dl.free) fun v h2 tk2 k2 dv=>P v h2 tk2 k2 (Den.toR (dv.scal hsc)) fun e=>nomatch e
theorem xM {t:T} {es:List Expr} {bf:BF} {np pos:Pos} (B:X.Ok mg mb) (h:AS X sc t es) (hs:isGlob sc (bNm bf)=true):VS X sc (.blt bf t) (.Call (.Name (bNm bf) np) es [] pos):=fun σ p E b d Q he P=>by
 refine eS he fun ds hds he=> ?_
 obtain ⟨h1,h2⟩:=zd bf
 refine wpAny_Call_ofName (cJ p B hs (by cases bf<;>rfl) h1 h2 ?_)
 refine PySem.Calls.callWith_builtin (h.1 p.env pos).1 (bp h p hds fun vs h' tk k' dl=> ?_)
 exact nY p.ar.hd (p.R.keep k').lt dl he (P.from k')
theorem vx {o:Expr} {m:Str} {env:Env} {x:Sem Value} (h:isCall o=false):attributeBase o m env x=x:=by
 cases o<;>first |rfl |exact nomatch h
theorem uY {t to:T} {es:List Expr} {o:Expr} {mf:MF} {ap pos:Pos} (ho:VS X sc to o) (h:AS X sc t es) (hb:isCall o=false) (hl:(ap.endLine==pos.line)=true) (h30:es.length<30):VS X sc (.meth mf to t) (.Call (.Attribute o (mNm mf) ap) es [] pos):=fun σ p E b d Q he P=>by
 refine ae he fun x hx he=>eS he fun ds hds he=> ?_
 refine wpAny_Call_method_lateS (vx hb) ?_ hl (ho σ p E true x _ hx fun ov h1 tk1 k1 d1 _=> ?_)
 ·rw [(h.1 p.env pos).2.1]
  exact decide_eq_true h30
 ·obtain ⟨f1,f2,f3⟩:=yQ mf
  obtain ⟨t1,t2⟩:=zC (s:={p.s with heap:=h1,toks:=tk1}) he d1.top
  refine ⟨_,_,f1,f2,f3,t1,t2,?_⟩
  refine PySem.Calls.callWith_builtin (h.1 p.env pos).1 (bp h (p.to k1 tk1) hds fun vs h' tk k' dl=> ?_)
  exact lE p.ar.cl6 (p.R.keep (k1.trans k')).lt (d1.keep k').top dl he (P.from (k1.trans k'))
theorem kZ {ta:T} {a:Expr} {x:Str} {p0:Pos} (B:X.Ok mg mb) (ha:VS X sc ta a) (hs:isGlob sc x=true) (hx:x∈X.c.sets) (p:At X sc σ) {E:Value→Shared→Prop} {d:D} {b:Bool} {Q:Value→Shared→Prop} (he:ev X.G X.F σ b (.inset x ta)=some d)
  (P:∀ r h' tk,d = .bool r→Kp p.s.heap h'→Q (.bool r) {p.s with heap:=h',toks:=tk}):wpAny (model X.P X.w) p.A (eval a p.env) (fun va s₁=>wpAny (model X.P X.w) p.A (eval (.Name x p0) p.env) (fun vb s₂=>wpAny (model X.P X.w) p.A (compareOp .In va vb) Q E s₂) E s₁) E p.s:=by
 refine ae he fun y hy he=>ae he fun i hi he=>ax he fun l hl e=> ?_
 obtain ⟨s1,hm,hin⟩:=B.iset x l hx hl
 refine ha σ p E true _ _ hy fun va h1 tk1 k1 d1 _=> ?_
 refine aI hi d1.top fun t=> ?_
 refine fc (p.to k1 tk1) B hs (B.ndb _ (.inl hx)) hm ?_
 exact hin p.A E _ i t Q (p.k.trans k1) p.ar.cl fun tk=>P _ h1 tk e.symm k1
theorem sW {ta:T} {a:Expr} {x:Str} {p0 pos:Pos} (B:X.Ok mg mb) (ha:VS X sc ta a) (hs:isGlob sc x=true) (hx:x∈X.c.sets) :
  VS X sc (.inset x ta) (.Compare a [.In] [.Name x p0] pos)∧IsS X sc (.inset x ta) (.Compare a [.In] [.Name x p0] pos) :=
 ⟨fun σ p E b d Q he P=>wpAny_Compare1 (kZ B ha hs hx p he fun r h' tk e k=>P _ h' tk k (Den.toR (e▸rfl)) fun e=>nomatch e) rfl,
  fun σ p E d r Q he ht P=>wpAny_isTrue_Compare1 (kZ B ha hs hx p he fun r' h' tk e k=>wpAny_truthy_bool (sm ((congrArg truthy e).symm.trans ht)▸P h' tk k)) rfl⟩
theorem vH {ta te:T} {es:List Expr} {x:Str} {p0 ap pos:Pos} (B:X.Ok mg mb) (h:AS X sc (.cons ta .nil) es∧te = .cst .none∨AS X sc (.cons ta (.cons te .nil)) es) (hl:(ap.endLine==pos.line)=true) (h30:es.length<30) (hs:isGlob sc x=true) (hx:x∈X.c.dicts) :
  VS X sc (.dget x ta te) (.Call (.Attribute (.Name x p0) getS ap) es [] pos):=fun σ p E b d Q he P=>by
 refine ae he fun y hy he=>ae he fun i hi he=>ae he fun dd hdd he=>ae he fun l hl' he=>gd he fun hsd he=> ?_
 obtain rfl:=sm he
 obtain ⟨a,hm,hin⟩:=B.idict x l hx hl'
 have all:(backTo pos (starEach es p.env)).any (·.1)=false∧(backTo pos (starEach es p.env)).all (fun x=> !x.1)=true:=h.elim (fun h=>⟨(h.1.1 p.env pos).1,(h.1.1 p.env pos).2.1⟩) fun h=>⟨(h.1 p.env pos).1,(h.1 p.env pos).2.1⟩
 refine wpAny_Call_method_lateS rfl ?_ hl (fc p B hs (B.ndb _ (.inr hx)) hm ?_)
 ·rw [all.2]
  exact decide_eq_true h30
 ·obtain ⟨t1,⟨ob,t2,t3⟩,_⟩:=hin p.s p.k
  refine ⟨_,_,PySem.F.plainAttrs_dict,PySem.F.slot_dict_get,PySem.F.type_dict_get,t1,fun a' e=>⟨ob,Value.ref.inj e▸t2,t3⟩,?_⟩
  refine PySem.Calls.callWith_builtin all.1 ?_
  have fin:=fun h' tk (t:Tok) (dv:Value) (k':Kp p.s.heap h') (hdv:Den h' p.Ex dd dv)=>(hin {p.s with heap:=h',toks:=tk} (p.k.trans k')).2.2 p.A E i t Q dv p.ar.cl fun tk'=>by
   cases hlk:l.lookup i with
   |none =>
    rw [hlk] at P
    exact P _ _ _ k' hdv.toR fun e=>nomatch e
   |some v =>
    rw [hlk] at P
    exact fun t'=>P _ _ _ k' (Den.toR ⟨t',rfl⟩) fun e=>nomatch e
  rcases h with ⟨h,hte⟩ |h
  ·refine bp h p (b:=true) (ds:=[y]) (ad hy rfl) fun vs h' tk k' dl=> ?_
   obtain ⟨v,e0,dv⟩:=dl.one
   rw [e0]
   refine aI hi dv.top fun t=> ?_
   exact (fin h' tk t .none k' (by rw [hte] at hdd;rw [← sm hdd];rfl)).2 rfl
  ·refine bp h p (b:=true) (ds:=[y,dd]) (ad hy (ad (ad hdd rfl) rfl)) fun vs h' tk k' dl=> ?_
   obtain ⟨v,u,e0,dv,e2⟩:=dl.two
   rw [e0]
   refine aI hi dv.top fun t=> ?_
   exact (fin h' tk t u k' (e2.top.free.scal hsd)).1
end
end Mine
set_option genSizeOf false
set_option genInjectivity false
namespace Mine
variable [Tabs] [Frk]
theorem gg (σ:MEnv) (i j:Nat) (o:Option (D×Bool)):getE (σ.set i o) j=if i=j∧i<σ.length then o else getE σ j:=by
 unfold getE
 rw [List.getElem?_set]
 by_cases h:i=j
 ·subst h
  by_cases h2:i<σ.length
  ·rw [if_pos rfl,if_pos h2,if_pos ⟨rfl,h2⟩];rfl
  ·rw [if_pos rfl,if_neg h2,if_neg fun q=>h2 q.2,List.getElem?_eq_none (Nat.le_of_not_lt h2)]
 ·rw [if_neg h,if_neg fun q=>h q.1]
theorem lN {σ:MEnv} {i:Nat} {e:D×Bool} (h:getE σ i=some e):i<σ.length:=Nat.lt_of_not_le fun q=>by
 unfold getE at h
 rw [List.getElem?_eq_none q] at h
 exact ah h
theorem eG {σ:MEnv} {i j:Nat} {e:D×Bool} (h:getE (σ.set i none) j=some e):j≠i∧getE σ j=some e:=by
 rw [gg] at h
 by_cases hc:i=j∧i<σ.length
 ·rw [if_pos hc] at h;exact ah h
 ·rw [if_neg hc] at h
  exact ⟨fun q=>hc ⟨q.symm,q▸lN h⟩,h⟩
theorem aN {σ:MEnv} {i j:Nat} {d:D} {x:Bool} {e:D×Bool} (h:getE (setE σ i d x) j=some e):(j=i∧e=(d,x))∨(j≠i∧getE σ j=some e):=by
 unfold setE at h
 rw [gg] at h
 by_cases hc:i=j∧i<σ.length
 ·rw [if_pos hc] at h;exact .inl ⟨hc.1.symm,(sm h).symm⟩
 ·rw [if_neg hc] at h
  exact .inr ⟨fun q=>hc ⟨q.symm,q▸lN h⟩,h⟩
structure KF (N:Str→Prop) (env:Env) (h h':Heap):Prop where
 kp:∀ b o,b≠env.locals→(∀ n,N n→env.cells.lookup n≠some b)→h.get? b=some o→Gw h' b o
 cd:Cd h h'
noncomputable abbrev KS (sc:Scope) (env:Env) (h h':Heap):Prop:=KF (fun x=>storable sc x=true) env h h'
theorem KF.refl {N:Str→Prop} (env:Env) (h:Heap):KF N env h h:=⟨fun _ _ _ _ e=> .inl e,Cd.refl h⟩
theorem KF.trans {N:Str→Prop} {env:Env} {a b c:Heap} (x:KF N env a b) (y:KF N env b c):KF N env a c:=⟨fun i o h1 h2 e=>(x.kp i o h1 h2 e).then (fun o e=>y.kp i o h1 h2 e) y.cd,x.cd.trans y.cd⟩
theorem Kp.kf {N:Str→Prop} {env:Env} {a b:Heap} (x:Kp a b):KF N env a b:=⟨fun i o _ _ e=>x i o e,x.cd⟩
theorem KF.notex {N:Str→Prop} {env:Env} {h h':Heap} {Ex:Addr→Prop} (kf:KF N env h h') (own:Ex env.locals∧∀ n c,env.cells.lookup n=some c→Ex c):∀ b o,¬ Ex b→NT b o→h.get? b=some o→h'.get? b=some o :=
 fun b o n t e=>(kf.kp b o (fun q=>n (q▸own.1)) (fun n' _ q=>n (own.2 n' b q)) e).ob t
theorem iy {tbl:List Str} (nd:tbl.Nodup) {i j:Nat} {x:Str} (hi:tbl[i]? = some x) (hj:tbl[j]? = some x):i=j:=by
 obtain ⟨h1,e1⟩:=List.getElem?_eq_some_iff.mp hi
 obtain ⟨h2,e2⟩:=List.getElem?_eq_some_iff.mp hj
 have hp:=List.pairwise_iff_getElem.mp nd
 rcases Nat.lt_trichotomy i j with hl |hl |hl
 ·exact absurd (e1.trans e2.symm) (hp i j h1 h2 hl)
 ·exact hl
 ·exact absurd (e2.trans e1.symm) (hp j i h2 h1 hl)
section
variable {prog:Program} {w:World} {A:Around} {E:Value→Shared→Prop} {s:Shared} {env:Env} {tbl:List Str} {Ex:Addr→Prop} {ow:Nat→Addr} {σ:MEnv}
theorem dC {h:Heap} {a b:Addr} {o o':Obj} {P:Prop} (h1:h.get? a=some o) (h2:h.get? b=some o') (e:a=b) (n:o.data≠o'.data):P:=by
 subst e
 rw [h1] at h2
 exact absurd (congrArg Obj.data (sm h2)) n
theorem gt {m cm:Str→Option Value} {h:Heap} (F:FrM env h m cm) {a:Addr} {items:Array Value} (l:h.PlainList a items):a≠env.locals∧∀ n,env.cells.lookup n≠some a:=by
 obtain ⟨n0,l⟩:=l
 refine ⟨fun e=> ?_,fun n hn=> ?_⟩
 ·obtain ⟨o,es,ep,ho,hdat,_⟩:=F.ns
  exact dC l ho e fun q=>nomatch q.trans hdat
 ·obtain ⟨o,ho,hdat⟩:=F.cell n a hn
  exact dC l ho rfl fun q=>nomatch q.trans hdat
theorem im {N:Str→Prop} {m cm:Str→Option Value} {h h':Heap} (F:FrM env h m cm) (own:Ex env.locals∧∀ n c,env.cells.lookup n=some c→Ex c) (kf:KF N env h h') {d:D} {v:Value} {b:Bool} (hd:DenV h Ex b d v):DenV h' Ex b d v:=by
 have kx:=kf.notex own
 cases b with
 |false=>exact Den.mono kx (fun _ _ n=>n) _ _ hd
 |true =>
  obtain ⟨a,items,ds,e1,e2,l,r⟩:=hd
  obtain ⟨n1,n2⟩:=gt F l
  exact ⟨a,items,ds,e1,e2,PL.at' l fun o t e=>(kf.kp a o n1 (fun n' _=>n2 n') e).ob (.inl t),DenL.mono kx (fun _ _ n=>n) _ _ r⟩
theorem bx {N:Str→Prop} {x:Str} {i:Nat} {v:Value} {d:D} {b:Bool} {Q:Unit→Shared→Prop} (hN:N x) (R:RR env tbl Ex ow σ s.heap) (hs:seen env.scope x=true) (hi:tbl[i]? = some x)
  (hfree:env.scope.names.lookup x≠some .free) (hd:DenV s.heap Ex b d v) (how:b=true→v = .ref (ow i))
  (h:∀ h' tk,RR env tbl Ex ow (setE σ i d b) h'→KF N env s.heap h'→Q () {s with heap:=h',toks:=tk}):wpAny (model prog w) A (storeName env x v) Q E s:=by
 obtain ⟨ok,nd,lt,own,m,cm,F,hv⟩:=R
 have key:∀ (h':Heap) (m' cm':Str→Option Value),FrM env h' m' cm'→KF N env s.heap h'→(∀ b,Ex b→Al h' b)→(∀ y,y≠x→m' y=m y∧cm' y=cm y)→valOf env m' cm' x=some v→RR env tbl Ex ow (setE σ i d b) h':=by
  intro h' m' cm' F' kf lt' hy hx
  refine ⟨ok,nd,lt',own,m',cm',F',fun j y e b' hj hg hsy=> ?_⟩
  rcases aN hg with ⟨rfl,e1⟩ |⟨hji,hg⟩
  ·obtain ⟨rfl,rfl⟩:=Prod.mk.inj e1
   obtain rfl:=sm (hi.symm.trans hj)
   exact ⟨v,hx,im F own kf hd,how⟩
  ·obtain ⟨u,e1,e2,e3⟩:=hv j y e b' hj hg hsy
   obtain ⟨q1,q2⟩:=hy y fun e=>hji (iy nd hj (e▸hi))
   exact ⟨u,by unfold valOf;rw [q1,q2];exact e1,im F own kf e2,e3⟩
 rcases fe hs with hk |hk |hk
 ·refine wpAny_storeName_local hk F.ns (fun h' hn hsb=> ?_) (by rw [ok.kind];rfl)
  have kf:KF N env s.heap h':=⟨fun b o n1 _ e=> .inl (hsb.extBut b o n1 e),Cd.sb (fun b o n e=>hsb.extBut b o n e) (Ns.nofields F.ns) fun _=>Ns.dt hn⟩
  refine h h' _ (key h' _ cm ⟨hn,fun n c hc=>(F.cell n c hc).sameBut hsb (F.offL n c hc),F.offL,F.inj,F.has⟩ kf (fun b hb=> ?_) (fun y hy=>⟨if_neg hy,rfl⟩) ?_) kf
  ·by_cases hbl:b=env.locals
   ·obtain ⟨o,_,_,ho,_⟩:=hn;exact ⟨o,hbl▸ho⟩
   ·obtain ⟨o,ho⟩:=lt b hb;exact ⟨o,hsb.extBut b o hbl ho⟩
  ·unfold valOf;rw [show env.kindOf x=_ from hk];exact if_pos rfl
 ·obtain ⟨c,hc⟩:=F.has x (.inl hk)
  refine wpAny_storeName_cell ok.kind hk hc (F.cell x c hc) fun h' hc' hsb=> ?_
  have kf:KF N env s.heap h':=⟨fun b o _ n2 e=> .inl (hsb.extBut b o (fun q=>n2 x hN (q▸hc)) e),Cd.sb (fun b o n e=>hsb.extBut b o n e) (fun o e vs q=>by
   obtain ⟨o',g1,g2⟩:=F.cell x c hc
   exact dC g1 e rfl fun e=>nomatch g2.symm.trans (e.trans q)) fun d=>absurd d (Cell.nodt (F.cell x c hc))⟩
  refine h h' s.toks (key h' m (fun y=>if y=x then some v else cm y) ⟨F.ns.sameBut hsb (Ne.symm (F.offL x c hc)),fun n c2 hn2=> ?_,F.offL,F.inj,F.has⟩ kf (fun b hb=> ?_) (fun y hy=>⟨rfl,if_neg hy⟩) ?_) kf
  ·by_cases hnx:n=x
   ·subst hnx
    obtain rfl:=sm (hc.symm.trans hn2)
    rw [if_pos rfl];exact hc'
   ·rw [if_neg hnx]
    exact (F.cell n c2 hn2).sameBut hsb fun e=>hnx (F.inj n x c (e▸hn2) hc)
  ·by_cases hbl:b=c
   ·obtain ⟨o,ho,_⟩:=hc';exact ⟨o,hbl▸ho⟩
   ·obtain ⟨o,ho⟩:=lt b hb;exact ⟨o,hsb.extBut b o hbl ho⟩
  ·unfold valOf;rw [show env.kindOf x=_ from hk];exact if_pos rfl
 ·exact absurd hk hfree
theorem iD {N:Str→Prop} {x:Str} {i:Nat} {v:Value} {d:D} {pos:Pos} {b:Bool} {Q:Unit→Shared→Prop} (hN:N x) (R:RR env tbl Ex ow σ s.heap) (hs:seen env.scope x=true) (hi:tbl[i]? = some x)
  (hfree:env.scope.names.lookup x≠some .free) (hd:DenV s.heap Ex b d v) (how:b=true→v = .ref (ow i))
  (h:∀ h' tk,RR env tbl Ex ow (setE σ i d b) h'→KF N env s.heap h'→Q () {s with heap:=h',toks:=tk}):wpAny (model prog w) A (assign (.Name x pos) env v) Q E s :=
 wpAny_assign_Name (bx hN R hs hi hfree hd how h)
end
end Mine
set_option genSizeOf false
set_option genInjectivity false
namespace Mine
variable [Tabs] [Frk]
theorem bN {sc:Scope} {x:Str} (h:storable sc x=true):sc.names.lookup x=some .local∨sc.names.lookup x=some .cell:=by
 unfold storable at h
 cases hk:sc.names.lookup x with
 |none=>rw [hk] at h;exact nomatch h
 |some k=>cases k<;>first |exact .inl rfl |exact .inr rfl |(rw [hk] at h;exact nomatch h)
theorem bh {sc:Scope} {x:Str} (h:storable sc x=true):seen sc x=true:=by
 unfold seen
 rcases bN h with e |e<;>rw [e]<;>rfl
theorem bu {env:Env} {sc:Scope} {x:Str} (hsc:ScEq env sc) (h:storable sc x=true):seen env.scope x=true∧env.scope.names.lookup x≠some .free:=by
 refine ⟨hsc.seen (bh h),fun q=> ?_⟩
 rcases hsc x with e |⟨e,_⟩
 ·rw [e] at q
  rcases bN h with e |e<;>exact nomatch q.symm.trans e
 ·rcases bN h with q |q<;>exact nomatch e.symm.trans q
theorem j5 {h h':Heap} (k:Heap.ExtBut h.objs.size h h'):Kp h h':=fun b o e=> .inl (k b o (Nat.ne_of_lt (Heap.lt_size e)) e)
inductive Tgs (c:Cx) (sc:Scope):List Expr→List Nat→Prop where
 |nil:Tgs c sc [] []
 |cons {x:Str} {p:Pos} {i:Nat} {es:List Expr} {is:List Nat}:storable sc x=true→c.tbl[i]? = some x→Tgs c sc es is→Tgs c sc (.Name x p :: es) (i :: is)
theorem cQ {c:Cx} {sc:Scope} {i:Nat} (h:stoI c sc i=true):storable sc (c.tbl.getD i Str.empty)=true∧c.tbl[i]? = some (c.tbl.getD i Str.empty):=aa h fun h1 h2=>⟨h2,dU (de h1)⟩
theorem mV {c:Cx} {sc:Scope}:∀ {is:List Nat} {l:List Expr},l.length=is.length→is.all (stoI c sc)=true→Tgs c sc (List.zipWith (nameE c) is l) is:=by
 intro is
 induction is with
 |nil=>intro l _ _;exact .nil
 |cons i is ih =>
  intro l hl ha
  cases l with
  |nil=>exact nomatch hl
  |cons e l=>exact aa ha fun h1 h2=> .cons (cQ h1).1 (cQ h1).2 (ih (Nat.succ.inj hl) h2)
theorem Tgs.length {c:Cx} {sc:Scope}:∀ {es:List Expr} {is:List Nat},Tgs c sc es is→es.length=is.length
 |_,_,.nil=>rfl
 |_,_,.cons _ _ h=>by rw [List.length_cons,List.length_cons,h.length]
theorem Tgs.each {c:Cx} {sc:Scope} (env:Env):∀ {es:List Expr} {is:List Nat},Tgs c sc es is→(assignEach es env).length=es.length∧(assignEach es env).findIdx? (·.1)=none
 |_,_,.nil=>⟨rfl,rfl⟩
 |_,_,.cons (x:=x) (p:=p) (es:=es) _ _ h=>by
  obtain ⟨h1,h2⟩:=h.each env
  have e:assignEach (.Name x p :: es) env=(false,assign (.Name x p) env) :: assignEach es env:=rfl
  rw [e]
  refine ⟨by rw [List.length_cons,List.length_cons,h1],?_⟩
  rw [List.findIdx?_cons,h2];rfl
theorem d8:∀ {is:List Nat} {ds:List D} {σ σ':MEnv},setAll σ is ds=some σ'→is.length=ds.length:=by
 intro is
 induction is with
 |nil =>
  intro ds σ σ' h
  cases ds with
  |nil=>rfl
  |cons _ _=>exact ah h
 |cons i is ih =>
  intro ds σ σ' h
  cases ds with
  |nil=>exact ah h
  |cons d ds=>exact congrArg (· + 1) (ih h)
section
variable {prog:Program} {w:World} {A:Around} {E:Value→Shared→Prop} {env:Env} {c:Cx} {sc:Scope} {Ex:Addr→Prop}
theorem jj (hsc:ScEq env sc) {es:List Expr} {is:List Nat} (ht:Tgs c sc es is):∀ {ds:List D} {vs:List Value} {σ σ':MEnv} {s:Shared} {Q:Unit→Shared→Prop},RR env c.tbl Ex ow σ s.heap→DenL s.heap Ex ds vs→setAll σ is ds=some σ' →
  (∀ h' tk,RR env c.tbl Ex ow σ' h'→KS sc env s.heap h'→Q () {s with heap:=h',toks:=tk})→wpAny (model prog w) A (assignInOrder ((assignEach es env).map (·.2)) vs) Q E s:=by
 induction ht with
 |nil =>
  intro ds vs σ σ' s Q R hd hs h
  cases ds with
  |cons _ _=>exact ah hs
  |nil =>
   obtain rfl:=sm hs
   rw [show vs=[] from hd]
   exact wpAny_pure (h s.heap s.toks R (KF.refl _ _))
 | @cons x p i es is h1 h2 h3 ih =>
  intro ds vs σ σ' s Q R hd hs h
  cases ds with
  |nil=>exact ah hs
  |cons d ds =>
   obtain ⟨v,r,e,dv,dr⟩:=hd
   rw [e]
   obtain ⟨s1,s2⟩:=bu hsc h1
   refine wpAny_bind (wpAny_holding (iD (b:=false) (N:=fun x=>storable sc x=true) h1 R s1 h2 s2 dv (fun e=>nomatch e) fun h' tk R' kf=> ?_))
   exact ih (s:={s with heap:=h',toks:=tk}) R' (DenL.mono (kf.notex R.own) (fun _ _ n=>n) _ _ dr) hs fun h'' tk' R'' kf'=>h h'' tk' R'' (kf.trans kf')
theorem cP {es:List Expr} {is:List Nat} {k:Nat} {pos:Pos} {ds:List D} {t:Addr} {items:Array Value} {σ σ':MEnv} {s:Shared} {Q:Unit→Shared→Prop} (hh:A.handled=none) (hsc:ScEq env sc) (ht:Tgs c sc es is) (R:RR env c.tbl Ex ow σ s.heap)
  (hit:s.heap.IsTuple t items) (hd:DenL s.heap Ex ds items.toList) (hs:setAll σ is ds=some σ') (h:∀ h' tk,RR env c.tbl Ex ow σ' h'→KS sc env s.heap h'→Q () {s with heap:=h',toks:=tk}) :
  wpAny (model prog w) A (assign (.Tuple es k pos) env (.ref t)) Q E s:=by
 obtain ⟨e1,e2⟩:=ht.each env
 have l1:=hd.length
 have l2:=d8 hs
 rw [Array.length_toList] at l1
 refine wpAny_assign_Tuple hh hit (by rw [e1,ht.length,l2,l1]) e2 fun h1 k1=> ?_
 have kp:=j5 k1
 exact jj hsc ht (s:={s with heap:=h1}) (R.keep kp) (hd.keep kp) hs fun h' tk R' kf=>h h' tk R' (kp.kf.trans kf)
noncomputable def TgOk (c:Cx) (sc:Scope) (target:Expr) (tg:List Nat) (one:Bool):Prop :=
 (one=true∧∃ x p i,target = .Name x p∧tg=[i]∧storable sc x=true∧c.tbl[i]? = some x) ∨
 (one=false∧∃ es k p,target = .Tuple es k p∧Tgs c sc es tg)
theorem oT {e:Expr} {tg:List Nat} {one:Bool} (h:tgB c sc tg one e=true):TgOk c sc (tgE c tg one e) tg one:=aa h fun h1 h2=>by
 cases one with
 |true =>
  cases tg with
  |nil=>exact nomatch h1
  |cons i r =>
   cases r with
   |cons _ _=>exact nomatch h1
   |nil=>exact aa h2 fun h2 _=> .inl ⟨rfl,_,_,i,rfl,rfl,(cQ h2).1,(cQ h2).2⟩
 |false=>exact .inr ⟨rfl,_,_,_,rfl,mV (beq_iff_eq.mp h1) h2⟩
end
noncomputable def clFrom (env:Env):List (Str×NameKind)→List (Str×Addr)→List (Str×Addr)
 | [],acc=>acc
 |(n,k) :: r,acc=>if k == .free then clFrom env r ((n,(env.cells.lookup n).getD 0) :: acc) else clFrom env r acc
theorem eT {env:Env} (f:Str×NameKind→List (Str×Addr)→Sem (ForInStep (List (Str×Addr)))) (hf:∀ n k r,f (n,k) r=if k == .free then (do let a ← cellOf env n;pure (.yield ((n,a) :: r))) else pure (.yield r)) :
  ∀ (l:List (Str×NameKind)) (acc:List (Str×Addr)),(∀ n,(n,NameKind.free)∈l→(env.cells.lookup n).isSome=true)→forIn l acc f=(pure (clFrom env l acc):Sem _)
 | [],acc,_=>rfl
 |(n,k) :: r,acc,hl=>by
  rw [List.forIn_cons,hf]
  unfold clFrom
  have ih:=fun acc=>eT f hf r acc fun n hn=>hl n (List.mem_cons_of_mem _ hn)
  cases hk:(k==NameKind.free) with
  |true =>
   have hk':k = .free:=by simpa using hk
   subst hk'
   obtain ⟨a,ha⟩:=Option.isSome_iff_exists.mp (hl n (List.mem_cons_self ..))
   have hc:cellOf env n=pure a:=by unfold cellOf;rw [ha]
   simp only [if_true,hc,ha,Option.getD_some]
   exact ih _
  |false =>
   simp only [Bool.false_eq_true,if_false]
   exact ih _
theorem ja {scope:Scope} {env:Env} (h:∀ n,(n,NameKind.free)∈scope.names→(env.cells.lookup n).isSome=true):closureFor scope env=pure (clFrom env scope.names []):=by
 simp only [closureFor]
 rw [eT (env:=env) _ (fun n k r=>by cases hk:(k==NameKind.free)<;>simp [hk]) _ _ h]
 rfl
theorem cn {env:Env}:∀ {l:List (Str×NameKind)} {acc:List (Str×Addr)} {n:Str} {c:Addr},(clFrom env l acc).lookup n=some c →
  ((n,NameKind.free)∈l∧c=(env.cells.lookup n).getD 0)∨acc.lookup n=some c
 | [],acc,n,c,h=> .inr h
 |(m,k) :: r,acc,n,c,h=>by
  unfold clFrom at h
  split at h
  ·rename_i hk
   have hk':k = .free:=by simpa using hk
   subst hk'
   rcases cn h with ⟨h1,h2⟩ |h1
   ·exact .inl ⟨List.mem_cons_of_mem _ h1,h2⟩
   ·rw [List.lookup_cons] at h1
    split at h1
    ·rename_i hb
     cases h1
     left
     have:n=m:=by simpa using hb
     subst this
     exact ⟨List.mem_cons_self ..,rfl⟩
    ·exact .inr h1
  ·rcases cn h with ⟨h1,h2⟩ |h1
   ·exact .inl ⟨List.mem_cons_of_mem _ h1,h2⟩
   ·exact .inr h1
theorem dq {env:Env}:∀ {l:List (Str×NameKind)} {acc:List (Str×Addr)} {n:Str},(acc.lookup n).isSome=true→((clFrom env l acc).lookup n).isSome=true
 | [],acc,n,h=>h
 |(m,k) :: r,acc,n,h=>by
  unfold clFrom
  split
  ·refine dq ?_
   rw [List.lookup_cons]
   split
   ·rfl
   ·exact h
  ·exact dq h
theorem gB {env:Env}:∀ {l:List (Str×NameKind)} {acc:List (Str×Addr)} {n:Str},(n,NameKind.free)∈l→((clFrom env l acc).lookup n).isSome=true
 |(m,k) :: r,acc,n,h=>by
  unfold clFrom
  rcases List.mem_cons.mp h with e |h
  ·cases e
   rw [if_pos (by decide)]
   refine dq ?_
   rw [List.lookup_cons]
   simp
  ·split<;>exact gB h
theorem bJ:∀ (l:List (Str×NameKind)) (n:Nat) (acc:List (Str×Addr)),cellsFrom n l acc=cellsFrom n l []++acc
 | [],n,acc=>rfl
 |(m,k) :: r,n,acc=>by
  unfold cellsFrom
  split
  ·rw [bJ r (n+1) ((m,n) :: acc),bJ r (n+1) [(m,n)]]
   simp
  ·exact bJ r n acc
theorem cq:∀ {l:List (Str×NameKind)} {n:Nat} {acc:List (Str×Addr)} {x:Str} {c:Addr},(x,c)∈cellsFrom n l acc→(x,NameKind.cell)∈l∨(x,c)∈acc
 | [],n,acc,x,c,h=> .inr h
 |(m,k) :: r,n,acc,x,c,h=>by
  unfold cellsFrom at h
  split at h
  ·rename_i hk
   have hk':k = .cell:=by simpa using hk
   subst hk'
   rcases cq h with h1 |h1
   ·exact .inl (List.mem_cons_of_mem _ h1)
   ·rcases List.mem_cons.mp h1 with e |h1
    ·cases e;exact .inl (List.mem_cons_self ..)
    ·exact .inr h1
  ·rcases cq h with h1 |h1
   ·exact .inl (List.mem_cons_of_mem _ h1)
   ·exact .inr h1
theorem cg:∀ {l:List (Str×NameKind)} {n:Nat} {acc:List (Str×Addr)} {x:Str},(acc.lookup x).isSome=true→((cellsFrom n l acc).lookup x).isSome=true
 | [],n,acc,x,h=>h
 |(m,k) :: r,n,acc,x,h=>by
  unfold cellsFrom
  split
  ·refine cg ?_
   rw [List.lookup_cons]
   split
   ·rfl
   ·exact h
  ·exact cg h
theorem cw:∀ {l:List (Str×NameKind)} {n:Nat} {acc:List (Str×Addr)} {x:Str},(x,NameKind.cell)∈l→((cellsFrom n l acc).lookup x).isSome=true
 |(m,k) :: r,n,acc,x,h=>by
  unfold cellsFrom
  rcases List.mem_cons.mp h with e |h
  ·cases e
   rw [if_pos (by decide)]
   refine cg ?_
   rw [List.lookup_cons]
   simp
  ·split<;>exact cw h
theorem a8:∀ {l:List (Str×NameKind)} {x:Str} {k:NameKind},distinctN l=true→(x,k)∈l→l.lookup x=some k
 |(m,k') :: r,x,k,h,hm=>by
  simp only [distinctN,Bool.and_eq_true,Bool.not_eq_true',List.any_eq_false] at h
  rw [List.lookup_cons]
  rcases List.mem_cons.mp hm with e |hm
  ·cases e;simp
  ·have:=h.1 (x,k) hm
   have hne:(x==m)=false:=by simpa using this
   rw [hne]
   exact a8 h.2 hm
end Mine
set_option genSizeOf false
set_option genInjectivity false
namespace Mine
variable [Tabs] [Frk]
theorem RR.grow {env:Env} {tbl:List Str} {Ex W:Addr→Prop} {ow:Nat→Addr} {σ:MEnv} {h h':Heap} (R:RR env tbl Ex ow σ h) (k:Kp h h') (w1:∀ b,W b→h.get? b=none) (w2:∀ b,W b→Al h' b):RR env tbl (fun b=>Ex b∨W b) ow σ h':=by
 obtain ⟨ok,nd,lt,own,m,cm,F,hv⟩:=R
 refine ⟨ok,nd,fun b hb=>hb.elim (fun e=>(lt b e).keep k) (w2 b),⟨.inl own.1,fun n c e=> .inl (own.2 n c e)⟩,m,cm,F.keep k,fun i x d b h1 h2 h3=> ?_⟩
 obtain ⟨v,e,dv,hw⟩:=hv i x d b h1 h2 h3
 have hx:∀ b,Al h b→¬ Ex b→¬ (Ex b∨W b):=fun b hb n e=>e.elim n fun e=>hb.ne (w1 b e) rfl
 refine ⟨v,e,?_,hw⟩
 cases b with
 |false=>exact Den.mono (fun b o _ t e=>k.ob e t) hx _ _ dv
 |true =>
  obtain ⟨a,items,ds,e1,e2,l,r⟩:=dv
  exact ⟨a,items,ds,e1,e2,PL.at' l (k.at a),DenL.mono (fun b o _ t e=>k.ob e t) hx _ _ r⟩
theorem DenL.grow {Ex W:Addr→Prop} {h h':Heap} {d:List D} {v:List Value} (x:DenL h Ex d v) (k:Kp h h') (w1:∀ b,W b→h.get? b=none):DenL h' (fun b=>Ex b∨W b) d v :=
 DenL.mono (fun b o _ t e=>k.ob e t) (fun b hb n e=>e.elim n fun e=>hb.ne (w1 b e) rfl) _ _ x
theorem fL {tbl:List Str} (nd:tbl.Nodup) {i:Nat} {x:Str} (h:tbl[i]? = some x):idOf tbl x=some i:=by
 unfold idOf
 obtain ⟨hl,e⟩:=List.getElem?_eq_some_iff.mp h
 rw [List.findIdx?_eq_some_iff_getElem]
 refine ⟨hl,by simpa using e,fun j hj=> ?_⟩
 have hjl:j<tbl.length:=Nat.lt_trans hj hl
 intro hc
 have:tbl[j]=x:=by simpa using hc
 have:=iy nd (List.getElem?_eq_some_iff.mpr ⟨hjl,this⟩) h
 omega
theorem cD {is:List Nat}:∀ {σ:MEnv} {i:Nat} {e:D×Bool},getE (clearE σ is) i=some e→i∉is∧getE σ i=some e:=by
 induction is with
 |nil=>intro σ i e h;exact ⟨List.not_mem_nil,h⟩
 |cons j r ih =>
  intro σ i e h
  obtain ⟨h1,h2⟩:=ih (σ:=σ.set j none) h
  obtain ⟨h3,h4⟩:=eG h2
  exact ⟨fun hm=>(List.mem_cons.mp hm).elim h3 h1,h4⟩
theorem rP {sc:Scope} {x:Str} (h:cellish sc x=true):sc.names.lookup x=some .cell∨sc.names.lookup x=some .free:=by
 unfold cellish at h
 cases hk:sc.names.lookup x with
 |none=>rw [hk] at h;exact nomatch h
 |some k=>cases k<;>first |exact .inl rfl |exact .inr rfl |(rw [hk] at h;exact nomatch h)
theorem uw {sc sc':Scope} {env:Env} (hsc:ScEq env sc) (ok:scOk sc sc'=true):sc'.kind = .function∧distinctN sc'.names=true∧∀ n,(n,NameKind.free)∈sc'.names→env.kindOf n=some .cell∨env.kindOf n=some .free:=aa ok fun ok h3=>aa ok fun h1 h2=>⟨beq_iff_eq.mp h1,h2,fun n hn=>by
 have:=List.all_eq_true.mp h3 _ hn
 rcases hsc n with e |⟨_,e⟩
 ·rw [show env.kindOf n=_ from e]
  exact rP this
 ·exact .inl e⟩
theorem fZ {c:Cx} {sc:Scope} {x:Str} {i:Nat} (hid:idOf c.tbl x=some i) (h:(x,NameKind.local)∈sc.names∨(x,NameKind.cell)∈sc.names):i∈locsOf c sc:=by
 unfold locsOf
 rw [List.mem_filterMap]
 rcases h with h |h<;>exact ⟨_,h,hid⟩
theorem df (g:Str→NameKind→NameKind) (hg:∀ n k,g n k=k∨(k = .free∧g n k = .cell)) (x:Str):∀ l:List (Str×NameKind),
  (l.map fun p=>(p.1,g p.1 p.2)).lookup x=l.lookup x∨(l.lookup x=some .free∧(l.map fun p=>(p.1,g p.1 p.2)).lookup x=some .cell)
 | []=> .inl rfl
 |(n,k) :: r=>by
  rw [List.map_cons,List.lookup_cons,List.lookup_cons]
  cases hx:x==n with
  |true =>
   rcases hg n k with e |⟨e1,e2⟩
   ·left;show some (g n k)=some k;rw [e]
   ·right;exact ⟨by rw [e1],by show some (g n k)=_;rw [e2]⟩
  |false=>exact df g hg x r
theorem bz {sc':Scope} {env:Env} {x:Str}:(relabel sc' env).names.lookup x=sc'.names.lookup x∨(sc'.names.lookup x=some .free∧(relabel sc' env).names.lookup x=some .cell):=by
 have e:(relabel sc' env).names=sc'.names.map fun p=>(p.1,(fun n k=>if (k == .free&&env.scope.kind == .function&&env.kindOf n==some .cell) then NameKind.cell else k) p.1 p.2):=by
  unfold relabel
  apply List.map_congr_left
  intro p _
  show (if _ then _ else _)=(p.1,if _ then _ else _)
  cases (p.2 == .free&&env.scope.kind == .function&&env.kindOf p.1==some .cell)<;>rfl
 rw [e]
 refine df (fun n k=>if (k == .free&&env.scope.kind == .function&&env.kindOf n==some .cell) then NameKind.cell else k) (fun n k=> ?_) x _
 by_cases hc:(k == .free&&env.scope.kind == .function&&env.kindOf n==some .cell)=true
 ·exact aa hc fun h _=>aa h fun h _=> .inr ⟨beq_iff_eq.mp h,if_pos hc⟩
 ·exact .inl (if_neg hc)
noncomputable def compEnv (sc':Scope) (cl:List (Str×Addr)) (C:Addr) (env:Env):Env:=compEnvC sc' cl C env
section
variable {prog:Program} {w:World} {A:Around} {E:Value→Shared→Prop} {env:Env} {c:Cx} {sc sc':Scope} {Ex:Addr→Prop} {s:Shared} {σ:MEnv}
theorem rU {Q:Env→Shared→Prop} (hsc:ScEq env sc) (R:RR env c.tbl Ex ow σ s.heap) (ok:scOk sc sc'=true)
  (h:∀ cells h4,(∀ b,Ex b∨(s.heap.objs.size≤b∧(b=s.heap.objs.size∨∃ n,cells.lookup n=some b))→Al h4 b)→Kp s.heap h4→(∀ n a,cells.lookup n=some a→Al h4 a) →
   RR (compEnvC sc' cells s.heap.objs.size env) c.tbl (fun b=>Ex b∨(s.heap.objs.size≤b∧(b=s.heap.objs.size∨∃ n,cells.lookup n=some b))) ow (clearE σ (locsOf c sc')) h4 →
   ScEq (compEnvC sc' cells s.heap.objs.size env) sc' →
   (∀ n a,storable sc' n=true→cells.lookup n=some a→s.heap.objs.size≤a) →
   (∀ i x e,c.tbl[i]? = some x→seen (relabel sc' env) x=true→getE (clearE σ (locsOf c sc')) i=some e→seen env.scope x=true∧getE σ i=some e) →
   Q {scope:=sc',locals:=s.heap.objs.size,globals:=env.globals,cells:=cells,qual:=env.qual,func:=none,code:=env.code,frame:=env.frame,builtins:=env.builtins} {s with heap:=h4}) :
  wpAny (model prog w) A (newFunctionEnv sc' env.globals (clFrom env sc'.names []) [] env.qual none .none (some env)) Q E s:=by
 obtain ⟨eok,nd,lt,own,m,cm,F,hv⟩:=R
 obtain ⟨ok1,ok2,hcell⟩:=uw hsc ok
 have hfree:∀ n,(n,NameKind.free)∈sc'.names→∃ a,env.cells.lookup n=some a:=fun n hn=>F.has n (hcell n hn)
 simp only [newFunctionEnv,Option.isSome_some,if_true]
 refine wpAny_bind (wpAny_alloc ?_)
 refine wpAny_bind (wpAny_layCells _ (fun name kind cells=>by cases hkc:kind==NameKind.cell<;>simp [hkc]) _ _ _ _ ?_)
 rw [show ({s with heap:=s.heap.push {cls:= .type "dict",data:= .dict #[]}}:Shared).heap.objs.size=s.heap.objs.size+1 from Heap.size_push ..]
 have cok:=cellsFrom_ok sc'.names (s.heap.push {cls:= .type "dict",data:= .dict #[]}) (s.heap.objs.size+1) [] ⟨fun _ _ hm=>(nomatch hm),List.Pairwise.nil⟩ (by rw [Heap.size_push];exact Nat.le_refl _)
 rw [Heap.size_push] at cok
 rw [bJ]
 have kp:Kp s.heap (pushCells (s.heap.push {cls:= .type "dict",data:= .dict #[]}) sc'.names):= .of fun b o e=>pushCells_keeps _ _ b o (Heap.get?_push_of_some _ e)
 show wpAny _ _ _ _ _ {s with heap:=pushCells (s.heap.push {cls:= .type "dict",data:= .dict #[]}) sc'.names}
 generalize hH:pushCells (s.heap.push {cls:= .type "dict",data:= .dict #[]}) sc'.names=h4 at *
 generalize hO:cellsFrom (s.heap.objs.size+1) sc'.names []=own' at *
 have lown:∀ n a,own'.lookup n=some a→h4.IsCell a none∧s.heap.objs.size+1≤a∧(n,NameKind.cell)∈sc'.names:=fun n a hl=>by
  have hm:=mem_of_lookup hl
  refine ⟨(cok.empty n a hm).1,(cok.empty n a hm).2,?_⟩
  rw [← hO] at hm
  rcases cq hm with e |e
  ·exact e
  ·cases e
 have lcl:∀ n a,(clFrom env sc'.names []).lookup n=some a→(n,NameKind.free)∈sc'.names∧env.cells.lookup n=some a:=fun n a hl=>by
  rcases cn hl with ⟨h1,h2⟩ |h1
  ·obtain ⟨a',ha'⟩:=hfree n h1
   rw [ha'] at h2
   exact ⟨h1,by rw [ha',h2];rfl⟩
  ·cases h1
 have lall:∀ n a,(own'++clFrom env sc'.names []).lookup n=some a→own'.lookup n=some a∨(own'.lookup n=none∧(clFrom env sc'.names []).lookup n=some a):=fun n a hl=>by
  rw [List.lookup_append] at hl
  cases ho:own'.lookup n with
  |none=>rw [ho] at hl;exact .inr ⟨rfl,by simpa using hl⟩
  |some a'=>rw [ho] at hl;exact .inl (by simpa using hl)
 have hCns:h4.Ns s.heap.objs.size (fun _=>none):=by
  rw [← hH];exact (Heap.Ns.new s.heap (.type "dict")).keeps (pushCells_keeps _ _)
 have alC:Al h4 s.heap.objs.size:=let ⟨o,_,_,ho,_⟩:=hCns;⟨o,ho⟩
 have alc:∀ n a,(own'++clFrom env sc'.names []).lookup n=some a→Al h4 a:=fun n a hl=>by
  rcases lall n a hl with h1 |⟨_,h1⟩
  ·obtain ⟨o,ho,_⟩:=(lown n a h1).1;exact ⟨o,ho⟩
  ·exact (lt a (own.2 n a (lcl n a h1).2)).keep kp
 have sq:ScEq (compEnvC sc' (own'++clFrom env sc'.names []) s.heap.objs.size env) sc':=fun x=>bz
 have al:∀ b,Ex b∨(s.heap.objs.size≤b∧(b=s.heap.objs.size∨∃ n,(own'++clFrom env sc'.names []).lookup n=some b))→Al h4 b:=by
  rintro b (h1 |⟨_,rfl |⟨n,h1⟩⟩)
  ·exact (lt b h1).keep kp
  ·exact alC
  ·exact alc n b h1
 have nofree:∀ n,(n,NameKind.free)∈sc'.names→own'.lookup n=none:=fun n hn=>by
  cases ho:own'.lookup n with
  |none=>rfl
  |some a =>
   have h1:=a8 ok2 (lown n a ho).2.2
   rw [a8 ok2 hn] at h1
   cases h1
 have st:∀ n a,storable sc' n=true→(own'++clFrom env sc'.names []).lookup n=some a→s.heap.objs.size≤a:=fun n a hs hl=>by
  rcases lall n a hl with h1 |⟨_,h1⟩
  ·exact Nat.le_of_succ_le (lown n a h1).2.1
  ·have:=a8 ok2 (lcl n a h1).1
   rcases bN hs with e |e<;>exact nomatch this.symm.trans e
 have sn:∀ i x e,c.tbl[i]? = some x→seen (relabel sc' env) x=true→getE (clearE σ (locsOf c sc')) i=some e→sc'.names.lookup x=some .free:=fun i x e h1 h3 h2=>by
  obtain ⟨n1,_⟩:=cD h2
  have hid:=fL nd h1
  have hk:=fe h3
  rcases bz (sc':=sc') (env:=env) (x:=x) with e |⟨e,_⟩
  ·rw [e] at hk
   rcases hk with hk |hk |hk
   ·exact absurd (fZ hid (.inl (mem_of_lookup hk))) n1
   ·exact absurd (fZ hid (.inr (mem_of_lookup hk))) n1
   ·exact hk
  ·exact e
 have snk:∀ x,sc'.names.lookup x=some .free→seen env.scope x=true:=fun x hfr=>by
  unfold seen
  rcases hcell x (mem_of_lookup hfr) with e |e<;>rw [show env.scope.names.lookup x=_ from e]<;>rfl
 have sn2:∀ i x e,c.tbl[i]? = some x→seen (relabel sc' env) x=true→getE (clearE σ (locsOf c sc')) i=some e→seen env.scope x=true∧getE σ i=some e:=fun i x e h1 h3 h2=>⟨snk x (sn i x e h1 h3 h2),(cD h2).2⟩
 refine wpAny_pure (h _ h4 al kp alc ?_ sq st sn2)
 refine ⟨⟨ok1,eok.glob,eok.blt⟩,nd,al,⟨.inr ⟨Nat.le_refl _,.inl rfl⟩,fun n a hl=> ?_⟩,fun _=>none,fun x=>if (own'.lookup x).isSome then none else cm x,⟨hCns,fun n a hl=> ?_,fun n a hl=> ?_,fun n n' a hl hl'=> ?_,fun x hx=> ?_⟩,fun i x d b h1 h2 h3=> ?_⟩
 ·have hl:(own'++clFrom env sc'.names []).lookup n=some a:=hl
  rcases lall n a hl with h1 |⟨_,h1⟩
  ·exact .inr ⟨by have:=(lown n a h1).2.1;omega,.inr ⟨n,hl⟩⟩
  ·exact .inl (own.2 n a (lcl n a h1).2)
 ·have hl:(own'++clFrom env sc'.names []).lookup n=some a:=hl
  rcases lall n a hl with h1 |⟨h0,h1⟩
  ·rw [h1];exact (lown n a h1).1
  ·rw [h0];exact kp.cell (F.cell n a (lcl n a h1).2)
 ·have hl:(own'++clFrom env sc'.names []).lookup n=some a:=hl
  rcases lall n a hl with h1 |⟨h0,h1⟩
  ·have:=(lown n a h1).2.1
   exact Nat.ne_of_gt this
  ·exact (lt a (own.2 n a (lcl n a h1).2)).ne (az _)
 ·have hl:(own'++clFrom env sc'.names []).lookup n=some a:=hl
  have hl':(own'++clFrom env sc'.names []).lookup n'=some a:=hl'
  have oc:∀ x y,own'.lookup x=some a→(clFrom env sc'.names []).lookup y=some a→False:=fun x y h1 h2=>by
   obtain ⟨o,ho⟩:=lt a (own.2 y a (lcl y a h2).2)
   have h3:=Heap.lt_size ho
   have h4:=(lown x a h1).2.1
   exact absurd (Nat.lt_of_lt_of_le h3 (Nat.le_of_succ_le h4)) (Nat.lt_irrefl _)
  rcases lall n a hl with h1 |⟨_,h1⟩<;>rcases lall n' a hl' with h2 |⟨_,h2⟩
  ·exact name_of_addr cok.apart (mem_of_lookup h1) (mem_of_lookup h2)
  ·exact (oc n n' h1 h2).elim
  ·exact (oc n' n h2 h1).elim
  ·exact F.inj n n' a (lcl n a h1).2 (lcl n' a h2).2
 ·have key:sc'.names.lookup x=some .cell∨sc'.names.lookup x=some .free:=by
   rcases bz (sc':=sc') (env:=env) (x:=x) with e |⟨e,_⟩
   ·have hx:(relabel sc' env).names.lookup x=some .cell∨(relabel sc' env).names.lookup x=some .free:=hx
    rw [e] at hx;exact hx
   ·exact .inr e
  show ∃ a,(own'++clFrom env sc'.names []).lookup x=some a
  rw [List.lookup_append]
  rcases key with e |e
  ·have:=cw (n:=s.heap.objs.size+1) (acc:=[]) (mem_of_lookup e)
   rw [hO] at this
   obtain ⟨a,ha⟩:=Option.isSome_iff_exists.mp this
   exact ⟨a,by rw [ha];rfl⟩
  ·rw [nofree x (mem_of_lookup e)]
   obtain ⟨a,ha⟩:=Option.isSome_iff_exists.mp (gB (env:=env) (acc:=[]) (mem_of_lookup e))
   exact ⟨a,by rw [ha];rfl⟩
 ·have g1:=(cD h2).2
  have hfr:=sn i x _ h1 h3 h2
  have hm:=mem_of_lookup hfr
  have hkc:=hcell x hm
  have hsn:=snk x hfr
  obtain ⟨v,e,dv,hw⟩:=hv i x d b h1 g1 hsn
  refine ⟨v,?_,?_,hw⟩
  ·have e1:cm x=some v:=by
    unfold valOf at e
    rcases hkc with q |q<;>rw [q] at e<;>exact e
   have e2:(if (own'.lookup x).isSome then none else cm x)=some v:=by rw [nofree x hm];exact e1
   unfold valOf
   rcases bz (sc':=sc') (env:=env) (x:=x) with q |⟨_,q⟩
   ·rw [show (compEnvC sc' (own'++clFrom env sc'.names []) s.heap.objs.size env).kindOf x=some .free from q.trans hfr];exact e2
   ·rw [show (compEnvC sc' (own'++clFrom env sc'.names []) s.heap.objs.size env).kindOf x=some .cell from q];exact e2
  ·have hx:∀ b,Al s.heap b→¬ Ex b→¬ (Ex b∨(s.heap.objs.size≤b∧(b=s.heap.objs.size∨∃ n,(own'++clFrom env sc'.names []).lookup n=some b))):=fun b hb n e=>e.elim n fun e=>by
    obtain ⟨o,ho⟩:=hb
    have:=Heap.lt_size ho
    exact absurd (Nat.lt_of_lt_of_le this e.1) (Nat.lt_irrefl _)
   cases b with
   |false=>exact Den.mono (fun b o _ t e=>kp.ob e t) hx _ _ dv
   |true =>
    obtain ⟨a,items,ds,e1,e2,l,r⟩:=dv
    exact ⟨a,items,ds,e1,e2,PL.at' l (kp.at a),DenL.mono (fun b o _ t e=>kp.ob e t) hx _ _ r⟩
end
end Mine
set_option genSizeOf false
set_option genInjectivity false
namespace Mine
variable [Tabs] [Frk]
noncomputable def IsFields (o:Obj):Prop:=∃ fs,o.data = .fields fs
noncomputable def IsSeq (o:Obj):Prop:=∃ is n,o.data = .seq is n
theorem j7 {env:Env} {m cm:Str→Option Value} {h:Heap} (F:FrM env h m cm) {b:Addr} {o:Obj} (ho:h.get? b=some o) (hd:IsFields o∨IsSeq o):b≠env.locals∧∀ n,env.cells.lookup n≠some b:=by
 refine ⟨fun e=> ?_,fun n hn=> ?_⟩
 ·obtain ⟨o',es,ep,ho',hd',_⟩:=F.ns
  refine dC ho ho' e fun q=> ?_
  rcases hd with ⟨fs,hd⟩ |⟨is,k,hd⟩<;>exact nomatch hd.symm.trans (q.trans hd')
 ·obtain ⟨o',ho',hd'⟩:=F.cell n b hn
  refine dC ho ho' rfl fun q=> ?_
  rcases hd with ⟨fs,hd⟩ |⟨is,k,hd⟩<;>exact nomatch hd.symm.trans (q.trans hd')
theorem RR.frame {env:Env} {tbl:List Str} {Ex:Addr→Prop} {ow:Nat→Addr} {σ:MEnv} {h:Heap} (R:RR env tbl Ex ow σ h) {b:Addr} {o:Obj} (ho:h.get? b=some o) (hd:IsFields o∨IsSeq o):b≠env.locals∧∀ n,env.cells.lookup n≠some b :=
 let ⟨_,_,F,_⟩:=R.fr;j7 F ho hd
theorem RR.own_al {env:Env} {tbl:List Str} {Ex:Addr→Prop} {ow:Nat→Addr} {σ:MEnv} {h:Heap} (R:RR env tbl Ex ow σ h) {i:Nat} {x:Str} {d:D} (h1:tbl[i]? = some x) (h2:seen env.scope x=true) (h3:getE σ i=some (d,true)) :
  ∃ items ds,d = .list ds∧h.PlainList (ow i) items∧DenL h Ex ds items.toList:=by
 obtain ⟨m,cm,F,hv⟩:=R.fr
 obtain ⟨v,e,⟨a,items,ds,e1,e2,l,r⟩,hw⟩:=hv i x d true h1 h3 h2
 rw [← Value.ref.inj (e1.symm.trans (hw rfl))]
 exact ⟨items,ds,e2,l,r⟩
theorem RR.chg {env:Env} {tbl:List Str} {Ex Ex' Wr:Addr→Prop} {ow:Nat→Addr} {σ:MEnv} {h h':Heap} (R:RR env tbl Ex ow σ h) (hk:∀ b o,¬ Wr b→h.get? b=some o→h'.get? b=some o) (hx:∀ b,Wr b→Ex b)
  (nl:¬ Wr env.locals) (nc:∀ n c,env.cells.lookup n=some c→¬ Wr c) (no:∀ i x d,tbl[i]? = some x→seen env.scope x=true→getE σ i=some (d,true)→¬ Wr (ow i))
  (e1:∀ b,Ex' b→Ex b) (e2:∀ b,Ex b→¬ Wr b→Ex' b) (al:∀ b,Ex' b→Wr b→Al h' b):RR env tbl Ex' ow σ h':=by
 obtain ⟨ok,nd,lt,own,m,cm,F,hv⟩:=R
 have kx:∀ b o,¬ Ex b→NT b o→h.get? b=some o→h'.get? b=some o:=fun b o n _ e=>hk b o (fun q=>n (hx b q)) e
 have xx:∀ b,Al h b→¬ Ex b→¬ Ex' b:=fun b _ n e=>n (e1 b e)
 refine ⟨ok,nd,fun b hb=> ?_,⟨e2 _ own.1 nl,fun n c hc=>e2 _ (own.2 n c hc) (nc n c hc)⟩,m,cm,⟨F.ns.at' fun o e=>hk _ o nl e,fun n c hc=>let ⟨o,ho,hd⟩:=F.cell n c hc;⟨o,hk c o (nc n c hc) ho,hd⟩,F.offL,F.inj,F.has⟩,fun i x d b h1 h2 h3=> ?_⟩
 ·by_cases hwb:Wr b
  ·exact al b hb hwb
  ·obtain ⟨o,ho⟩:=lt b (e1 b hb);exact ⟨o,hk b o hwb ho⟩
 ·obtain ⟨v,e,dv,hw'⟩:=hv i x d b h1 h2 h3
  refine ⟨v,e,?_,hw'⟩
  cases b with
  |false=>exact Den.mono kx xx _ _ dv
  |true =>
   obtain ⟨a,items,ds,q1,q2,⟨n0,l⟩,r⟩:=dv
   exact ⟨a,items,ds,q1,q2,⟨n0,hk a _ (Value.ref.inj (q1.symm.trans (hw' rfl))▸no i x d h1 h3 h2) l⟩,DenL.mono kx xx _ _ r⟩
theorem RR.nofld {env:Env} {tbl:List Str} {Ex:Addr→Prop} {ow:Nat→Addr} {σ:MEnv} {h:Heap} (R:RR env tbl Ex ow σ h) {i:Nat} {x:Str} {d:D} (h1:tbl[i]? = some x) (h2:seen env.scope x=true) (h3:getE σ i=some (d,true)) {o:Obj} (ho:h.get? (ow i)=some o) (hf:IsFields o):False:=by
 obtain ⟨its,ds,_,⟨n,l⟩,_⟩:=R.own_al h1 h2 h3
 obtain ⟨fs,hf⟩:=hf
 exact dC l ho rfl fun q=>nomatch q.trans hf
theorem RR.mutl {env:Env} {tbl:List Str} {Ex:Addr→Prop} {ow:Nat→Addr} {σ:MEnv} {h h':Heap} {Wr:Addr→Prop} (R:RR env tbl Ex ow σ h) (hk:∀ b o,¬ Wr b→h.get? b=some o→h'.get? b=some o) (hx:∀ b,Wr b→Ex b)
  (hw:∀ b,Wr b→∃ o,h.get? b=some o∧IsFields o) (ha:∀ b,Wr b→Al h' b):RR env tbl Ex ow σ h' :=
 R.chg hk hx (fun e=>let ⟨_,ho,hd⟩:=hw _ e;(R.frame ho (.inl hd)).1 rfl) (fun n c hc e=>let ⟨_,ho,hd⟩:=hw _ e;(R.frame ho (.inl hd)).2 n hc) (fun i x d h1 h2 h3 e=>let ⟨_,ho,hd⟩:=hw _ e;R.nofld h1 h2 h3 ho hd) (fun _ e=>e) (fun _ e _=>e) fun b _ e=>ha b e
theorem RR.drop {env:Env} {tbl:List Str} {Ex:Addr→Prop} {ow:Nat→Addr} {σ:MEnv} {h h':Heap} {Wr:Addr→Prop} (R:RR env tbl Ex ow σ h) (hk:∀ b o,¬ Wr b→h.get? b=some o→h'.get? b=some o) (hx:∀ b,Wr b→Ex b)
  (hw:∀ b,Wr b→∃ o,h.get? b=some o∧IsFields o):RR env tbl (fun b=>Ex b∧¬ Wr b) ow σ h' :=
 R.chg hk hx (fun e=>let ⟨_,ho,hd⟩:=hw _ e;(R.frame ho (.inl hd)).1 rfl) (fun n c hc e=>let ⟨_,ho,hd⟩:=hw _ e;(R.frame ho (.inl hd)).2 n hc) (fun i x d h1 h2 h3 e=>let ⟨_,ho,hd⟩:=hw _ e;R.nofld h1 h2 h3 ho hd) (fun _ e=>e.1) (fun _ e n=>⟨e,n⟩) fun b e n=>absurd n e.2
theorem RR.other {env:Env} {tbl:List Str} {Ex:Addr→Prop} {ow:Nat→Addr} {σ:MEnv} {h h':Heap} {D:Addr} (R:RR env tbl Ex ow σ h) (hk:Heap.SameBut D h h') (hx:Ex D) (hd:∃ o,h.get? D=some o∧IsSeq o) (ha:Al h' D)
  (hn:∀ i x d,tbl[i]? = some x→seen env.scope x=true→getE σ i=some (d,true)→ow i≠D):RR env tbl Ex ow σ h':=by
 obtain ⟨o0,ho0,hs⟩:=hd
 obtain ⟨f1,f2⟩:=R.frame ho0 (.inr hs)
 exact R.chg (Wr:=(· = D)) (fun b o n e=>hk.extBut b o n e) (fun _ e=>e▸hx) (fun e=>f1 e.symm) (fun n c hc e=>f2 n (e▸hc)) hn (fun _ e=>e) (fun _ e _=>e) fun _ _ e=>e▸ha
theorem RR.weaken {env:Env} {tbl:List Str} {Ex:Addr→Prop} {ow:Nat→Addr} {σ σ':MEnv} {h:Heap} (R:RR env tbl Ex ow σ' h) (hw:∀ j e,getE σ j=some e→getE σ' j=some e):RR env tbl Ex ow σ h:=by
 obtain ⟨ok,nd,lt,own,m,cm,F,hv⟩:=R
 exact ⟨ok,nd,lt,own,m,cm,F,fun i x d b h1 h2 h3=>hv i x d b h1 (hw i _ h2) h3⟩
structure Turns (prog:Program) (w:World) (A:Around) (c:Cx) (sc:Scope) (target:Expr) (tg:List Nat) (one:Bool) (I:Addr) (xs:List D) (Fp Wr:Addr→Prop) (It:Heap→(Addr→Prop)→Prop) (St:Nat→Heap→Prop):Prop where
 frame:∀ i h h',St i h→(∀ b o,Fp b→h.get? b=some o→h'.get? b=some o)→St i h'
 kinds:∀ i h b,St i h→Fp b→∃ o,h.get? b=some o∧(∃ T,o.cls = .type T∧T≠"code")∧(IsFields o∨(¬ Wr b∧IsSeq o))
 sub:∀ b,Wr b→Fp b
 items:∀ h h' X X',It h X→(∀ b o,¬ X b→NT b o→h.get? b=some o→h'.get? b=some o)→(∀ b,Al h b→¬ X b→¬ X' b)→It h' X'
 next:∀ i d (s:Shared) (env:Env) (Ex:Addr→Prop) (ow:Nat→Addr) (σ σ':MEnv) (Q:Unit→Shared→Prop) (E E':Value→Shared→Prop),ScEq env sc→xs[i]? = some d→St i s.heap→It s.heap Ex→(∀ b,Wr b→Ex b)→RR env c.tbl Ex ow σ s.heap→bindT σ tg one d=some σ' →
  (∀ h' tk,St (i+1) h'→It h' Ex→RR env c.tbl Ex ow σ' h'→(∀ b o,¬ Wr b→b≠env.locals→(∀ n,storable sc n=true→env.cells.lookup n≠some b)→s.heap.get? b=some o→Gw h' b o)→Cd s.heap h'→Q () {s with heap:=h',toks:=tk}) →
  wpAny (model prog w) A (pyNext (.ref I)) (fun r s₁=>∃ v,r=some v∧wpAny (model prog w) A (letOwnedTupleGo target (.ref I) v) (fun _ s₂=>wpAny (model prog w) A (assign target env v) Q E' s₂) E' s₁) E s
 done:∀ (s:Shared) (Q:Shared→Prop) (E:Value→Shared→Prop),St xs.length s.heap→(∀ h' tk,(∀ b o,¬ Wr b→s.heap.get? b=some o→h'.get? b=some o)→Q {s with heap:=h',toks:=tk}) →
  wpAny (model prog w) A (pyNext (.ref I)) (fun r s₁=>r=none∧Q s₁) E s
 self:∀ i (s:Shared) (Q:Value→Shared→Prop) (E:Value→Shared→Prop),St i s.heap→Q (.ref I) s→wpAny (model prog w) A (pyIter (.ref I)) Q E s
theorem lu {o:Obj} {T:String} {P:Prop} (hc:o.cls = .type T) (hf:IsFields o∨(P∧IsSeq o)):isTab o=false:=db hc (by
 rcases hf with ⟨fs,hd⟩ |⟨_,is,k,hd⟩<;>rw [hd]<;>rfl)
theorem nO {h:Heap} {b:Addr} {o:Obj} {P:Prop} (ho:h.get? b=some o) (hf:IsFields o∨(P∧IsSeq o)):¬ Dt h b:=fun ⟨o',es,n,e1,e2⟩=>by
 obtain rfl:=sm (ho.symm.trans e1)
 rcases hf with ⟨fs,hd⟩ |⟨_,is,k,hd⟩<;>exact nomatch e2.symm.trans hd
noncomputable abbrev Knd (h:Heap) (b:Addr) (P:Prop):Prop:=∃ o,h.get? b=some o∧(∃ T,o.cls = .type T∧T≠"code")∧(IsFields o∨(P∧IsSeq o))
theorem Knd.notab {h:Heap} {b:Addr} {P:Prop} (k:Knd h b P) {o:Obj} (e:h.get? b=some o):NT b o:= .inl<|by
 obtain ⟨o',ho',⟨T',hc',_⟩,hf⟩:=k
 obtain rfl:=sm (e.symm.trans ho')
 exact lu hc' hf
theorem Knd.or {h:Heap} {b:Addr} {P:Prop} (k:Knd h b P):∃ o,h.get? b=some o∧(IsFields o∨IsSeq o):=let ⟨o,ho,_,hf⟩:=k;⟨o,ho,hf.imp id (·.2)⟩
theorem Knd.fld {h:Heap} {b:Addr} {P:Prop} (k:Knd h b P) (n:¬ P):∃ o,h.get? b=some o∧IsFields o:=let ⟨o,ho,_,hf⟩:=k;⟨o,ho,hf.elim id fun q=>absurd q.1 n⟩
theorem nU {h h':Heap} {Wr:Addr→Prop} {P:Addr→Prop} (kn:∀ b,Wr b→Knd h b (P b)) (k:∀ b o,¬ Wr b→h.get? b=some o→h'.get? b=some o):Cd h h' :=
 ⟨fun b o vs g1 _ e=>k b o (fun q=>by
  obtain ⟨o',ho',⟨T',hc',hn'⟩,_⟩:=kn b q
  obtain rfl:=sm (e.symm.trans ho')
  exact hn' (Value.type.inj (g1.symm.trans hc')).symm) e,fun b d=>d.kq fun o e=>k b o (fun q=>by
  obtain ⟨o',ho',_,hf⟩:=kn b q
  exact nO ho' hf d) e⟩
section
variable {prog:Program} {w:World} {A:Around} {c:Cx} {sc:Scope} {target:Expr} {tg:List Nat} {one:Bool} {I:Addr} {xs:List D} {Fp Wr:Addr→Prop} {It:Heap→(Addr→Prop)→Prop} {St:Nat→Heap→Prop}
theorem Turns.frameK (T:Turns prog w A c sc target tg one I xs Fp Wr It St) {i:Nat} {h h':Heap} (st:St i h) (k:∀ b o,Fp b→NT b o→h.get? b=some o→h'.get? b=some o):St i h' :=
 T.frame i h h' st fun b o hb e=>k b o hb (Knd.notab (T.kinds _ _ b st hb) e) e
theorem Turns.cdW (T:Turns prog w A c sc target tg one I xs Fp Wr It St) {i:Nat} {h h':Heap} (st:St i h) (k:∀ b o,¬ Wr b→h.get? b=some o→h'.get? b=some o):Cd h h':=nU (fun b q=>T.kinds _ _ b st (T.sub b q)) k
end
noncomputable def badIt:List String:=["enumerate","zip","dict_itemiterator","dict_reverseitemiterator","odict_iterator","itertools.zip_longest","itertools.pairwise"]
theorem gV {prog:Program} {w:World} {A:Around} {E:Value→Shared→Prop} {s:Shared} {target:Expr} {I:Addr} {v:Value} {T:String} {o:Obj} {Q:Unit→Shared→Prop} (ho:s.heap.get? I=some o) (hc:o.cls = .type T) (hT:badIt.contains T=false) (hQ:Q () s) :
  wpAny (model prog w) A (letOwnedTupleGo target (.ref I) v) Q E s:=by
 have go:wpAny (model prog w) A (letOwnedTupleGo (.Tuple [] 0 default) (.ref I) v) Q E s:=by
  unfold letOwnedTupleGo
  cases v with
  |ref a =>
   refine wpAny_bind (wpAny_load ho ?_)
   rw [hc]
   have hT':(["enumerate","zip","dict_itemiterator","dict_reverseitemiterator","odict_iterator","itertools.zip_longest","itertools.pairwise"].contains T)=false:=hT
   cases o.data with
   |fields vs =>
    refine wpAny_ite_split (fun h=> ?_) fun _=>wpAny_pure hQ
    rw [hT',Bool.false_and] at h
    exact nomatch h
   |_=>exact wpAny_pure hQ
  |_=>exact wpAny_pure hQ
 cases target with
 |Tuple _ _ _=>exact go
 |List _ _=>exact go
 |_=>exact wpAny_pure hQ
section
variable {prog:Program} {w:World} {A:Around} {c:Cx} {sc:Scope} {target:Expr} {tg:List Nat} {one:Bool}
theorem nG (hh:A.handled=none) (hT:TgOk c sc target tg one) {s:Shared} {env:Env} {Ex:Addr→Prop} {ow:Nat→Addr} {σ σ':MEnv} {d:D} {v:Value} {Q:Unit→Shared→Prop} {E:Value→Shared→Prop} (hsc:ScEq env sc) (R:RR env c.tbl Ex ow σ s.heap) (hd:Den s.heap Ex d v) (hb:bindT σ tg one d=some σ')
  (h:∀ h' tk,RR env c.tbl Ex ow σ' h'→KS sc env s.heap h'→Q () {s with heap:=h',toks:=tk}):wpAny (model prog w) A (assign target env v) Q E s:=by
 rcases hT with ⟨rfl,x,p,i,rfl,rfl,hs,hi⟩ |⟨rfl,es,k,p,rfl,ht⟩
 ·obtain rfl:=sm hb
  obtain ⟨s1,s2⟩:=bu hsc hs
  exact iD (b:=false) (N:=fun x=>storable sc x=true) hs R s1 hi s2 hd (fun e=>nomatch e) h
 ·refine ae hb fun ds hds hb=> ?_
  revert hd
  refine cT (P:=fun d=>Den s.heap Ex d v→_) hds fun ⟨a,items,e,_,l,r⟩=> ?_
  rw [e]
  exact cP hh hsc ht R (TupAt.isTup l) r hb h
theorem Turns.of_walks {I:Addr} {xs:List D} {fp wr:List Addr} {n:Nat} {P:Nat→Value→Prop} {St:Nat→Heap→Prop} {It:Heap→(Addr→Prop)→Prop} (hh:A.handled=none) (hT:TgOk c sc target tg one)
  (W:Walks prog w A I fp wr n P St) (hn:n=xs.length) (kinds:∀ i h b,St i h→b∈fp→∃ o,h.get? b=some o∧(∃ T,o.cls = .type T∧T≠"code")∧(IsFields o∨(b∉wr∧IsSeq o)))
  (items:∀ h h' X X',It h X→(∀ b o,¬ X b→NT b o→h.get? b=some o→h'.get? b=some o)→(∀ b,Al h b→¬ X b→¬ X' b)→It h' X')
  (it:∀ i d h X v,xs[i]? = some d→It h X→P i v→Den h X d v)
  (cls:∀ i h,St i h→∃ T o,h.get? I=some o∧o.cls = .type T∧badIt.contains T=false) :
  Turns prog w A c sc target tg one I xs (· ∈ fp) (· ∈ wr) It St where
 frame:=fun i h h' st hk=>W.frame i h h' st fun b hb o e=>hk b o hb e
 kinds:=fun i h b st hb=>kinds i h b st hb
 sub:=fun b hb=>W.sub b hb
 items:=items
 next:=fun i d s env Ex ow σ σ' Q E E' hsc hx st hit hwx R hb h=>by
  have hi:i<n:=by rw [hn];exact (List.getElem?_eq_some_iff.mp hx).1
  refine W.item i s _ E hi st fun v h1 tk1 hP kB hk1=>⟨v,rfl,?_⟩
  have kn:=fun b hb=>kinds _ _ b st (W.sub b hb)
  have R1:RR env c.tbl Ex ow σ h1:=R.mutl (Wr:=(· ∈ wr)) hk1 hwx (fun b hb=>Knd.fld (kn b hb) fun q=>q hb) fun b hb=>let ⟨o,ho,_⟩:=kinds _ _ b kB (W.sub b hb);⟨o,ho⟩
  have it1:It h1 Ex:=items _ _ _ _ hit (fun b o n _ e=>hk1 b o (fun q=>n (hwx b q)) e) (fun _ _ n=>n)
  obtain ⟨T,o,ho,hc,hT'⟩:=cls _ _ kB
  refine gV (s:={s with heap:=h1,toks:=tk1}) ho hc hT' ?_
  refine nG (s:={s with heap:=h1,toks:=tk1}) hh hT hsc R1 (it i d h1 Ex v hx it1 hP) hb fun h2 tk2 R2 kf=> ?_
  refine h h2 tk2 (W.frame _ _ _ kB fun b hb o e=> ?_) (items _ _ _ _ it1 (kf.notex R1.own) (fun _ _ n=>n)) R2 (fun b o n1 n2 n3 e=>kf.kp b o n2 n3 (hk1 b o n1 e)) ((nU kn hk1).trans kf.cd)
  obtain ⟨o',ho',hf⟩:=Knd.or (kinds _ _ b kB hb)
  obtain ⟨f1,f2⟩:=R1.frame ho' hf
  exact (kf.kp b o f1 (fun n _=>f2 n) e).ob (Knd.notab (kinds _ _ b kB hb) e)
 done:=fun s Q E st h=>W.done s _ E (hn▸st) fun h' tk hk=>⟨rfl,h h' tk hk⟩
 self:=fun i s Q E st h=>W.self i s Q E st h
end
end Mine
set_option genSizeOf false
set_option genInjectivity false
namespace Mine
variable [Tabs] [Frk]
section
variable (X:Wd)
noncomputable def FeedPost (A:Around) (s:Shared) (Ex:Addr→Prop) (brw:Bool) (xs:List D) (sc':Scope) (target:Expr) (tg:List Nat) (one:Bool) (Q:Value→Shared→Prop):Prop :=
 ∀ (I:Addr) (Fp Wr:Addr→Prop) (It:Heap→(Addr→Prop)→Prop) (St:Nat→Heap→Prop) (h2:Heap) (tk2:Nat),Turns X.P X.w A X.c sc' target tg one I xs Fp Wr It St→St 0 h2→It h2 (fun b=>Ex b∨Wr b)→Kp s.heap h2→(∀ b,Wr b→s.heap.get? b=none) →
  (∀ b,Fp b→Wr b∨(brw=false→¬ Ex b))→Q (.ref I) {s with heap:=h2,toks:=tk2}
noncomputable def FS (sc:Scope) (k:IK) (it it2:T) (e:Expr):Prop :=
 ∀ (σ:MEnv) (p:At X sc σ) (E:Value→Shared→Prop) (b:Bool) (xs:List D) (sc':Scope) (target:Expr) (tg:List Nat) (one:Bool) (Q:Value→Shared→Prop),TgOk X.c sc' target tg one→enumOk one k=true→evI X.G X.F σ b k it it2=some xs→FeedPost X p.A p.s p.Ex b xs sc' target tg one Q →
  wpAny (model X.P X.w) p.A (eval e p.env) (fun v s₁=>wpAny (model X.P X.w) p.A (pyIter v) Q E s₁) E p.s
noncomputable def RgS (sc:Scope) (ta tb:T) (e:Expr):Prop :=
 ∀ (σ:MEnv) (p:At X sc σ) (E:Value→Shared→Prop) (m m':Int) (Q:Value→Shared→Prop),ev X.G X.F σ true ta=some (.int m)→ev X.G X.F σ true tb=some (.int m') →
  (∀ r h' tk t u v,Kp p.s.heap h'→IsRange h' r m m' 1 t u v→p.s.heap.get? r=none→Q (.ref r) {p.s with heap:=h',toks:=tk})→wpAny (model X.P X.w) p.A (eval e p.env) Q E p.s
end
theorem bA:∀ (k:Nat) (a:Int),(rangeD a k).length=k
 |0,_=>rfl
 |k+1,a=>congrArg (· + 1) (bA k _)
theorem ew:∀ (k:Nat) (a:Int) (i:Nat),i<k→(rangeD a k)[i]? = some (.int (a+i))
 |k+1,a,0,_=>congrArg (fun x=>some (D.int x)) (Int.add_zero a).symm
 |k+1,a,i+1,h=>(ew k (a+1) i (Nat.lt_of_succ_lt_succ h)).trans (congrArg (fun x=>some (D.int x)) (by rw [Int.add_assoc,Int.add_comm 1];rfl))
theorem be {s:Shared} {h1:Heap} (k1:Kp s.heap h1):s.heap.get? h1.objs.size=none:=k1.none (az _)
theorem nB {s:Shared} {h1:Heap} (k1:Kp s.heap h1):s.heap.get? (h1.objs.size+1)=none∧h1.get? (h1.objs.size+1)=none:=by
 have q:h1.get? (h1.objs.size+1)=none:=by
  cases e:h1.get? (h1.objs.size+1) with
  |none=>rfl
  |some o=>exact absurd (Heap.lt_size e) (Nat.not_lt.mpr (Nat.le_succ _))
 exact ⟨k1.none q,q⟩
noncomputable def Itr (h:Heap) (I:Addr) (ty:String):Prop:=∃ o,h.get? I=some o∧o.cls = .type ty∧IsFields o
theorem Itr.knd {h:Heap} {I:Addr} {ty:String} {P:Prop} (x:Itr h I ty) (n:ty≠"code"):Knd h I P:=let ⟨o,ho,hc,hf⟩:=x;⟨o,ho,⟨ty,hc,n⟩,.inl hf⟩
noncomputable def Sqn (h:Heap) (a:Addr) (ty:String):Prop:=∃ o,h.get? a=some o∧o.cls = .type ty∧IsSeq o
theorem Sqn.knd {h:Heap} {a:Addr} {ty:String} {P:Prop} (x:Sqn h a ty) (n:ty≠"code") (p:P):Knd h a P:=let ⟨o,ho,hc,hf⟩:=x;⟨o,ho,⟨ty,hc,n⟩,.inr ⟨p,hf⟩⟩
section
variable {X:Wd} {sc:Scope} {mg mb:Str→Option Value} {A:Around} {E:Value→Shared→Prop} {s:Shared} {Ex:Addr→Prop} {b:Bool} {xs:List D} {sc':Scope} {target:Expr} {tg:List Nat} {one:Bool} {Q:Value→Shared→Prop} {h1:Heap} {tk1:Nat}
theorem gr {its:List Value} {ys:List D} {h:Heap} {Y:Addr→Prop} {i:Nat} {d:D} {v:Value} (it:DenL h Y ys its) (hx:ys[i]? = some d) (hv:its[i]? = some v):Den h Y d v:=by
 obtain ⟨v',g,dv⟩:=it.get hx
 rw [← sm (g.symm.trans hv)];exact dv
theorem fO {a:Addr} {items:Array Value} {ys:List D} {o:Obj} {ty sy:String} {n:Nat} {PP:Nat→Value→Prop} {St:Nat→Heap→Prop} (hh:A.handled=none) (hT:TgOk X.c sc' target tg one) (k1:Kp s.heap h1) (ha:a<h1.objs.size) (r:DenL h1 Ex ys items.toList) (nx:b=false→¬ Ex a)
  (P:FeedPost X A s Ex b xs sc' target tg one Q) (W:Walks X.P X.w A h1.objs.size [h1.objs.size,a] [h1.objs.size] n PP St) (hn:n=xs.length) (itv:∀ i d v h Y,xs[i]? = some d→DenL h Y ys items.toList→PP i v→Den h Y d v) (st0:St 0 (h1.push o))
  (kn:∀ i h,St i h→Itr h h1.objs.size ty∧Sqn h a sy) (h1y:badIt.contains ty=false) (h2y:ty≠"code") (h3y:sy≠"code"):Q (.ref h1.objs.size) {s with heap:=h1.push o,toks:=tk1}:=by
 have k2:=Kp.push h1 o
 have hne:a≠h1.objs.size:=Nat.ne_of_lt ha
 refine P h1.objs.size _ _ (fun h X=>DenL h X ys items.toList) _ (h1.push o) tk1
  (Turns.of_walks hh hT W hn (fun i h b st hb=> ?_) (fun h h' X X' x e1 e2=>DenL.mono e1 e2 _ _ x) (fun i d h X v hx it hv=>itv i d v h X hx it hv) fun i h st=>let ⟨o,ho,hc,_⟩:=(kn i h st).1;⟨ty,o,ho,hc,h1y⟩) st0 (r.grow k2 fun b hb=>by rw [List.mem_singleton.mp hb];exact az _) (k1.trans k2) (fun b hb=>by rw [List.mem_singleton.mp hb];exact be k1) fun b hb=> ?_
 ·rcases List.mem_cons.mp hb with rfl |hb
  ·exact (kn i h st).1.knd h2y
  ·rw [List.mem_singleton.mp hb]
   exact (kn i h st).2.knd h3y fun q=>hne (List.mem_singleton.mp q)
 ·rcases List.mem_cons.mp hb with rfl |hb
  ·exact .inl List.mem_cons_self
  ·rw [List.mem_singleton.mp hb];exact .inr nx
theorem jo {o:Obj} {ty:String} {n:Nat} {PP:Nat→Value→Prop} {St:Nat→Heap→Prop} (hh:A.handled=none) (hT:TgOk X.c sc' target tg one) (k1:Kp s.heap h1)
  (P:FeedPost X A s Ex b xs sc' target tg one Q) (W:Walks X.P X.w A h1.objs.size [h1.objs.size] [h1.objs.size] n PP St) (hn:n=xs.length) (itv:∀ i d v h Y,xs[i]? = some d→PP i v→Den h Y d v) (st0:St 0 (h1.push o))
  (kn:∀ i h,St i h→Itr h h1.objs.size ty) (h1y:badIt.contains ty=false) (h2y:ty≠"code"):Q (.ref h1.objs.size) {s with heap:=h1.push o,toks:=tk1} :=
 P h1.objs.size _ _ (fun _ _=>True) _ (h1.push o) tk1
  (Turns.of_walks hh hT W hn (fun i h b st hb=>by rw [List.mem_singleton.mp hb];exact (kn i h st).knd h2y) (fun _ _ _ _ _ _ _=>trivial) (fun i d h X v hx _ hv=>itv i d v h X hx hv) fun i h st=>let ⟨o,ho,hc,_⟩:=kn i h st;⟨ty,o,ho,hc,h1y⟩) st0 trivial (k1.trans (Kp.push h1 o)) (fun b hb=>by rw [List.mem_singleton.mp hb];exact be k1) fun b hb=> .inl hb
theorem nQ {a:Addr} {items:Array Value} (hh:A.handled=none) (hT:TgOk X.c sc' target tg one) (k1:Kp s.heap h1) (l:h1.PlainList a items) (r:DenL h1 Ex xs items.toList) (nx:b=false→¬ Ex a) (P:FeedPost X A s Ex b xs sc' target tg one Q):wpAny (model X.P X.w) A (pyIter (.ref a)) Q E {s with heap:=h1,toks:=tk1}:=by
 refine wpAny_pyIter_list (PL.isList l) ?_
 have k2:=Kp.push h1 {cls:= .type "list_iterator",data:= .fields #[.ref a,.int 0 0]}
 have ha:=PL.lt l
 exact fO (s:=s) (tk1:=tk1) (ty:="list_iterator") (sy:="list") hh hT k1 ha r nx P (Walks.list hh h1.objs.size a (Nat.ne_of_lt ha) items) (ak r) (fun i d v h Y hx it hv=>gr it hx (Array.getElem?_toList.trans hv)) ⟨⟨_,Heap.get?_push_size _ rfl,rfl,rfl⟩,PL.isList (PL.at' l (k2.at a))⟩
  (fun i h st=>⟨let ⟨o,ho,hc,hd⟩:=st.1;⟨o,ho,hc,_,hd⟩,let ⟨o,ho,hc,k,hd⟩:=st.2;⟨o,ho,hc,_,_,hd⟩⟩) (by decide) (by decide) (by decide)
theorem o5 {a:Addr} {items:Array Value} (hh:A.handled=none) (hT:TgOk X.c sc' target tg one) (k1:Kp s.heap h1) (l:TupAt h1 a items) (r:DenL h1 Ex xs items.toList) (nx:b=false→¬ Ex a) (P:FeedPost X A s Ex b xs sc' target tg one Q):wpAny (model X.P X.w) A (pyIter (.ref a)) Q E {s with heap:=h1,toks:=tk1}:=by
 refine wpAny_pyIter_tuple (TupAt.isTup l) ?_
 have k2:=Kp.push h1 {cls:= .type "tuple_iterator",data:= .fields #[.ref a,.int 0 0]}
 have ha:=TupAt.lt l
 exact fO (s:=s) (tk1:=tk1) (ty:="tuple_iterator") (sy:="tuple") hh hT k1 ha r nx P (Walks.tuple hh h1.objs.size a (Nat.ne_of_lt ha) items) (ak r) (fun i d v h Y hx it hv=>gr it hx (Array.getElem?_toList.trans hv)) ⟨⟨_,Heap.get?_push_size _ rfl,rfl,rfl⟩,TupAt.isTup (TupAt.at' l (k2.at a))⟩
  (fun i h st=>⟨let ⟨o,ho,hc,hd⟩:=st.1;⟨o,ho,hc,_,hd⟩,let ⟨o,ho,hc,k,hd⟩:=st.2;⟨o,ho,hc,_,_,hd⟩⟩) (by decide) (by decide) (by decide)
noncomputable def signs (x:Str):List D:=x.cps.toList.map fun c=> .str ⟨#[c]⟩
theorem lh {x:Str} {i:Nat} {d:D} {v:Value} {h:Heap} {Y:Addr→Prop} (hx:(signs x)[i]? = some d) (hv:SignAt x i v):Den h Y d v:=by
 obtain ⟨c,u,hc,e⟩:=hv
 rw [signs,List.getElem?_map,Array.getElem?_toList,hc] at hx
 rw [← sm hx];exact ⟨u,e⟩
theorem eN (x:Str):x.cps.size=(signs x).length:=by rw [signs,List.length_map,Array.length_toList]
theorem oz {x:Str} {t:Tok} (hh:A.handled=none) (hT:TgOk X.c sc' target tg one) (k1:Kp s.heap h1) (P:FeedPost X A s Ex b (signs x) sc' target tg one Q):wpAny (model X.P X.w) A (pyIter (.str x t)) Q E {s with heap:=h1,toks:=tk1}:=by
 have key:=fun ty (W:Walks X.P X.w A h1.objs.size [h1.objs.size] [h1.objs.size] x.cps.size (SignAt x) (fun i h=>h.IsStrIter h1.objs.size ty x t i)) h1y h2y =>
  jo (s:=s) (ty:=ty) (o:={cls:= .type ty,data:= .fields #[.str x t,.int 0 0]}) (tk1:=tk1) hh hT k1 P W (eN x) (fun i d v h Y hx hv=>lh hx hv) ⟨_,Heap.get?_push_size _ rfl,rfl,rfl⟩ (fun i h st=>let ⟨o,ho,hc,hd⟩:=st;⟨o,ho,hc,_,hd⟩) h1y h2y
 cases ha:x.cps.all (· < 128)
 ·exact wpAny_pyIter_wide ha (key "str_iterator" (Walks.strWide hh _ x t) (by decide) (by decide))
 ·exact wpAny_pyIter_ascii ha (key "str_ascii_iterator" (Walks.strAscii hh _ x t) (by decide) (by decide))
theorem jA {ds:List D} {a:Addr} {h:Heap} (hd:DenR h Ex b (.list ds) (.ref a)) (e:b=false):¬ Ex a:=by
 subst e
 obtain ⟨a',items',e,nx,_⟩:=hd
 rw [Value.ref.inj e];exact nx
theorem rj {d:D} {v:Value} (hh:A.handled=none) (hT:TgOk X.c sc' target tg one) (k1:Kp s.heap h1) (hd:DenR h1 Ex b d v) (hi:iterD d=some xs) (P:FeedPost X A s Ex b xs sc' target tg one Q):wpAny (model X.P X.w) A (pyIter v) Q E {s with heap:=h1,toks:=tk1}:=by
 have top:=hd.top
 cases d with
 |list ds =>
  refine gd hi fun _ hi=> ?_
  obtain rfl:=sm hi
  obtain ⟨a,items,rfl,l,r⟩:=top
  exact nQ hh hT k1 l r (jA hd) P
 |tup ds =>
  refine gd hi fun _ hi=> ?_
  obtain rfl:=sm hi
  obtain ⟨a,items,rfl,nx,l,r⟩:=top
  exact o5 hh hT k1 l r (fun _=>nx) P
 |str x =>
  refine gd hi fun _ hi=> ?_
  obtain rfl:=sm hi
  obtain ⟨t,rfl⟩:=top
  exact oz hh hT k1 P
 |_=>exact ah hi
theorem evI_b {G:ag} {F:FEnv} {σ:MEnv} {b:Bool} {it:T}:ev G F σ (b || false) it=ev G F σ b it:=by rw [Bool.or_false]
theorem rk {t:T} {e:Expr} {t2:T} (h:VS X sc t e):FS X sc .plain t t2 e:=fun σ p E b xs sc' target tg one Q hT he hx P =>
 ae (show (ev X.G X.F σ (b || false) t).bind iterD=some xs from hx) fun d hd hx=>h σ p E b d _ (evI_b.symm.trans hd) fun v h1 tk1 k1 d1 _=>rj p.ar.hd hT k1 d1 hx P
theorem eR {m n:Int} {xs:List D} {P:Prop} (h:rngD m n=some xs) (k:idxOk m=true→idxOk n=true→(n - m).toNat≤1048576→xs=rangeD m (n - m).toNat→P):P :=
 gd h fun h e=>aa h fun h h3=>aa h fun h1 h2=>k h3 h2 (aF h1) (sm e).symm
theorem eF {m n:Int} (h1:idxOk m=true) (h2:idxOk n=true):(-(2 ^ 62)≤m∧m<2 ^ 62)∧(-(2 ^ 62)≤n∧n<2 ^ 62)∧n - m<9223372036854775808∧Builtin.Range.rangeSize m n 1=((n - m).toNat:Int):=by
 have h1:m.natAbs<_:=of_decide_eq_true h1
 have h2:n.natAbs<_:=of_decide_eq_true h2
 refine ⟨by omega,by omega,by omega,?_⟩
 rw [rangeSize_one];split<;>omega
theorem qh {k:IK} {ta tb it it2:T} {e:Expr} (h:RgS X sc ta tb e) (hk:∀ σ b xs,evI X.G X.F σ b k it it2=some xs→∃ m n,ev X.G X.F σ true ta=some (.int m)∧ev X.G X.F σ true tb=some (.int n)∧rngD m n=some xs):FS X sc k it it2 e:=fun σ p E b xs sc' target tg one Q hT he hx P=>by
 obtain ⟨m,m',hm,hm',hr⟩:=hk σ b xs hx
 refine eR hr fun i1 i2 _ hxs=> ?_
 obtain ⟨b1,b2,b3,hsz⟩:=eF i1 i2
 refine h σ p E m m' _ hm hm' fun r h' tk t' u v k' hr _=> ?_
 refine wpAny_pyIter_range hr (small_one b1.1 b1.2 b2.1 b2.2) ?_
 rw [hsz]
 refine jo (s:=p.s) (ty:="range_iterator") (tk1:=tk) p.ar.hd hT k' P (Walks.range p.ar.hd h'.objs.size m 1 (m' - m).toNat) (by rw [hxs,bA]) (fun i d v h Y hx hv=> ?_) ?_ (fun i h st=>⟨_,st,rfl,_,rfl⟩) (by decide) (by decide)
 ·obtain ⟨u,e⟩:=hv
  have hi:=(List.getElem?_eq_some_iff.mp hx).1
  rw [hxs,bA] at hi
  rw [hxs,ew _ _ _ hi] at hx
  rw [← sm hx]
  exact ⟨u,by rw [e,Int.mul_one]⟩
 ·have:=Heap.get?_push_size h' (o:={cls:= .type "range_iterator",data:= .fields #[rawInt m,rawInt ((m' - m).toNat:Int),rawInt 1]}) rfl
  simpa using this
theorem eb:bootBuiltins rangeS=some (.type "range"):=by decide +kernel
theorem pJ:bootBuiltins enumS=some (.type "enumerate"):=by decide +kernel
theorem sR:bootBuiltins revS=some (.type "reversed"):=by decide +kernel
theorem ki:bootBuiltins listS=some (.type "list"):=by decide +kernel
theorem dE {α:Type} {f:Int→Option α} {r:α} {o:Option D} {P:Prop} (h:(o.bind fun d=>d.int?.bind f)=some r) (k:∀ i,o=some (.int i)→f i=some r→P):P :=
 ae h fun d hd h=>ae h fun i hi h=>aM (P:=fun d=>o=some d→P) hi (fun hd=>k i hd h) hd
theorem gN {ta:T} {es:List Expr} {np pos:Pos} (B:X.Ok mg mb) (h:AS X sc (.cons ta .nil) es) (hs:isGlob sc rangeS=true):RgS X sc (.cst (.int 0)) ta (.Call (.Name rangeS np) es [] pos):=fun σ p E m m' Q hm hm' P=>by
 obtain rfl:=An (sm hm)
 refine wpAny_Call_ofName (cJ p B hs (by decide) (by decide) eb ?_)
 refine PyProof.Rows.callWith_type (h.1 p.env pos).1 (bp h p (b:=true) (ds:=[.int m']) (ad hm' rfl) fun vs h' tk k' dl=> ?_)
 obtain ⟨v,rfl,t,e⟩:=dl.one
 subst e
 refine call_range_1 ?_
 have k2:=Kp.push h' {cls:= .type "range",data:= .fields #[.int 0 tk,.int m' t,.int 1 (tk+1)]}
 exact P h'.objs.size _ _ _ _ _ (k'.trans k2) (IsRange.new h' 0 m' 1 tk t (tk+1)) (be k')
theorem gu {ta tb:T} {es:List Expr} {np pos:Pos} (B:X.Ok mg mb) (h:AS X sc (.cons ta (.cons tb .nil)) es) (hs:isGlob sc rangeS=true):RgS X sc ta tb (.Call (.Name rangeS np) es [] pos):=fun σ p E m m' Q hm hm' P=>by
 refine wpAny_Call_ofName (cJ p B hs (by decide) (by decide) eb ?_)
 refine PyProof.Rows.callWith_type (h.1 p.env pos).1 (bp h p (b:=true) (ds:=[.int m,.int m']) (ad hm (ad (ad hm' rfl) rfl)) fun vs h' tk k' dl=> ?_)
 obtain ⟨v,u,rfl,⟨t,e⟩,⟨t',e'⟩⟩:=dl.two
 subst e e'
 refine call_range_2 ?_
 have k2:=Kp.push h' {cls:= .type "range",data:= .fields #[.int m t,.int m' t',.int 1 tk]}
 exact P h'.objs.size _ _ _ _ _ (k'.trans k2) (IsRange.new h' m m' 1 t t' tk) (be k')
theorem qw {ta t2:T} {e:Expr} (h:RgS X sc (.cst (.int 0)) ta e):FS X sc .range1 ta t2 e:=qh h fun σ b xs hx=>by
 rw [evI,show (b || isRange .range1)=true from Bool.or_true b] at hx
 exact dE hx fun n hn hx=>⟨0,n,rfl,hn,hx⟩
theorem pb {ta tb:T} {e:Expr} (h:RgS X sc ta tb e):FS X sc .range2 ta tb e:=qh h fun σ b xs hx=>by
 rw [evI,show (b || isRange .range2)=true from Bool.or_true b] at hx
 exact dE hx fun m hm hx=>dE hx fun n hn hx=>⟨m,n,hm,hn,hx⟩
theorem yt {ta t2:T} {es:List Expr} {np pos:Pos} (B:X.Ok mg mb) (h:AS X sc (.cons ta .nil) es) (hs:isGlob sc revS=true):FS X sc .rev ta t2 (.Call (.Name revS np) es [] pos):=fun σ p E b xs sc' target tg one Q hT he hx P=>by
 refine ae (show (ev X.G X.F σ (b || false) ta).bind _=some xs from hx) fun d hd hx=>ae hx fun ds hds hx=>gd hx fun _ hx=> ?_
 obtain rfl:=sm hx
 refine wpAny_Call_ofName (cJ p B hs (by decide) (by decide) sR ?_)
 refine PyProof.Rows.callWith_type (h.1 p.env pos).1 (bp h p (b:=b) (ds:=[d]) (ad (evI_b.symm.trans hd) rfl) fun vs h1 tk k1 dl=> ?_)
 obtain ⟨v,rfl,dv⟩:=dl.one
 revert dv
 refine bE (P:=fun d=>DenR h1 p.Ex b d v→_) hds fun dv=> ?_
 obtain ⟨a,items,rfl,l,r⟩:=dv.top
 refine call_reversed_list (PL.isList l) ?_
 have k2:=Kp.push h1 (revObj a ((items.size:Int) - 1))
 have z:=ak r
 have ha:=PL.lt l
 have hrev:(h1.push (revObj a ((items.size:Int) - 1))).IsRevIter h1.objs.size a ((items.size:Int) - 1):=⟨_,Heap.get?_push_size _ rfl,rfl,rfl⟩
 refine wpAny_pyIter_revIter hrev ?_
 refine fO (s:=p.s) (tk1:=tk) (ty:="list_reverseiterator") (sy:="list") p.ar.hd hT k1 ha r (jA dv) P (Walks.listRev p.ar.hd h1.objs.size a (Nat.ne_of_lt ha) items) (z.trans (List.length_reverse).symm) (fun i d v h Y hx it hv=> ?_) ⟨Nat.zero_le _,by simpa using hrev,PL.isList (PL.at' l (k2.at a))⟩
  (fun i h st=>⟨let ⟨o,ho,hc,hd⟩:=st.2.1;⟨o,ho,hc,_,hd⟩,let ⟨o,ho,hc,k,hd⟩:=st.2.2;⟨o,ho,hc,_,_,hd⟩⟩) (by decide) (by decide) (by decide)
 have hi:=(List.getElem?_eq_some_iff.mp hx).1
 rw [List.length_reverse] at hi
 rw [List.getElem?_reverse hi] at hx
 exact gr it hx (by rw [Array.getElem?_toList,← z];exact hv)
end
end Mine
set_option genSizeOf false
set_option genInjectivity false
namespace Mine
variable [Tabs] [Frk]
open AutoSeq1 (wpAny_loadPart')
section
variable {prog:Program} {w:World} {A:Around} {E:Value→Shared→Prop} {s:Shared}
theorem fF {I t:Addr} {i:Nat} {items:Array Value} {x:Value} {Q:Value→Shared→Prop} (st:s.heap.IsTupleIter I t i) (tt:s.heap.IsTuple t items) (hx:items[i]? = some x)
  (hQ:∀ h',h'.IsTupleIter I t (i+1)→Heap.SameBut I s.heap h'→Q x {s with heap:=h'}):wpAny (model prog w) A (Builtin.SmallTypes.nextOf (.ref I)) Q E s:=by
 have hty:=st.typeIs
 obtain ⟨o,ho,hc,hd⟩:=st
 obtain ⟨ot,hot,_,k,hdt⟩:=tt
 unfold Builtin.SmallTypes.nextOf
 refine wpAny_bind (wpAny_callSpecial?_slot (name:=Str.ofString "__next__") hty F.slot_tuple_iterator_next
  (wpAny_call_entry F.slot_tuple_iterator_next hty F.entry_tuple_iterator_next ?_ (F.args_tuple_iterator_next_1 _)))
 show wpAny _ _ (field (.ref I) 0 >>= _) _ _ s
 refine wpAny_bind (wpAny_field ho hd (x:= .ref t) rfl ?_)
 show wpAny _ _ (if (Value.ref t==Value.none)=true then _ else _) _ _ s
 rw [if_neg (show ¬ ((Value.ref t==Value.none)=true) from Bool.false_ne_true)]
 show wpAny _ _ (field (.ref I) 1 >>= _) _ _ s
 refine wpAny_bind (wpAny_field ho hd (x:= .int i 0) rfl ?_)
 show wpAny _ _ (seqItems? (.ref t) >>= _) _ _ s
 refine wpAny_bind (wpAny_seqItems hot hdt ?_)
 simp only [Int.toNat_natCast,hx]
 refine wpAny_bind (wpAny_setField ho hd (by simp) (wpAny_pure ⟨x,rfl,wpAny_pure (hQ _ ⟨_,Heap.get?_update_self _ ho (Obj.isFreed_of_fields (Obj.data_mapFields hd _)),(Obj.cls_mapFields ..).trans hc,?_⟩ (Heap.SameBut.update ..))⟩))
 rw [Obj.data_mapFields hd];simp [rawInt]
theorem fV {I t:Addr} {i:Nat} {items:Array Value} {Q:Value→Shared→Prop} (hh:A.handled=none) (st:s.heap.IsTupleIter I t i) (tt:s.heap.IsTuple t items) (hx:items[i]? = none)
  (hE:∀ h' e,Heap.ExtBut I s.heap h'→(∃ o,h'.get? e=some o∧o.cls = .type "StopIteration")→E (.ref e) {s with heap:=h'}):wpAny (model prog w) A (Builtin.SmallTypes.nextOf (.ref I)) Q E s:=by
 have hty:=st.typeIs
 obtain ⟨o,ho,hc,hd⟩:=st
 obtain ⟨ot,hot,_,k,hdt⟩:=tt
 unfold Builtin.SmallTypes.nextOf
 refine wpAny_bind (wpAny_callSpecial?_slot (name:=Str.ofString "__next__") hty F.slot_tuple_iterator_next
  (wpAny_call_entry F.slot_tuple_iterator_next hty F.entry_tuple_iterator_next ?_ (F.args_tuple_iterator_next_1 _)))
 show wpAny _ _ (field (.ref I) 0 >>= _) _ _ s
 refine wpAny_bind (wpAny_field ho hd (x:= .ref t) rfl ?_)
 show wpAny _ _ (if (Value.ref t==Value.none)=true then _ else _) _ _ s
 rw [if_neg (show ¬ ((Value.ref t==Value.none)=true) from Bool.false_ne_true)]
 show wpAny _ _ (field (.ref I) 1 >>= _) _ _ s
 refine wpAny_bind (wpAny_field ho hd (x:= .int i 0) rfl ?_)
 show wpAny _ _ (seqItems? (.ref t) >>= _) _ _ s
 refine wpAny_bind (wpAny_seqItems hot hdt ?_)
 simp only [Int.toNat_natCast,hx]
 refine wpAny_bind (wpAny_rule (wpAny_bind (wpAny_setField ho hd (by simp) ?_)))
 show wpAny _ _ (newExc (.type "StopIteration") [] >>= _) _ _ _
 refine wpAny_bind ?_
 simp only [newExc,newTuple]
 refine wpAny_bind (wpAny_newObj_type ?_ (by size_fits))
 refine wpAny_bind (m:=firstArgMember _ _) (wpAny_of_eq (a:=Value.none) (by first |rfl |(simp only [firstArgMember];rfl)) ?_)
 refine wpAny_newObj_type ?_ (by size_fits)
 simp only [raiseNew]
 refine wpAny_bind (wpAny_handled ?_)
 first |rw [show A.in1.handled=none from hh] |rw [hh]
 refine wpAny_bind (wpAny_pure (wpAny_throw ?_))
 exact hE _ _ (((Heap.SameBut.update ..).extBut.push _).push _) ⟨_,Heap.get?_push_size _ rfl,rfl⟩
end
theorem Draws.tuple {prog:Program} {w:World} {A:Around} (hh:A.handled=none) (I t:Addr) (hne:t≠I) (items:Array Value) :
  Draws prog w A I [I,t] items.size (fun i v=>items[i]? = some v) (fun i h=>h.IsTupleIter I t i∧h.IsTuple t items) where
 live:=fun _ _ st=>let ⟨o,ho,_⟩:=st.1;⟨o,ho⟩
 frame:=fun _ _ _ st hk=>⟨let ⟨o,ho,r⟩:=st.1;⟨o,hk I (by simp) o ho,r⟩,st.2.at fun o e=>hk t (by simp) o e⟩
 item:=fun i s Q E hi st hQ=>by
  refine fF st.1 st.2 (x:=items[i]) (by simp [hi]) fun h' st' sb=> ?_
  exact hQ _ h' s.toks (by simp [hi]) ⟨st',st.2.extBut sb.extBut hne⟩ sb
 done:=fun s Q E st hE=>fV hh st.1 st.2 (by simp) hE
set_option maxRecDepth 100000 in
set_option maxHeartbeats 1000000 in
theorem gb (t:Addr) (items:Array Value) (n:Nat) :
  Meets (Builtin.«enumerate.__new__» ⟨[.type "enumerate",.ref t],[]⟩) (fun _ R s=>s.heap.get? t=some {cls:= .type "tuple",data:= .seq items n} ∧
   R (.ok (.ret (.ref (s.heap.push {cls:= .type "tuple_iterator",data:= .fields #[.ref t,.int 0 0]}).objs.size)))
    {s with heap:=(s.heap.push {cls:= .type "tuple_iterator",data:= .fields #[.ref t,.int 0 0]}).push {cls:= .type "enumerate",data:= .fields #[.none,.bool false,.ref s.heap.objs.size,rawInt 0,.none,.none]}}) :=
 .of_wp fun prog w A R s h=>by
  obtain ⟨hp,g,d,tk,os⟩:=s;obtain ⟨hl,h⟩:=h
  have hsub:=sub_enumerate
  have hL:Heap.IsTuple (Shared.heap ⟨hp,g,d,tk,os⟩) t items:=⟨_,hl,rfl,n,rfl⟩
  wp_walk using wpAny_loadPart' hl
  refine wpAny_stack_any fun st=>wpAny_pure ?_
  split
  ·rename_i c _ _ _ _ _
   cases (c==Value.type "enumerate")
   ·wp_walk using wpAny_loadPart' hl,wpAny_pyIter_tuple hL
    exact ⟨_,rfl,h⟩
   ·wp_walk using wpAny_loadPart' hl,wpAny_pyIter_tuple hL
    exact ⟨_,rfl,h⟩
  ·wp_walk using wpAny_loadPart' hl,wpAny_pyIter_tuple hL
   exact ⟨_,rfl,h⟩
section
variable {prog:Program} {w:World} {A:Around} {E:Value→Shared→Prop} {s:Shared}
theorem gK {t:Addr} {items:Array Value} {Q:Value→Shared→Prop} (hL:TupAt s.heap t items)
  (h:∀ h',IsEnum h' (s.heap.objs.size+1) s.heap.objs.size 0 .none→h'.IsTupleIter s.heap.objs.size t 0→h'.objs.size=s.heap.objs.size+2→Kp s.heap h'→Q (.ref (s.heap.objs.size+1)) {s with heap:=h'}) :
  wpAny (model prog w) A (call (.type "enumerate") [.ref t]) Q E s:=by
 obtain ⟨n,hl⟩:=hL
 refine callType_new F.called_enumerate (by decide) (F.typeCall_enumerate_1 _) (F.newCall_enumerate_1 _) (fun obj=>F.args_object_init_2 obj _) F.entry_enumerate_new (gb t items n) ⟨hl,?_⟩
 have z:(s.heap.push {cls:= .type "tuple_iterator",data:= .fields #[.ref t,.int 0 0]}).objs.size=s.heap.objs.size+1:=Heap.size_push ..
 show _∧_
 rw [z]
 have he:=Heap.get?_push_size (s.heap.push {cls:= .type "tuple_iterator",data:= .fields #[.ref t,.int 0 0]}) (o:={cls:= .type "enumerate",data:= .fields #[.none,.bool false,.ref s.heap.objs.size,rawInt 0,.none,.none]}) rfl
 rw [z] at he
 refine ⟨⟨_,he,rfl⟩,h _ he ⟨_,Heap.get?_push_of_some _ (Heap.get?_push_size _ rfl),rfl,rfl⟩ (by rw [Heap.size_push,z]) (.of fun b o x=>Heap.get?_push_of_some _ (Heap.get?_push_of_some _ x))⟩
end
theorem i5:∀ {ys:List D} {k i:Nat} {d:D},(enumD k ys)[i]? = some d→∃ y,ys[i]? = some y∧d = .tup [.int ((k+i:Nat):Int),y]
 |y :: ys,k,0,d,h=>⟨y,rfl,(sm h).symm⟩
 |y :: ys,k,i+1,d,h=>by
  obtain ⟨y',h1,h2⟩:=i5 (ys:=ys) (k:=k+1) h
  exact ⟨y',h1,by rw [h2,Nat.succ_add_eq_add_succ]⟩
theorem eZ:∀ (ys:List D) (k:Nat),(enumD k ys).length=ys.length
 | [],_=>rfl
 |y :: ys,k=>congrArg (· + 1) (eZ ys _)
section
variable {prog:Program} {w:World} {A:Around} {c:Cx} {sc:Scope} {target:Expr} {tg:List Nat}
theorem Turns.enum {e it:Addr} {fp:List Addr} {ys:List D} {n:Nat} {P:Nat→Value→Prop} {St:Nat→Heap→Prop} {It:Heap→(Addr→Prop)→Prop} (hh:A.handled=none) (hT:TgOk c sc target tg false)
  (Dr:Draws prog w A.in1 it fp n P St) (hei:e≠it) (hef:e∉fp) (hif:it∈fp) (hn:n=ys.length)
  (kinds:∀ i h b,St i h→b∈fp→Knd h b (b≠it))
  (items:∀ h h' X X',It h X→(∀ b o,¬ X b→NT b o→h.get? b=some o→h'.get? b=some o)→(∀ b,Al h b→¬ X b→¬ X' b)→It h' X')
  (itd:∀ i d h X v,ys[i]? = some d→It h X→P i v→Den h X d v) :
  Turns prog w A c sc target tg false e (enumD 0 ys) (· ∈ e :: fp) (· ∈ [e,it]) It (fun i h=>(∃ old,IsEnum h e it (i:Int) old)∧St i h):=by
 have W:=WalksT.enumerateD Dr e hei hef hif
 have kk:∀ (i:Nat) h b,((∃ old,IsEnum h e it (i:Int) old)∧St i h)→b∈e :: fp→Knd h b (¬ b∈[e,it]):=by
  rintro i h b ⟨⟨old,he⟩,st⟩ hb
  by_cases hbe:b=e
  ·rw [hbe];exact ⟨_,he,⟨_,rfl,by decide⟩,.inl ⟨_,rfl⟩⟩
  ·obtain ⟨o,ho,hT',hf⟩:=kinds i h b st ((List.mem_cons.mp hb).resolve_left hbe)
   exact ⟨o,ho,hT',hf.imp id fun q=>⟨fun m=>(List.mem_cons.mp m).elim hbe fun m=>q.1 (List.mem_singleton.mp m),q.2⟩⟩
 refine ⟨fun i h h' st hk=>W.frame i h h' st fun b hb o e=>hk b o hb e,kk,fun b hb=>W.sub b hb,items,?_,fun s Q E st h=> ?_,fun i s Q E st h=>W.self i s Q E st h⟩
 ·intro i d s env Ex ow σ σ' Q E E' hsc hx st hit hwx R hb h
  obtain ⟨y,hy,rfl⟩:=i5 hx
  have hi:i<n:=by rw [hn];exact (List.getElem?_eq_some_iff.mp hy).1
  refine W.item i s _ E hi st fun T vals h1 tk1 hP hsz hT1 hM hk1=>⟨_,rfl,?_⟩
  obtain ⟨t,x,hPx,rfl⟩:=hP
  obtain ⟨_,es,k,p,rfl,ht⟩:=hT.resolve_left fun q=>nomatch q.1
  refine W.go es k p i T {s with heap:=h1,toks:=tk1} _ _ hM fun h2 lZ hk2=> ?_
  have kn:=fun b hb=>kk _ _ b st (W.sub b hb)
  have kw:∀ b o,¬ b∈[e,it]→s.heap.get? b=some o→h2.get? b=some o:=fun b o nb q=>hk2 b o nb (hk1 b o nb q)
  have R2:RR env c.tbl Ex ow σ h2:=R.mutl (Wr:=(· ∈ [e,it])) kw hwx (fun b hb=>Knd.fld (kn b hb) fun q=>q hb) fun b hb=>let ⟨o,ho,_⟩:=kk _ _ b lZ (W.sub b hb);⟨o,ho⟩
  have it2:It h2 Ex:=items _ _ _ _ hit (fun b o n _ e=>kw b o (fun q=>n (hwx b q)) e) (fun _ _ n=>n)
  have tup2:h2.IsTuple T #[.int i t,x]:=hT1.at fun o e=>hk2 T o (W.apart i T h1 hM) e
  refine cP (s:={s with heap:=h2,toks:=tk1}) hh hsc ht R2 tup2 (ds:=[.int ((0+i:Nat):Int),y]) ⟨_,_,rfl,⟨t,by rw [Nat.zero_add]⟩,_,_,rfl,itd i y h2 Ex x hy it2 hPx,rfl⟩ hb fun h3 tk3 R3 kf=> ?_
  refine h h3 tk3 (W.frame _ _ _ lZ fun b hb o e=> ?_) (items _ _ _ _ it2 (kf.notex R2.own) (fun _ _ n=>n)) R3 (fun b o n1 n2 n3 e=>kf.kp b o n2 n3 (kw b o n1 e)) ((nU kn kw).trans kf.cd)
  obtain ⟨o',ho',hf⟩:=Knd.or (kk _ _ b lZ hb)
  obtain ⟨f1,f2⟩:=R2.frame ho' hf
  exact (kf.kp b o f1 (fun n _=>f2 n) e).ob (Knd.notab (kk _ _ b lZ hb) e)
 ·rw [eZ,← hn] at st
  exact W.done s _ E st fun h' tk hk=>⟨rfl,h h' tk hk⟩
end
section
variable {X:Wd} {sc:Scope} {mg mb:Str→Option Value} {A:Around} {E:Value→Shared→Prop} {s:Shared} {Ex:Addr→Prop} {b:Bool} {ys:List D} {sc':Scope} {target:Expr} {tg:List Nat} {Q:Value→Shared→Prop} {h1 h2:Heap} {tk1:Nat}
theorem gY (k1:Kp s.heap h1):∀ b,b∈[h1.objs.size+1,h1.objs.size]→s.heap.get? b=none∧h1.get? b=none:=fun b hb=>by
 rcases List.mem_cons.mp hb with rfl |hb
 ·exact nB k1
 ·rw [List.mem_singleton.mp hb];exact ⟨be k1,az _⟩
theorem jE {a:Addr} {items:Array Value} {ty sy:String} {St:Nat→Heap→Prop} (hh:A.handled=none) (hT:TgOk X.c sc' target tg false) (k1:Kp s.heap h1) (ha:a<h1.objs.size) (r:DenL h1 Ex ys items.toList) (nx:b=false→¬ Ex a)
  (P:FeedPost X A s Ex b (enumD 0 ys) sc' target tg false Q) (k2:Kp h1 h2) (he2:IsEnum h2 (h1.objs.size+1) h1.objs.size 0 .none) (Dr:Draws X.P X.w A.in1 h1.objs.size [h1.objs.size,a] items.size (fun i v=>items[i]? = some v) St) (st0:St 0 h2)
  (kn:∀ i h,St i h→Itr h h1.objs.size ty∧Sqn h a sy) (h2y:ty≠"code") (h3y:sy≠"code"):wpAny (model X.P X.w) A (pyIter (.ref (h1.objs.size+1))) Q E {s with heap:=h2,toks:=tk1}:=by
 have hna:h1.objs.size+1≠a:=fun e=>absurd (e▸ha) (Nat.not_lt.mpr (Nat.le_succ _))
 refine wpAny_pyIter_enum he2 ?_
 refine P (h1.objs.size+1) _ _ (fun h X=>DenL h X ys items.toList) _ h2 tk1
  (Turns.enum hh hT Dr (Nat.succ_ne_self _) (fun m=>(List.mem_cons.mp m).elim (Nat.succ_ne_self _) fun m=>hna (List.mem_singleton.mp m)) List.mem_cons_self (ak r) (fun i h b st hb=> ?_) (fun h h' X X' x e1 e2=>DenL.mono e1 e2 _ _ x) (fun i d h X v hx it hv=>gr it hx (Array.getElem?_toList.trans hv))) ⟨⟨_,he2⟩,st0⟩ (r.grow k2 fun b hb=>(gY k1 b hb).2) (k1.trans k2) (fun b hb=>(gY k1 b hb).1) fun b' hb=> ?_
 ·rcases List.mem_cons.mp hb with rfl |hb
  ·exact (kn i h st).1.knd h2y
  ·rw [List.mem_singleton.mp hb]
   exact (kn i h st).2.knd h3y (Nat.ne_of_lt ha)
 ·rcases List.mem_cons.mp hb with rfl |hb
  ·exact .inl List.mem_cons_self
  ·rcases List.mem_cons.mp hb with rfl |hb
   ·exact .inl (List.mem_cons_of_mem _ List.mem_cons_self)
   ·rw [List.mem_singleton.mp hb];exact .inr nx
theorem w9 {ta t2:T} {es:List Expr} {np pos:Pos} (B:X.Ok mg mb) (h:AS X sc (.cons ta .nil) es) (hs:isGlob sc enumS=true):FS X sc .enum ta t2 (.Call (.Name enumS np) es [] pos):=fun σ p E b xs sc' target tg one Q hT he hx P=>by
 cases one with
 |true=>exact nomatch he
 |false =>
 refine ae (show (ev X.G X.F σ (b || false) ta).bind _=some xs from hx) fun d hd hx=>ax hx fun ys hys e0=> ?_
 subst e0
 refine wpAny_Call_ofName (cJ p B hs (by decide) (by decide) pJ ?_)
 refine PyProof.Rows.callWith_type (h.1 p.env pos).1 (bp h p (b:=b) (ds:=[d]) (ad (evI_b.symm.trans hd) rfl) fun vs h1 tk k1 dl=> ?_)
 obtain ⟨v,rfl,dv⟩:=dl.one
 have top:=dv.top
 cases d with
 |list ds =>
  refine gd hys fun _ hys=> ?_
  obtain rfl:=sm hys
  obtain ⟨a,items,rfl,l,r⟩:=top
  refine call_enumerate_list (PL.isList l) fun h2 he2 hit2 hz2 k2=> ?_
  have ha:=PL.lt l
  have k2:Kp h1 h2:= .of k2
  exact jE (s:=p.s) (ty:="list_iterator") (sy:="list") p.ar.hd hT k1 ha r (jA dv) P k2 he2 (Draws.list (A:=p.A.in1) p.ar.hd h1.objs.size a (Nat.ne_of_lt ha) items) ⟨hit2,PL.isList (PL.at' l (k2.at a))⟩
   (fun i h st=>⟨let ⟨o,ho,hc,hd⟩:=st.1;⟨o,ho,hc,_,hd⟩,let ⟨o,ho,hc,k,hd⟩:=st.2;⟨o,ho,hc,_,_,hd⟩⟩) (by decide) (by decide)
 |tup ds =>
  refine gd hys fun _ hys=> ?_
  obtain rfl:=sm hys
  obtain ⟨a,items,rfl,nx,l,r⟩:=top
  refine gK l fun h2 he2 hit2 hz2 k2=> ?_
  have ha:=TupAt.lt l
  exact jE (s:=p.s) (ty:="tuple_iterator") (sy:="tuple") p.ar.hd hT k1 ha r (fun _=>nx) P k2 he2 (Draws.tuple (A:=p.A.in1) p.ar.hd h1.objs.size a (Nat.ne_of_lt ha) items) ⟨hit2,TupAt.isTup (TupAt.at' l (Kp.at k2 a))⟩
   (fun i h st=>⟨let ⟨o,ho,hc,hd⟩:=st.1;⟨o,ho,hc,_,hd⟩,let ⟨o,ho,hc,k,hd⟩:=st.2;⟨o,ho,hc,_,_,hd⟩⟩) (by decide) (by decide)
 |str x =>
  refine gd hys fun _ hys=> ?_
  obtain rfl:=sm hys
  obtain ⟨t,rfl⟩:=top
  refine call_enumerate_str fun h2 he2 hit2 hz2 k2=> ?_
  have k2:Kp h1 h2:= .of k2
  refine wpAny_pyIter_enum he2 ?_
  have key:=fun ty (hty:ty≠"code") (Dr:Draws X.P X.w p.A.in1 h1.objs.size [h1.objs.size] x.cps.size (SignAt x) (fun i h=>h.IsStrIter h1.objs.size ty x t i)) (st0:h2.IsStrIter h1.objs.size ty x t 0) =>
   P (h1.objs.size+1) _ _ (fun _ _=>True) _ h2 tk
    (Turns.enum p.ar.hd hT Dr (Nat.succ_ne_self _) (fun m=>Nat.succ_ne_self _ (List.mem_singleton.mp m)) List.mem_cons_self (eN x) (fun i h b st hb=>by rw [List.mem_singleton.mp hb];exact (show Itr h h1.objs.size ty from let ⟨o,ho,hc,hd⟩:=st;⟨o,ho,hc,_,hd⟩).knd hty) (fun _ _ _ _ _ _ _=>trivial) (fun i d h X v hx _ hv=>lh hx hv)) ⟨⟨_,he2⟩,st0⟩ trivial (k1.trans k2) (fun b hb=>(gY k1 b hb).1) (fun b hb=> .inl hb)
  cases hq:x.cps.all (· < 128)
  ·exact key "str_iterator" (by decide) (Draws.strWide (A:=p.A.in1) p.ar.hd _ x t) (by simpa [strIterType,hq] using hit2)
  ·exact key "str_ascii_iterator" (by decide) (Draws.strAscii (A:=p.A.in1) p.ar.hd _ x t) (by simpa [strIterType,hq] using hit2)
 |_=>exact ah hys
end
end Mine
set_option genSizeOf false
set_option genInjectivity false
namespace Mine
variable [Tabs] [Frk]
noncomputable abbrev tests (ifs:List Expr) (env:Env):Sem Bool:=forIn ifs true fun c r=>if r=true then do let ok ← isTrue c env (eval c env);pure (ForInStep.yield ok) else pure (ForInStep.yield r)
noncomputable def CondS (X:Wd) (sc:Scope) (t:T) (ifs:List Expr):Prop:=∀ (σ:MEnv) (p:At X sc σ) (E:Value→Shared→Prop) (d:D) (r:Bool) (Q:Bool→Shared→Prop),ev X.G X.F σ true t=some d→truthy d=some r →
 (∀ h' tk,Kp p.s.heap h'→Q r {p.s with heap:=h',toks:=tk})→wpAny (model X.P X.w) p.A (tests ifs p.env) Q E p.s
theorem gM {f:D→Option (Option D)}:∀ {xs all:List D},compL f xs=some all→∀ {i:Nat} {d:D},xs[i]? = some d→∀ {outs:List D},compL f (xs.take i)=some outs→∃ r,f d=some r∧compL f (xs.take (i+1))=some (outs++r.toList)
 |x :: xs,all,h,0,d,hi,outs,ho=>ae h fun r h1 h2=>by
  obtain rfl:=sm hi
  obtain rfl:=sm ho
  exact ⟨r,h1,ad h1 (by cases r<;>rfl)⟩
 |x :: xs,all,h,i+1,d,hi,outs,ho=>ae h fun r h1 h2=>ax h2 fun ys h2 _=>by
  refine ae ho fun r' h1' ho=>ax ho fun o hq e=> ?_
  obtain rfl:=sm (h1.symm.trans h1')
  obtain ⟨q,e1,e2⟩:=gM h2 (i:=i) hi hq
  refine ⟨q,e1,ad h1 (aJ e2 ?_)⟩
  rw [← e]
  cases r<;>rfl
section
variable {prog:Program} {w:World} {A:Around} {R:Result→Shared→Prop} {s:Shared}
theorem qN {elt target iter:Expr} {ifs:List Expr} {scope:Scope} {pos:Pos} {it acc:Value} {env:Env} (I:Nat→Shared→Prop)
  (turn:∀ n s,I n s→wpAny (model prog w) A (pyNext it) (fun r s₁=>(r=none∧R (.ok .next) s₁)∨∃ v,r=some v∧wpAny (model prog w) A (letOwnedTupleGo target it v) (fun _ s₁' =>
    wpAny (model prog w) A (assign target env v) (fun _ s₂ =>
     wpAny (model prog w) A (tests ifs env) (fun ok s₃ =>
      if ok=true then wpAny (model prog w) A (eval elt env) (fun x s₄ =>
       wpAny (model prog w) A (call (.builtin "list.append") [acc,x]) (fun _ s₅=>∃ m,m<n∧I m s₅) (notedBy (model prog w) A env fun e s'=>R (.error e) s') s₄) (notedBy (model prog w) A env fun e s'=>R (.error e) s') s₃
      else ∃ m,m<n∧I m s₃) (notedBy (model prog w) A env fun e s'=>R (.error e) s') s₂) (notedBy (model prog w) A env fun e s'=>R (.error e) s') s₁') (notedBy (model prog w) A env fun e s'=>R (.error e) s') s₁) (notedBy (model prog w) A env fun e s'=>R (.error e) s') s)
  (n:Nat) (h:I n s):codeAny (model prog w) A (.compLoop (.ListComp elt [⟨target,iter,ifs,0⟩] scope pos) 0 it acc env) R s:=by
 refine codeAny_loop rfl I (fun n s hI=> ?_) n h
 show wpAny _ A ((compTurn (.ListComp elt [⟨target,iter,ifs,0⟩] scope pos) 0 it acc env).onRaise (fun x=>do noteFrame x env;theTreesLotGoes x)) _ _ s
 refine wpAny_noted ?_
 rw [compTurn_list]
 refine wpAny_bind (wpAny_standAt (wpAny_bind (wpAny_mono (turn n s hI) (fun r s₁ h₁=> ?_) fun _ _ h'=>h')))
 rcases h₁ with ⟨rfl,h₁⟩ |⟨v,rfl,h₁⟩
 ·exact wpAny_pure h₁
 ·refine wpAny_bind (wpAny_mono h₁ (fun _ s₁' h₁'=> ?_) fun _ _ h'=>h')
  refine wpAny_bind (wpAny_mono h₁' (fun _ s₂ h₂=>wpAny_bind (wpAny_mono h₂ (fun ok s₃ h₃=> ?_) fun _ _ h'=>h')) fun _ _ h'=>h')
  cases ok with
  |false=>exact wpAny_pure ⟨rfl,h₃⟩
  |true =>
   exact wpAny_bind (wpAny_bind (wpAny_mono h₃ (fun x s₄ h₄=>wpAny_bind (wpAny_mono h₄ (fun _ s₅ h₅=>wpAny_pure (wpAny_pure ⟨rfl,h₅⟩)) fun _ _ h'=>h')) fun _ _ h'=>h'))
end
theorem m4 {c:Cx} {sc':Scope} {target:Expr} {tg:List Nat} {one:Bool} {σ σ':MEnv} {d:D} (nd:c.tbl.Nodup) (hT:TgOk c sc' target tg one) (hb:bindT (clearE σ (locsOf c sc')) tg one d=some σ') :
  ∀ j e,getE (clearE σ (locsOf c sc')) j=some e→getE σ' j=some e:=by
 have locs:∀ x i,storable sc' x=true→c.tbl[i]? = some x→i∈locsOf c sc':=fun x i hs hi=>fZ (fL nd hi) ((bN hs).imp mem_of_lookup mem_of_lookup)
 have one_step:∀ (ρ:MEnv) i d',i∈locsOf c sc'→(∀ j e,getE (clearE σ (locsOf c sc')) j=some e→getE ρ j=some e)→∀ j e,getE (clearE σ (locsOf c sc')) j=some e→getE (setE ρ i d' false) j=some e:=by
  intro ρ i d' hi hρ j e hj
  have hn:=(cD hj).1
  unfold setE
  rw [gg,if_neg (fun (q:i=j∧i<ρ.length)=>hn (q.1▸hi))]
  exact hρ j e hj
 rcases hT with ⟨rfl,x,p,i,rfl,rfl,hs,hi⟩ |⟨rfl,es,k,p,rfl,ht⟩
 ·obtain rfl:=sm hb
  exact one_step _ i d (locs x i hs hi) fun _ _ e=>e
 ·refine ae hb fun ds _ hb=> ?_
  have go:∀ (es:List Expr) (is:List Nat),Tgs c sc' es is→∀ (ds:List D) (ρ:MEnv),setAll ρ is ds=some σ'→(∀ j e,getE (clearE σ (locsOf c sc')) j=some e→getE ρ j=some e)→∀ j e,getE (clearE σ (locsOf c sc')) j=some e→getE σ' j=some e:=by
   intro es is ht
   induction ht with
   |nil =>
    intro ds ρ hs hρ
    cases ds with
    |nil=>exact sm hs▸hρ
    |cons _ _=>exact ah hs
   |cons h1 h2 _ ih =>
    intro ds ρ hs hρ
    cases ds with
    |nil=>exact ah hs
    |cons d ds=>exact ih ds _ hs (one_step ρ _ d (locs _ _ h1 h2) hρ)
  exact go es tg ht ds _ hb fun _ _ e=>e
theorem gz {d:D} {xs:List D} (h:iterD d=some xs):xs.length≤1048576:=by
 cases d with
 |list _=>exact gd h fun hs e=>sm e▸aF hs
 |tup _=>exact gd h fun hs e=>sm e▸aF hs
 |str x=>exact gd h fun hs e=>sm e▸eN x▸aF hs
 |_=>exact ah h
theorem m8 {k:IK} {a b:Option D} {xs:List D} (h:feedD k a b=some xs):xs.length≤1048576:=by
 have rg:∀ {m n},rngD m n=some xs→xs.length≤1048576:=fun h=>eR h fun _ _ h e=>by rw [e,bA];exact h
 cases k with
 |plain=>exact ae h fun _ _ h=>gz h
 |range1=>exact ae h fun _ _ h=>ae h fun _ _ h=>rg h
 |range2=>exact ae h fun _ _ h=>ae h fun _ _ h=>ae h fun _ _ h=>ae h fun _ _ h=>rg h
 |enum=>exact ae h fun _ _ h=>ax h fun ys hy e=>by rw [← e,eZ];exact gz hy
 |rev=>exact ae h fun _ _ h=>ae h fun ys _ h=>gd h fun hs e=>by rw [← sm e,List.length_reverse];exact aF hs
noncomputable def CompP (X:Wd) (A:Around) (E:Value→Shared→Prop) (s:Shared) (Ex:Addr→Prop) (use:Option (Value→Sem Unit)) (d:D) (Q:Value→Shared→Prop):Prop :=
 ∀ D C h5 tk5 m ys all,d = .list all→s.heap.get? D=none→s.heap.get? C=none→D≠C→Kp s.heap h5→h5.PlainList D ys→DenL h5 (fun b=>(Ex b∨b=C)∨b=D) all ys.toList→h5.Ns C m →
  compPost (model X.P X.w) A E use Q (.ref D) C (.ok .next) {s with heap:=h5,toks:=tk5}
structure Kc (X:Wd) (sc':Scope) where
 A:Around
 s:Shared
 target:Expr
 tg:List Nat
 one:Bool
 I:Addr
 xs:List D
 Fp:Addr→Prop
 Wr:Addr→Prop
 It:Heap→(Addr→Prop)→Prop
 St:Nat→Heap→Prop
 tn:Turns X.P X.w A X.c sc' target tg one I xs Fp Wr It St
 env:Env
 Ex:Addr→Prop
 ow:Nat→Addr
 σ:MEnv
 hT:TgOk X.c sc' target tg one
 hsc:ScEq env sc'
 k:KB X.hB s.heap
 ar:Ar X.n A
 L:Addr
 lt:L<env.locals
 exW:∀ b,Wr b→Ex b
 exD:Ex L
 wnew:∀ b,Wr b→s.heap.get? b=none
 newD:s.heap.get? L=none
 newC:∀ a,env.locals≤a→s.heap.get? a=none
 st:∀ n a,storable sc' n=true→env.cells.lookup n=some a→env.locals≤a
 fpD:¬ Fp L
 how:∀ i x d,X.c.tbl[i]? = some x→seen env.scope x=true→getE (clearE σ (locsOf X.c sc')) i=some (d,true)→ow i≠L
 small:xs.length≤1048576
structure Kc.Inv {X:Wd} {sc':Scope} (K:Kc X sc') (i:Nat) (H:Heap) (outs:List D) (ys:Array Value):Prop where
 st:K.St i H
 it:K.It H K.Ex
 R:RR K.env X.c.tbl K.Ex K.ow (clearE K.σ (locsOf X.c sc')) H
 pl:H.PlainList K.L ys
 den:DenL H K.Ex outs ys.toList
 ks:Kp K.s.heap H
 sz:ys.size≤i
section
variable {X:Wd} {sc sc':Scope}
noncomputable def drawE (X:Wd) (ρ:MEnv) (tg:List Nat) (one:Bool) (elt cond:T) (d:D):Option (Option D) :=
 (bindT ρ tg one d).bind fun σ'=>(ev X.G X.F σ' true cond).bind fun x=>(truthy x).bind fun r=>_root_.cond r ((ev X.G X.F σ' false elt).map some) (some none)
theorem Kc.keep {K:Kc X sc'} {i:Nat} {H H':Heap} {outs:List D} {ys:Array Value} (v:K.Inv i H outs ys) (k:Kp H H'):K.Inv i H' outs ys :=
 ⟨K.tn.frameK v.st fun b o _ t e=>k.ob e t,K.tn.items _ _ _ _ v.it (fun b o _ t e=>k.ob e t) (fun _ _ n=>n),v.R.keep k,PL.at' v.pl (k.at _),v.den.keep k,v.ks.trans k,v.sz⟩
theorem Kc.app {K:Kc X sc'} {i:Nat} {H H':Heap} {outs:List D} {ys:Array Value} {y:D} {v:Value} (iv:K.Inv (i+1) H outs ys) (sz:ys.size≤i) (hy:Den H K.Ex y v) (pl:H'.PlainList K.L (ys.push v)) (sb:Heap.SameBut K.L H H'):K.Inv (i+1) H' (outs++[y]) (ys.push v):=by
 have kx:∀ b o,¬ K.Ex b→NT b o→H.get? b=some o→H'.get? b=some o:=fun b o n _ e=>sb.extBut b o (fun q=>n (q▸K.exD)) e
 refine ⟨K.tn.frameK iv.st fun b o hb t e=>sb.extBut b o (fun q=>K.fpD (q▸hb)) e,K.tn.items _ _ _ _ iv.it kx (fun _ _ n=>n),iv.R.other sb K.exD (let ⟨_,l⟩:=iv.pl;⟨_,l,_,_,rfl⟩) (PL.al pl) K.how,pl,?_,iv.ks.sb K.newD (fun b o n e=>sb.extBut b o n e) (PL.nofields iv.pl),by rw [Array.size_push];exact Nat.succ_le_succ sz⟩
 rw [Array.toList_push]
 exact (DenL.mono kx (fun _ _ n=>n) _ _ iv.den).append (.single (Den.mono kx (fun _ _ n=>n) _ _ hy))
theorem Kc.turn (K:Kc X sc') {elt cond:T} {eltE:Expr} {ifs:List Expr} {i:Nat} {H:Heap} {tk:Nat} {outs:List D} {ys:Array Value} {d:D} {r:Option D} {Q:Shared→Prop} {E0 E:Value→Shared→Prop} (helt:VS X sc' elt eltE) (hcond:CondS X sc' cond ifs) (v:K.Inv i H outs ys) (hx:K.xs[i]? = some d)
  (hf:drawE X (clearE K.σ (locsOf X.c sc')) K.tg K.one elt cond d=some r) (P:∀ H' tk' ys',K.Inv (i+1) H' (outs++r.toList) ys'→Q {K.s with heap:=H',toks:=tk'}) :
  wpAny (model X.P X.w) K.A (pyNext (.ref K.I)) (fun r s₁=>∃ v,r=some v∧wpAny (model X.P X.w) K.A (letOwnedTupleGo K.target (.ref K.I) v) (fun _ s₂=>wpAny (model X.P X.w) K.A (assign K.target K.env v) (fun _ s₂ =>
   wpAny (model X.P X.w) K.A (tests ifs K.env) (fun ok s₃=>if ok=true then wpAny (model X.P X.w) K.A (eval eltE K.env) (fun x s₄=>wpAny (model X.P X.w) K.A (call (.builtin "list.append") [.ref K.L,x]) (fun _ s₅=>Q s₅) E s₄) E s₃ else Q s₃) E s₂) E s₂) E s₁) E0 {K.s with heap:=H,toks:=tk}:=by
 refine ae hf fun σ' hb hf=>ae hf fun cv hc hf=>ae hf fun tv ht hf=> ?_
 refine K.tn.next i d {K.s with heap:=H,toks:=tk} K.env K.Ex K.ow (clearE K.σ (locsOf X.c sc')) σ' _ _ E K.hsc hx v.st v.it K.exW v.R hb fun h5 tk5 st5 it5 R5 kp5 cd5=> ?_
 have keep5:∀ b o,(b≠K.L→¬ K.Wr b)→(¬ K.env.locals≤b)→H.get? b=some o→b≠K.L∨¬ K.Wr b→Gw h5 b o:=fun b o n1 n2 e n3=>kp5 b o (fun q=>by
  rcases n3 with n3 |n3
  ·exact n1 n3 q
  ·exact n3 q) (fun q=>n2 (Nat.le_of_eq q.symm)) (fun n' hn' q=>n2 (K.st n' b hn' q)) e
 have nWD:¬ K.Wr K.L:=fun q=>K.fpD (K.tn.sub _ q)
 have plD:h5.PlainList K.L ys:=let ⟨n0,l⟩:=v.pl;⟨n0,(keep5 _ _ (fun q=>absurd rfl q) (Nat.not_le.mpr K.lt) l (.inr nWD)).ob (.inl rfl)⟩
 have kx5:=fun b o (n:¬ K.Ex b) (t:NT b o) (e:H.get? b=some o)=>(kp5 b o (fun q=>n (K.exW b q)) (fun q=>n (q▸v.R.own.1)) (fun n' _ q=>n (v.R.own.2 n' b q)) e).ob t
 have ks5:Kp K.s.heap h5:=fun b o e=>(v.ks b o e).then (fun o2 e2=>kp5 b o2 (fun q=>nomatch (K.wnew b q).symm.trans e) (fun q=>nomatch (K.newC b (Nat.le_of_eq q.symm)).symm.trans e) (fun n' hn' q=>nomatch (K.newC b (K.st n' b hn' q)).symm.trans e) e2) cd5
 have v5:K.Inv (i+1) h5 outs ys:=⟨st5,it5,R5.weaken (m4 R5.nd K.hT hb),plD,DenL.mono kx5 (fun _ _ n=>n) _ _ v.den,ks5,Nat.le_succ_of_le v.sz⟩
 let p5:At X sc' σ':={A:=K.A,s:={K.s with heap:=h5,toks:=tk5},env:=K.env,Ex:=K.Ex,ow:=K.ow,hsc:=K.hsc,R:=R5,k:=K.k.trans ks5,ar:=K.ar}
 refine hcond σ' p5 _ cv tv _ hc ht fun h6 tk6 k6=> ?_
 cases tv with
 |false =>
  rw [if_neg (by decide)]
  obtain rfl:=sm hf
  exact P h6 tk6 ys (by rw [Option.toList_none,List.append_nil];exact Kc.keep v5 k6)
 |true =>
  rw [if_pos rfl]
  refine ax hf fun y hy e=> ?_
  subst e
  refine helt σ' (p5.to k6 tk6) _ false y _ hy fun v7 h7 tk7 k7 d7 _=> ?_
  have v57:=Kc.keep v5 (Kp.trans k6 k7)
  exact wpAny_list_append_plain (s:={K.s with heap:=h7,toks:=tk7}) (hsz:=bP (Nat.le_trans (Nat.le_succ_of_le v.sz) (Nat.le_trans (List.getElem?_eq_some_iff.mp hx).1 K.small))) v57.pl fun h8 pl8 sb8=>P h8 tk7 _ (Kc.app v57 v.sz d7 pl8 sb8)
theorem Kc.done (K:Kc X sc') {H:Heap} {tk:Nat} {all:List D} {ys:Array Value} {E0:Value→Shared→Prop} {Q:Shared→Prop} (v:K.Inv K.xs.length H all ys)
  (P:∀ h5 tk5 m,Kp K.s.heap h5→h5.PlainList K.L ys→DenL h5 K.Ex all ys.toList→h5.Ns K.env.locals m→K.Ex K.env.locals→Q {K.s with heap:=h5,toks:=tk5}):wpAny (model X.P X.w) K.A (pyNext (.ref K.I)) (fun r s₁=>r=none∧Q s₁) E0 {K.s with heap:=H,toks:=tk} :=
 K.tn.done {K.s with heap:=H,toks:=tk} _ E0 v.st fun h5 tk5 kp5=>by
  obtain ⟨m,cm,F,_⟩:=v.R.fr
  have nl:¬ K.Wr K.env.locals:=fun q=>let ⟨_,ho,hf⟩:=Knd.or (K.tn.kinds _ _ _ v.st (K.tn.sub _ q));(j7 F ho hf).1 rfl
  exact P h5 tk5 m (fun b o e=>(v.ks b o e).then (fun o2 e2=> .inl (kp5 b o2 (fun q=>nomatch (K.wnew b q).symm.trans e) e2)) (K.tn.cdW v.st kp5)) (let ⟨n0,l⟩:=v.pl;⟨n0,kp5 _ _ (fun q=>K.fpD (K.tn.sub _ q)) l⟩)
   (DenL.mono (fun b o n _ e=>kp5 b o (fun q=>n (K.exW b q)) e) (fun _ _ n=>n) _ _ v.den) (F.ns.at' fun o e=>kp5 _ o nl e) v.R.own.1
theorem oX {P:T→Prop} {t:T} (h:isTrueT t=true) (k:P (.cst (.bool true))):P t:=by
 cases t with
 |cst d =>
  cases d with
  |bool b =>
   cases b with
   |true=>exact k
   |false=>exact nomatch h
  |_=>exact nomatch h
 |_=>exact nomatch h
theorem rx:CondS X sc (.cst (.bool true)) []:=fun σ p E d r Q hd ht P=>by
 obtain rfl:=sm hd
 obtain rfl:=sm ht
 exact wpAny_tests_nil (P p.s.heap p.s.toks (Kp.refl _))
theorem tS {t:T} {e:Expr} (h:IsS X sc t e):CondS X sc t [e]:=fun σ p E d r Q hd ht P=>wpAny_tests_one (h σ p E d r Q hd ht P)
theorem qI {k:IK} {it it2 elt cond:T} {target iter eltE:Expr} {ifs:List Expr} {tg:List Nat} {one:Bool} {pos:Pos} (hit:FS X sc k it it2 iter) (helt:VS X sc' elt eltE) (hcond:CondS X sc' cond ifs) (hT:TgOk X.c sc' target tg one)
  (hok:scOk sc sc'=true) (hfold:∀ env x,foldedSetIterable iter env x=pure x) (use:Option (Value→Sem Unit)) (σ:MEnv) (p:At X sc σ) (E:Value→Shared→Prop) (b:Bool) (d:D) (Q:Value→Shared→Prop)
  (hd:ev X.G X.F σ b (.comp elt tg one k it it2 cond (locsOf X.c sc'))=some d) (P:CompP X p.A E p.s p.Ex use d Q) :
  wpAny (model X.P X.w) p.A (comprehension (.ListComp eltE [⟨target,iter,ifs,0⟩] sc' pos) sc' p.env (firstIterPos [⟨target,iter,ifs,0⟩] pos) (newList []) (firstAsync [⟨target,iter,ifs,0⟩]) (firstIter [⟨target,iter,ifs,0⟩] p.env) use) Q E p.s:=by
 refine eH hd fun hen hd=>ae hd fun xs hxs hd=>ax hd fun all hall e0=> ?_
 have hen:enumOk one k=true:=by rw [Bool.not_eq_true',Bool.not_eq_false] at hen;exact hen
 replace hall:compL (drawE X (clearE σ (locsOf X.c sc')) tg one elt cond) xs=some all:=hall
 obtain ⟨ok1,ok2,ok3⟩:=uw p.hsc hok
 refine wpAny_comprehension_free (use:=use) rfl (hfold p.env) (ja fun n hn=> ?_) ok1 (fun x hx hl=> ?_) ?_
 ·obtain ⟨m,cm,F,_⟩:=p.R.fr
  obtain ⟨a,ha⟩:=F.has n (ok3 n hn)
  rw [ha];rfl
 ·obtain ⟨xn,xk⟩:=x
  have hl:xk = .local:=hl
  subst hl
  exact a8 ok2 hx
 refine hit σ p E true xs sc' target tg one _ hT hen hxs fun I Fp Wr It St h2 tk2 T st0 it0' k2 wnew _=> ?_
 refine wpAny_newObj_type ?_
 have kD:=Kp.push h2 {cls:= .type "list",dict:=none,data:= .seq ([]:List Value).toArray}
 have wal2:∀ b,Wr b→Al h2 b:=fun b hb=>let ⟨o,ho,_⟩:=T.kinds _ _ b st0 (T.sub b hb);⟨o,ho⟩
 have z3:(h2.push {cls:= .type "list",dict:=none,data:= .seq ([]:List Value).toArray}).objs.size=h2.objs.size+1:=Heap.size_push ..
 have D3:=Heap.get?_push_size h2 (o:={cls:= .type "list",dict:=none,data:= .seq ([]:List Value).toArray}) rfl
 generalize h2.push {cls:= .type "list",dict:=none,data:= .seq ([]:List Value).toArray}=h3 at *
 have k3:Kp p.s.heap h3:=k2.trans kD
 have newD:=be k2
 have RG:RR p.env X.c.tbl (fun b=>p.Ex b∨(Wr b∨b=h2.objs.size)) p.ow σ h3:=p.R.grow k3 (fun b hb=>hb.elim (wnew b) fun e=>by rw [e];exact newD) fun b hb=>hb.elim (fun e=>(wal2 b e).keep kD) fun e=>by rw [e];exact ⟨_,D3⟩
 refine rU (s:={p.s with heap:=h3,toks:=tk2}) p.hsc RG hok fun cells h4 hal k4 halc R4 hsq hst hsn=> ?_
 have newC:∀ a,h3.objs.size≤a→p.s.heap.get? a=none:=fun a ha=>k3.none (by
  cases e:h3.get? a with
  |none=>rfl
  |some o=>exact absurd (Heap.lt_size e) (Nat.not_lt.mpr ha))
 let K:Kc X sc':={A:=p.A,s:=p.s,target:=target,tg:=tg,one:=one,I:=I,xs:=xs,Fp:=Fp,Wr:=Wr,It:=It,St:=St,tn:=T,env:=compEnvC sc' cells h3.objs.size p.env,Ex:=fun b=>(p.Ex b∨(Wr b∨b=h2.objs.size))∨(h3.objs.size≤b∧(b=h3.objs.size∨∃ n,cells.lookup n=some b)),ow:=p.ow,σ:=σ,hT:=hT,hsc:=hsq,k:=p.k,ar:=p.ar,L:=h2.objs.size,lt:=Nat.lt_of_lt_of_eq (Nat.lt_succ_self _) z3.symm,exW:=fun b hb=> .inl (.inr (.inl hb)),exD:= .inl (.inr (.inr rfl)),wnew:=wnew,newD:=newD,newC:=newC,st:=hst,fpD:=(fun q=>let ⟨_,ho,_⟩:=T.kinds _ _ _ st0 q;nomatch (az _).symm.trans ho),how:=fun i x d h1 hs he=>let ⟨s1,s2⟩:=hsn i x (d,true) h1 hs he;let ⟨_,_,_,l,_⟩:=p.R.own_al h1 s1 s2;Al.ne (PL.al l) newD,small:=m8 hxs}
 have v0:K.Inv 0 h4 [] #[]:=⟨T.frameK st0 fun b o _ t e=>(kD.trans k4).ob e t,T.items h2 h4 _ _ it0' (fun b o _ t e=>(kD.trans k4).ob e t) fun b hb n e=>by
   rcases e with (e |e |e) |⟨e,_⟩
   ·exact n (.inl e)
   ·exact n (.inr e)
   ·exact hb.ne (az _) e
   ·obtain ⟨o,ho⟩:=hb
    exact absurd (Nat.lt_of_lt_of_le (Heap.lt_size ho) (Nat.le_of_succ_le (Nat.le_trans (Nat.le_of_eq z3.symm) e))) (Nat.lt_irrefl _),R4,⟨0,k4.ob D3 (.inl rfl)⟩,rfl,k3.trans k4,Nat.le_refl _⟩
 have main:codeAny (model X.P X.w) p.A (.compLoop (.ListComp eltE [⟨target,iter,ifs,0⟩] sc' pos) 0 (.ref I) (.ref h2.objs.size) (compEnvC sc' cells h3.objs.size p.env)) (compPost (model X.P X.w) p.A E use Q (.ref h2.objs.size) h3.objs.size) {p.s with heap:=h4,toks:=tk2}:=by
  refine qN (fun nn s'=>∃ H tk i outs ys,s' = {p.s with heap:=H,toks:=tk}∧i≤xs.length∧nn=xs.length+1 - i∧K.Inv i H outs ys∧compL (drawE X (clearE σ (locsOf X.c sc')) tg one elt cond) (xs.take i)=some outs) ?_ (xs.length+1) ⟨h4,tk2,0,[],#[],rfl,Nat.zero_le _,rfl,v0,rfl⟩
  rintro nn s' ⟨H,tk,i,outs,ys,rfl,hi,rfl,v,hcl⟩
  rcases Nat.lt_or_ge i xs.length with hlt |hge
  ·have hx:xs[i]? = some xs[i]:=List.getElem?_eq_getElem hlt
   obtain ⟨r,hf,hcl'⟩:=gM hall hx hcl
   exact wpAny_mono (K.turn helt hcond v hx hf fun H' tk' ys' v'=>⟨xs.length+1 - (i+1),Nat.sub_lt_sub_left (Nat.lt_succ_of_lt hlt) (Nat.lt_succ_self i),H',tk',i+1,_,ys',rfl,hlt,rfl,v',hcl'⟩) (fun r s₁ hr=> .inr hr) fun _ _ e=>e
  ·obtain rfl:i=K.xs.length:=Nat.le_antisymm hi hge
   obtain rfl:outs=all:=sm ((hcl.symm.trans (congrArg (compL (drawE X (clearE σ (locsOf X.c sc')) tg one elt cond)) (List.take_length (l:=xs)))).trans hall)
   refine wpAny_mono (K.done v fun h5 tk5 m ks5 pl5 den5 ns5 exC=> ?_) (fun r s₁ hr=> .inl hr) fun _ _ e=>e
   refine P _ _ h5 tk5 m ys _ e0.symm newD (newC _ (Nat.le_refl _)) (Nat.ne_of_lt K.lt) ks5 pl5 (DenL.mono (fun _ _ _ _ e=>e) (fun b _ n e=>n ?_) _ _ den5) ns5
   rcases e with (e |e) |e
   ·exact .inl (.inl e)
   ·exact e▸exC
   ·exact e▸K.exD
 exact codeAny_compStart_list main (T.self 0 {p.s with heap:=h4,toks:=tk2} _ _ v0.st main)
theorem uQ {k:IK} {it it2 elt cond:T} {target iter eltE:Expr} {ifs:List Expr} {tg:List Nat} {one:Bool} {pos:Pos} (h:∀ (use:Option (Value→Sem Unit)) (σ:MEnv) (p:At X sc σ) (E:Value→Shared→Prop) (b:Bool) (d:D) (Q:Value→Shared→Prop),ev X.G X.F σ b (.comp elt tg one k it it2 cond (locsOf X.c sc'))=some d→CompP X p.A E p.s p.Ex use d Q →
   wpAny (model X.P X.w) p.A (comprehension (.ListComp eltE [⟨target,iter,ifs,0⟩] sc' pos) sc' p.env (firstIterPos [⟨target,iter,ifs,0⟩] pos) (newList []) (firstAsync [⟨target,iter,ifs,0⟩]) (firstIter [⟨target,iter,ifs,0⟩] p.env) use) Q E p.s) :
  VS X sc (.comp elt tg one k it it2 cond (locsOf X.c sc')) (.ListComp eltE [⟨target,iter,ifs,0⟩] sc' pos):=fun σ p E b d Q hd P=>by
 rw [arm_eval_ListComp]
 refine h none σ p E b d Q hd ?_
 rintro D C h5 tk5 m ys all rfl hD hC hDC k5 pl5 den5 hns
 refine ⟨m,hns,fun h6 sb6=> ?_⟩
 have pl6:h6.PlainList D ys:=let ⟨n0,l⟩:=pl5;⟨n0,sb6.extBut _ _ hDC l⟩
 have k6:Kp p.s.heap h6:=k5.sb hC (fun b o n e=>sb6.extBut b o n e) (Ns.nofields hns)
 have den6:DenL h6 (fun b=>(p.Ex b∨b=C)∨b=D) all ys.toList:=DenL.mono (fun b o n _ e=>sb6.extBut b o (fun q=>n (.inl (.inr q))) e) (fun _ _ n=>n) _ _ den5
 exact P (.ref D) h6 tk5 k6 (Den.toR ⟨_,_,rfl,fun e=>(p.R.lt _ e).ne hD rfl,pl6,DenL.mono (fun _ _ _ _ e=>e) (fun b _ n e=>n (.inl (.inl e))) _ _ den6⟩) fun _=>⟨_,_,all,rfl,hD,rfl,pl6,DenL.mono (fun _ _ _ _ e=>e) (fun b _ n e=>n (e.elim (fun e=> .inl (.inl e)) .inr)) _ _ den6⟩
end
end Mine
set_option genSizeOf false
set_option genInjectivity false
namespace Mine
variable [Tabs] [Frk]
section
variable {X:Wd} {sc:Scope} {mg mb:Str→Option Value}
theorem qx {ta tb:T} {e0:Expr} {np pos:Pos} (B:X.Ok mg mb) (h:RgS X sc ta tb e0) (hst:∀ rest env,starEach (e0 :: rest) env=(false,eval e0 env) :: starEach rest env) (hs:isGlob sc listS=true) :
  VS X sc (.lrange ta tb) (.Call (.Name listS np) [e0] [] pos):=fun σ p E b d Q hd P=>by
 refine dE hd fun m hm hd=>dE hd fun m' hm' hd=>ax hd fun xs hx e0=>eR hx fun i1 i2 i3 hxs=> ?_
 subst e0 hxs
 obtain ⟨b1,b2,b3,hsz⟩:=eF i1 i2
 refine wpAny_Call_ofName (cJ p B hs (by decide) (by decide) ki ?_)
 have e1:backTo pos (starEach [e0] p.env)=[(false,eval e0 p.env)]:=by rw [hst];rfl
 refine PyProof.Rows.callWith_type (by rw [e1];rfl) ?_
 rw [e1]
 refine PySem.Calls.evalArgs_plain (PySem.Calls.spliced_cons (h σ p E m m' _ hm hm' fun r h1 tk1 t u v k1 hr hnew=>PySem.Calls.spliced_nil ?_))
 refine call_list_range (s:={p.s with heap:=h1,toks:=tk1}) p.ar.hd hr (small_one b1.1 b1.2 b2.1 b2.2) hsz (Nat.le_trans i3 (by decide)) fun h2 tk2 acc cc k2 hl hit=> ?_
 have k2:Kp h1 h2:= .of k2
 have dl:∀ X,DenL h2 X (rangeD m (m' - m).toNat) acc.toList:=fun X=>DenL.of_get (by rw [bA,Array.length_toList];exact hit.1) fun i d hi=>by
  have hlt:=(List.getElem?_eq_some_iff.mp hi).1
  rw [bA] at hlt
  rw [ew _ _ _ hlt] at hi
  have hlt':i<acc.size:=by rw [hit.1];exact hlt
  obtain ⟨tk,ht⟩:=hit.2 i acc[i] (Array.getElem?_eq_getElem hlt')
  obtain rfl:=sm hi
  exact ⟨acc[i],by rw [Array.getElem?_toList];exact Array.getElem?_eq_getElem hlt',tk,by rw [ht,Int.mul_one]⟩
 have nf:p.s.heap.get? h1.objs.size=none:=be k1
 have pl:h2.PlainList h1.objs.size acc:=⟨cc,hl⟩
 exact P _ h2 tk2 (k1.trans k2) (Den.toR ⟨_,_,rfl,fun e=>(p.R.lt _ e).ne nf rfl,pl,dl _⟩) fun _=>⟨_,_,_,rfl,nf,rfl,pl,dl _⟩
noncomputable def UseS (X:Wd) (sc:Scope) (t:T) (e:Expr):Prop :=
 ∀ elt gens sc' pos,e = .ListComp elt gens sc' pos→∀ (use:Option (Value→Sem Unit)) (σ:MEnv) (p:At X sc σ) (E:Value→Shared→Prop) (b:Bool) (d:D) (Q:Value→Shared→Prop),ev X.G X.F σ b t=some d→CompP X p.A E p.s p.Ex use d Q →
  wpAny (model X.P X.w) p.A (comprehension e sc' p.env (firstIterPos gens pos) (newList []) (firstAsync gens) (firstIter gens p.env) use) Q E p.s
structure All (X:Wd) (sc:Scope) (t:T) (e:Expr):Prop where
 vs:VS X sc t e
 is:IsS X sc t e
 st:∀ rest env,starEach (e :: rest) env=(false,eval e env) :: starEach rest env
 us:UseS X sc t e
theorem All.of {t:T} {e:Expr} (v:VS X sc t e) (i:IsS X sc t e) (st:∀ rest env,starEach (e :: rest) env=(false,eval e env) :: starEach rest env) (us:(e.ctorIdx==8)=false):All X sc t e :=
 ⟨v,i,st,fun _ _ _ _ h=>by subst h;exact nomatch us⟩
theorem All.ov {t:T} {e:Expr} (v:VS X sc t e) (he:∀ env whole,isTrue e env whole=(do let v ← whole;standAt e.pos;holding [v] (PySem.truthy v))) (st:∀ rest env,starEach (e :: rest) env=(false,eval e env) :: starEach rest env) (us:(e.ctorIdx==8)=false):All X sc t e :=
 .of v (gi v he) st us
inductive EL (X:Wd) (sc:Scope):T→List Expr→Prop where
 |nil:EL X sc .nil []
 |cons {t r:T} {e:Expr} {es:List Expr}:All X sc t e→EL X sc r es→EL X sc (.cons t r) (e :: es)
theorem EL.as {t:T} {es:List Expr} (h:EL X sc t es):AS X sc t es:=by
 induction h with
 |nil=>exact yE
 |cons h _ ih=>exact wQ h.st h.vs ih
theorem EL.one {t:T} {e:Expr} (h:All X sc t e):EL X sc (.cons t .nil) [e]:= .cons h .nil
inductive KsE:List Str→List (Option Expr)→Prop
 |nil:KsE [] []
 |cons {k:Str} {n:Nat} {pos:Pos} {ks:List Str} {es:List (Option Expr)}:KsE ks es→KsE (k :: ks) (some (.Constant (.str k) n pos) :: es)
theorem qu:∀ (ks:List Str) (es:List Expr),(List.zipWith keyE ks es).length=ks.length→KsE ks (List.zipWith keyE ks es)
 | [],_,_=> .nil
 |_ :: _,[],h=>nomatch h
 |_ :: ks,_ :: es,h=> .cons (qu ks es (Nat.succ.inj h))
theorem KsE.len {ks:List Str} {es:List (Option Expr)} (h:KsE ks es):es.length=ks.length∧es.all (·.isSome)=true:=by
 induction h with
 |nil=>exact ⟨rfl,rfl⟩
 |cons _ ih=>exact ⟨congrArg (· + 1) ih.1,ih.2⟩
theorem sG {t:T} {es:List Expr} (h:EL X sc t es):∀ {ks:List Str} {kes:List (Option Expr)} {σ:MEnv} (p:At X sc σ) {E:Value→Shared→Prop} {ds:List D} {is:List Int} {pos:Pos} {Q:List (Value×Value)→Shared→Prop},KsE ks kes→ks.length=es.length →
  ev X.G X.F σ false t=some (.tup ds)→ints? ds=some is→(∀ vs (kvs:List (Str×Value)) h' tk,Kp p.s.heap h'→Carries (strKind X.P X.w) vs kvs→kvs.map (fun q=>(q.1,vint q.2))=(ks.zip is).map (fun q=>(q.1,some q.2))→Q vs {p.s with heap:=h',toks:=tk}) →
  wpAny (model X.P X.w) p.A (evalPairs (pairTrees kes es p.env pos)) Q E p.s:=by
 induction h with
 |nil =>
  intro ks kes σ p E ds is pos Q hk hl hd hi P
  cases hk with
  |nil=>exact pairTrees_nil_walk (P [] [] _ _ (Kp.refl _) trivial rfl)
  |cons _=>exact nomatch hl
 |cons ha _ ih =>
  intro ks kes σ p E ds is pos Q hk hl hd hi P
  cases hk with
  |nil=>exact nomatch hl
  |cons hk =>
   refine ae hd fun x hx hd=>ae hd fun y hy hd=>ax hd fun xs hxs e=> ?_
   obtain rfl:=nV e
   refine ae hi fun i hi1 hi=>ax hi fun js hjs e=> ?_
   obtain rfl:=e
   refine pairTrees_cons_walk (pR (k:= .str _) σ p E false _ _ rfl fun kv h1 tk1 k1 d1 _=> ?_)
   obtain ⟨t1,rfl⟩:=d1
   refine ha.vs σ (p.to k1 tk1) E false x _ hx fun vv h2 tk2 k2 d2 _=> ?_
   revert d2
   refine aM (P:=fun x=>DenR h2 p.Ex false x vv→_) hi1 fun d2=> ?_
   obtain ⟨t2,rfl⟩:=d2
   refine ih ((p.to k1 tk1).to k2 tk2) hk (Nat.succ.inj hl) (cT (P:=fun y=>ev X.G X.F σ false _=some y→ev X.G X.F σ false _=some (.tup xs)) hxs (fun e=>e) hy) hjs fun vs kvs h3 tk3 k3 c3 q3=> ?_
   exact P _ ((_,.int i t2) :: kvs) h3 tk3 ((k1.trans k2).trans k3) ⟨strKind_is _ _ _ _,rfl,c3⟩ (congrArg (List.cons _) q3)
theorem iU:∀ {ks:List Str},difL ks=true→ks.Nodup
 | [],_=> .nil
 |_ :: _,h=>aa h fun h1 h2=>List.nodup_cons.mpr ⟨fun m=>by rw [List.contains_iff_mem.mpr m] at h1;exact (nomatch h1),iU h2⟩
theorem ru {mg mb:Str→Option Value} (B:X.Ok mg mb) {t:T} {es:List Expr} {ks:List Str} {kes:List (Option Expr)} {pos:Pos} (h:EL X sc t es) (hk:KsE ks kes) (hl:ks.length=es.length):VS X sc (.ddisp ks t) (.Dict kes es pos):=fun σ p E b d Q hd P=>by
 refine ae hd fun y hy hd=>ae hd fun ds hds hd=>ae hd fun is his hd=>gd hd fun hg e=>aa hg fun g1 g2=>aa g2 fun g2 g6=>aa g2 fun g2 g5=>aa g2 fun g3 g4=> ?_
 obtain rfl:=sm e
 have nfa:¬ Tabs.fa p.s.heap.objs.size:=fun f=>by
  obtain ⟨_,L,e1,e2⟩:=B.dk g1
  obtain ⟨o,e⟩:=(p.k.dl L e1).al
  rw [← e2 _ f,az] at e;exact nomatch e
 have hn:kes≠[]:=fun e=>by
  subst e
  cases hk
  exact nomatch g5
 refine wpAny_Dict_walk (knd:=strKind X.P X.w) hk.len.2 (hk.len.1.trans hl) hn (by rw [hk.len.1];exact de g6) ?_
 refine sG h (p.to (Kp.push _ _) p.s.toks) hk hl (cT (P:=fun y=>ev X.G X.F σ false _=some y→ev X.G X.F σ false _=some (.tup ds)) hds (fun e=>e) hy) his fun vs kvs h1 tk1 k1 c1 q1=> ?_
 refine ⟨kvs,c1,⟨_,#[],0,k1.ob (Heap.get?_push_size _ rfl) (.inr ⟨rfl,nfa⟩),⟨rfl,rfl,rfl⟩,rfl,fun _ he=>absurd he (Array.not_mem_empty _),.nil,List.nodup_nil⟩,fun h' m' sb=> ?_⟩
 have fs:kvs.map (·.1)=ks:=by
  have:=congrArg (List.map Prod.fst) q1
  rw [List.map_map,List.map_map] at this
  exact this.trans (List.map_fst_zip (Nat.le_of_eq (beq_iff_eq.mp g3)))
 rw [merged_nil_of_nodup kvs (by rw [fs];exact iU g4)] at m'
 obtain ⟨o,ho,io⟩:=Heap.dictOf_iff.mp m'
 have dd:dicD o.data=true:=by
  obtain ⟨es,ep,_,e,_⟩:=io
  rw [e];rfl
 have kk:Kp p.s.heap h':=Kp.sb ((Kp.push _ _).trans k1) (az _) (fun x o hx e=>(sb.2 x hx).trans e) fun o e vs q=>by
  have:=k1.ob (Heap.get?_push_size _ rfl) (.inr ⟨rfl,nfa⟩)
  rw [this] at e
  rw [← sm e] at q
  exact nomatch q
 exact P _ h' _ kk (Den.toR ⟨_,o,rfl,fun e=>(p.R.lt _ e).ne (az _) rfl,⟨ho,dd,nfa⟩,(B.dk g1).1 _ _ ⟨kvs,io,q1⟩⟩) fun e=>nomatch e
theorem dG {e:Expr} (h:isSetE e=false) (env:Env) (x:Value):foldedSetIterable e env x=pure x:=by
 cases e<;>first |rfl |exact nomatch h
theorem eV {P:T→Prop} {t:T} (h:isNoneT t=true) (k:P (.cst .none)):P t:=by
 cases t with
 |cst d =>
  cases d with
  |none=>exact k
  |_=>exact nomatch h
 |_=>exact nomatch h
noncomputable def Good (X:Wd) (sc:Scope) (t:T) (m:Option BoolOp) (es l:List Expr):Prop :=
 cond (isLst t) (EL X sc t l) (cond (tailB t m es) (∃ op x y r,m=some op∧l=x :: y :: r∧BS X sc t op l) (∃ e,l=[e]∧All X sc t e))
theorem q9 {t:T} {es l:List Expr} {m:Option BoolOp} (hl:isLst t=false) (hm:tailB t m es=false) (h:Good X sc t m es l):∃ e,l=[e]∧All X sc t e:=by
 unfold Good at h;rw [hl,hm] at h;exact h
theorem qq (t:T) (es:List Expr):tailB t none es=false:=by cases t<;>rfl
noncomputable def Un (X:Wd) (t:T):Prop:=∀ sc m es,(un X.c sc t m es).1=true→Good X sc t m es (un X.c sc t m es).2
theorem Un.e {t:T} (h:Un X t) {es:List Expr} (hb:(e1 t (un X.c sc t none es)).1=true):All X sc t (e1 t (un X.c sc t none es)).2:=aa hb fun h1 h2=>by
 obtain ⟨e,h3,h4⟩:=q9 (Bool.not_eq_true' _▸h1) (qq t es) (h sc none es h2)
 show All X sc t (hd (un X.c sc t none es).2)
 rw [h3];exact h4
theorem Un.l {t:T} (h:Un X t) {es:List Expr} (hb:(el t (un X.c sc t none es)).1=true):EL X sc t (el t (un X.c sc t none es)).2:=aa hb fun h1 h2=>by
 have:=h sc none es h2
 unfold Good at this
 rw [h1] at this;exact this
theorem Un.b {t:T} {op:BoolOp} (h:Un X t) {es:List Expr} (h1:(!isLst t)=true) (h2:(un X.c sc t (some op) es).1=true):∃ x r,(un X.c sc t (some op) es).2=x :: r∧BS X sc t op (x :: r):=by
 have g:=h sc (some op) es h2
 have h1:isLst t=false:=Bool.not_eq_true' _▸h1
 cases hm:tailB t (some op) es with
 |true =>
  unfold Good at g
  rw [h1,hm] at g
  obtain ⟨op',x,y,r,e1,e2,g⟩:=g
  obtain rfl:=sm e1
  exact ⟨x,y :: r,e2,e2▸g⟩
 |false =>
  obtain ⟨e,h3,h4⟩:=q9 h1 hm g
  exact ⟨e,[],h3,xz h4.vs h4.is⟩
theorem kh {t:T} (h:Un X t) {es:List Expr} {o:Option Expr} (hb:(slE t (e1 t (un X.c sc t none es)) o).1=true):OS X sc t (slE t (e1 t (un X.c sc t none es)) o).2:=by
 cases o with
 |none=>exact eV (P:=fun t=>OS X sc t none) hb wK
 |some e=>exact uT (h.e hb).vs
theorem cC {f:Str} {P:Prop} (h:gl sc f=true) (k:isGlob sc f=true→(f==("__debug__":Str))=false→P):P:=aa h fun h1 h2=>k h1 (Bool.not_eq_true' _▸h2)
theorem uk (B:X.Ok mg mb) {k:IK} {it it2:T} {y:Expr} {z:Bool×Expr} {i:Expr} (hy:All X sc it y) (hz:z.1=true→All X sc it2 z.2) (h:(itE sc k y z i).1=true):FS X sc k it it2 (itE sc k y z i).2∧∀ env x,foldedSetIterable (itE sc k y z i).2 env x=pure x:=by
 cases k with
 |plain=>exact ⟨rk hy.vs,dG (nt h)⟩
 |range1=>exact cC h fun h1 h2=>⟨qw (gN B (EL.one hy).as h1),dG rfl⟩
 |range2=>exact aa h fun h h3=>cC h fun h1 h2=>⟨pb (gu B (EL.cons hy (.one (hz h3))).as h1),dG rfl⟩
 |enum=>exact cC h fun h1 h2=>⟨w9 B (EL.one hy).as h1,dG rfl⟩
 |rev=>exact cC h fun h1 h2=>⟨yt B (EL.one hy).as h1,dG rfl⟩
theorem zN {x:Str} {P:Prop} (h:dbg x=true) (h':dcl x=true) (k:(x==("__debug__":Str))=false→(x==("__classdict__":Str))=false→P):P:=k (nt h) (nt h')
theorem qp (B:X.Ok mg mb) {k:IK} {it it2 elt cnd:T} {target iter eltE:Expr} {w:List Expr} {tg:List Nat} {one:Bool} {pos:Pos} {sc':Scope} (hit:FS X sc k it it2 iter) (hf:∀ env x,foldedSetIterable iter env x=pure x) (helt:All X sc' elt eltE) (hc:CondS X sc' cnd w) (hT:TgOk X.c sc' target tg one) (hok:scOk sc sc'=true) :
  All X sc (.comp elt tg one k it it2 cnd (locsOf X.c sc')) (.ListComp eltE [⟨target,iter,w,0⟩] sc' pos):=by
 have core:=fun use σ p E b d Q=>qI (pos:=pos) hit helt.vs hc hT hok hf use σ p E b d Q
 have v:=uQ core
 refine ⟨v,gi v fun _ _=>rfl,fun _ _=>rfl,?_⟩
 intro elt' gens' sc'' pos' he
 cases he
 exact core
theorem sY {op:BoolOp} {a b:T} {m:Option BoolOp} {es es':List Expr} {e:Expr} {pos:Pos} (ha:Un X a) (hb:Un X b) (h:(bopE op b (tailM op m es) (e1 a (un X.c sc a none [hd es])) (un X.c sc b (some op) es.tail) (e1 a (un X.c sc a none [e])) (un X.c sc b (some op) es') pos).1=true) :
  Good X sc (.bop op a b) m es (bopE op b (tailM op m es) (e1 a (un X.c sc a none [hd es])) (un X.c sc b (some op) es.tail) (e1 a (un X.c sc a none [e])) (un X.c sc b (some op) es') pos).2:=by
 have go:∀ es1 es2,((e1 a (un X.c sc a none es1)).1 && !isLst b&&(un X.c sc b (some op) es2).1)=true→∃ x r,(un X.c sc b (some op) es2).2=x :: r∧BS X sc (.bop op a b) op ((e1 a (un X.c sc a none es1)).2 :: x :: r):=fun es1 es2 h=>aa h fun h h3=>aa h fun h1 h2=>by
  obtain ⟨x,r,e,g⟩:=hb.b h2 h3
  have al:=ha.e h1
  exact ⟨x,r,e,wa al.vs al.is g⟩
 unfold Good
 show cond (tailM op m es) _ _
 unfold bopE at h ⊢
 cases hm:tailM op m es with
 |true =>
  rw [hm] at h
  obtain ⟨x,r,e,g⟩:=go _ _ h
  exact ⟨op,_,x,r,beq_iff_eq.mp (aa hm fun q _=>q),congrArg _ e,show BS X sc _ op (_ :: (un X.c sc b (some op) es.tail).2) from e▸g⟩
 |false =>
  rw [hm] at h
  obtain ⟨x,r,e,g⟩:=go _ _ h
  refine ⟨_,rfl,?_⟩
  show All X sc _ (.BoolOp op (_ :: (un X.c sc b (some op) es').2) _)
  rw [e]
  exact .of (wH g) (uS g) (fun _ _=>rfl) rfl
theorem b8 (B:X.Ok mg mb) (CT:X.Ct mg) (t:T):Un X t:=by
 induction t with
 |var i=>exact fun sc m es h=>aa h fun h h4=>aa h fun h h3=>aa h fun h1 h2=>zN h3 h4 fun h3 h4=>⟨_,rfl,.ov (yJ h2 (dU (de h1)) h3 h4) (fun _ _=>rfl) (fun _ _=>rfl) rfl⟩
 |glob x=>exact fun sc m es h=>aa h fun h h3=>aa h fun h1 h2=>⟨_,rfl,.ov (wh B h1 (eP h2) (nt h3)) (fun _ _=>rfl) (fun _ _=>rfl) rfl⟩
 |cst d=>exact fun sc m es h=>⟨_,rfl,.ov pR (fun _ _=>rfl) (fun _ _=>rfl) rfl⟩
 |bin op a b h_a h_b=>exact fun sc m es h=>aa h fun h1 h2=>⟨_,rfl,.ov (xP (h_a.e h1).vs (h_b.e h2).vs) (fun _ _=>rfl) (fun _ _=>rfl) rfl⟩
 |un op a h_a =>
  refine fun sc m es h=> ?_
  have al:=h_a.e (sc:=sc) h
  refine ⟨_,rfl,.of (ub al.vs) ?_ (fun _ _=>rfl) rfl⟩
  cases op with
  |Not=>exact xg al.is
  |_=>exact gi (ub al.vs) fun _ _=>rfl
 |cmp op a b h_a h_b=>exact fun sc m es h=>aa h fun h h3=>aa h fun h1 h2=>⟨_,rfl,.of (yS (h_a.e h1).vs (h_b.e h2).vs (nt h3)) (yv (h_a.e h1).vs (h_b.e h2).vs (nt h3)) (fun _ _=>rfl) rfl⟩
 |cmp2 o p a b d h_a h_b h_d=>exact fun sc m es h=>aa h fun h h4=>aa h fun h h3=>aa h fun h1 h2=>⟨_,rfl,.of (wq (h_a.e h1).vs (h_b.e h2).vs (h_d.e h3).vs (nt h4)) (vh (h_a.e h1).vs (h_b.e h2).vs (h_d.e h3).vs (nt h4)) (fun _ _=>rfl) rfl⟩
 |bop op a b h_a h_b=>exact fun sc m es h=>sY (h_a) (h_b) h
 |ite d a b h_d h_a h_b=>exact fun sc m es h=>aa h fun h h3=>aa h fun h1 h2=>⟨_,rfl,.of (yp (h_d.e h1).is (h_a.e h2).vs (h_b.e h3).vs) (yB (h_d.e h1).is (h_a.e h2).is (h_b.e h3).is) (fun _ _=>rfl) rfl⟩
 |nil=>exact fun sc m es h=>EL.nil
 |cons a r h_a h_r=>exact fun sc m es h=>aa h fun h1 h2=>EL.cons (h_a.e h1) (h_r.l h2)
 |list t h_t=>exact fun sc m es h=>⟨_,rfl,.ov (vz (h_t.l h).as) (fun _ _=>rfl) (fun _ _=>rfl) rfl⟩
 |tup t h_t=>exact fun sc m es h=>⟨_,rfl,.ov (pS (h_t.l h).as) (fun _ _=>rfl) (fun _ _=>rfl) rfl⟩
 |ddisp ks t h_t=>exact fun sc m es h=>aa h fun h h3=>aa h fun h1 h2=>⟨_,rfl,.ov (ru B (h_t.l h1) (qu _ _ (beq_iff_eq.mp h3)) (beq_iff_eq.mp h2)) (fun _ _=>rfl) (fun _ _=>rfl) rfl⟩
 |idx a i h_a h_i=>exact fun sc m es h=>aa h fun h h3=>aa h fun h1 h2=>⟨_,rfl,.ov (xN B (h_a.e h1).vs (h_i.e h2).vs (nt h3)) (fun _ _=>rfl) (fun _ _=>rfl) rfl⟩
 |sli a l u st h_a h_l h_u h_st=>exact fun sc m es h=>aa h fun h h4=>aa h fun h h3=>aa h fun h1 h2=>⟨_,rfl,.ov (yX B (h_a.e h1).vs (kh h_l h2) (kh h_u h3) (kh h_st h4)) (fun _ _=>rfl) (fun _ _=>rfl) rfl⟩
 |comp elt tg one k it it2 cnd locs h_elt h_it h_it2 h_cnd =>
  refine fun sc m es h=>aa h fun h h7=>aa h fun h h6=>aa h fun h h5=>aa h fun h h4=>aa h fun h h3=>aa h fun h1 h2=> ?_
  obtain rfl:=beq_iff_eq.mp h7
  obtain ⟨f1,f2⟩:=uk B (h_it.e h2) (fun hz=>h_it2.e hz) h3
  refine ⟨_,rfl,qp B f1 f2 (h_elt.e h1) ?_ (oT h5) h6⟩
  cases hn:(isTrueT cnd&&(kids (hd es)).tail.tail.tail.isEmpty) with
  |true=>exact aa hn fun q _=>oX (P:=fun t=>CondS X _ t []) q rx
  |false =>
   rw [hn] at h4
   exact tS (h_cnd.e h4).is
 |lrange a b h_a h_b=>exact fun sc m es h=>aa h fun h h4=>aa h fun h h3=>aa h fun h1 h2=>cC h3 fun h3 _=>cC h4 fun h4 _=>⟨_,rfl,.ov (qx B (gu B (EL.cons (h_a.e h1) (.one (h_b.e h2))).as h4) (fun _ _=>rfl) h3) (fun _ _=>rfl) (fun _ _=>rfl) rfl⟩
 |call f t h_t=>exact fun sc m es h=>aa h fun h h3=>aa h fun h1 h2=>cC h2 fun g1 g2=>⟨_,rfl,.ov (we B CT (h_t.l h1).as g1 g2 (eP h3)) (fun _ _=>rfl) (fun _ _=>rfl) rfl⟩
 |callb f t h_t=>exact fun sc m es h=>aa h fun h h3=>aa h fun h1 h2=>cC h2 fun g1 g2=>⟨_,rfl,.ov (sV B CT (h_t.l h1).as g1 g2 (eP h3)) (fun _ _=>rfl) (fun _ _=>rfl) rfl⟩
 |blt f t h_t=>exact fun sc m es h=>aa h fun h1 h2=>cC h2 fun g1 _=>⟨_,rfl,.ov (xM B (h_t.l h1).as g1) (fun _ _=>rfl) (fun _ _=>rfl) rfl⟩
 |meth f o t h_o h_t=>exact fun sc m es h=>aa h fun h h5=>aa h fun h h4=>aa h fun h h3=>aa h fun h1 h2=>⟨_,rfl,.ov (uY (h_o.e h2).vs (h_t.l h1).as (nt h4) h3 (de h5)) (fun _ _=>rfl) (fun _ _=>rfl) rfl⟩
 |inset x a h_a=>exact fun sc m es h=>aa h fun h h3=>aa h fun h1 h2=>have v:=sW B (h_a.e h1).vs h2 (eP h3);⟨_,rfl,.of v.1 v.2 (fun _ _=>rfl) rfl⟩
 |dget x a d h_a h_d =>
  refine fun sc m es h=>aa h fun h h5=>aa h fun h h4=>aa h fun h h3=>aa h fun h1 h2=> ?_
  have al:=h_a.e h1
  refine ⟨_,rfl,.ov (vH B ?_ h3 ?_ h4 (eP h5)) (fun _ _=>rfl) (fun _ _=>rfl) rfl⟩
  ·cases hn:(kids (hd es)).tail.tail.isEmpty with
   |true =>
    rw [hn] at h2
    exact .inl ⟨(EL.one al).as,eV (P:=fun t=>t = .cst .none) h2 rfl⟩
   |false =>
    rw [hn] at h2
    exact .inr (EL.cons al (.one (h_d.e h2))).as
  ·cases (kids (hd es)).tail.tail.isEmpty
   ·exact show 2<30 by decide
   ·exact show 1<30 by decide
end
end Mine
set_option genSizeOf false
set_option genInjectivity false
namespace Mine
variable [Tabs] [Frk]
structure SR (env:Env) (tbl:List Str) (Mu Ex:Addr→Prop) (ow:Nat→Addr) (σ:MEnv) (h:Heap):Prop where
 rr:RR env tbl Ex ow σ h
 mu:∀ b,Mu b→Ex b
 fr:Mu env.locals∧∀ n c,storable env.scope n=true→env.cells.lookup n=some c→Mu c
 own:∀ i x d,tbl[i]? = some x→seen env.scope x=true→getE σ i=some (d,true)→Mu (ow i)
 inj:∀ i j x y d e,tbl[i]? = some x→seen env.scope x=true→tbl[j]? = some y→seen env.scope y=true→getE σ i=some (d,true)→getE σ j=some (e,true)→i≠j→ow i≠ow j
structure Gr (h:Heap) (Mu Ex Mu' Ex':Addr→Prop) (h':Heap):Prop where
 mu:∀ b,Mu' b→Mu b∨h.get? b=none
 ex:∀ b,Ex' b→Ex b∨h.get? b=none
 kp:∀ b,Ex b→¬ Mu b→Ex' b
 keep:∀ b o,¬ Mu b→h.get? b=some o→Gw h' b o
 cd:Cd h h'
theorem Gr.refl (h:Heap) (Mu Ex:Addr→Prop):Gr h Mu Ex Mu Ex h:=⟨fun _ e=> .inl e,fun _ e=> .inl e,fun _ e _=>e,fun _ _ _ e=> .inl e,Cd.refl h⟩
theorem Gr.of_kp {h h':Heap} (k:Kp h h') (Mu Ex:Addr→Prop):Gr h Mu Ex Mu Ex h':=⟨fun _ e=> .inl e,fun _ e=> .inl e,fun _ e _=>e,fun b o _ e=>k b o e,k.cd⟩
theorem Gr.trans {h h1 h2:Heap} {Mu Ex Mu1 Ex1 Mu2 Ex2:Addr→Prop} (lt:∀ b,Ex b→Al h b) (sub:∀ b,Mu b→Ex b) (x:Gr h Mu Ex Mu1 Ex1 h1) (y:Gr h1 Mu1 Ex1 Mu2 Ex2 h2):Gr h Mu Ex Mu2 Ex2 h2:=by
 have none1:∀ b,h1.get? b=none→Mu b∨h.get? b=none:=fun b hb=>by
  by_cases hm:Mu b
  ·exact .inl hm
  ·refine .inr ?_
   cases e:h.get? b with
   |none=>rfl
   |some o=>obtain ⟨o',e'⟩:=(x.keep b o hm e).al;exact nomatch hb.symm.trans e'
 refine ⟨fun b hb=>(y.mu b hb).elim (x.mu b) (none1 b),fun b hb=>(y.ex b hb).elim (x.ex b) fun e=>(none1 b e).imp (sub b) id,fun b hb hn=>y.kp b (x.kp b hb hn) fun hm=>(x.mu b hm).elim hn fun e=>Al.ne (lt b hb) e rfl,fun b o hn e=>(x.keep b o hn e).then (fun o' e'=>y.keep b o' (fun hm=>(x.mu b hm).elim hn fun q=>nomatch e.symm.trans q) e') y.cd,x.cd.trans y.cd⟩
theorem SR.keep {env:Env} {tbl:List Str} {Mu Ex:Addr→Prop} {ow:Nat→Addr} {σ:MEnv} {h h':Heap} (S:SR env tbl Mu Ex ow σ h) (k:Kp h h'):SR env tbl Mu Ex ow σ h' :=
 ⟨S.rr.keep k,S.mu,S.fr,S.own,S.inj⟩
theorem RR.reown {env:Env} {tbl:List Str} {Ex:Addr→Prop} {ow ow':Nat→Addr} {σ:MEnv} {h:Heap} (R:RR env tbl Ex ow σ h) (ho:∀ i d,getE σ i=some (d,true)→ow i=ow' i):RR env tbl Ex ow' σ h:=by
 obtain ⟨ok,nd,lt,own,m,cm,F,hv⟩:=R
 refine ⟨ok,nd,lt,own,m,cm,F,fun i x d b h1 h2 h3=> ?_⟩
 obtain ⟨v,e,dv,hw⟩:=hv i x d b h1 h2 h3
 exact ⟨v,e,dv,fun hb=>(hw hb).trans (congrArg Value.ref (ho i d (hb▸h2)))⟩
noncomputable def SPost (s:Shared) (env:Env) (tbl:List Str) (Mu Ex:Addr→Prop) (σ':MEnv) (o:Out) (Q:Flow→Shared→Prop):Prop :=
 match o with
 | .ret d=>∀ h' tk v Mu' Ex',Gr s.heap Mu Ex Mu' Ex' h'→Den h' Ex' d v→Q (.ret v) {s with heap:=h',toks:=tk}
 | .next=>∀ h' tk Mu' Ex' ow',SR env tbl Mu' Ex' ow' σ' h'→Gr s.heap Mu Ex Mu' Ex' h'→Q .next {s with heap:=h',toks:=tk}
 | .brk=>∀ h' tk Mu' Ex' ow',SR env tbl Mu' Ex' ow' σ' h'→Gr s.heap Mu Ex Mu' Ex' h'→Q .brk {s with heap:=h',toks:=tk}
theorem SPost.from {s:Shared} {env:Env} {tbl:List Str} {Mu Ex Mu1 Ex1:Addr→Prop} {σ':MEnv} {o:Out} {Q:Flow→Shared→Prop} {h1:Heap} {tk1:Nat} (P:SPost s env tbl Mu Ex σ' o Q) (lt:∀ b,Ex b→Al s.heap b) (sub:∀ b,Mu b→Ex b) (g:Gr s.heap Mu Ex Mu1 Ex1 h1) :
  SPost {s with heap:=h1,toks:=tk1} env tbl Mu1 Ex1 σ' o Q:=by
 cases o with
 |ret d=>exact fun h' tk v Mu' Ex' g' hd=>P h' tk v Mu' Ex' (g.trans lt sub g') hd
 |next=>exact fun h' tk Mu' Ex' ow' S' g'=>P h' tk Mu' Ex' ow' S' (g.trans lt sub g')
 |brk=>exact fun h' tk Mu' Ex' ow' S' g'=>P h' tk Mu' Ex' ow' S' (g.trans lt sub g')
structure Ast (X:Wd) (sc:Scope) (σ:MEnv) where
 A:Around
 s:Shared
 env:Env
 Mu:Addr→Prop
 Ex:Addr→Prop
 ow:Nat→Addr
 hsc:env.scope=sc
 S:SR env X.c.tbl Mu Ex ow σ s.heap
 k:KB X.hB s.heap
 hm:∀ b,Mu b→X.hB.get? b=none
 ar:Ar X.n A
theorem ScEq.self {env:Env} {sc:Scope} (h:env.scope=sc):ScEq env sc:=fun x=>by rw [h];exact .inl rfl
noncomputable abbrev Ast.at {X:Wd} {sc:Scope} {σ:MEnv} (p:Ast X sc σ):At X sc σ:=⟨p.A,p.s,p.env,p.Ex,p.ow,.self p.hsc,p.S.rr,p.k,p.ar⟩
noncomputable abbrev Ast.to {X:Wd} {sc:Scope} {σ:MEnv} (p:Ast X sc σ) {h:Heap} (k:Kp p.s.heap h) (tk:Nat):Ast X sc σ:=⟨p.A,{p.s with heap:=h,toks:=tk},p.env,p.Mu,p.Ex,p.ow,p.hsc,p.S.keep k,p.k.trans k,p.hm,p.ar⟩
theorem Ast.lt {X:Wd} {sc:Scope} {σ:MEnv} (p:Ast X sc σ):∀ b,p.Ex b→Al p.s.heap b:=p.S.rr.lt
noncomputable def SS (X:Wd) (sc:Scope) (st:S) (m:Env→Sem Flow):Prop :=
 ∀ (σ:MEnv) (p:Ast X sc σ) (E:Value→Shared→Prop) (σ':MEnv) (o:Out) (Q:Flow→Shared→Prop),ex X.G X.F σ st=some (σ',o)→SPost p.s p.env X.c.tbl p.Mu p.Ex σ' o Q→wpAny (model X.P X.w) p.A (m p.env) Q E p.s
theorem lg {hB h h':Heap} {Mu Ex Mu' Ex':Addr→Prop} (k:KB hB h) (hm:∀ b,Mu b→hB.get? b=none) (g:Gr h Mu Ex Mu' Ex' h'):KB hB h'∧∀ b,Mu' b→hB.get? b=none:=by
 refine ⟨k.cdt (fun b o e=>(k.kp b o e).then (fun o' e'=>g.keep b o' (fun q=>by rw [hm b q] at e;cases e) e') g.cd) g.cd,fun b hb=> ?_⟩
 rcases g.mu b hb with e |e
 ·exact hm b e
 ·exact k.none e
noncomputable abbrev Ast.on {X:Wd} {sc:Scope} {σ:MEnv} (p:Ast X sc σ) {σ':MEnv} {h:Heap} {Mu' Ex':Addr→Prop} {ow':Nat→Addr} (S:SR p.env X.c.tbl Mu' Ex' ow' σ' h) (g:Gr p.s.heap p.Mu p.Ex Mu' Ex' h) (tk:Nat):Ast X sc σ' :=
 ⟨p.A,{p.s with heap:=h,toks:=tk},p.env,Mu',Ex',ow',p.hsc,S,(lg p.k p.hm g).1,(lg p.k p.hm g).2,p.ar⟩
theorem Ast.sto {X:Wd} {sc:Scope} {σ:MEnv} (p:Ast X sc σ):∀ n,storable sc n=true→storable p.env.scope n=true:=fun _ e=>p.hsc.symm▸e
theorem SR.storedN {env:Env} {c:Cx} {Mu Ex:Addr→Prop} {ow:Nat→Addr} {σ σ':MEnv} {h h':Heap} {N:Str→Prop} (S:SR env c.tbl Mu Ex ow σ h) (R':RR env c.tbl Ex ow σ' h') (hN:∀ n,N n→storable env.scope n=true) (kf:KF N env h h') (old:∀ j e,getE σ' j=some (e,true)→getE σ j=some (e,true)) :
  SR env c.tbl Mu Ex ow σ' h'∧Gr h Mu Ex Mu Ex h' :=
 ⟨⟨R',S.mu,S.fr,fun j x e h1 h2 h3=>S.own j x e h1 h2 (old j e h3),fun j k x y e e' h1 h2 h3 h4 h5 h6 h7=>S.inj j k x y e e' h1 h2 h3 h4 (old j e h5) (old k e' h6) h7⟩,
  ⟨fun _ e=> .inl e,fun _ e=> .inl e,fun _ e _=>e,fun b o n e=>kf.kp b o (fun q=>n (q▸S.fr.1)) (fun n' sn q=>n (S.fr.2 n' b (hN n' sn) q)) e,kf.cd⟩⟩
theorem aV {σ:MEnv} {i:Nat} {d:D} {j:Nat} {e:D} (h:getE (setE σ i d false) j=some (e,true)):getE σ j=some (e,true):=by
 rcases aN h with ⟨_,q⟩ |⟨_,q⟩
 ·exact nomatch (Prod.mk.inj q).2
 ·exact q
theorem jI {σ:MEnv} {i:Nat} {d:D} {x:Bool}:setE (σ.set i none) i d x=setE σ i d x:=by
 unfold setE;rw [List.set_set]
theorem SR.freshW {env:Env} {c:Cx} {Mu Ex W:Addr→Prop} {ow:Nat→Addr} {σ:MEnv} {h h1:Heap} {i:Nat} {d:D} {v:Value} (S:SR env c.tbl Mu Ex ow σ h) (k:Kp h h1) (w1:∀ b,W b→h.get? b=none) (w2:∀ b,W b→Al h1 b) (f:FrV h h1 (fun b=>Ex b∨W b) d v) :
  ∃ a,v = .ref a∧h.get? a=none∧RR env c.tbl (fun b=>(Ex b∨W b)∨b=a) (fun j=>if j=i then a else ow j) (σ.set i none) h1∧DenV h1 (fun b=>(Ex b∨W b)∨b=a) true d v ∧
   (∀ h2 N,RR env c.tbl (fun b=>(Ex b∨W b)∨b=a) (fun j=>if j=i then a else ow j) (setE σ i d true) h2→(∀ n,N n→storable env.scope n=true)→KF N env h1 h2 →
    SR env c.tbl (fun b=>(Mu b∨W b)∨b=a) (fun b=>(Ex b∨W b)∨b=a) (fun j=>if j=i then a else ow j) (setE σ i d true) h2∧Gr h Mu Ex (fun b=>(Mu b∨W b)∨b=a) (fun b=>(Ex b∨W b)∨b=a) h2):=by
 obtain ⟨a,items,ds,rfl,hn,rfl,l,r⟩:=f
 refine ⟨a,rfl,hn,?_,⟨a,items,ds,rfl,rfl,l,r⟩,fun h2 N R2 hN kf=>⟨⟨R2,fun b hb=>hb.elim (fun e=> .inl (e.elim (fun e=> .inl (S.mu b e)) .inr)) .inr,⟨.inl (.inl S.fr.1),fun n c sn e=> .inl (.inl (S.fr.2 n c sn e))⟩,?_,?_⟩,?_⟩⟩
 ·have R1:=(S.rr.grow (W:=fun b=>W b∨b=a) k (fun b hb=>hb.elim (w1 b) fun hb=>by rw [hb];exact hn) (fun b hb=>hb.elim (w2 b) fun hb=>by rw [hb];exact PL.al l))
  rw [show (fun b=>Ex b∨(W b∨b=a))=(fun b=>(Ex b∨W b)∨b=a) from funext fun b=>propext or_assoc.symm] at R1
  have R2:=R1.weaken (σ:=σ.set i none) fun j e hj=>(eG hj).2
  exact R2.reown fun j e hj=>(if_neg (eG hj).1).symm
 ·intro j x e h1 h2 h3
  rcases aN h3 with ⟨q,_⟩ |⟨n,q⟩
  ·rw [if_pos q];exact .inr rfl
  ·rw [if_neg n];exact .inl (.inl (S.own j x e h1 h2 q))
 ·intro j k' x y e e' h1 h2 h3 h4 h5 h6 h7
  have alive:∀ j x e,c.tbl[j]? = some x→seen env.scope x=true→getE σ j=some (e,true)→ow j≠a:=fun j x e h1 h2 h3=>by
   obtain ⟨its,_,_,l',_⟩:=S.rr.own_al h1 h2 h3
   exact Al.ne (PL.al l') hn
  rcases aN h5 with ⟨q,_⟩ |⟨q,g5⟩<;>rcases aN h6 with ⟨q',_⟩ |⟨q',g6⟩
  ·exact absurd (q.trans q'.symm) h7
  ·rw [if_pos q,if_neg q'];exact (alive k' y e' h3 h4 g6).symm
  ·rw [if_neg q,if_pos q'];exact alive j x e h1 h2 g5
  ·rw [if_neg q,if_neg q'];exact S.inj j k' x y e e' h1 h2 h3 h4 g5 g6 h7
 ·refine ⟨fun b hb=>hb.elim (fun e=>e.elim .inl fun e=> .inr (w1 b e)) fun e=> .inr (by rw [e];exact hn),fun b hb=>hb.elim (fun e=>e.elim .inl fun e=> .inr (w1 b e)) fun e=> .inr (by rw [e];exact hn),fun b hb _=> .inl (.inl hb),fun b o n e=>(k b o e).then (fun o' e'=>kf.kp b o' (fun q=>n (q▸S.fr.1)) (fun n' sn q=>n (S.fr.2 n' b (hN n' sn) q)) e') kf.cd,k.cd.trans kf.cd⟩
theorem SR.fresh {env:Env} {c:Cx} {Mu Ex:Addr→Prop} {ow:Nat→Addr} {σ:MEnv} {h h1:Heap} {i:Nat} {d:D} {v:Value} (S:SR env c.tbl Mu Ex ow σ h) (k:Kp h h1) (f:FrV h h1 Ex d v) :
  ∃ a,v = .ref a∧h.get? a=none∧RR env c.tbl (fun b=>(Ex b∨False)∨b=a) (fun j=>if j=i then a else ow j) (σ.set i none) h1∧DenV h1 (fun b=>(Ex b∨False)∨b=a) true d v ∧
   (∀ h2 N,RR env c.tbl (fun b=>(Ex b∨False)∨b=a) (fun j=>if j=i then a else ow j) (setE σ i d true) h2→(∀ n,N n→storable env.scope n=true)→KF N env h1 h2 →
    SR env c.tbl (fun b=>(Mu b∨False)∨b=a) (fun b=>(Ex b∨False)∨b=a) (fun j=>if j=i then a else ow j) (setE σ i d true) h2∧Gr h Mu Ex (fun b=>(Mu b∨False)∨b=a) (fun b=>(Ex b∨False)∨b=a) h2) :=
 S.freshW (W:=fun _=>False) k (fun _ e=>e.elim) (fun _ e=>e.elim) (let ⟨a,items,ds,e1,e2,e3,l,r⟩:=f;⟨a,items,ds,e1,e2,e3,l,DenL.mono (fun _ _ _ _ e=>e) (fun _ _ n e=>n (e.imp (fun e=>e.elim id False.elim) id)) _ _ r⟩)
end Mine
set_option genSizeOf false
set_option genInjectivity false
namespace Mine
variable [Tabs] [Frk]
theorem RR.gone {env:Env} {tbl:List Str} {Ex:Addr→Prop} {ow:Nat→Addr} {σ:MEnv} {h h':Heap} {C:Addr} (R:RR env tbl Ex ow σ h) (hk:Heap.SameBut C h h') (hx:Ex C) (hl:C≠env.locals) (hc:∀ n,env.cells.lookup n≠some C)
  (hn:∀ i x d,tbl[i]? = some x→seen env.scope x=true→getE σ i=some (d,true)→ow i≠C):RR env tbl (fun b=>Ex b∧b≠C) ow σ h' :=
 R.chg (Wr:=(· = C)) (fun b o n e=>hk.extBut b o n e) (fun _ e=>e▸hx) (fun e=>hl e.symm) (fun n c e q=>hc n (q▸e)) hn (fun _ e=>e.1) (fun _ e n=>⟨e,n⟩) fun _ e q=>absurd q e.2
theorem SR.growW {env:Env} {tbl:List Str} {Mu Ex W:Addr→Prop} {ow:Nat→Addr} {σ:MEnv} {h h1:Heap} (S:SR env tbl Mu Ex ow σ h) (k:Kp h h1) (w1:∀ b,W b→h.get? b=none) (w2:∀ b,W b→Al h1 b) :
  SR env tbl (fun b=>Mu b∨W b) (fun b=>Ex b∨W b) ow σ h1∧Gr h Mu Ex (fun b=>Mu b∨W b) (fun b=>Ex b∨W b) h1 :=
 ⟨⟨S.rr.grow k w1 w2,fun b hb=>hb.elim (fun e=> .inl (S.mu b e)) .inr,⟨.inl S.fr.1,fun n c sn e=> .inl (S.fr.2 n c sn e)⟩,fun i x d h1 h2 h3=> .inl (S.own i x d h1 h2 h3),S.inj⟩,
  ⟨fun b hb=>hb.elim .inl fun e=> .inr (w1 b e),fun b hb=>hb.elim .inl fun e=> .inr (w1 b e),fun b hb _=> .inl hb,fun b o _ e=>k b o e,k.cd⟩⟩
section
variable {X:Wd} {sc:Scope}
theorem vo:SS X sc .skip (execs []):=fun σ p E σ' o Q h P=>by
 obtain ⟨rfl,rfl⟩:=Prod.mk.inj (sm h)
 exact wpAny_execs_nil (P p.s.heap p.s.toks p.Mu p.Ex p.ow p.S (Gr.refl _ _ _))
theorem yU {a b:S} {st:Stmt} {rest:List Stmt} (ha:SS X sc a (exec st)) (hb:SS X sc b (execs rest)):SS X sc (.seq a b) (execs (st :: rest)):=fun σ p E σ' o Q h P=>by
 refine ae h fun q h1 h=>wpAny_execs_cons ?_
 obtain ⟨σ1,o1⟩:=q
 cases o1 with
 |next=>exact ha σ p E σ1 .next _ h1 fun h' tk Mu' Ex' ow' S' g=>hb σ1 (p.on S' g tk) E σ' o Q h (P.from p.lt p.S.mu g)
 |brk =>
  obtain ⟨rfl,rfl⟩:=Prod.mk.inj (sm h)
  exact ha σ p E σ1 .brk _ h1 P
 |ret d =>
  obtain ⟨rfl,rfl⟩:=Prod.mk.inj (sm h)
  exact ha σ p E σ1 (.ret d) _ h1 P
theorem zf {t:T} {test:Expr} {a b:S} {body els:List Stmt} {pos:Pos} (ht:IsS X sc t test) (ha:SS X sc a (execs body)) (hb:SS X sc b (execs els)):SS X sc (.ifs t a b) (exec (.If test body els pos)):=fun σ p E σ' o Q h P=>by
 refine ae h fun x hx h=>ae h fun r htr h=> ?_
 refine wpAny_If (ht σ p.at E x r _ hx htr fun h1 tk1 k1=> ?_)
 have P:=P.from (tk1:=tk1) p.lt p.S.mu (Gr.of_kp k1 _ _)
 cases r with
 |true=>rw [if_pos rfl];exact ha σ (p.to k1 tk1) E σ' o Q h P
 |false=>rw [if_neg (by decide)];exact hb σ (p.to k1 tk1) E σ' o Q h P
theorem qP {t:T} {test:Expr} {pos:Pos} {msg:Option Expr} (ht:IsS X sc t test):SS X sc (.asrt t) (exec (.Assert test msg pos)):=fun σ p E σ' o Q h P=>by
 refine ae h fun x hx h=>ae h fun r htr h=> ?_
 cases r with
 |false=>exact ah h
 |true =>
  obtain ⟨rfl,rfl⟩:=Prod.mk.inj (sm h)
  show wpAny _ p.A (do standAt pos;if ← isTrue test p.env (eval test p.env) then pure .next else assertFails test.pos (evalOpt msg p.env)) Q E p.s
  refine wpAny_bind (wpAny_standAt (wpAny_bind (ht σ p.at E x true _ hx htr fun h1 tk1 k1=> ?_)))
  rw [if_pos rfl]
  exact wpAny_pure (P h1 tk1 p.Mu p.Ex p.ow (p.S.keep k1) (Gr.of_kp k1 _ _))
theorem yw {pos:Pos}:SS X sc .brk (exec (.Break pos)):=fun σ p E σ' o Q h P=>by
 obtain ⟨rfl,rfl⟩:=Prod.mk.inj (sm h)
 exact wpAny_Break (P p.s.heap p.s.toks p.Mu p.Ex p.ow p.S (Gr.refl _ _ _))
noncomputable abbrev Ast.Post {σ:MEnv} (p:Ast X sc σ) (σ':MEnv) (Q:Shared→Prop):Prop:=∀ h' tk Mu' Ex' ow',SR p.env X.c.tbl Mu' Ex' ow' σ' h'→Gr p.s.heap p.Mu p.Ex Mu' Ex' h'→Q {p.s with heap:=h',toks:=tk}
theorem i6 {σ:MEnv} (p:Ast X sc σ) {E:Value→Shared→Prop} {x:Str} {i:Nat} {b:Bool} {d:D} {v:Value} {h1:Heap} {tk1:Nat} {Q:Unit→Shared→Prop} (hs:storable sc x=true) (hi:X.c.tbl[i]? = some x) (k1:Kp p.s.heap h1) (hd:b=false→Den h1 p.Ex d v) (hf:b=true→FrV p.s.heap h1 p.Ex d v)
  (P:p.Post (setE σ i d b) (Q ())):wpAny (model X.P X.w) p.A (storeName p.env x v) Q E {p.s with heap:=h1,toks:=tk1}:=by
 obtain ⟨s1,s2⟩:=bu p.at.hsc hs
 cases b with
 |false =>
  refine bx (s:={p.s with heap:=h1,toks:=tk1}) (N:=fun n=>storable sc n=true) hs (b:=false) (p.S.rr.keep k1) s1 hi s2 (hd rfl) (fun e=>nomatch e) fun h2 tk2 R2 kf=> ?_
  obtain ⟨S2,g2⟩:=(p.S.keep k1).storedN R2 p.sto kf fun _ _=>aV
  exact P h2 tk2 p.Mu p.Ex p.ow S2 ((Gr.of_kp k1 _ _).trans p.lt p.S.mu g2)
 |true =>
  obtain ⟨a,rfl,hn,R1,dv,fin⟩:=p.S.fresh (i:=i) k1 (hf rfl)
  refine bx (s:={p.s with heap:=h1,toks:=tk1}) (N:=fun n=>storable sc n=true) hs (b:=true) R1 s1 hi s2 dv (fun _=>by rw [if_pos rfl]) fun h2 tk2 R2 kf=> ?_
  rw [jI] at R2
  obtain ⟨S2,g2⟩:=fin h2 _ R2 p.sto kf
  exact P h2 tk2 _ _ _ S2 g2
theorem fJ {value:Expr} {x:Str} {p:Pos} {line:Nat} {env:Env} (hb:isBadC value=false):swapsWith value (some (.Name x p)) line env=pure false∨(swapsWith value (some (.Name x p)) line env=pure true∧∃ elt gens sc' pos,value = .ListComp elt gens sc' pos):=by
 cases value with
 |ListComp elt gens sc' pos =>
  unfold swapsWith
  dsimp only
  cases (env.blockKind == .function&&env.kindOf x==some .local&&p.line==(Expr.ListComp elt gens sc' pos).pos.line && !(sc'.names.any fun (n,k)=>n==x&&(k == .local || k == .cell))) with
  |false=>exact .inl rfl
  |true=>exact .inr ⟨rfl,_,_,_,_,rfl⟩
 |SetComp elt gens sc' pos=>exact nomatch hb
 |DictComp a b gens sc' pos=>exact nomatch hb
 |_=>exact .inl rfl
theorem rc {t:T} {elt:Expr} {gens:List Comprehension} {sc':Scope} {pos':Pos} {x:Str} {i:Nat} {b:Bool} {p0:Pos} {σ:MEnv} (p:Ast X sc σ) {E:Value→Shared→Prop} {d:D} {Q:Flow→Shared→Prop} (ht:UseS X sc t (.ListComp elt gens sc' pos')) (hs:storable sc x=true) (hi:X.c.tbl[i]? = some x) (hd:ev X.G X.F σ false t=some d)
  (P:p.Post (setE σ i d b) (Q .next)) :
  wpAny (model X.P X.w) p.A (comprehension (.ListComp elt gens sc' pos') sc' p.env (firstIterPos gens pos') (newList []) (firstAsync gens) (firstIter gens p.env) (some (assign (.Name x p0) p.env))) (fun _ s'=>Q .next s') E p.s:=by
 refine ht elt gens sc' pos' rfl (some (assign (.Name x p0) p.env)) σ p.at E false d _ hd ?_
 rintro D C h5 tk5 m ys all rfl hD hC hDC k5 pl5 den5 hns5
 show wpAny _ p.A (assign (.Name x p0) p.env (.ref D)) _ E _
 have alC:Al h5 C:=let ⟨o,_,_,ho,_⟩:=hns5;⟨o,ho⟩
 have Cl:C≠p.env.locals:=fun q=>Al.ne (p.lt _ p.S.rr.own.1) hC q.symm
 have Cc:∀ n',p.env.cells.lookup n'≠some C:=fun n' q=>Al.ne (p.lt _ (p.S.rr.own.2 n' C q)) hC rfl
 have oC:∀ j y e,X.c.tbl[j]? = some y→seen p.env.scope y=true→getE σ j=some (e,true)→p.ow j≠C:=fun j y e h1 h2 h3=>let ⟨_,_,_,l,_⟩:=p.S.rr.own_al h1 h2 h3;Al.ne (PL.al l) hC
 obtain ⟨s1,s2⟩:=bu p.at.hsc hs
 refine wpAny_assign_Name ?_
 have fin:∀ (Mu' Ex':Addr→Prop) (ow':Nat→Addr) (h6:Heap) (tk6:Nat),SR p.env X.c.tbl Mu' Ex' ow' (setE σ i (.list all) b) h6→Gr p.s.heap p.Mu p.Ex Mu' Ex' h6→Ex' C→(∀ j y e,X.c.tbl[j]? = some y→seen p.env.scope y=true→getE (setE σ i (.list all) b) j=some (e,true)→ow' j≠C)→h6.Ns C m →
   (∃ m,h6.Ns C m∧∀ h',Heap.SameBut C h6 h'→Q .next {p.s with heap:=h',toks:=tk6}):=fun Mu' Ex' ow' h6 tk6 S6 g6 exC how hn6 =>
  ⟨m,hn6,fun h7 sb=>P h7 tk6 (fun b=>Mu' b∧b≠C) (fun b=>Ex' b∧b≠C) ow' ⟨S6.rr.gone sb exC Cl Cc how,fun b hb=>⟨S6.mu b hb.1,hb.2⟩,⟨⟨S6.fr.1,Ne.symm Cl⟩,fun n' c' sn e=>⟨S6.fr.2 n' c' sn e,fun q=>Cc n' (q▸e)⟩⟩,
   fun j y e h1 h2 h3=>⟨S6.own j y e h1 h2 h3,how j y e h1 h2 h3⟩,S6.inj⟩ ⟨fun b hb=>g6.mu b hb.1,fun b hb=>g6.ex b hb.1,fun b hb hn=>⟨g6.kp b hb hn,fun q=>Al.ne (p.lt b hb) hC q⟩,fun b o nb e=>(g6.keep b o nb e).thenC (fun o' e'=> .inl (sb.extBut b o' (fun q=>ah ((q▸hC:p.s.heap.get? b=none).symm.trans e)) e')) (Mine.Cc.sb (fun b o n e=>sb.extBut b o n e) (Ns.nofields hn6)),g6.cd.sbn hC (fun b o n e=>sb.extBut b o n e) (Ns.nofields hn6)⟩⟩
 have w1:∀ b,b=C→p.s.heap.get? b=none:=fun b hb=>hb▸hC
 have w2:∀ b,b=C→Al h5 b:=fun b hb=>hb▸alC
 cases b with
 |false =>
  obtain ⟨S5,g5⟩:=p.S.growW (W:=(· = C)) k5 w1 w2
  refine bx (s:={p.s with heap:=h5,toks:=tk5}) (N:=fun n=>storable sc n=true) hs (b:=false) S5.rr s1 hi s2 (d:= .list all) ⟨_,_,rfl,fun e=>e.elim (fun e=>Al.ne (p.lt _ e) hD rfl) (fun e=>hDC e),pl5,DenL.mono (fun _ _ _ _ e=>e) (fun _ _ n e=>n (.inl e)) _ _ den5⟩ (fun e=>nomatch e) fun h6 tk6 R6 kf=> ?_
  obtain ⟨S6,g6⟩:=S5.storedN R6 p.sto kf fun _ _=>aV
  exact fin _ _ p.ow h6 tk6 S6 (g5.trans p.lt p.S.mu g6) (.inr rfl) (fun j y e h1 h2 h3=>oC j y e h1 h2 (aV h3)) (Ns.gw hns5 fun o e=>kf.kp _ o Cl (fun n' _=>Cc n') e)
 |true =>
  obtain ⟨a,e1,hn,R1,dv,fin2⟩:=p.S.freshW (W:=(· = C)) (i:=i) k5 w1 w2 ⟨D,ys,all,rfl,hD,rfl,pl5,den5⟩
  obtain rfl:=Value.ref.inj e1
  refine bx (s:={p.s with heap:=h5,toks:=tk5}) (N:=fun n=>storable sc n=true) hs (b:=true) R1 s1 hi s2 dv (fun _=>by rw [if_pos rfl]) fun h6 tk6 R6 kf=> ?_
  rw [jI] at R6
  obtain ⟨S6,g6⟩:=fin2 h6 _ R6 p.sto kf
  refine fin _ _ _ h6 tk6 S6 g6 (.inl (.inr rfl)) (fun j y e h1 h2 h3=> ?_) (Ns.gw hns5 fun o e=>kf.kp _ o Cl (fun n' _=>Cc n') e)
  rcases aN h3 with ⟨q,_⟩ |⟨n,q⟩
  ·rw [if_pos q];exact hDC
  ·rw [if_neg n];exact oC j y e h1 h2 q
theorem yA {t:T} {e:Expr} {x:Str} {i:Nat} {b:Bool} {p0 pos:Pos} (ht:All X sc t e) (hs:storable sc x=true) (hi:X.c.tbl[i]? = some x) (hb:isBadC e=false):SS X sc (.asg i b t) (exec (.Assign [.Name x p0] e pos)):=fun σ p E σ' o Q h P=>by
 refine ae h fun d hd h=>eH h fun hfr h=> ?_
 obtain ⟨rfl,rfl⟩:=Prod.mk.inj (sm h)
 rcases fJ (x:=x) (p:=p0) (line:=pos.line) (env:=p.env) hb with hsw |⟨hsw,elt,gens,sc',pos',rfl⟩
 ·refine wpAny_Assign_Name (ht.vs σ p.at E false d _ hd fun v h1 tk1 k1 d1 f1=> ?_) hsw
  refine i6 p hs hi k1 (fun _=>d1) (fun hb=>f1 ?_) P
  subst hb
  rwa [Bool.true_and,Bool.not_eq_true',Bool.not_eq_false] at hfr
 ·rw [exec_Assign_Name_used _ _ _ _ hsw]
  refine wpAny_bind (wpAny_standAt (wpAny_bind ?_))
  show wpAny _ p.A (do let _ ← comprehension (.ListComp elt gens sc' pos') sc' p.env (firstIterPos gens pos') (newList []) (firstAsync gens) (firstIter gens p.env) (some (assign (.Name x p0) p.env))) _ _ p.s
  exact wpAny_bind (wpAny_mono (rc (b:=b) (p0:=p0) p ht.us hs hi hd P) (fun _ s' hq=>wpAny_pure (wpAny_pure hq)) fun _ _ e=>e)
end
end Mine
set_option genSizeOf false
set_option genInjectivity false
namespace Mine
variable [Tabs] [Frk]
theorem l6:∀ {is:List Nat} {ds:List D} {σ σ':MEnv},setAll σ is ds=some σ'→∀ j e,getE σ' j=some (e,true)→getE σ j=some (e,true):=by
 intro is
 induction is with
 |nil =>
  intro ds σ σ' h j e hj
  cases ds with
  |nil=>exact sm h▸hj
  |cons _ _=>exact ah h
 |cons i is ih =>
  intro ds σ σ' h j e hj
  cases ds with
  |nil=>exact ah h
  |cons d ds=>exact aV (ih h j e hj)
theorem j6:∀ {is:List (Nat×Bool)} {ds:List D} {σ:MEnv},is.all (fun p=> !p.2)=true→setMulti σ is ds=setAll σ (is.map (·.1)) ds:=by
 intro is
 induction is with
 |nil =>
  intro ds σ _
  cases ds<;>rfl
 |cons p is ih =>
  intro ds σ hf
  cases ds with
  |nil=>rfl
  |cons d ds =>
   refine aa hf fun h1 h2=> ?_
   show setMulti (setE σ p.1 d p.2) is ds=_
   rw [nt h1];exact ih h2
noncomputable def nameAt (env:Env) (line:Nat):Expr→Option Str
 | .Name id pos=>if env.kindOf id==some .local&&pos.line==line then some id else none
 |_=>none
theorem jd {α:Type} {c:Prop} [i:Decidable c] {a b:α} {R:Prop} (h:¬ c→b=a∨R):(if c then a else b)=a∨R:=by
 cases i with
 |isTrue hc=>exact .inl rfl
 |isFalse hc=>exact h hc
theorem eB {ts vs:List Expr} {p p':Nat} {q q':Pos} {env:Env} (hc:vs.all (constantsAlone 8)=false):swappedStores [.Tuple ts p q] (.Tuple vs p' q') env=pure none ∨
  ∃ names line,swappedStores [.Tuple ts p q] (.Tuple vs p' q') env=pure (some names)∧(ts.length=2∨ts.length=3)∧names=ts.filterMap (nameAt env line)∧names.length=ts.length∧names.eraseDups.length=names.length:=by
 unfold swappedStores
 refine jd fun h1=>jd fun h2=>jd fun h3=>jd fun h4=> .inr ⟨_,(ts.head?.map (·.pos.line)).getD 0,?_,?_,rfl,?_,?_⟩
 ·exact (if_neg h1).trans ((if_neg h2).trans ((if_neg h3).trans ((if_neg h4).trans (if_neg (by rw [hc];exact Bool.false_ne_true)))))
 ·exact iC h1 fun h1 _=>iC (by rw [h1];exact Bool.false_ne_true) fun h1 _=>(Bool.or_eq_true_iff.mp ((Bool.not_eq_false' _).mp h1)).imp beq_iff_eq.mp beq_iff_eq.mp
 ·exact iC h3 fun h _=>bne_eq_false_iff_eq.mp h
 ·exact iC h3 fun _ h=>bne_eq_false_iff_eq.mp h
section
variable {X:Wd} {sc:Scope}
theorem bK {ts:List Expr} {p:Nat} {q:Pos} {value:Expr} {line:Nat} {env:Env}:swapsWithSole [.Tuple ts p q] value line env=pure false:=by
 cases value<;>rfl
theorem cX {ts:List Expr} {tg:List Nat} {k0:Nat} {q pos:Pos} {e:Expr} {t:T} {ds:List D} {σ σ':MEnv} (p:Ast X sc σ) {E:Value→Shared→Prop} {Q:Flow→Shared→Prop}
  (ht:VS X sc t e) (hT:Tgs X.c sc ts tg) (hw:swappedStores [.Tuple ts k0 q] e p.env=pure none) (hd:ev X.G X.F σ false t=some (.tup ds)) (hset:setAll σ tg ds=some σ') (P:p.Post σ' (Q .next)):wpAny (model X.P X.w) p.A (exec (.Assign [.Tuple ts k0 q] e pos) p.env) Q E p.s:=by
 refine wpAny_Assign_stores (ht σ p.at E false _ _ hd fun v h1 tk1 k1 d1 _=> ?_) bK hw
 obtain ⟨a,items,rfl,_,l,r⟩:=d1
 show wpAny _ p.A (assign (.Tuple ts k0 q) p.env (.ref a)) _ E _
 refine cP (s:={p.s with heap:=h1,toks:=tk1}) p.ar.hd p.at.hsc hT (p.S.rr.keep k1) (TupAt.isTup l) r hset fun h2 tk2 R2 kf=> ?_
 obtain ⟨S2,g2⟩:=(p.S.keep k1).storedN R2 p.sto kf (l6 hset)
 exact P h2 tk2 p.Mu p.Ex p.ow S2 ((Gr.of_kp k1 _ _).trans p.lt p.S.mu g2)
theorem xY {ts:List Expr} {tg:List Nat} {k0:Nat} {q pos:Pos} {e:Expr} {t:T} (ht:VS X sc t e) (hT:Tgs X.c sc ts tg) (hnt:isTupE e=false):SS X sc (.unp tg t) (exec (.Assign [.Tuple ts k0 q] e pos)):=fun σ p E σ' o Q h P=>by
 refine eS h fun ds hd h=>ax h fun σ1 hset e1=> ?_
 obtain ⟨rfl,rfl⟩:=Prod.mk.inj e1
 refine cX p ht hT ?_ hd hset P
 cases e<;>first |rfl |exact nomatch hnt
theorem c8 {σ:MEnv} {i j:Nat} {d e:D} {x y:Bool} (h:i≠j):setE (setE σ i d x) j e y=setE (setE σ j e y) i d x:=by
 unfold setE;exact List.set_comm _ _ (fun q=>h q)
theorem bR {A:Around} {E:Value→Shared→Prop} {s:Shared} {env:Env} {Ex:Addr→Prop} {ow:Nat→Addr} {σ:MEnv} {x:Str} {i:Nat} {d:D} {v:Value} {Q:Unit→Shared→Prop} (hsc:env.scope=sc) (R:RR env X.c.tbl Ex ow σ s.heap) (hs:storable sc x=true) (hi:X.c.tbl[i]? = some x) (hd:Den s.heap Ex d v)
  (P:∀ h' tk,RR env X.c.tbl Ex ow (setE σ i d false) h'→KS sc env s.heap h'→Q () {s with heap:=h',toks:=tk}):wpAny (model X.P X.w) A (bindName env x v) Q E s:=by
 obtain ⟨s1,s2⟩:=bu (ScEq.self hsc) hs
 exact wpAny_bindName (bx (N:=fun x=>storable sc x=true) hs (b:=false) R s1 hi s2 hd (fun e=>nomatch e) P)
theorem jk {env:Env} {Ex:Addr→Prop} {h h':Heap} {d:D} {v:Value} (kf:KS sc env h h') (own:Ex env.locals∧∀ n c,env.cells.lookup n=some c→Ex c) (hd:Den h Ex d v):Den h' Ex d v:=Den.mono (kf.notex own) (fun _ _ n=>n) _ _ hd
theorem pQ {x y:Str} (h:[x,y].eraseDups.length=2):x≠y:=by
 rintro rfl
 simp [List.eraseDups_cons] at h
theorem mG:∀ (n:Nat) (l:List Str),l.length≤n→l.eraseDups.length≤l.length
 |_,[],_=>by simp
 |0,_ :: _,h=>by simp at h
 |n+1,a :: l,h=>by
  rw [List.eraseDups_cons,List.length_cons,List.length_cons]
  have h1:=List.length_filter_le (fun b=> !b==a) l
  have h2:=mG n (l.filter fun b=> !b==a) (by simp at h;omega)
  omega
theorem wP {x y z:Str} (h:[x,y,z].eraseDups.length=3):x≠y∧x≠z∧y≠z:=by
 rw [List.eraseDups_cons,List.length_cons] at h
 have h2:=mG _ ([y,z].filter fun b=> !b==x) (Nat.le_refl _)
 by_cases hy:y=x
 ·exfalso
  subst hy
  have:([y,z].filter fun b=> !b==y).length≤1:=by
   rw [List.filter_cons];simp only [beq_self_eq_true,Bool.not_true,Bool.false_eq_true,if_false]
   exact List.length_filter_le _ _
  omega
 ·by_cases hz:z=x
  ·exfalso
   subst hz
   have:([y,z].filter fun b=> !b==z).length≤1:=by
    simp [List.filter_cons,hy]
   omega
  ·have e:([y,z].filter fun b=> !b==x)=[y,z]:=by simp [List.filter_cons,hy,hz]
   rw [e] at h
   exact ⟨fun q=>hy q.symm,fun q=>hz q.symm,pQ (by omega)⟩
theorem mY {σ:MEnv} {s:Shared} {A:Around} {E:Value→Shared→Prop} {env:Env} {Mu Ex:Addr→Prop} {ow:Nat→Addr} {x y:Str} {i j:Nat} {d e:D} {v u:Value} {Q:Unit→Shared→Prop} (hsc:env.scope=sc) (S:SR env X.c.tbl Mu Ex ow σ s.heap) (hx:storable sc x=true) (hi:X.c.tbl[i]? = some x) (hy:storable sc y=true) (hj:X.c.tbl[j]? = some y) (hne:x≠y)
  (hv:Den s.heap Ex d v) (hu:Den s.heap Ex e u) (P:∀ h' tk,SR env X.c.tbl Mu Ex ow (setE (setE σ i d false) j e false) h'→Gr s.heap Mu Ex Mu Ex h'→Q () {s with heap:=h',toks:=tk}) :
  wpAny (model X.P X.w) A (assignInOrder ([x,y].reverse.map fun n=>bindName env n) [v,u].reverse) Q E s:=by
 have hij:i≠j:=fun q=>hne (sm (hi.symm.trans (q▸hj)))
 show wpAny _ A (do holding [v] (bindName env y u);do holding [] (bindName env x v);pure ()) Q E s
 refine wpAny_bind (wpAny_holding (bR hsc S.rr hy hj hu fun h1 tk1 R1 k1=> ?_))
 refine wpAny_bind (wpAny_holding (bR (s:={s with heap:=h1,toks:=tk1}) hsc R1 hx hi (jk k1 S.rr.own hv) fun h2 tk2 R2 k2=>wpAny_pure ?_))
 rw [c8 (Ne.symm hij)] at R2
 obtain ⟨S2,g2⟩:=S.storedN R2 (fun _ e=>hsc.symm▸e) (k1.trans k2) fun j' e' h'=>aV (aV h')
 exact P h2 tk2 S2 g2
theorem nA {σ:MEnv} {s:Shared} {A:Around} {E:Value→Shared→Prop} {env:Env} {Mu Ex:Addr→Prop} {ow:Nat→Addr} {x y z:Str} {i j l:Nat} {d e f:D} {v u r:Value} {Q:Unit→Shared→Prop} (hsc:env.scope=sc) (S:SR env X.c.tbl Mu Ex ow σ s.heap) (hx:storable sc x=true) (hi:X.c.tbl[i]? = some x) (hy:storable sc y=true) (hj:X.c.tbl[j]? = some y) (hz:storable sc z=true) (hl:X.c.tbl[l]? = some z) (hxy:x≠y) (hxz:x≠z) (hyz:y≠z)
  (hv:Den s.heap Ex d v) (hu:Den s.heap Ex e u) (hr:Den s.heap Ex f r) (P:∀ h' tk,SR env X.c.tbl Mu Ex ow (setE (setE (setE σ i d false) j e false) l f false) h'→Gr s.heap Mu Ex Mu Ex h'→Q () {s with heap:=h',toks:=tk}) :
  wpAny (model X.P X.w) A (assignInOrder ([x,y,z].reverse.map fun n=>bindName env n) [v,u,r].reverse) Q E s:=by
 have hij:i≠j:=fun q=>hxy (sm (hi.symm.trans (q▸hj)))
 have hil:i≠l:=fun q=>hxz (sm (hi.symm.trans (q▸hl)))
 have hjl:j≠l:=fun q=>hyz (sm (hj.symm.trans (q▸hl)))
 show wpAny _ A (do holding [u,v] (bindName env z r);do holding [v] (bindName env y u);do holding [] (bindName env x v);pure ()) Q E s
 refine wpAny_bind (wpAny_holding (bR hsc S.rr hz hl hr fun h1 tk1 R1 k1=> ?_))
 refine wpAny_bind (wpAny_holding (bR (s:={s with heap:=h1,toks:=tk1}) hsc R1 hy hj (jk k1 S.rr.own hu) fun h2 tk2 R2 k2=> ?_))
 refine wpAny_bind (wpAny_holding (bR (s:={s with heap:=h2,toks:=tk2}) hsc R2 hx hi (jk (k1.trans k2) S.rr.own hv) fun h3 tk3 R3 k3=>wpAny_pure ?_))
 rw [c8 (Ne.symm hjl),c8 (Ne.symm hil),c8 (Ne.symm hij)] at R3
 obtain ⟨S3,g3⟩:=S.storedN R3 (fun _ e=>hsc.symm▸e) ((k1.trans k2).trans k3) fun j' e' h'=>aV (aV (aV h'))
 exact P h3 tk3 S3 g3
inductive uD (c:Cx) (sc:Scope):List Str→List Nat→Prop where
 |nil:uD c sc [] []
 |cons {x:Str} {j:Nat} {xs:List Str} {js:List Nat}:storable sc x=true∧c.tbl[j]? = some x→uD c sc xs js→uD c sc (x :: xs) (j :: js)
theorem tT {c:Cx} {env:Env} {line:Nat} {ts:List Expr} {js:List Nat} (hT:Tgs c sc ts js):(ts.filterMap (nameAt env line)).length≤ts.length∧((ts.filterMap (nameAt env line)).length=ts.length→uD c sc (ts.filterMap (nameAt env line)) js):=by
 induction hT with
 |nil=>exact ⟨Nat.le_refl _,fun _=> .nil⟩
 | @cons x p i es is h1 h2 h3 ih =>
  rw [List.filterMap_cons]
  cases hn:nameAt env line (.Name x p) with
  |none=>exact ⟨Nat.le_succ_of_le ih.1,fun q=>absurd (q▸ih.1) (Nat.not_succ_le_self _)⟩
  |some y =>
   have hy:x=y:=gd hn fun _ q=>sm q
   exact ⟨Nat.succ_le_succ ih.1,fun q=> .cons ⟨hy▸h1,hy▸h2⟩ (ih.2 (Nat.succ.inj q))⟩
theorem nh {σ σ':MEnv} {s:Shared} {A:Around} {E:Value→Shared→Prop} {env:Env} {Mu Ex:Addr→Prop} {ow:Nat→Addr} {ts:List Expr} {js:List Nat} {ds:List D} {its:List Value} {names:List Str} {line:Nat} {Q:Unit→Shared→Prop} (hsc:env.scope=sc) (S:SR env X.c.tbl Mu Ex ow σ s.heap)
  (hT:Tgs X.c sc ts js) (r:DenL s.heap Ex ds its) (hset:setAll σ js ds=some σ') (h23:ts.length=2∨ts.length=3) (hn1:names=ts.filterMap (nameAt env line)) (hn2:names.length=ts.length) (hn3:names.eraseDups.length=names.length)
  (P:∀ h' tk,SR env X.c.tbl Mu Ex ow σ' h'→Gr s.heap Mu Ex Mu Ex h'→Q () {s with heap:=h',toks:=tk}):wpAny (model X.P X.w) A (assignInOrder (names.reverse.map fun n=>bindName env n) its.reverse) Q E s:=by
 have f:=(tT (line:=line) (env:=env) hT).2 (hn1▸hn2)
 rw [← hn1] at f
 have hlen:=d8 hset
 have hl2:js.length=2∨js.length=3:=hT.length▸h23
 cases f with
 |nil=>exact nomatch hl2
 |cons a f =>
  cases f with
  |nil=>exact nomatch hl2
  |cons b f =>
   cases f with
   |nil =>
    match ds,hlen with
    | [d,e],_ =>
     obtain ⟨v,r1,rfl,dv,u,r2,rfl,du,e3⟩:=r
     rw [show r2=[] from e3]
     obtain rfl:=sm hset
     exact mY hsc S a.1 a.2 b.1 b.2 (pQ hn3) dv du P
   |cons c f =>
    cases f with
    |cons _ _=>exact absurd hl2 (by simp)
    |nil =>
     match ds,hlen with
     | [d,e,f],_ =>
      obtain ⟨v,r1,rfl,dv,u,r2,rfl,du,w',r3,rfl,dw,e3⟩:=r
      rw [show r3=[] from e3]
      obtain rfl:=sm hset
      obtain ⟨n1,n2,n3⟩:=wP hn3
      exact nA hsc S a.1 a.2 b.1 b.2 c.1 c.2 n1 n2 n3 dv du dw P
theorem rA {ts vs:List Expr} {is:List (Nat×Bool)} {k0 k1:Nat} {q q' pos:Pos} {t:T} (ht:VS X sc (.tup t) (.Tuple vs k1 q')) (hT:Tgs X.c sc ts (is.map (·.1))) (hf:is.all (fun p=> !p.2)=true) (hc:vs.all (constantsAlone 8)=false) (hl:is.length<30) :
  SS X sc (.multi is t) (exec (.Assign [.Tuple ts k0 q] (.Tuple vs k1 q') pos)):=fun σ p E σ' o Q h P=>by
 refine eS h fun ds hd h=>gd h fun _ h=>ax h fun σ1 hset e1=> ?_
 obtain ⟨rfl,rfl⟩:=Prod.mk.inj e1
 rw [j6 hf] at hset
 have hlen:=d8 hset
 have hlt:=hT.length
 have h30:ds.length≤1048576:=by rw [← hlen,List.length_map];exact Nat.le_of_lt (Nat.lt_trans hl (by decide))
 have hd':ev X.G X.F σ false (.tup t)=some (.tup ds):=ad hd (ad rfl (ao (decide_eq_true h30) rfl))
 rcases eB (p:=k0) (q:=q) (p':=k1) (q':=q') (env:=p.env) (ts:=ts) hc with hw |⟨names,line,hw,h23,hn1,hn2,hn3⟩
 ·exact cX p ht hT hw hd' hset P
 ·rw [arm_exec_Assign]
  refine wpAny_bind (wpAny_standAt (wpAny_bind (wpAny_of_eq bK ?_)))
  rw [if_neg (by decide)]
  refine wpAny_bind (ht σ p.at E false _ _ hd' fun v h1 tk1 k1 d1 _=> ?_)
  refine wpAny_bind (wpAny_of_eq hw ?_)
  obtain ⟨a,items,rfl,_,l,r⟩:=d1
  unfold assignStores
  dsimp only
  refine wpAny_bind (wpAny_rule (wpAny_bind ?_))
  have hnl:names.length=items.size:=by rw [hn2,hlt,hlen,ak r]
  rw [hnl]
  refine wpAny_unpackItems_tuple (s:={p.s with heap:=h1,toks:=tk1}) p.ar.hd (TupAt.isTup l) fun h2 k2=> ?_
  have k12:=k1.trans (j5 k2)
  exact wpAny_bind (nh (s:={p.s with heap:=h2,toks:=tk1}) p.hsc (p.S.keep k12) hT (r.keep (j5 k2)) hset h23 hn1 hn2 hn3 fun h' tk S' g'=>wpAny_pure (P h' tk p.Mu p.Ex p.ow S' ((Gr.of_kp k12 _ _).trans p.lt p.S.mu g')))
end
end Mine
set_option genSizeOf false
set_option genInjectivity false
namespace Mine
variable [Tabs] [Frk]
theorem SR.mutOwn {env:Env} {c:Cx} {Mu Ex:Addr→Prop} {ow:Nat→Addr} {σ:MEnv} {h h':Heap} {i:Nat} {x:Str} {d0:D} {ds:List D} {items:Array Value} (S:SR env c.tbl Mu Ex ow σ h) (hi:c.tbl[i]? = some x) (hs:seen env.scope x=true) (hg:getE σ i=some (d0,true))
  (kk:∀ b o,b≠ow i→h.get? b=some o→Gw h' b o) (cd:Cd h h') (pl:h'.PlainList (ow i) items) (dl:DenL h Ex ds items.toList):SR env c.tbl Mu Ex ow (setE σ i (.list ds) true) h'∧Gr h Mu Ex Mu Ex h':=by
 obtain ⟨its0,ds0,e0,pl0,_⟩:=S.rr.own_al hi hs hg
 have muD:Mu (ow i):=S.own i x d0 hi hs hg
 have exD:Ex (ow i):=S.mu _ muD
 obtain ⟨⟨ok,nd,lt,own,m,cm,F,hv⟩,mu,fr,hown,inj⟩:=S
 obtain ⟨nl,nc⟩:=gt F pl0
 have kx:∀ b o,¬ Ex b→NT b o→h.get? b=some o→h'.get? b=some o:=fun b o n t e=>(kk b o (fun q=>n (q▸exD)) e).ob t
 have any:∀ j e,getE (setE σ i (.list ds) true) j=some (e,true)→∃ e',getE σ j=some (e',true):=fun j e hj=>(aN hj).elim (fun q=>⟨_,q.1▸hg⟩) fun q=>⟨e,q.2⟩
 refine ⟨⟨⟨ok,nd,fun b hb=> ?_,own,m,cm,⟨Ns.gw F.ns fun o e=>kk _ o nl.symm e,fun n c hc=>let ⟨o,ho,hd⟩:=F.cell n c hc;⟨o,(kk c o (fun q=>nc n (q▸hc)) ho).ob (.inl (cE hd)),hd⟩,F.offL,F.inj,F.has⟩,fun j y e b h1 h2 h3=> ?_⟩,mu,fr,fun j y e h1 h2 h3=>let ⟨e',he'⟩:=any j e h3;hown j y e' h1 h2 he',fun j k y z e e' h1 h2 h3 h4 h5 h6 h7=>let ⟨a1,ha1⟩:=any j e h5;let ⟨a2,ha2⟩:=any k e' h6;inj j k y z a1 a2 h1 h2 h3 h4 ha1 ha2 h7⟩,
  fun _ e=> .inl e,fun _ e=> .inl e,fun _ e _=>e,fun b o n e=>kk b o (fun q=>n (q▸muD)) e,cd⟩
 ·by_cases hbd:b=ow i
  ·rw [hbd];exact PL.al pl
  ·obtain ⟨o,ho⟩:=lt b hb;exact (kk b o hbd ho).al
 ·rcases aN h2 with ⟨rfl,q⟩ |⟨hji,q⟩
  ·obtain ⟨rfl,rfl⟩:=Prod.mk.inj q
   obtain rfl:=sm (hi.symm.trans h1)
   obtain ⟨v,e,dv,hw⟩:=hv j x d0 true hi hg hs
   exact ⟨v,e,⟨ow j,items,ds,hw rfl,rfl,pl,DenL.mono kx (fun _ _ n=>n) _ _ dl⟩,hw⟩
  ·obtain ⟨v,e',dv,hw⟩:=hv j y e b h1 q h3
   refine ⟨v,e',?_,hw⟩
   cases b with
   |false=>exact Den.mono kx (fun _ _ n=>n) _ _ dv
   |true =>
    obtain ⟨a,its,ds',e1,e2,l,r⟩:=dv
    exact ⟨a,its,ds',e1,e2,PL.at' l fun o t e=>(kk _ _ (Value.ref.inj (e1.symm.trans (hw rfl))▸inj j i y x _ d0 h1 h3 hi hs q hg hji) e).ob (.inl t),DenL.mono kx (fun _ _ n=>n) _ _ r⟩
theorem l5 {env:Env} {c:Cx} {Mu Ex:Addr→Prop} {ow:Nat→Addr} {σ:MEnv} {h:Heap} {i:Nat} {x:Str} {d:D} {v:Value} (S:SR env c.tbl Mu Ex ow σ h) (hi:c.tbl[i]? = some x) (hs:seen env.scope x=true) (hg:getE σ i=some (d,true)) (dv:DenV h Ex true d v) (hw:v = .ref (ow i)) :
  Gr h Mu Ex (fun b=>Mu b∧b≠ow i) (fun b=>Ex b∧b≠ow i) h∧Den h (fun b=>Ex b∧b≠ow i) d v:=by
 obtain ⟨a,items,ds,e1,rfl,l,r⟩:=dv
 obtain rfl:=Value.ref.inj (e1.symm.trans hw)
 exact ⟨⟨fun b hb=> .inl hb.1,fun b hb=> .inl hb.1,fun b hb hn=>⟨hb,fun q=>hn (q▸S.own i x _ hi hs hg)⟩,fun _ _ _ e=> .inl e,Cd.refl h⟩,ow i,items,e1,fun e=>e.2 rfl,l,DenL.mono (fun _ _ _ _ e=>e) (fun _ _ n e=>n e.1) _ _ r⟩
section
variable {X:Wd} {sc:Scope}
theorem xf {t:T} {e:Expr} {pos:Pos} (ht:VS X sc t e):SS X sc (.ret t) (exec (.Return (some e) pos)):=fun σ p E σ' o Q h P=>by
 refine ax h fun d hd e1=> ?_
 obtain ⟨rfl,rfl⟩:=Prod.mk.inj e1
 exact wpAny_Return_some (ht σ p.at E false d _ hd fun v h1 tk1 k1 d1 _=>P h1 tk1 v p.Mu p.Ex (Gr.of_kp k1 _ _) d1)
theorem vq {pos:Pos}:SS X sc (.ret (.cst .none)) (exec (.Return none pos)):=fun σ p E σ' o Q h P=>by
 obtain ⟨rfl,rfl⟩:=Prod.mk.inj (sm h)
 exact wpAny_Return_none (P p.s.heap p.s.toks .none p.Mu p.Ex (Gr.refl _ _ _) rfl)
theorem wV {x:Str} {i:Nat} {p0 pos:Pos} (hs:seen sc x=true) (hi:X.c.tbl[i]? = some x) (hd:(x==("__debug__":Str))=false) (hcd:(x==("__classdict__":Str))=false):SS X sc (.retv i) (exec (.Return (some (.Name x p0)) pos)):=fun σ p E σ' o Q h P=>by
 refine ax h fun q hg e1=> ?_
 obtain ⟨rfl,rfl⟩:=Prod.mk.inj e1
 obtain ⟨d,b⟩:=q
 have hs':seen p.env.scope x=true:=p.hsc.symm▸hs
 refine wpAny_Return_some (wpAny_Name (cY p.S.rr hs' hi hg hcd fun v dv hw=> ?_) hd)
 cases b with
 |false=>exact P p.s.heap p.s.toks v p.Mu p.Ex (Gr.refl _ _ _) dv
 |true =>
  obtain ⟨g,dd⟩:=l5 p.S hi hs' hg dv (hw rfl)
  exact P p.s.heap p.s.toks v _ _ g dd
theorem wL {op:Operator} {a b:Int} {t u:Tok} {d:D} {A:Around} {E:Value→Shared→Prop} {s:Shared} {Ex:Addr→Prop} {Q:Value→Shared→Prop} (ho:augOk op=true) (hd:binD op (.int a) (.int b)=some d) (P:Ps s Ex d false Q):wpAny (model X.P X.w) A (inplaceOp op (.int a t) (.int b u)) Q E s:=by
 cases op with
 |Add=>exact PyProof.Rows.iadd_int (P.int hd _ _)
 |Sub=>exact PyProof.Rows.isub_int (P.int hd _ _)
 |BitXor=>exact PyProof.Rows.ixor_int (P.int hd _ _)
 |_=>exact nomatch ho
theorem yj {t:T} {e:Expr} {x:Str} {i:Nat} {op:Operator} {p0 pos:Pos} (ht:VS X sc t e) (hs:storable sc x=true) (hi:X.c.tbl[i]? = some x) (hcd:(x==("__classdict__":Str))=false):SS X sc (.aug i op t) (exec (.AugAssign (.Name x p0) op e pos)):=fun σ p E σ' o Q h P=>by
 refine ae h fun q hg h=>ae h fun a ha h=>ae h fun y hy h=>ae h fun c hc h=>eH h fun ho h=>ax h fun d hd e1=> ?_
 obtain ⟨rfl,rfl⟩:=Prod.mk.inj e1
 obtain ⟨d0,b⟩:=q
 refine iC ho fun hb hq=> ?_
 obtain rfl:b=false:=hb
 refine wpAny_AugAssign_Name (cY p.S.rr (p.hsc.symm▸bh hs) hi hg hcd fun v dv _=> ?_)
 refine aI ha (Den.top dv) fun tk=> ?_
 refine ht σ p.at E true _ _ hy fun u h1 tk1 k1 d1 _=> ?_
 refine aI hc d1.top fun tk'=> ?_
 refine wL (by rw [← Bool.not_eq_false',hq]) hd (Ex:=p.Ex) fun r h2 tk2 k2 dr _=> ?_
 exact i6 (h1:=h2) (b:=false) p hs hi (k1.trans k2) (fun _=>dr) (fun e=>nomatch e) P
theorem bY {h:Heap} {l:Addr} {items:Array Value} {n:Nat} (x:h.get? l=some {cls:= .type "list",data:= .seq items n}) (f:Array Value→Array Value) :
  (h.update l (Obj.mapSeq f)).get? l=some {cls:= .type "list",data:= .seq (f items) (if (f items).size==items.size then n else n+1)}:=Heap.get?_update_self _ x rfl
theorem cR {σ:MEnv} {i:Nat} {xs:List D} {P:Prop} (h:own? σ i=some xs) (k:getE σ i=some (.list xs,true)→xs.length≤1048576→P):P :=
 ae h fun q hg h=>ae h fun ys hy h=>gd h fun hc e=>aa hc fun h1 h2=>by
  obtain ⟨d,b⟩:=q
  obtain rfl:=sm e
  obtain rfl:b=true:=h1
  revert hg
  exact bE (P:=fun d=>getE σ i=some (d,true)→P) hy fun hg=>k hg (aF h2)
theorem cM {σ:MEnv} (p:Ast X sc σ) {E:Value→Shared→Prop} {x:Str} {i:Nat} {xs:List D} {p0:Pos} {Q:Value→Shared→Prop} (hs:storable sc x=true) (hi:X.c.tbl[i]? = some x)
  (hd:(x==("__debug__":Str))=false) (hcd:(x==("__classdict__":Str))=false) (hg:getE σ i=some (.list xs,true)) (P:∀ items,p.s.heap.PlainList (p.ow i) items→DenL p.s.heap p.Ex xs items.toList→Q (.ref (p.ow i)) p.s):wpAny (model X.P X.w) p.A (eval (.Name x p0) p.env) Q E p.s:=by
 refine wpAny_Name (cY p.S.rr (p.hsc.symm▸bh hs) hi hg hcd fun v dv hw=> ?_) hd
 obtain ⟨a,items,ds,e1,e2,l,r⟩:=dv
 obtain rfl:=Value.ref.inj (e1.symm.trans (hw rfl))
 rw [e1]
 exact P items l (uE e2▸r)
theorem eY {σ:MEnv} (p:Ast X sc σ) {E:Value→Shared→Prop} {o:Expr} {m:Str} {ap cp pos:Pos} {args:List Expr} {Q:Flow→Shared→Prop} (h:wpAny (model X.P X.w) p.A (eval (.Call (.Attribute o m ap) args [] cp) p.env) (fun v s'=>v = .none∧Q .next s') E p.s) :
  wpAny (model X.P X.w) p.A (exec (.Expr (.Call (.Attribute o m ap) args [] cp) pos) p.env) Q E p.s :=
 wpAny_Expr (wpAny_mono h (fun v s' hv=>hv.1▸hv.2) fun _ _ e=>e) (by unfold interactive;rw [p.S.rr.ok.kind];rfl) rfl
theorem dO {σ:MEnv} (p:Ast X sc σ) {x:Str} {i:Nat} {d0:D} {ds:List D} {items:Array Value} {h1 h2:Heap} {tk1:Nat} {Q:Shared→Prop} (hs:storable sc x=true) (hi:X.c.tbl[i]? = some x) (hg:getE σ i=some (d0,true)) (k1:Kp p.s.heap h1) (sb:Heap.SameBut (p.ow i) h1 h2) (pl:h2.PlainList (p.ow i) items) (dl:DenL h1 p.Ex ds items.toList)
  (P:p.Post (setE σ i (.list ds) true) Q):Q {p.s with heap:=h2,toks:=tk1}:=by
 obtain ⟨its0,ds0,e0,pl0,_⟩:=(p.S.keep k1).rr.own_al hi (p.hsc.symm▸bh hs) hg
 have kk:∀ b o,b≠p.ow i→h1.get? b=some o→h2.get? b=some o:=fun b o n e=>sb.extBut b o n e
 obtain ⟨S2,g2⟩:=(p.S.keep k1).mutOwn hi (p.hsc.symm▸bh hs) hg (fun b o n e=> .inl (kk b o n e)) (Cd.sb kk (PL.nofields pl0) fun d=>absurd d (PL.nodt pl0)) pl dl
 exact P h2 tk1 p.Mu p.Ex p.ow S2 ((Gr.of_kp k1 _ _).trans p.lt p.S.mu g2)
theorem jS {e:Expr} {env:Env} {cp:Pos} (hst:∀ rest env,starEach (e :: rest) env=(false,eval e env) :: starEach rest env):backTo cp (starEach [e] env)=[(false,eval e env)]:=by rw [hst];rfl
theorem yr {t:T} {e:Expr} {x:Str} {i:Nat} {p0 ap cp pos:Pos} (al:All X sc t e) (hs:storable sc x=true) (hi:X.c.tbl[i]? = some x) (hd:(x==("__debug__":Str))=false) (hcd:(x==("__classdict__":Str))=false) (hl:(ap.endLine==cp.line)=true) :
  SS X sc (.app i t) (exec (.Expr (.Call (.Attribute (.Name x p0) appendS ap) [e] [] cp) pos)):=fun σ p E σ' o Q h P=>by
 refine ae h fun xs ho h=>ax h fun d he e0=>cR ho fun hg hsz=> ?_
 obtain ⟨rfl,rfl⟩:=Prod.mk.inj e0
 have e1:=jS (env:=p.env) (cp:=cp) al.st
 refine eY p (wpAny_Call_method_lateS rfl (by rw [e1];rfl) hl (cM p hs hi hd hcd hg fun items l r=> ?_))
 obtain ⟨n0,l0⟩:=l
 refine ⟨"list","list.append",PySem.F.plainAttrs_list,PySem.F.slot_list_append,PySem.F.type_list_append,⟨_,l0,rfl⟩,fun a e=>⟨_,Value.ref.inj e▸l0,rfl⟩,?_⟩
 rw [e1]
 refine PySem.Calls.callWith_builtin rfl (PySem.Calls.evalArgs_plain (PySem.Calls.spliced_cons (al.vs σ p.at E false d _ he fun v h1 tk1 k1 d1 _=>PySem.Calls.spliced_nil ?_)))
 have l1:h1.PlainList (p.ow i) items:=⟨n0,k1.ob l0 (.inl rfl)⟩
 exact wpAny_list_append_plain (s:={p.s with heap:=h1,toks:=tk1}) (hsz:=ak r▸bP hsz) l1 fun h2 l2 sb=>⟨rfl,dO p hs hi hg k1 sb l2 (by rw [Array.toList_push];exact (r.keep k1).append (.single d1)) P⟩
theorem yg {t:T} {e:Expr} {x:Str} {i:Nat} {p0 ap cp pos:Pos} (al:All X sc t e) (hs:storable sc x=true) (hi:X.c.tbl[i]? = some x) (hd:(x==("__debug__":Str))=false) (hcd:(x==("__classdict__":Str))=false) (hl:(ap.endLine==cp.line)=true) :
  SS X sc (.ext i t) (exec (.Expr (.Call (.Attribute (.Name x p0) extendS ap) [e] [] cp) pos)):=fun σ p E σ' o Q h P=>by
 refine ae h fun xs ho h=>ae h fun y he h=>ae h fun ys hys h=>gd h fun hy e0=>cR ho fun hg hsz=> ?_
 obtain ⟨rfl,rfl⟩:=Prod.mk.inj (sm e0)
 have e1:=jS (env:=p.env) (cp:=cp) al.st
 refine eY p (wpAny_Call_method_lateS rfl (by rw [e1];rfl) hl (cM p hs hi hd hcd hg fun items l r=> ?_))
 obtain ⟨n0,l0⟩:=l
 refine ⟨"list","list.extend",PySem.F.plainAttrs_list,PySem.F.slot_list_extend,PySem.F.type_list_extend,⟨_,l0,rfl⟩,fun a e=>⟨_,Value.ref.inj e▸l0,rfl⟩,?_⟩
 rw [e1]
 refine PySem.Calls.callWith_builtin rfl (PySem.Calls.evalArgs_plain (PySem.Calls.spliced_cons (al.vs σ p.at E false _ _ he fun v h1 tk1 k1 d1 _=>PySem.Calls.spliced_nil ?_)))
 have dt:=DenR.top d1
 refine dW hys dt fun a its2 l2 r2=> ?_
 obtain ⟨n2,l2⟩:=l2
 have l1:h1.get? (p.ow i)=some {cls:= .type "list",data:= .seq items n0}:=k1.ob l0 (.inl rfl)
 have z:=lA hsz (aF hy) (ak r) (ak r2)
 refine call_meets PySem.F.slot_list_extend ⟨_,l1,rfl⟩ PySem.F.entry_list_extend (PySem.F.args_list_extend_2 _ _) (AutoSeq1.list_extend_list_list_0 (p.ow i) items n0 a its2 n2 (by simp [Builtin.List.listTooLong,sizeLine_eq];omega) (by rw [sizeLine_eq];omega) (by rw [sizeLine_eq];omega)) ⟨l1,l2,rfl,?_⟩
 exact dO p hs hi hg k1 (Heap.SameBut.update ..) ⟨_,bY l1 (fun x=>x++its2)⟩ (by rw [Array.toList_append];exact (r.keep k1).append r2) P
theorem wJ {x:Str} {i:Nat} {p0 ap cp pos:Pos} (hs:storable sc x=true) (hi:X.c.tbl[i]? = some x) (hd:(x==("__debug__":Str))=false) (hcd:(x==("__classdict__":Str))=false) (hl:(ap.endLine==cp.line)=true) :
  SS X sc (.revm i) (exec (.Expr (.Call (.Attribute (.Name x p0) reverseS ap) [] [] cp) pos)):=fun σ p E σ' o Q h P=>by
 refine ax h fun xs ho e0=>cR ho fun hg hsz=> ?_
 obtain ⟨rfl,rfl⟩:=Prod.mk.inj e0
 refine eY p (wpAny_Call_method_lateS rfl rfl hl (cM p hs hi hd hcd hg fun items l r=> ?_))
 obtain ⟨n0,l0⟩:=l
 refine ⟨"list","list.reverse",PySem.F.plainAttrs_list,PySem.F.slot_list_reverse,PySem.F.type_list_reverse,⟨_,l0,rfl⟩,fun a e=>⟨_,Value.ref.inj e▸l0,rfl⟩,?_⟩
 refine PySem.Calls.callWith_builtin rfl (PyProof.Rows.evalArgs_none ?_)
 refine call_meets PySem.F.slot_list_reverse ⟨_,l0,rfl⟩ PySem.F.entry_list_reverse (PySem.F.args_list_reverse_1 _) (AutoListH.list_reverse_list_0 (p.ow i) items n0 (ak r▸bP hsz)) ⟨l0,rfl,?_⟩
 exact dO p hs hi hg (Kp.refl _) (Heap.SameBut.update ..) ⟨_,bY l0 (fun x=>x.reverse)⟩ (by rw [Array.toList_reverse];exact r.reverse) P
theorem tj {j:Int} (h : -(2 ^ 63:Int)≤j∧j<2 ^ 63):Builtin.List.listFitsIndex j=true:=by
 unfold Builtin.List.listFitsIndex
 simp only [Bool.and_eq_true,decide_eq_true_eq]
 exact h
theorem xT {t:T} {e:Expr} {x:Str} {i:Nat} {p0 sp pos:Pos} (ht:VS X sc t e) (hs:storable sc x=true) (hi:X.c.tbl[i]? = some x) (hd:(x==("__debug__":Str))=false) (hcd:(x==("__classdict__":Str))=false) :
  SS X sc (.del i t) (exec (.Delete [.Subscript (.Name x p0) e sp] pos)):=fun σ p E σ' o Q h P=>by
 refine ae h fun xs ho h=>ae h fun y he h=>ae h fun j hj h=>cR ho fun hg hsz=> ?_
 have key:∀ q:Nat,seqIndex? j xs.length=some q→(-(2 ^ 63:Int)≤j∧j<2 ^ 63)→p.Post (setE σ i (.list (xs.eraseIdx q)) true) (Q .next)→wpAny (model X.P X.w) p.A (exec (.Delete [.Subscript (.Name x p0) e sp] pos) p.env) Q E p.s:=fun q hq hb P=>by
  refine wpAny_Delete ?_
  rw [arm_deleteEach_cons,arm_deleteEach_nil]
  refine wpAny_bind ?_
  show wpAny _ p.A (do let ov ← eval (.Name x p0) p.env;let iv ← holding [ov] (eval e p.env);standAt sp;holding [ov,iv] (delItem ov iv);release [ov,iv] []) _ _ p.s
  refine wpAny_bind (cM p hs hi hd hcd hg fun items l r=> ?_)
  refine wpAny_bind (wpAny_holding (ht σ p.at E true _ _ he fun v h1 tk1 k1 d1 _=> ?_))
  have dt:=DenR.top d1
  refine aI hj dt fun tk=> ?_
  obtain ⟨n0,l0⟩:=l
  have l1:h1.get? (p.ow i)=some {cls:= .type "list",data:= .seq items n0}:=k1.ob l0 (.inl rfl)
  refine wpAny_bind (wpAny_standAt (wpAny_bind (wpAny_holding ?_)))
  refine PySem.P.delItem_list (s:={p.s with heap:=h1,toks:=tk1}) (n:=n0) l1 (tj hb) (by rw [ak r];exact hq) ?_ (ak r▸bP hsz)
  refine wpAny_release (wpAny_pure ?_)
  exact dO p hs hi hg k1 (Heap.SameBut.update ..) ⟨_,bY l1 (fun xs=>xs.eraseIdxIfInBounds q)⟩ (by rw [show (items.eraseIdxIfInBounds q).toList=items.toList.eraseIdx q by simp];exact (r.keep k1).erase) P
 by_cases hc:(decide (0≤j)&&decide (j<xs.length))=true
 ·rw [if_pos hc] at h
  obtain ⟨rfl,rfl⟩:=Prod.mk.inj (sm h)
  exact aa hc fun h1 h2=>key j.toNat (mi (de h1) ((Int.toNat_lt (de h1)).mpr (de h2))) (iB (de h1) (de h2) hsz) P
 ·rw [if_neg hc] at h
  refine gd h fun hc h=>aa hc fun h1 h2=> ?_
  obtain ⟨rfl,rfl⟩:=Prod.mk.inj (sm h)
  obtain rfl:=de h1
  have h2:=de h2
  refine key (xs.length - 1) ?_ (by decide) P
  rw [mr (by decide) (by omega)]
  congr 1;omega
end
end Mine
set_option genSizeOf false
set_option genInjectivity false
namespace Mine
variable [Tabs] [Frk]
section
variable {prog:Program} {w:World} {A:Around} {E:Value→Shared→Prop} {s:Shared}
theorem eC {l:Addr} {items:Array Value} {n:Nat} {q:Int} {t:Tok} {v:Value} {Q:Unit→Shared→Prop} (ho:s.heap.get? l=some {cls:= .type "list",data:= .seq items n}) (h0:0≤q) (hn:q<items.size) (hfit:q<2 ^ 63)
  (hQ:Q () {s with heap:=s.heap.update l (Obj.mapSeq fun x=>x.setIfInBounds q.toNat v)}):wpAny (model prog w) A (setItem (.ref l) (.int q t) v) Q E s:=by
 have hl:s.heap.IsList l items:=⟨_,ho,rfl,n,rfl⟩
 unfold setItem
 try with_reducible refine wpAny_holding ?_
 first |refine wpAny_bind (wpAny_pure ?_) |skip
 refine wpAny_bind (wpAny_sequenceKey hl.typeIs (by decide) ?_)
 refine wpAny_bind (wpAny_callSpecial?_slot (name:=Str.ofString "__setitem__") hl.typeIs slot_list_setitem
  (wpAny_call_entry slot_list_setitem hl.typeIs entry_list_setitem ?_ (args_list_setitem _ _ _)))
 show wpAny _ _ (Builtin.List.listSubscript? (.int q t) >>= _) _ _ s
 refine wpAny_bind (wpAny_listSubscript_int (fitsIndex_of h0 hfit) ?_)
 clear hfit
 obtain ⟨k,rfl⟩:=Int.eq_ofNat_of_zero_le h0
 have hj:k<items.size:=Int.ofNat_lt.mp hn
 have hx:items[k]? = some items[k]:=Array.getElem?_eq_getElem hj
 rw [Int.toNat_natCast] at hQ
 show wpAny _ _ ((seqItemAt l k >>= fun r=>pure (r.map (k,·))) >>= _) _ _ s
 refine wpAny_bind (wpAny_bind (wpAny_seqItemAt ho rfl (wpAny_pure ?_)))
 rw [hx]
 show wpAny _ _ (setSeqItemAt l k v >>= _) _ _ s
 refine wpAny_bind (wpAny_setSeqItemAt ho rfl ?_)
 first
  |exact wpAny_bind (wpAny_pure (wpAny_pure ⟨.none,rfl,wpAny_pure hQ⟩))
  |exact wpAny_pure ⟨.none,rfl,wpAny_pure hQ⟩
end
section
variable {X:Wd} {sc:Scope}
theorem vd {tk tv:T} {ek e:Expr} {x:Str} {i:Nat} {p0 sp pos:Pos} (hk:VS X sc tk ek) (hv:VS X sc tv e) (hs:storable sc x=true) (hi:X.c.tbl[i]? = some x) (hd:(x==("__debug__":Str))=false) (hcd:(x==("__classdict__":Str))=false) :
  SS X sc (.seti i tk tv) (exec (.Assign [.Subscript (.Name x p0) ek sp] e pos)):=fun σ p E σ' o Q h P=>by
 refine ae h fun xs ho h=>ae h fun y hy h=>ae h fun j hj h=>ae h fun d hdv h=>gd h fun hc h=>cR ho fun hg hsz=>aa hc fun c1 c2=> ?_
 obtain ⟨rfl,rfl⟩:=Prod.mk.inj (sm h)
 have hsw:swapsWith e (some (.Subscript (.Name x p0) ek sp)) pos.line p.env=pure false:=by cases e<;>rfl
 refine wpAny_Assign_Subscript (hv σ p.at E false d _ hdv fun v h1 tk1 k1 d1 _=>cM (p.to k1 tk1) hs hi hd hcd hg fun items l r=>hk σ (p.to k1 tk1).at E true _ _ hy fun u h2 tk2 k2 d2 _=> ?_) hsw
 have dt:=DenR.top d2
 refine aI hj dt fun tu=> ?_
 obtain ⟨n0,l0⟩:=l
 have l1:h2.get? (p.ow i)=some {cls:= .type "list",data:= .seq items n0}:=k2.ob l0 (.inl rfl)
 refine eC (s:={p.s with heap:=h2,toks:=tk2}) l1 (de c1) (ak r▸de c2) (iB (de c1) (de c2) hsz).2 ?_
 exact dO p hs hi hg (k1.trans k2) (Heap.SameBut.update ..) ⟨_,bY l1 (fun xs=>xs.setIfInBounds j.toNat v)⟩ (by rw [show (items.setIfInBounds j.toNat v).toList=items.toList.set j.toNat v by simp];exact (r.keep k2).set (Den.keep k2 d1)) P
end
theorem SR.vis {env:Env} {c:Cx} {Mu Ex:Addr→Prop} {ow:Nat→Addr} {σ σ':MEnv} {h:Heap} (S:SR env c.tbl Mu Ex ow σ h) (hw:∀ j x e,c.tbl[j]? = some x→seen env.scope x=true→getE σ' j=some e→getE σ j=some e):SR env c.tbl Mu Ex ow σ' h:=by
 obtain ⟨⟨ok,nd,lt,own,m,cm,F,hv⟩,mu,fr,hown,inj⟩:=S
 exact ⟨⟨ok,nd,lt,own,m,cm,F,fun i x d b h1 h2 h3=>hv i x d b h1 (hw i x _ h1 h3 h2) h3⟩,mu,fr,fun i x d h1 h2 h3=>hown i x d h1 h2 (hw i x _ h1 h2 h3),fun i j x y d e h1 h2 h3 h4 h5 h6=>inj i j x y d e h1 h2 h3 h4 (hw i x _ h1 h2 h5) (hw j y _ h3 h4 h6)⟩
theorem SR.freeze {env:Env} {c:Cx} {Mu Ex:Addr→Prop} {ow:Nat→Addr} {σ:MEnv} {h:Heap} (S:SR env c.tbl Mu Ex ow σ h) (t:T):∃ Mu1 Ex1,SR env c.tbl Mu1 Ex1 ow (Mine.freeze σ t) h∧Gr h Mu Ex Mu1 Ex1 h:=by
 have same:∀ {σ'},SR env c.tbl Mu Ex ow σ' h→∃ Mu1 Ex1,SR env c.tbl Mu1 Ex1 ow σ' h∧Gr h Mu Ex Mu1 Ex1 h:=fun S=>⟨Mu,Ex,S,Gr.refl _ _ _⟩
 cases t with
 |var i =>
  show ∃ Mu1 Ex1,SR env c.tbl Mu1 Ex1 ow ((getE σ i).elim σ fun p=>setE σ i p.1 false) h∧Gr h Mu Ex Mu1 Ex1 h
  cases hg:getE σ i with
  |none=>exact same S
  |some p =>
   obtain ⟨d,b⟩:=p
   show ∃ Mu1 Ex1,SR env c.tbl Mu1 Ex1 ow (setE σ i d false) h∧Gr h Mu Ex Mu1 Ex1 h
   by_cases hx:b=true∧∃ x,c.tbl[i]? = some x∧seen env.scope x=true
   ·obtain ⟨rfl,x,hi,hs⟩:=hx
    obtain ⟨its0,ds0,e0,pl0,_⟩:=S.rr.own_al hi hs hg
    obtain ⟨⟨ok,nd,lt,own,m,cm,F,hv⟩,mu,fr,hown,inj⟩:=id S
    obtain ⟨v,e,dv,hw⟩:=hv i x d true hi hg hs
    obtain ⟨g,dd⟩:=l5 S hi hs hg dv (hw rfl)
    obtain ⟨nl,nc⟩:=gt F pl0
    have ne:∀ j y e',c.tbl[j]? = some y→seen env.scope y=true→getE (setE σ i d false) j=some (e',true)→ow j≠ow i:=fun j y e' h1 h2 h3=>by
     rcases aN h3 with ⟨_,q⟩ |⟨hji,q⟩
     ·exact nomatch (Prod.mk.inj q).2
     ·exact inj j i y x e' d h1 h2 hi hs q hg hji
    refine ⟨_,_,⟨⟨ok,nd,fun b hb=>lt b hb.1,⟨⟨own.1,nl.symm⟩,fun n c e=>⟨own.2 n c e,fun q=>nc n (q▸e)⟩⟩,m,cm,F,fun j y e' b' h1 h2 h3=> ?_⟩,fun b hb=>⟨mu b hb.1,hb.2⟩,⟨⟨fr.1,nl.symm⟩,fun n c sn e=>⟨fr.2 n c sn e,fun q=>nc n (q▸e)⟩⟩,fun j y e' h1 h2 h3=>⟨hown j y e' h1 h2 (aV h3),ne j y e' h1 h2 h3⟩,fun j k y z e1 e2 h1 h2 h3 h4 h5 h6 h7=>inj j k y z e1 e2 h1 h2 h3 h4 (aV h5) (aV h6) h7⟩,g⟩
    rcases aN h2 with ⟨rfl,q⟩ |⟨_,q⟩
    ·obtain ⟨rfl,rfl⟩:=Prod.mk.inj q
     obtain rfl:=sm (hi.symm.trans h1)
     exact ⟨v,e,dd,fun q=>nomatch q⟩
    ·obtain ⟨u,e1,du,hu⟩:=hv j y e' b' h1 q h3
     refine ⟨u,e1,?_,hu⟩
     cases b' with
     |false=>exact Den.mono (fun _ _ _ _ e=>e) (fun _ _ n e=>n e.1) _ _ du
     |true =>
      obtain ⟨a,items,ds,e1,e2,l,r⟩:=du
      exact ⟨a,items,ds,e1,e2,l,DenL.mono (fun _ _ _ _ e=>e) (fun _ _ n e=>n e.1) _ _ r⟩
   ·refine same (S.vis fun j x e h1 h2 h3=> ?_)
    rcases aN h3 with ⟨rfl,q⟩ |⟨_,q⟩
    ·cases b with
     |false=>exact q▸hg
     |true=>exact absurd ⟨rfl,x,h1,h2⟩ hx
    ·exact q
 |_=>exact same S
end Mine
set_option genSizeOf false
set_option genInjectivity false
namespace Mine
variable [Tabs] [Frk]
theorem fR {σ σ':MEnv} {tg:List Nat} {one:Bool} {d:D} (h:bindT σ tg one d=some σ'):∀ j e,getE σ' j=some (e,true)→getE σ j=some (e,true):=by
 cases one with
 |true=>exact ax (show (one? tg).map (fun i=>setE σ i d false)=some σ' from h) fun i _ e j _ hj=>aV (e▸hj)
 |false=>exact ae (show d.tup?.bind (fun ds=>setAll σ tg ds)=some σ' from h) fun ds _ h=>l6 h
structure Lp (X:Wd) (sc:Scope) (σ:MEnv) where
 p:Ast X sc σ
 target:Expr
 tg:List Nat
 one:Bool
 I:Addr
 xs:List D
 Fp:Addr→Prop
 Wr:Addr→Prop
 It:Heap→(Addr→Prop)→Prop
 St:Nat→Heap→Prop
 tn:Turns X.P X.w p.A X.c sc target tg one I xs Fp Wr It St
 wnew:∀ b,Wr b→p.s.heap.get? b=none
structure Lp.Inv {X:Wd} {sc:Scope} {σ:MEnv} (L:Lp X sc σ) (i:Nat) (H:Heap) (Mu Ex:Addr→Prop) (ow:Nat→Addr) (ρ:MEnv):Prop where
 st:L.St i H
 it:L.It H Ex
 S:SR L.p.env X.c.tbl Mu Ex ow ρ H
 g:Gr L.p.s.heap L.p.Mu L.p.Ex Mu Ex H
 wx:∀ b,L.Wr b→Ex b
 fm:∀ b,L.Fp b→¬ Mu b
section
variable {X:Wd} {sc:Scope} {σ:MEnv}
theorem Lp.Inv.later {L:Lp X sc σ} {i:Nat} {h h':Heap} {Mu Ex Mu' Ex':Addr→Prop} {ow ow':Nat→Addr} {ρ ρ':MEnv} (v:L.Inv i h Mu Ex ow ρ) (S:SR L.p.env X.c.tbl Mu' Ex' ow' ρ' h') (g:Gr h Mu Ex Mu' Ex' h'):L.Inv i h' Mu' Ex' ow' ρ' :=
 ⟨L.tn.frameK v.st fun b o hb t e=>(g.keep b o (v.fm b hb) e).ob t,L.tn.items _ _ _ _ v.it (fun b o n t e=>(g.keep b o (fun q=>n (v.S.mu b q)) e).ob t) (fun b hb n e=>(g.ex b e).elim n fun q=>Al.ne hb q rfl),S,v.g.trans L.p.lt L.p.S.mu g,fun b hb=>g.kp b (v.wx b hb) (v.fm b (L.tn.sub b hb)),
  fun b hb hm=>(g.mu b hm).elim (v.fm b hb) fun q=>let ⟨o,ho,_⟩:=L.tn.kinds _ _ b v.st hb;nomatch ho.symm.trans q⟩
theorem Lp.next (L:Lp X sc σ) {i:Nat} {H:Heap} {tk:Nat} {Mu Ex:Addr→Prop} {ow:Nat→Addr} {ρ ρ':MEnv} {d:D} {Q:Unit→Shared→Prop} {E E':Value→Shared→Prop} (v:L.Inv i H Mu Ex ow ρ) (hx:L.xs[i]? = some d) (hb:bindT ρ L.tg L.one d=some ρ')
  (P:∀ h' tk',L.Inv (i+1) h' Mu Ex ow ρ'→Q () {L.p.s with heap:=h',toks:=tk'}) :
  wpAny (model X.P X.w) L.p.A (pyNext (.ref L.I)) (fun r s₁=>∃ v,r=some v∧wpAny (model X.P X.w) L.p.A (letOwnedTupleGo L.target (.ref L.I) v) (fun _ s₂=>wpAny (model X.P X.w) L.p.A (assign L.target L.p.env v) Q E' s₂) E' s₁) E {L.p.s with heap:=H,toks:=tk} :=
 L.tn.next i d {L.p.s with heap:=H,toks:=tk} L.p.env Ex ow ρ ρ' Q E E' L.p.at.hsc hx v.st v.it v.wx v.S.rr hb fun h3 tk3 st3 it3 R3 kp3 cd3=>P h3 tk3
  ⟨st3,it3,⟨R3,v.S.mu,v.S.fr,fun j y e h1 h2 h3=>v.S.own j y e h1 h2 (fR hb j e h3),fun j k y z e e' h1 h2 h3 h4 h5 h6 h7=>v.S.inj j k y z e e' h1 h2 h3 h4 (fR hb j e h5) (fR hb k e' h6) h7⟩,
   ⟨v.g.mu,v.g.ex,v.g.kp,fun b o nb e=>(v.g.keep b o nb e).then (fun o' e'=>kp3 b o' (fun q=>ah ((L.wnew b q).symm.trans e)) (fun q=>nb (q▸L.p.S.fr.1)) (fun n' sn q=>nb (L.p.S.fr.2 n' b (L.p.sto n' sn) q)) e') cd3,v.g.cd.trans cd3⟩,v.wx,v.fm⟩
theorem Lp.done (L:Lp X sc σ) {H:Heap} {tk:Nat} {Mu Ex:Addr→Prop} {ow:Nat→Addr} {ρ:MEnv} {Q:Shared→Prop} {E:Value→Shared→Prop} (v:L.Inv L.xs.length H Mu Ex ow ρ) (P:L.p.Post ρ Q) :
  wpAny (model X.P X.w) L.p.A (pyNext (.ref L.I)) (fun r s₁=>r=none∧Q s₁) E {L.p.s with heap:=H,toks:=tk} :=
 L.tn.done {L.p.s with heap:=H,toks:=tk} Q E v.st fun h3 tk3 kp3=>by
  have wk:∀ b,L.Wr b→∃ o,H.get? b=some o∧IsFields o:=fun b hb=>Knd.fld (L.tn.kinds _ _ b v.st (L.tn.sub b hb)) fun q=>q hb
  exact P h3 tk3 Mu (fun b=>Ex b∧¬ L.Wr b) ow ⟨v.S.rr.drop kp3 v.wx wk,fun b hb=>⟨v.S.mu b hb,fun q=>v.fm b (L.tn.sub b q) hb⟩,v.S.fr,v.S.own,v.S.inj⟩
   ⟨v.g.mu,fun b hb=>v.g.ex b hb.1,fun b hb hn=>⟨v.g.kp b hb hn,fun q=>Al.ne (L.p.lt b hb) (L.wnew b q) rfl⟩,fun b o nb e=>(v.g.keep b o nb e).then (fun o' e'=> .inl (kp3 b o' (fun q=>ah ((L.wnew b q).symm.trans e)) e')) (L.tn.cdW v.st kp3),v.g.cd.trans (L.tn.cdW v.st kp3)⟩
noncomputable def flowP (R:Result→Shared→Prop) (N:Shared→Prop):Flow→Shared→Prop
 | .next,s=>N s
 | .cont,s=>N s
 | .brk,s=>R (.ok .next) s
 | .ret v,s=>R (.ok (.ret v)) s
noncomputable def aftP (L:Lp X sc σ) (R:Result→Shared→Prop) (W:Shared→Prop) (ρ:MEnv):Out→Prop
 | .next=>L.p.Post ρ W
 | .brk=>L.p.Post ρ (R (.ok .next))
 | .ret d=>∀ h' tk v Mu' Ex',Gr L.p.s.heap L.p.Mu L.p.Ex Mu' Ex' h'→Den h' Ex' d v→R (.ok (.ret v)) {L.p.s with heap:=h',toks:=tk}
noncomputable def lpf (X:Wd) (sb:S) (tg:List Nat) (one:Bool):MEnv→D→Option (MEnv×Out):=fun σ d=>(bindT σ tg one d).bind fun σ'=>ex X.G X.F σ' sb
noncomputable def Lp.Go (L:Lp X sc σ) (sb:S) (r:MEnv×Out) (nn:Nat) (s':Shared):Prop:=∃ H tk i Mui Exi owi σi,s' = {L.p.s with heap:=H,toks:=tk}∧i≤L.xs.length∧nn=L.xs.length+1 - i∧L.Inv i H Mui Exi owi σi∧loopL (lpf X sb L.tg L.one) σi (L.xs.drop i)=some r
noncomputable def Lp.Er (L:Lp X sc σ) (R:Result→Shared→Prop):Value→Shared→Prop:=notedBy (model X.P X.w) L.p.A L.p.env fun e s'=>R (.error e) s'
theorem Lp.end (L:Lp X sc σ) {R:Result→Shared→Prop} {W:Shared→Prop} {sb:S} {r:MEnv×Out} (aft:aftP L R W r.1 r.2) {i:Nat} {h3:Heap} {tk3:Nat} {Mu3 Ex3:Addr→Prop} {ow3:Nat→Addr} {σ3 σ4:MEnv} {o4:Out} (hlt:i<L.xs.length) (v3:L.Inv (i+1) h3 Mu3 Ex3 ow3 σ3)
  (hli:cond o4.isNext (loopL (lpf X sb L.tg L.one) σ4 (L.xs.drop (i+1))) (some (σ4,o4))=some r):SPost {L.p.s with heap:=h3,toks:=tk3} L.p.env X.c.tbl Mu3 Ex3 σ4 o4 (flowP R fun s₃=>∃ m,m<L.xs.length+1 - i∧L.Go sb r m s₃):=by
 cases o4 with
 |next=>exact fun h4 tk4 Mu4 Ex4 ow4 S4 g4=>⟨L.xs.length+1 - (i+1),Nat.sub_lt_sub_left (Nat.lt_succ_of_lt hlt) (Nat.lt_succ_self i),h4,tk4,i+1,Mu4,Ex4,ow4,σ4,rfl,hlt,rfl,v3.later S4 g4,hli⟩
 |brk =>
  obtain rfl:=sm hli
  exact fun h4 tk4 Mu4 Ex4 ow4 S4 g4=>aft h4 tk4 Mu4 Ex4 ow4 S4 (v3.g.trans L.p.lt L.p.S.mu g4)
 |ret d =>
  obtain rfl:=sm hli
  exact fun h4 tk4 v Mu4 Ex4 g4 hd=>aft h4 tk4 v Mu4 Ex4 (v3.g.trans L.p.lt L.p.S.mu g4) hd
theorem Lp.run {R:Result→Shared→Prop} (L:Lp X sc σ) {sb:S} {body els:List Stmt} {r:MEnv×Out} (hb:SS X sc sb (execs body))
  (aft:aftP L R (fun s₁=>wpAny (model X.P X.w) L.p.A (execs els L.p.env) (fun f s₃=>R (.ok f) s₃) (notedBy (model X.P X.w) L.p.A L.p.env fun e s'=>R (.error e) s') s₁) r.1 r.2) {H:Heap} {tk:Nat} {Mu Ex:Addr→Prop} {ow:Nat→Addr} {ρ:MEnv} (v0:L.Inv 0 H Mu Ex ow ρ)
  (hl:loopL (lpf X sb L.tg L.one) ρ L.xs=some r):codeAny (model X.P X.w) L.p.A (.forLoop L.target (.ref L.I) body els L.p.env) R {L.p.s with heap:=H,toks:=tk}:=by
 refine codeAny_forLoop_any (L.Go sb r) ?_ (L.xs.length+1) ⟨H,tk,0,Mu,Ex,ow,ρ,rfl,Nat.zero_le _,rfl,v0,hl⟩
 rintro nn s' ⟨H,tk,i,Mui,Exi,owi,σi,rfl,hi,rfl,v,hli⟩
 rcases Nat.lt_or_ge i L.xs.length with hlt |hge
 ·rw [List.drop_eq_getElem_cons hlt] at hli
  refine ae hli fun w hw hli=>ae hw fun σ2 hbd hw=> ?_
  refine wpAny_mono (L.next (Q:=fun _ s₂=>wpAny (model X.P X.w) L.p.A (execs body L.p.env) (flowP R fun s₃=>∃ m,m<L.xs.length+1 - i∧L.Go sb r m s₃) (L.Er R) s₂) (E':=L.Er R) v (List.getElem?_eq_getElem hlt) hbd fun h3 tk3 v3 =>
   hb σ2 (L.p.on v3.S v3.g tk3) _ w.1 w.2 _ hw (L.end aft hlt v3 hli)) (fun r s₁ hr=> ?_) fun _ _ e=>e
  obtain ⟨v,rfl,hr⟩:=hr
  exact wpAny_mono hr (fun _ _ hr=>wpAny_mono hr (fun _ _ hr=>wpAny_mono hr (fun f s₃ h=>by cases f<;>exact h) fun _ _ e=>e) fun _ _ e=>e) fun _ _ e=>e
 ·obtain rfl:=Nat.le_antisymm hi hge
  rw [List.drop_length] at hli
  obtain rfl:=sm hli
  refine wpAny_mono (L.done v aft) (fun r s₁ hr=> ?_) fun _ _ e=>e
  obtain ⟨rfl,hr⟩:=hr
  exact hr
theorem yL {k:IK} {it it2:T} {target iter:Expr} {tg:List Nat} {one:Bool} {body els:List Stmt} {sb se:S} {pos:Pos} (hit:FS X sc k it it2 iter) (hb:SS X sc sb (execs body)) (he:SS X sc se (execs els)) (hT:TgOk X.c sc target tg one)
  (hfold:∀ env x,foldedSetIterable iter env x=pure x):SS X sc (.fors tg one k it it2 sb se) (exec (.For target iter body els pos)):=fun σ p E σ' o Q h P=>by
 refine eH h fun hen h=>ae h fun xs hxs h=>ae h fun r hl hr=> ?_
 have hen:enumOk one k=true:=by rw [Bool.not_eq_true',Bool.not_eq_false] at hen;exact hen
 obtain ⟨Mu1,Ex1,S1,g1⟩:=p.S.freeze it
 refine wpAny_For (hit _ (p.on (h:=p.s.heap) S1 g1 p.s.toks).at E false xs sc target tg one _ hT hen hxs fun I Fp Wr It St h2 tk2 T st0 it0' k2 wnew fpw=> ?_) (hfold p.env)
 have wal2:∀ b,Wr b→Al h2 b:=fun b hb=>let ⟨o,ho,_⟩:=T.kinds _ _ b st0 (T.sub b hb);⟨o,ho⟩
 refine Lp.run {p:=p,target:=target,tg:=tg,one:=one,I:=I,xs:=xs,Fp:=Fp,Wr:=Wr,It:=It,St:=St,tn:=T,wnew:=wnew} hb (r:=r) ?_ (Mu:=Mu1) (Ex:=fun b=>Ex1 b∨Wr b) (ow:=p.ow) (ρ:=Mine.freeze σ it)
  ⟨st0,it0',⟨S1.rr.grow k2 wnew wal2,fun b hb=> .inl (S1.mu b hb),S1.fr,S1.own,S1.inj⟩,
  ⟨g1.mu,fun b hb=>hb.elim (g1.ex b) fun e=> .inr (wnew b e),fun b hb hn=> .inl (g1.kp b hb hn),fun b o _ e=>k2 b o e,k2.cd⟩,fun b hb=> .inr hb,fun b hb hmu=>(fpw b hb).elim (fun hw=>Al.ne (S1.rr.lt b (S1.mu b hmu)) (wnew b hw) rfl) fun hn=>hn rfl (S1.mu b hmu)⟩ hl
 obtain ⟨ρ,o'⟩:=r
 cases o' with
 |next=>exact fun h3 tk3 Mu3 Ex3 ow3 S3 g3=>he _ (p.on S3 g3 tk3) _ σ' o _ hr (P.from p.lt p.S.mu g3)
 |brk =>
  obtain ⟨rfl,rfl⟩:=Prod.mk.inj (sm hr)
  exact P
 |ret d =>
  obtain ⟨rfl,rfl⟩:=Prod.mk.inj (sm hr)
  exact P
end
end Mine
set_option genSizeOf false
set_option genInjectivity false
namespace Mine
variable [Tabs] [Frk]
noncomputable def CxOk (c:Cx):Prop:=c.tbl.all (fun x=>dbg x&&dcl x)=true
section
variable {X:Wd} {sc:Scope} {mg mb:Str→Option Value}
theorem dA (ok:CxOk X.c) {i:Nat} (h:stoI X.c sc i=true) {P:Prop} (k:storable sc (X.c.tbl.getD i Str.empty)=true→X.c.tbl[i]? = some (X.c.tbl.getD i Str.empty)→((X.c.tbl.getD i Str.empty)==("__debug__":Str))=false→((X.c.tbl.getD i Str.empty)==("__classdict__":Str))=false→P):P:=by
 obtain ⟨h1,h2⟩:=cQ h
 exact aa (List.all_eq_true.mp ok _ (List.mem_of_getElem? h2)) fun h3 h4=>k h1 h2 (nt h3) (nt h4)
noncomputable def GoodS (X:Wd) (sc:Scope) (s:S) (l:List Stmt):Prop:=cond (isSeq s) (SS X sc s (execs l)) (∃ st,l=[st]∧SS X sc s (exec st))
noncomputable def UnS (X:Wd) (sc:Scope) (s:S):Prop:=∀ ss,(unS X.c sc s ss).1=true→GoodS X sc s (unS X.c sc s ss).2
theorem UnS.l {s:S} {ss:List Stmt} (h:UnS X sc s) (h1:isSeq s=true) (h2:(unS X.c sc s ss).1=true):SS X sc s (execs (unS X.c sc s ss).2):=by
 have:=h ss h2
 unfold GoodS at this
 rw [h1] at this;exact this
theorem UnS.s {s:S} {ss:List Stmt} (h:UnS X sc s) (h1:(!isSeq s)=true) (h2:(unS X.c sc s ss).1=true):SS X sc s (exec (hs (unS X.c sc s ss).2)):=by
 have:=h ss h2
 unfold GoodS at this
 rw [nt h1] at this
 obtain ⟨st,e,g⟩:=this
 rw [e];exact g
theorem lQ {is:List Nat} {e:Expr} (h:varsB X.c sc is e=true):Tgs X.c sc (List.zipWith (nameE X.c) is (kids e)) is:=aa h fun h1 h2=>mV (beq_iff_eq.mp h1) h2
theorem fC (B:X.Ok mg mb) (CT:X.Ct mg) (ok:CxOk X.c) (s:S):UnS X sc s:=by
 have me:=fun {t:T} {e:Expr} (h:(unE X.c sc t e).1=true)=>(b8 B CT t).e h
 induction s with
 |skip=>exact fun ss h=>vo
 |seq a b ha hb=>exact fun ss h=>aa h fun h h4=>aa h fun h h3=>aa h fun h1 h2=>yU (ha.s h1 h3) (hb.l h2 h4)
 |asg i x e=>exact fun ss h=>aa h fun h h3=>aa h fun h1 h2=>⟨_,rfl,yA (me h1) (cQ h2).1 (cQ h2).2 (nt h3)⟩
 |unp is e=>exact fun ss h=>aa h fun h h3=>aa h fun h1 h2=>⟨_,rfl,xY (me h1).vs (lQ h2) (nt h3)⟩
 |multi is es=>exact fun ss h=>aa h fun h h5=>aa h fun h h4=>aa h fun h h3=>aa h fun h1 h2=>⟨_,rfl,rA (pS ((b8 B CT es).l h1).as) (lQ h2) h3 (nt h4) (de h5)⟩
 |aug i op e=>exact fun ss h=>aa h fun h1 h2=>dA ok h2 fun q1 q2 q3 q4=>⟨_,rfl,yj (me h1).vs q1 q2 q4⟩
 |app i e=>exact fun ss h=>aa h fun h h3=>aa h fun h1 h2=>dA ok h2 fun q1 q2 q3 q4=>⟨_,rfl,yr (me h1) q1 q2 q3 q4 h3⟩
 |ext i e=>exact fun ss h=>aa h fun h h3=>aa h fun h1 h2=>dA ok h2 fun q1 q2 q3 q4=>⟨_,rfl,yg (me h1) q1 q2 q3 q4 h3⟩
 |revm i=>exact fun ss h=>aa h fun h1 h2=>dA ok h1 fun q1 q2 q3 q4=>⟨_,rfl,wJ q1 q2 q3 q4 h2⟩
 |del i e=>exact fun ss h=>aa h fun h1 h2=>dA ok h2 fun q1 q2 q3 q4=>⟨_,rfl,xT (me h1).vs q1 q2 q3 q4⟩
 |seti i k v=>exact fun ss h=>aa h fun h h3=>aa h fun h1 h2=>dA ok h3 fun q1 q2 q3 q4=>⟨_,rfl,vd (me h1).vs (me h2).vs q1 q2 q3 q4⟩
 |ifs t a b ha hb=>exact fun ss h=>aa h fun h h5=>aa h fun h h4=>aa h fun h h3=>aa h fun h1 h2=>⟨_,rfl,zf (me h1).is (ha.l h2 h3) (hb.l h4 h5)⟩
 |fors tg one k it it2 a b ha hb =>
  refine fun ss h=>aa h fun h h7=>aa h fun h h6=>aa h fun h h5=>aa h fun h h4=>aa h fun h h3=>aa h fun h1 h2=> ?_
  obtain ⟨f1,f2⟩:=uk B (me h1) (fun hz=>me hz) h2
  exact ⟨_,rfl,yL f1 (ha.l h4 h5) (hb.l h6 h7) (oT h3) f2⟩
 |ret e =>
  refine fun ss h=>⟨_,rfl,?_⟩
  revert h
  show cond (skids (hs ss)).isEmpty _ _=true→SS X sc _ (exec (.Return (cond (skids (hs ss)).isEmpty none _) _))
  cases (skids (hs ss)).isEmpty with
  |true=>exact fun h=>eV (P:=fun t=>SS X sc (.ret t) _) h vq
  |false=>exact fun h=>xf (me h).vs
 |retv i=>exact fun ss h=>aa h fun h1 h2=>aa (List.all_eq_true.mp ok _ (List.mem_of_getElem? (dU (de h1)))) fun h3 h4=>⟨_,rfl,wV h2 (dU (de h1)) (nt h3) (nt h4)⟩
 |brk=>exact fun ss h=>⟨_,rfl,yw⟩
 |asrt e=>exact fun ss h=>⟨_,rfl,qP (me h).is⟩
 |bad=>exact fun ss h=>⟨_,rfl,fun σ p E σ' o Q h P=>ah h⟩
theorem mL (B:X.Ok mg mb) (CT:X.Ct mg) (ok:CxOk X.c) {code:S} {body:List Stmt} (h:codeB X.c sc code body=true) (he:(unS X.c sc code body).2=body):SS X sc code (execs body):=aa h fun h1 h2=>by
 have:=(fC (sc:=sc) B CT ok code).l h1 h2
 rw [he] at this;exact this
end
end Mine
set_option genSizeOf false
set_option genInjectivity false
namespace Mine
variable [Tabs] [Frk]
theorem iY (names:List (Str×NameKind)) (n:Nat) (x:Str) (h:(x,NameKind.cell)∈names):∃ c,(cellsFrom n names []).lookup x=some c:=Option.isSome_iff_exists.mp (cw h)
theorem iQ {ko:Str→Option NameKind}:∀ {bs:List (Str×Value)} {m:Str→Option Value} {x:Str},(∀ v,(x,v)∉bs)→PySem.bindL ko bs m x=m x
 | [],m,x,h=>rfl
 |(y,v) :: r,m,x,h=>by
  unfold PySem.bindL
  rw [iQ fun v' hm=>h v' (List.mem_cons_of_mem _ hm)]
  split
  ·have:x≠y:=fun e=>h v (by rw [e];exact List.mem_cons_self)
   simp [this]
  ·rfl
theorem iZ {ko:Str→Option NameKind}:∀ {bs:List (Str×Value)} {m:Str→Option Value} {x:Str},(∀ v,(x,v)∉bs)→PySem.bindC ko bs m x=m x
 | [],m,x,h=>rfl
 |(y,v) :: r,m,x,h=>by
  unfold PySem.bindC
  rw [iZ fun v' hm=>h v' (List.mem_cons_of_mem _ hm)]
  split
  ·rfl
  ·have:x≠y:=fun e=>h v (by rw [e];exact List.mem_cons_self)
   simp [this]
theorem lM {x:Str}:∀ {ns:List Str} {vs:List Value},x∉ns→∀ v,(x,v)∉ns.zip vs:=fun h v hm=>h (List.of_mem_zip hm).1
theorem iO {ko:Str→Option NameKind}:∀ {ns:List Str} {vs:List Value} {m:Str→Option Value} {i:Nat} {x:Str} {v:Value},ns.Nodup→ns[i]? = some x→vs[i]? = some v→ko x=some .local→PySem.bindL ko (ns.zip vs) m x=some v
 |n :: ns,u :: vs,m,0,x,v,nd,h1,h2,hk=>by
  cases h1;cases h2
  rw [List.zip_cons_cons]
  unfold PySem.bindL
  rw [iQ (lM (List.nodup_cons.mp nd).1),if_pos hk]
  simp
 |n :: ns,u :: vs,m,i+1,x,v,nd,h1,h2,hk=>by
  rw [List.zip_cons_cons]
  unfold PySem.bindL
  exact iO (List.nodup_cons.mp nd).2 (by simpa using h1) (by simpa using h2) hk
 | [],_,_,_,_,_,_,h,_,_=>by simp at h
 |_ :: _,[],_,_,_,_,_,_,h,_=>by simp at h
theorem iR {ko:Str→Option NameKind}:∀ {ns:List Str} {vs:List Value} {m:Str→Option Value} {i:Nat} {x:Str} {v:Value},ns.Nodup→ns[i]? = some x→vs[i]? = some v→ko x≠some .local→PySem.bindC ko (ns.zip vs) m x=some v
 |n :: ns,u :: vs,m,0,x,v,nd,h1,h2,hk=>by
  cases h1;cases h2
  rw [List.zip_cons_cons]
  unfold PySem.bindC
  rw [iZ (lM (List.nodup_cons.mp nd).1),if_neg hk]
  simp
 |n :: ns,u :: vs,m,i+1,x,v,nd,h1,h2,hk=>by
  rw [List.zip_cons_cons]
  unfold PySem.bindC
  exact iR (List.nodup_cons.mp nd).2 (by simpa using h1) (by simpa using h2) hk
 | [],_,_,_,_,_,_,h,_,_=>by simp at h
 |_ :: _,[],_,_,_,_,_,_,h,_=>by simp at h
theorem gZ {n:Nat} {ds:List D} {i:Nat} {d:D} {b:Bool} (h:getE (ds.map (fun d=>some (d,false))++List.replicate n none) i=some (d,b)):ds[i]? = some d∧b=false:=by
 unfold getE at h
 rw [List.getElem?_append] at h
 split at h
 ·rw [List.getElem?_map] at h
  cases hd:ds[i]? with
  |none=>rw [hd] at h;exact ah h
  |some e =>
   rw [hd] at h
   obtain ⟨rfl,rfl⟩:=Prod.mk.inj (sm h)
   exact ⟨rfl,rfl⟩
 ·rw [List.getElem?_replicate] at h
  split at h<;>exact ah h
structure DefAt (hB:Heap) (a:Addr) (name:Str) (params:Arguments) (body:List Stmt) (scope:Scope):Prop where
 at':∃ o pm cd doc P oc vs t,hB.get? a=some o∧o.data = .func (Calls.docDef name params body scope pm (.ref cd) doc)∧hB.get? cd=some oc∧oc.cls = .type "code"∧oc.data = .fields vs∧vs[1]? = some (.str name t)∧hB.IsCode cd P #[]∧hB.TableAt cd P #[]
structure dX (c:Cx) (ps:List Str) (name:Str) (params:Arguments) (body:List Stmt) (sc:Scope):Prop where
 kind:sc.kind = .function
 gen:sc.isGenerator=false
 co:sc.isCoroutine=false
 pre:c.tbl.take ps.length=ps
 sto:∀ x∈ps,storable sc x=true
 nd:c.tbl.Nodup
 free:∀ x,sc.names.lookup x≠some .free
 names:CxOk c
 bind:∀ pm cd doc (vs:List Value),vs.length=ps.length→bindArgs (Calls.docDef name params body sc pm cd doc) ⟨vs,[]⟩=pure (ps.zip vs)
theorem vG {c:Cx} {ps:List Str} (h:c.tbl.take ps.length=ps) {i:Nat} {x:Str} (hi:i<ps.length) (hx:c.tbl[i]? = some x):ps[i]? = some x:=by
 rw [← h,List.getElem?_take]
 simp [hi,hx]
theorem uj {h:Heap} {b:Addr} (x:h.objs.size≤b):h.get? b=none:=by
 cases e:h.get? b with
 |none=>rfl
 |some o=>exact absurd (Heap.lt_size e) (Nat.not_lt.mpr x)
theorem iJ {c:Cx} {ps:List Str} {name:Str} {params:Arguments} {body:List Stmt} {sc:Scope} (ok:dX c ps name params body sc):ps.Nodup:=by
 rw [← ok.pre];exact (List.take_sublist _ _).nodup ok.nd
theorem rZ {c:Cx} {ps:List Str} {name:Str} {params:Arguments} {body:List Stmt} {sc:Scope} (ok:dX c ps name params body sc) {X:Addr→Prop} {h h₁:Heap} {a:Addr} {cd:Value} {ds:List D} {vs:List Value} (hlen:ds.length=ps.length) (hX:∀ b,X b→Al h b) (hden:DenL h X ds vs)
  (keep:∀ b o,h.get? b=some o→h₁.get? b=some o) (ns:h₁.Ns h.objs.size (PySem.bindL (fun x=>(envOfC name sc h.objs.size a cd).kindOf x) (ps.zip vs) fun _=>none)) (cl:∀ x b,(cellsFrom (h.objs.size+1) sc.names []).lookup x=some b→h₁.IsCell b (PySem.bindC (fun x=>(envOfC name sc h.objs.size a cd).kindOf x) (ps.zip vs) (fun _=>none) x))
  (above:∀ x b,(cellsFrom (h.objs.size+1) sc.names []).lookup x=some b→h.objs.size+1≤b) (apart:∀ x y b,(cellsFrom (h.objs.size+1) sc.names []).lookup x=some b→(cellsFrom (h.objs.size+1) sc.names []).lookup y=some b→x=y) :
  SR (envOfC name sc h.objs.size a cd) c.tbl (fun b=>b=h.objs.size∨∃ x,(cellsFrom (h.objs.size+1) sc.names []).lookup x=some b) (fun b=>X b∨(b=h.objs.size∨∃ x,(cellsFrom (h.objs.size+1) sc.names []).lookup x=some b)) (fun _=>0) (ds.map (fun d=>some (d,false))++List.replicate (c.tbl.length - ds.length) none) h₁:=by
 have muNone:∀ b,(b=h.objs.size∨∃ x,(cellsFrom (h.objs.size+1) sc.names []).lookup x=some b)→h.get? b=none:=fun b hb=>uj (hb.elim (fun e=>Nat.le_of_eq e.symm) fun ⟨x,hx⟩=>Nat.le_of_succ_le (above x b hx))
 refine ⟨⟨⟨ok.kind,rfl,rfl⟩,ok.nd,?_,⟨.inr (.inl rfl),fun x b hb=> .inr (.inr ⟨x,hb⟩)⟩,?_⟩,fun b hb=> .inr hb,⟨.inl rfl,fun x b _ hb=> .inr ⟨x,hb⟩⟩,?_,?_⟩
 ·rintro b (hb |rfl |⟨x,hx⟩)
  ·exact (hX b hb).keep (.of keep)
  ·obtain ⟨o,es,ep,e,_⟩:=ns;exact ⟨o,e⟩
  ·obtain ⟨o,e,_⟩:=cl x b hx;exact ⟨o,e⟩
 ·refine ⟨_,_,⟨ns,cl,fun x b hb=>Nat.ne_of_gt (above x b hb),apart,fun x hx=> ?_⟩,?_⟩
  ·rcases hx with hx |hx
   ·exact iY sc.names _ x (PySem.mem_of_lookup hx)
   ·exact absurd hx (ok.free x)
  ·intro i x d b hx hg hs
   obtain ⟨hd,rfl⟩:=gZ hg
   obtain ⟨v,hv,dv⟩:=hden.get hd
   have hp:=vG ok.pre (by rw [← hlen];exact (List.getElem?_eq_some_iff.mp hd).1) hx
   refine ⟨v,?_,Den.mono (fun b o _ _ e=>keep b o e) (fun b hb hn e=>e.elim hn fun e=>hb.ne (muNone b e) rfl) _ _ dv,fun e=>nomatch e⟩
   unfold valOf
   rcases bN (ok.sto x (List.mem_of_getElem? hp)) with e |e
   ·have hk:(envOfC name sc h.objs.size a cd).kindOf x=some .local:=e
    rw [hk]
    exact iO (iJ ok) hp hv hk
   ·have hk:(envOfC name sc h.objs.size a cd).kindOf x=some .cell:=e
    rw [hk]
    exact iR (iJ ok) hp hv (by rw [hk];decide)
 ·exact fun i x d hx hs hg=>nomatch (gZ hg).2
 ·exact fun i j x y d e hx hs hy hs' hg=>nomatch (gZ hg).2
theorem cW (off:Frk.fs=none) {X:Wd} (lim:X.hB.NoLimit) {ps:List Str} {name:Str} {params:Arguments} {body:List Stmt} {sc:Scope} (ok:dX X.c ps name params body sc) {a:Addr} (da:DefAt X.hB a name params body sc)
  {A:Around} {E:Value→Shared→Prop} {s:Shared} {Y:Addr→Prop} {ds:List D} {vs:List Value} {r:D} {Q:Value→Shared→Prop} (ar:Ar (X.n+1) A) (kp:KB X.hB s.heap) (hX:∀ b,Y b→Al s.heap b) (hden:DenL s.heap Y ds vs) (hlen:ds.length=ps.length)
  (ret:∀ v h' tk,Kp s.heap h'→Den h' Y r v→Q v {s with heap:=h',toks:=tk})
  (P:∀ (p:Ast X sc (ds.map (fun d=>some (d,false))++List.replicate (X.c.tbl.length - ds.length) none)) (cd T:Addr),p.env=envOfC name sc s.heap.objs.size a (.ref cd)→p.A=A.deeper p.env→X.hB.IsCode cd T #[]→X.hB.TableAt cd T #[]→(∀ b,p.Mu b→s.heap.get? b=none)→Kp s.heap p.s.heap →
   (∀ h' tk v Mu' Ex',Gr p.s.heap p.Mu p.Ex Mu' Ex' h'→Den h' Ex' r v→Q v {p.s with heap:=h',toks:=tk}) →
   wpAny (model X.P X.w) p.A (execs body p.env) (fun f s'=>Q (match f with | .ret v=>v |_=> .none) s') (fun _ _=>False) p.s):wpAny (model X.P X.w) A (call (.ref a) vs) Q E s:=by
 obtain ⟨o,pm,cd,doc,tb,oc,vc,tc,h1,h2,h3,h4,h5,h6,h7,h8⟩:=da.at'
 refine wpAny_call ?_
 have hvl:vs.length=ps.length:=hden.length.trans hlen
 have nolim:s.heap.NoLimit:=let ⟨mc,x,y⟩:=lim;⟨mc,kp.ns x,y⟩
 have cr:s.heap.CodeRec (.ref cd) name:=⟨cd,oc,vc,tc,rfl,kp.ob h3 (.inl (bd h4 h5)),h5,h6⟩
 refine call_cells_ret (Nat.lt_of_le_of_lt (Nat.le_trans (Nat.le_add_right _ _) ar.depth) (by decide)) (kp.ob h1 (.inl (bg h2))) h2 nolim cr (ok.bind pm (.ref cd) doc vs hvl) (fun x hx=> ?_) ?_ ok.co ok.gen ok.kind
 ·rcases bN (ok.sto x.1 (List.of_mem_zip (a:=x.1) (b:=x.2) hx).1) with e |e
  ·exact .inl e
  ·refine .inr ⟨e,?_⟩
   obtain ⟨q,hq⟩:=iY sc.names (s.heap.objs.size+1) x.1 (PySem.mem_of_lookup e)
   rw [hq];rfl
 ·intro h₁ tk fr cl
  have above:=fun x b hx=>cl.above x b (PySem.mem_of_lookup hx)
  have muNone:∀ b,(b=s.heap.objs.size∨∃ x,(cellsFrom (s.heap.objs.size+1) sc.names []).lookup x=some b)→s.heap.get? b=none:=fun b hb=>uj (hb.elim (fun e=>Nat.le_of_eq e.symm) fun ⟨x,hx⟩=>Nat.le_of_lt (above x b hx))
  exact P {A:=A.deeper (envOfC name sc s.heap.objs.size a (.ref cd)),s:={s with heap:=h₁,toks:=tk},env:=envOfC name sc s.heap.objs.size a (.ref cd),Mu:=_,Ex:=_,ow:=_,hsc:=rfl,S:=rZ ok hlen hX hden fr.keep fr.ns cl.cell above (fun x y b hx hy=>PySem.name_of_addr cl.apart (PySem.mem_of_lookup hx) (PySem.mem_of_lookup hy)),k:=kp.trans (.of fr.keep),hm:=fun b hb=>kp.none (muNone b hb),ar:=ar.deep off _} cd tb rfl rfl h7 h8 muNone (.of fr.keep) fun h' tk' v Mu' Ex' g dv=>ret v h' tk' (fun b o e=>g.keep b o (fun hm=>ah ((muNone b hm).symm.trans e)) (fr.keep _ _ e))
        (Den.mono (fun b o _ _ e=>e) (fun b hb n hx=>n (g.kp b (.inl hx) fun hm=>(hX b hx).ne (muNone b hm) rfl)) _ _ dv)
theorem uX (off:Frk.fs=none) {prog:Program} {w:World} {c:Cx} {G:ag} {F F':FEnv} {hB:Heap} {n:Nat} {mg mb:Str→Option Value} (B:Base prog w c G hB mg mb)
  (CT:∀ f a,f∈c.fns→mg f=some (.ref a)→Ctr prog w hB n F f a) (lim:hB.NoLimit) {ps:List Str} {name:Str} {params:Arguments} {body:List Stmt} {sc:Scope} {code:S} (ok:dX c ps name params body sc)
  {a:Addr} (da:DefAt hB a name params body sc) (hc:codeB c sc code body=true) (hu:(unS c sc code body).2=body)
  (hF:∀ ds r,F' name ds=some r→ds.length=ps.length∧run G F c.tbl.length code ds=some r):Ctr prog w hB (n+1) F' name a:=by
 intro A E s Y ds vs r Q ar kp hX hden hr ret
 obtain ⟨hlen,hr⟩:=hF _ _ hr
 refine cW off (X:=⟨prog,w,c,G,F,hB,n⟩) lim ok da ar kp hX hden hlen ret fun p cd tb _ _ _ _ _ _ fin=> ?_
 refine ae hr fun q he hr=> ?_
 obtain ⟨σ',o'⟩:=q
 have ss:=mL (X:=⟨prog,w,c,G,F,hB,n⟩) B CT ok.names hc hu
 cases o' with
 |next =>
  obtain rfl:=sm hr
  exact ss _ p _ σ' .next _ he fun h' tk' Mu' Ex' ow' S' g=>fin h' tk' .none Mu' Ex' g rfl
 |brk=>exact ah hr
 |ret d =>
  obtain rfl:=sm hr
  exact ss _ p _ σ' (.ret d) _ he fun h' tk' v Mu' Ex' g dv=>fin h' tk' v Mu' Ex' g dv
end Mine
set_option genSizeOf false
set_option genInjectivity false
namespace Mine
structure Fn where
 name:Str
 ps:List Str
 tbl:List Str
 code:S
noncomputable def cxw (c:Cx) (f:Fn):Cx:={c with tbl:=f.tbl}
noncomputable def SPL:Nat:=60
noncomputable def FF (G:ag) (fns:List Fn) (spn:List Str) (sp:Str→List D→Option D):Nat→FEnv
 |0=>fun _ _=>none
 |k+1=>fun f ds=>cond (spn.contains f) (if SPL≤k then sp f ds else none) ((fns.find? (fun x=>x.name==f)).bind fun x=>if ds.length=x.ps.length then run G (FF G fns spn sp k) x.tbl.length x.code ds else none)
theorem FF_s {G:ag} {fns:List Fn} {spn:List Str} {sp:Str→List D→Option D} {k:Nat} {f:Str} {ds:List D}:FF G fns spn sp (k+1) f ds=cond (spn.contains f) (if SPL≤k then sp f ds else none) ((fns.find? (fun x=>x.name==f)).bind fun x=>if ds.length=x.ps.length then run G (FF G fns spn sp k) x.tbl.length x.code ds else none):=rfl
variable [Tabs] [Frk]
theorem Base.cxw {prog:Program} {w:World} {c:Cx} {G:ag} {hB:Heap} {mg mb:Str→Option Value} (B:Base prog w c G hB mg mb) (f:Fn):Base prog w (cxw c f) G hB mg mb :=
 ⟨B.ns,B.bn,B.blt,B.cst,B.iset,B.idict,B.ndb,B.fn,B.dm,B.dk⟩
noncomputable def FnOk (c:Cx) (hB:Heap) (mg:Str→Option Value) (f:Fn):Prop:=∃ params body sc,dX (cxw c f) f.ps f.name params body sc∧(∀ a,mg f.name=some (.ref a)→DefAt hB a f.name params body sc)∧codeB (cxw c f) sc f.code body=true∧(unS (cxw c f) sc f.code body).2=body
theorem qM (off:Frk.fs=none) {prog:Program} {w:World} {c:Cx} {G:ag} {hB:Heap} {mg mb:Str→Option Value} (B:Base prog w c G hB mg mb) (lim:hB.NoLimit) {fns:List Fn} {spn:List Str} {sp:Str→List D→Option D}
  (ok:∀ f∈fns,FnOk c hB mg f) (spc:∀ f a k,f∈spn→mg f=some (.ref a)→SPL≤k→Ctr prog w hB k (fun f ds=>sp f ds) f a) (k:Nat):∀ (f:Str) (a:Addr),mg f=some (.ref a)→Ctr prog w hB k (FF G fns spn sp k) f a:=by
 induction k with
 |zero=>exact fun f a ha A E s X ds vs r Q ar kp hX hd hr=>ah hr
 |succ k ih =>
  intro f a ha
  cases hc:spn.contains f with
  |true =>
   intro A E s X ds vs r Q ar kp hX hd hr P
   rw [FF_s,hc] at hr
   exact gd hr fun hk hr=>spc f a (k+1) (List.contains_iff_mem.mp hc) ha (Nat.le_succ_of_le hk) A E s X ds vs r Q ar kp hX hd hr P
  |false =>
   cases hf:fns.find? (fun x=>x.name==f) with
   |none =>
    intro A E s X ds vs r Q ar kp hX hd hr P
    rw [FF_s,hc,hf] at hr
    exact ah hr
   |some x =>
    obtain ⟨params,body,sc,dk,da,h1,h2⟩:=ok x (List.mem_of_find?_eq_some hf)
    have hn:=List.find?_some hf
    obtain rfl:x.name=f:=beq_iff_eq.mp hn
    refine uX off (F:=FF G fns spn sp k) (B.cxw x) (fun g b _ hb=>ih g b hb) lim dk (da a ha) h1 h2 fun ds r hr=> ?_
    rw [FF_s,hc,hf] at hr
    exact gd hr fun hl hr=>⟨hl,hr⟩
end Mine
namespace Mine
section
variable {den:Code→Sem Fin} {prog:Program} {w:World}
theorem jV:∀ {n:Nat} {s:Shared} {t:Thread} {s':Shared} {t':Thread},runN den prog w n s t = .running s' t'→s'.heap.life=s.heap.life
 |0,s,t,s',t',h=>by simp only [runN,Run.running.injEq] at h;rw [h.1]
 |n+1,s,t,s',t',h=>by
  simp only [runN] at h
  cases hs:step den prog w s t with
  |go s₁ t₁=>rw [hs] at h;exact (jV h).trans (step_life den prog w s s₁ t t₁ hs)
  |halt o s₁=>rw [hs] at h;cases h
theorem jM:∀ {k:Nat} {s:Shared} {t:Thread} {s':Shared} {t':Thread} {o:Outcome} {s'':Shared},runN den prog w k s t = .running s' t'→step den prog w s' t' = .halt o s''→runN den prog w (k+1) s t = .halted o s''
 |0,s,t,s',t',o,s'',h,hs=>by
  simp only [runN,Run.running.injEq] at h
  obtain ⟨rfl,rfl⟩:=h
  simp only [runN,hs]
 |k+1,s,t,s',t',o,s'',h,hs=>by
  simp only [runN] at h
  cases e:step den prog w s t with
  |go s₁ t₁ =>
   rw [e] at h
   have:=jM h hs
   rw [runN];simp only [e];exact this
  |halt o s₁=>rw [e] at h;cases h
theorem rS {n:Nat} {s:Shared} {t:Thread} {s':Shared} {t':Thread} (hr:s.asleep) (h:runN den prog w n s t = .running s' t') (hc:∀ k s₁ t₁,runN den prog w k s t = .running s₁ t₁→t₁.calm=true) :
  schedN den prog w n (.single s t) = .running (.single s' t'):=by
 rw [schedN_prefix den prog w n s t hr fun k s₁ t₁ hk hrun=>⟨hc k s₁ t₁ hrun,fun hs=> ?_⟩,h]
 ·rfl
 ·have h1:=jM hrun hs
  have h2:=runN_mono den prog w (k+1) (n - (k+1)) s t _ _ h1
  rw [show k+1+(n - (k+1))=n by omega,h] at h2
  cases h2
end
structure AB (n:Nat) (A:Around):Prop where
 hd:A.handled=none
 depth:A.depth+n≤900
 units:A.units+4 * n≤9000
noncomputable def Walked (p:Program) (w:World) (defs:List DefItem) (consts:List (Str×PyData)) (objs:List (Str×(Obj→Prop))) (names:List Str):Prop :=
 ∀ (s:Shared) (mg mb:Str→Option Value) (c Pl F:Addr) (A:Around) (Q:Flow→Shared→Prop),AB 500 A→Mod s.heap mg c Pl s.heap mg #[] [] [] [] [] →
  s.heap.Ns builtinsNs mb→(∀ x:Str,x≠"__name__"→mb x=bootBuiltins x)→(∀ x,x∉bootMainNames→mg x=none) →
  (∀ h' mgN mg' ps' tk,(∀ x:Str,x≠"__name__"→mgN x=mg x)→Mod s.heap mgN c Pl h' mg' ps' defs consts objs names→Q .next {s with heap:=h',toks:=tk}) →
  wpAny (model p w) A (execs p.main.body (mainEnv p c F)) Q (fun _ _=>False) s
structure kE (h:Heap) (mg mb:Str→Option Value):Prop where
 g:h.Ns mainGlobals mg
 b:h.Ns builtinsNs mb
 blt:∀ x:Str,x≠"__name__"→mb x=bootBuiltins x
 oth:∀ x,x∉bootMainNames→mg x=none
 bm:∃ bm o,mg "__builtins__"=some (.ref bm)∧bm≠builtinsNs∧bm≠mainGlobals∧h.get? bm=some o∧o.cls = .type "module"∧o.dict=some builtinsNs∧o.data = .plain
structure l7 (p:Program) (w:World) (defs:List DefItem) (consts:List (Str×PyData)) (objs:List (Str×(Obj→Prop))) (names:List Str) (mg₀:Str→Option Value) (s₀ s₁:Shared):Prop where
 ran:∃ n t,schedN (denote table) p w n (.single s₀ (topStub p)) = .running (.single s₁ t)∧through t=true
 life:s₁.heap.life=s₀.heap.life
 os:s₁.os=s₀.os
 gens:s₁.gens = #[]
 mod:∃ h₀ mgN c Pl mg ps,(∀ x:Str,x≠"__name__"→mgN x=mg₀ x)∧Kq s₀.heap h₀∧s₀.heap.objs.size≤Pl∧Mod h₀ mgN c Pl s₁.heap mg ps defs consts objs names
theorem xq {p:Program} {w:World} {defs:List DefItem} {consts:List (Str×PyData)} {objs:List (Str×(Obj→Prop))} {names:List Str} {mg mb:Str→Option Value} {s₀:Shared}
  (hann:hasAnns p.main.body=false) (hdoc:docOf p.main.body=none) (hbeh:behindTheImports p=p.main.body) (walk:Walked p w defs consts objs names) (B:kE s₀.heap mg mb) (hg:s₀.gens = #[])
  (Q:Fin→Shared→Prop) (hQ:∀ s₁,s₁.os=s₀.os→s₁.gens = #[]→(∃ h₀ mgN c Pl mg' ps,(∀ x:Str,x≠"__name__"→mgN x=mg x)∧Kq s₀.heap h₀∧s₀.heap.objs.size≤Pl∧Mod h₀ mgN c Pl s₁.heap mg' ps defs consts objs names)→Q (.done (.ret .none)) s₁) :
  wpAny (model p w) callerA (topStub p).cur Q (fun _ _=>False) s₀:=by
 unfold topStub
 refine wpAny_bind (wpAny_moduleCode fun c Pl h₁ tk₁ hk₁ hc hPl hcode=> ?_)
 unfold newBodyFrame
 refine wpAny_bind (wpAny_bind (wpAny_nsGet (B.g.keeps hk₁) (wpAny_alloc ?_)))
 rw [hbeh]
 have k₂:∀ o,Kq h₁ (h₁.push o):=fun o=>Kq.push h₁ o
 refine wpAny_bind (wpAny_run (codeAny_body hann hdoc (wpAny_mono (E:=fun _ _=>False) (walk _ mg mb c Pl _ _ _ ?_ ?_ ?_ B.blt B.oth fun h' mgN mg' ps' tk hN X=> ?_) (fun _ _ x=>x) fun _ _ x=>x.elim)) (by decide))
 ·exact ⟨rfl,by show 1+claimMargin+1+500≤900;decide,by show 4+3+4 * 500≤9000;decide⟩
 ·obtain ⟨bm,o,e1,e2,e3,e4,e5,e6,e7⟩:=B.bm
  have lt:=B.g.lt
  have hbl:=Heap.lt_size e4
  have code:=hcode.push {cls:= .type "frame",slots:= #[some (.ref c),some (.ref mainNs),some (.ref mainNs),none,some ((mg "__name__").getD .none),none,some (.ref builtinsNs)]}
  refine ⟨⟨(B.g.keeps hk₁).keeps (k₂ _),code,⟨Nat.lt_of_lt_of_le lt hc,Nat.lt_of_lt_of_le lt hPl⟩,⟨bm,o,e1,e2,e3,Nat.ne_of_lt (Nat.lt_of_lt_of_le hbl hPl),k₂ _ _ _ (hk₁ _ _ e4),e5,e6,e7⟩⟩,
   fun _ _ _ _ e=>e,(fun _ hd=>nomatch hd),(fun _ hp=>nomatch hp),fun _ _=>rfl,(fun _ hd=>nomatch hd),(fun _ hp=>nomatch hp),(fun _ hp=>nomatch hp),(fun _ hp=>nomatch hp),Nat.le_refl _,code.lt.2,((B.g.keeps hk₁).keeps (k₂ _)).lt,(fun _ hd=>nomatch hd)⟩
 ·exact (B.b.keeps hk₁).keeps (k₂ _)
 ·refine wpAny_pure (hQ _ rfl hg ⟨_,mgN,c,Pl,mg',ps',hN,Kq.trans hk₁ (k₂ _),hPl,X⟩)
theorem rq {p:Program} {w:World} {defs:List DefItem} {consts:List (Str×PyData)} {objs:List (Str×(Obj→Prop))} {names:List Str} {mg mb:Str→Option Value} {s₀:Shared}
  (hann:hasAnns p.main.body=false) (hdoc:docOf p.main.body=none) (hbeh:behindTheImports p=p.main.body) (walk:Walked p w defs consts objs names) (B:kE s₀.heap mg mb) (hg:s₀.gens = #[]) (hz:s₀.asleep) :
  ∃ s₁,l7 p w defs consts objs names mg s₀ s₁:=by
 have W:=xq (p:=p) (w:=w) hann hdoc hbeh walk B hg (fun fin s'=>fin = .done (.ret .none)∧s'.os=s₀.os∧s'.gens = #[]∧∃ h₀ mgN c Pl mg' ps,(∀ x:Str,x≠"__name__"→mgN x=mg x)∧Kq s₀.heap h₀∧s₀.heap.objs.size≤Pl∧Mod h₀ mgN c Pl s'.heap mg' ps defs consts objs names) fun s₁ h1 h2 h3=>⟨rfl,h1,h2,h3⟩
 have W1:=W (Ctx.of (.builtin "claim.caller" {}) []) default caller_in
 obtain ⟨n,s',σ,p',leaf,hrun,hfo,hl,_⟩:=wp_reaches_first (M:=model p w) W1
 have calm:∀ k s₁ t₁,runN (denote table) p w k s₀ (topStub p) = .running s₁ t₁→t₁.calm=true:=by
  have W2:=wp_of_wpAny_done (M:=model p w) (R:=fun r s'=>True∧leftWithCleanup s'.gens=false) caller_in (wpAny_mono W (by
   rintro fin s' ⟨h1,h2,h3,h4⟩
   exact ⟨_,h1,trivial,by rw [h3];simp [leftWithCleanup]⟩) fun _ _ x=>x.elim) default
  obtain ⟨N,r,s',hn,hR⟩:=(wp_iff_halts (M:=model p w) _ _ _ _).mp W2
  obtain ⟨s'',hr,hf,hc⟩:=runNI_real (denote table) p w hn (outcomeOf_ends r)
  exact hc
 obtain ⟨eh,ed,et,eo,eg⟩:=Shared.forget_eq hfo
 rcases hl with ⟨a,rfl,h1,h2,h3,h4⟩ |⟨e,_,x⟩
 ·refine ⟨σ,⟨⟨n,_,rS hz hrun calm,?_⟩,jV hrun,eo.trans h2,?_,?_⟩⟩
  ·rw [h1];rfl
  ·rw [h3] at eg
   have:(σ.gens.map GenState.forget).size=0:=by rw [eg];simp
   rw [Array.size_map] at this
   exact Array.eq_empty_of_size_eq_zero this
  ·rw [eh];exact h4
 ·exact x.elim
end Mine
namespace Mine
section
set_option maxRecDepth 100000
theorem gh (P:Params):(boot_heap P).isNs mainGlobals=true:=by with_unfolding_all rfl
theorem fN (P:Params):(boot_heap P).isNs builtinsNs=true:=by with_unfolding_all rfl
theorem tU (P:Params):(boot_heap P).isNs cStatics=true:=by with_unfolding_all rfl
theorem kC (P:Params):(boot_heap P).bltView=bltViewBooted:=by with_unfolding_all rfl
theorem rG (P:Params):(boot_heap P).accountedOkI []=true:=by with_unfolding_all rfl
theorem u8 (P:Params):(boot_heap P).bmainOk=true:=by with_unfolding_all rfl
theorem ph (P:Params):((boot_heap P).nsKeys mainGlobals).all (fun x=>bootMainNames.contains x)=true:=by with_unfolding_all rfl
theorem m7 (P:Params):(boot_heap P).nsMap cStatics "sys.recursionlimit"=none:=by with_unfolding_all rfl
end
theorem mE (P:Params):kE (boot_heap P) ((boot_heap P).nsMap mainGlobals) ((boot_heap P).nsMap builtinsNs):=by
 refine ⟨.of_isNs (gh P),.of_isNs (fN P),fun x hx=>Heap.of_bltView (fN P) (kC P) x hx,fun x hx=>Heap.nsMap_none fun hk=>hx ?_,?_⟩
 ·have:=List.all_eq_true.mp (ph P) x hk
  simpa using this
 ·obtain ⟨bm,ob,b1,b2,b3,b4,b5,b6⟩:=Heap.bmainOk_spec (u8 P)
  refine ⟨bm,ob,b1,b2,?_,b3,b4,b5,b6⟩
  rintro rfl
  obtain ⟨o,es,ep,h1,h2,_⟩:=Heap.Ns.of_isNs (gh P)
  rw [h1] at b3;cases b3
  rw [h2] at b6;cases b6
theorem gI {p:Program} (hop:opening p=plainProg p.main.scope.names):∀ w,(∃ s,AfterRun (opening p) w s)∧∀ s,AfterRun (opening p) w s→s.heap=boot_heap w.params∧s.gens = #[]∧s.asleep:=by
 intro w
 have h:=boot_plain w p.main.scope.names
 rw [← hop,← table_eq_tree] at h
 obtain ⟨s,h1,h2⟩:=Option.map_eq_some_iff.mp h
 have A:=AfterImport.of_importEnds h1
 refine ⟨⟨s,A⟩,fun s' hs'=> ?_⟩
 obtain rfl:s'=s:=AfterImport.unique hs' A
 injection h2 with h2 h3
 injection h3 with h3 h4
 exact ⟨h2,h3,A.life⟩
structure TopAt (defs:List DefItem) (consts:List (Str×PyData)) (objs:List (Str×(Obj→Prop))) (names:List Str) (mg mb:Str→Option Value) (h:Heap):Prop where
 g:h.Ns mainGlobals mg
 b:h.Ns builtinsNs mb
 blt:∀ x:Str,x≠"__name__"→mb x=bootBuiltins x
 lim:h.NoLimit
 oth:∀ x,x∉names→x∉bootMainNames→mg x=none
 bm:∃ bm o,mg "__builtins__"=some (.ref bm)∧bm≠builtinsNs∧bm≠mainGlobals∧h.get? bm=some o∧o.cls = .type "module"∧o.dict=some builtinsNs∧o.data = .plain
 made:∀ d∈defs,∃ a,mg d.name=some (.ref a)∧DefAt h a d.name d.params d.body d.scope
 bound:∀ p∈consts,∃ v,mg p.1=some v∧IsDatum v p.2
 held:∀ p∈objs,∃ a o,mainGlobals<a∧mg p.1=some (.ref a)∧h.get? a=some o∧p.2 o
theorem DefAt.keep {h h':Heap} {a:Addr} {name:Str} {params:Arguments} {body:List Stmt} {scope:Scope} (k:Kq h h') (d:DefAt h a name params body scope):DefAt h' a name params body scope:=by
 obtain ⟨o,pm,cd,doc,P,oc,vs,t,h1,h2,h3,h4,h5,h6,h7,h8⟩:=d.at'
 exact ⟨o,pm,cd,doc,P,oc,vs,t,k _ _ h1,h2,k _ _ h3,h4,h5,h6,h7.keeps k,h8.keeps k⟩
theorem TopAt.keep {defs:List DefItem} {consts:List (Str×PyData)} {objs:List (Str×(Obj→Prop))} {names:List Str} {mg mb:Str→Option Value} {h h':Heap} (k:Kq h h') (T:TopAt defs consts objs names mg mb h):TopAt defs consts objs names mg mb h':=by
 refine ⟨T.g.keeps k,T.b.keeps k,T.blt,?_,T.oth,(let ⟨bm,o,h1,h2,h3,h4,h5⟩:=T.bm;⟨bm,o,h1,h2,h3,k _ _ h4,h5⟩),fun d hd=> ?_,T.bound,fun p hp=> ?_⟩
 ·obtain ⟨mc,x,y⟩:=T.lim;exact ⟨mc,x.keeps k,y⟩
 ·obtain ⟨a,h1,h2⟩:=T.made d hd;exact ⟨a,h1,h2.keep k⟩
 ·obtain ⟨a,o,h0,h1,h2,h3⟩:=T.held p hp;exact ⟨a,o,h0,h1,k _ _ h2,h3⟩
theorem wv {p:Program} {w:World} {defs:List DefItem} {consts:List (Str×PyData)} {objs:List (Str×(Obj→Prop))} {names:List Str} {s₀:Shared}
  (himp:importedModules p.main.body=[]) (hn:∀ x∈names,x∈p.boundNames) (hl:∀ x∈laidNames,x∉names) (hd:∀ d∈defs,d.params.defaults=[])
  (hh:s₀.heap=boot_heap w.params) {s₁:Shared} (T:l7 p w defs consts objs names (s₀.heap.nsMap mainGlobals) s₀ s₁) :
  TopRan p w s₀ s₁∧∃ mg mb,TopAt defs consts objs names mg mb s₁.heap∧globalOf s₁.heap=mg:=by
 obtain ⟨ran,life,os,gens,h₀,mgN,c,Pl,mg,ps,hN,k₀,hP,X⟩:=T
 have BG:=gh w.params
 have BB:=fN w.params
 have BS:=tU w.params
 have bt:=kC w.params
 have ac:=rG w.params
 have bl:=m7 w.params
 have bo:=mE w.params
 rw [← hh] at BG BB BS bt ac bl bo
 have keep:∀ b o,b≠mainGlobals→s₀.heap.get? b=some o→s₁.heap.get? b=some o:=fun b o hb e =>
  X.keep b o (Nat.ne_of_lt (Nat.lt_of_lt_of_le (Heap.lt_size e) hP)) hb (k₀ _ _ e)
 have gl:∀ x,globalOf s₁.heap x=mg x:=fun x=>Claim2Try.globalOf_of_ns X.main.g x
 have gl0:∀ x,globalOf s₀.heap x=s₀.heap.nsMap mainGlobals x:=fun x=>Pin.globalOf_eq BG x
 have stat:∀ k,staticOf s₁.heap k=staticOf s₀.heap k:=fun k=>by
  obtain ⟨o,es,ep,e,_⟩:=Heap.Ns.of_isNs BS
  unfold staticOf
  rw [keep _ _ (by decide) e,e]
 have NB:s₁.heap.Ns builtinsNs (s₀.heap.nsMap builtinsNs):=(Heap.Ns.of_isNs BB).at fun o=>keep _ o (by decide)
 refine ⟨⟨ran,life,Shared.rest_eq os,fun b o e ht=>keep b o (fun q=>ht (.inl q)) e,?_,?_,?_,?_,?_,?_,?_,?_⟩,mg,s₀.heap.nsMap builtinsNs,⟨X.main.g,NB,bo.blt,?_,?_,(let ⟨bm,o,h1,h2,h3,_,h4,h5⟩:=X.main.bmod;⟨bm,o,h1,h2,h3,h4,h5⟩),?_,X.bound,?_⟩,funext gl⟩
 ·rw [himp]
  have A:=Heap.accountedI_of_ok ac
  unfold staticsAccountedI at A ⊢
  simp only [stat]
  exact A
 ·intro key;exact .inl (stat key)
 ·obtain ⟨o,es,ep,e1,e2,e3,_⟩:=X.main.g
  exact ⟨o,es,ep,e1,e2,e3⟩
 ·intro x hx
  have:builtinOf s₁.heap x=builtinOf s₀.heap x:=by
   obtain ⟨o,es,ep,e,_⟩:=Heap.Ns.of_isNs BB
   unfold builtinOf
   rw [keep _ _ (by decide) e,e]
  rw [this]
  exact (Pin.builtinOf_eq BB x).trans (Heap.of_bltView BB bt x hx)
 ·obtain ⟨bm,o,h1,_,_,_,h2,h3,h4,_⟩:=X.main.bmod
  exact ⟨bm,o,(gl _).trans h1,h2,h3,h4⟩
 ·rw [gens];intro g hg;cases hg with |mk h=>cases h
 ·intro x v hv
  rw [gl] at hv
  by_cases hx:x∈names
  ·exact .inr (hn x hx)
  ·by_cases hb:x∈bootMainNames
   ·exact .inl hb
   ·rw [X.others x hx,hN x fun q=>hb (q▸by decide),bo.oth x hb] at hv;cases hv
 ·intro x hx
  rw [gl,gl0,X.others x (hl x hx),hN x fun q=>absurd (q▸hx) (by decide)]
 ·exact ⟨_,(Heap.Ns.of_isNs BS).at fun o=>keep _ o (by decide),bl⟩
 ·intro x hx hb
  rw [X.others x hx,hN x fun q=>hb (q▸by decide),bo.oth x hb]
 ·intro d hd'
  obtain ⟨a,c',o,pm,doc,_,_,h1,h2,h3,h4⟩:=(X.made d hd').plain (hd d hd')
  obtain ⟨a',o',fd,c2,P,g1,g2,g3,g4,_,_,_,g5,g6⟩:=X.tabs d hd'
  rw [h1] at g1;cases g1
  rw [h2] at g2;cases g2
  rw [h3] at g3;cases g3
  cases g4
  obtain ⟨q,oc,vs,t,e1,e2,e3,e4⟩:=h4
  cases e1
  obtain ⟨⟨oc',vs',f1,f2,f3,f4⟩,f5⟩:=id g6
  rw [e2] at f1;cases f1
  exact ⟨a,h1,⟨o,pm,c',doc,P,oc,vs,t,h2,h3,e2,f2,e3,e4,g5,g6⟩⟩
 ·intro q hq
  obtain ⟨a,o,h0,h1,h2,h3⟩:=X.held q hq
  exact ⟨a,o,Nat.lt_of_lt_of_le X.lowG h0,h1,h2,h3⟩
end Mine
set_option genSizeOf false
set_option genInjectivity false
namespace Mine
theorem kK {R:WRecords} {cl:Str→Option Addr} {P:Params} {ord:List DictEntry→List DictEntry}:∀ (ns:List Int) (s:Shared),∃ vs tk,layAllW R cl P ord (ns.map WData.int) s=some (vs,{s with toks:=tk})∧∀ (T:Tabs) h X,DenL h X (ns.map D.int) vs
 | [],s=>⟨[],s.toks,rfl,fun T h X=>rfl⟩
 |n :: ns,s=>by
  obtain ⟨vs,tk,h1,h2⟩:=kK (R:=R) (cl:=cl) (P:=P) (ord:=ord) ns {s with toks:=s.toks+1}
  exact ⟨.int n s.toks :: vs,tk,(congrArg (fun o:Option (List Value×Shared)=>match o with |some r=>some (Value.int n s.toks :: r.1,r.2) |none=>none) h1 :),fun T h X=>⟨_,_,rfl,⟨_,rfl⟩,h2 T h X⟩⟩
theorem tE {R:WRecords} {cl:Str→Option Addr} {P:Params} {ord:List DictEntry→List DictEntry} (ns:List Int) (s:Shared):∃ a s',layAllW R cl P ord [.list (ns.map WData.int)] s=some ([.ref a],s')∧∀ T:Tabs,DenL s'.heap (fun _=>False) [.list (ns.map D.int)] [.ref a]:=by
 obtain ⟨vs,tk,e1,e2⟩:=kK (R:=R) (cl:=cl) (P:=P) (ord:=ord) ns s
 refine ⟨s.heap.objs.size,{s with heap:=s.heap.push {cls:= .type "list",data:= .seq vs.toArray},toks:=tk},?_,fun T=>⟨_,_,rfl,⟨_,vs.toArray,rfl,fun e=>e,⟨0,Heap.get?_push_size _ rfl⟩,e2 T _ _⟩,rfl⟩⟩
 unfold layAllW layW
 rw [e1];rfl
theorem vF {R:WRecords} {x:WData} (h:WShape.has R x .int=true):∃ i,x = .int i:=by
 cases x with
 |int i=>exact ⟨i,rfl⟩
 |_=>exact (Bool.false_ne_true h).elim
theorem tJ {R:WRecords} {x:WData} (h:WShape.has R x (.list .int)=true):∃ xs,x = .list xs∧WShape.hasItems R xs .int=true:=by
 cases x with
 |list xs=>exact ⟨xs,rfl,(Bool.or_false _).symm.trans h⟩
 |_=>exact (Bool.false_ne_true h).elim
theorem fH {R:WRecords}:∀ (xs:List WData),WShape.hasItems R xs .int=true→∃ ns:List Int,xs=ns.map WData.int
 | [],_=>⟨[],rfl⟩
 |x :: xs,h=>aa (a:=WShape.has R x .int) h fun h1 h2 =>
  let ⟨i,e1⟩:=vF h1
  let ⟨ns,e2⟩:=fH xs h2
  ⟨i :: ns,by rw [e1,e2];rfl⟩
theorem vR {R:WRecords} {l:OpenLaw} (hmost:l.most=some 63) (hbound:l.bound=none) {n:Nat} {xs:List WData} (hn:xs.length=n) (h:l.pre.holds R {args:=[.list xs]}=true):n≤63:=by
 unfold OpenLaw.pre at h
 rw [hmost,hbound] at h
 have h:WTm.holds R (.and (.not (.lit (.bool (decide ((63:Int)<((xs.length:Nat):Int)))))) (.lit (.bool true))) {args:=[.list xs]}=true:=h
 rw [hn] at h
 cases hb:decide ((63:Int)<(n:Int)) with
 |true=>rw [hb] at h;exact (Bool.false_ne_true h).elim
 |false=>exact Nat.not_lt.mp fun q=>of_decide_eq_false hb (Int.ofNat_lt.mpr q)
theorem wN {l:OpenLaw} (hmost:l.most=some 63) (hbound:l.bound=none) {args:List WData} (h:l.row.toRowW.claim.pre args=true):∃ ns:List Int,args=[.list (ns.map WData.int)]∧ns.length≤63:=by
 obtain ⟨h1,h2⟩:=pre_splitW h
 have h1:WShape.hasAll l.row.toRowW.records args [.list .int]=true:=h1
 revert h1 h2
 exact match args with
 | [x]=>fun h2 h1=>aa (a:=WShape.has l.row.toRowW.records x (.list .int)) h1 fun h1 _ =>
  let ⟨xs,e,hi⟩:=tJ h1
  let ⟨ns,e2⟩:=fH xs hi
  ⟨ns,by rw [e,e2],vR (xs:=xs) hmost hbound (by rw [e2,List.length_map]) (by rw [e] at h2;exact h2)⟩
 | []=>fun _ h1=>(Bool.false_ne_true h1).elim
 |x :: y :: r=>fun _ h1=>aa (a:=WShape.has l.row.toRowW.records x (.list .int)) h1 fun _ h2=>(Bool.false_ne_true h2).elim
theorem qH {l:OpenLaw} {defs:List DefItem} {consts:List (Str×PyData)} {objs:World→List (Str×(Obj→Prop))} {names:List Str}
  (said:l.row.wellSaid=true) (wit:l.row.toRowW.promised) (hop:opening l.prog=plainProg l.prog.main.scope.names) (hfence:∀ s,fenceModules? l.prog s=some s)
  (himp:importedModules l.prog.main.body=[]) (hann:hasAnns l.prog.main.body=false) (hdoc:docOf l.prog.main.body=none) (hbeh:behindTheImports l.prog=l.prog.main.body)
  (how:opensWell l.prog=true) (hb:l.prog.bare) (hwr:l.writes=false) (hmost:l.most=some 63) (hbound:l.bound=none)
  (hn:∀ x∈names,x∈l.prog.boundNames) (hl:∀ x∈laidNames,x∉names) (hd:∀ d∈defs,d.params.defaults=[])
  (hdef:∃ d∈defs,d.name=l.name∧l.prog.theDef l.name=some (d.params,d.body,d.scope)∧d.params.kwonlyargs=[]∧d.params.kw_defaults=[])
  (walk:∀ w,Walked l.prog w defs consts (objs w) names)
  (call:∀ (w:World) (s:Shared) (mg mb:Str→Option Value) (a:Addr) (ns:List Int) (vs:List Value),TopAt defs consts (objs w) names mg mb s.heap→mg l.name=some (.ref a)→ns.length≤63→(∀ T:Tabs,DenL s.heap (fun _=>False) [.list (ns.map D.int)] vs)→s.gens = #[] →
   wpAny (model l.prog w) callerA (PySem.call (.ref a) vs) (fun v s'=>∃ h' tk,OldK s.heap h'∧v = .bool true∧s' = {s with heap:=h',toks:=tk}) (fun _ _=>False) s):l.row.Holds:=by
 refine ⟨said,wit,⟨hb,how,rfl⟩,wit.witness,fun w=>⟨(gI hop w).1,fun s₀ hs=> ?_⟩⟩
 obtain ⟨hh,hg,hz⟩:=(gI hop w).2 s₀ hs
 have BO:=mE w.params
 rw [← hh] at BO
 obtain ⟨s,T⟩:=rq hann hdoc hbeh (walk w) BO hg hz
 obtain ⟨TR,mg,mb,TA,gl⟩:=wv himp hn hl hd hh T
 have hz1:s.asleep:=Shared.asleep_of_life T.life hz
 obtain ⟨d,hdm,hdn,hdt,hk1,hk2⟩:=hdef
 obtain ⟨a,ha,da⟩:=TA.made d hdm
 refine ⟨s₀,hfence s₀,hg,s,TR,?_,(fun x hx=>nomatch hx),(fun x hx=>nomatch hx),?_⟩
 ·intro n hn'
  obtain rfl:n=l.name:=by
   have:n∈(if l.row.pinned=true then [l.row.name] else []):=hn'
   have hp:l.row.pinned=true:=rfl
   rw [if_pos hp] at this
   exact List.mem_singleton.mp this
  obtain ⟨o,pm,cd,doc,P,oc,vs,t,h1,h2,_⟩:=da.at'
  refine ⟨a,o,_,d.params,d.body,d.scope,?_,h1,h2,hdt,hdn,hdn,rfl,rfl,rfl,rfl,rfl,rfl,.inl ⟨hd d hdm,rfl⟩,[],?_,.inl ⟨rfl,rfl⟩⟩
  ·rw [gl,← hdn];exact ha
  ·rw [hk1,hk2];rfl
 ·refine ClaimW.callFrom_of_specG (c:=l.row.toRowW.claim) hz1 T.gens fun args hpre hlay ord hord=> ?_
  obtain ⟨ns,rfl,hlen⟩:=wN hmost hbound hpre
  obtain ⟨al,s2,hlaid,den⟩:=tE (R:=l.row.toRowW.claim.records) (cl:=classAt s.heap) (P:=w.params) (ord:=ord) ns s
  have keeps:=layAllW_keeps _ _ _ hlaid
  have hal:=layAllW_rest _ _ _ hlaid
  obtain ⟨as,hrd,hin,hold⟩:=reads_layAllW hord _ _ _ hlaid hlay _ (fun _ _ e=>e)
  refine ⟨_,_,hlaid,?_⟩
  have L:Laid l.row.toRowW.claim.records w s s2 [.list (ns.map WData.int)] [.ref al] as:=⟨⟨ord,hord,hlaid⟩,hrd,hin,hold,keeps,hal.1.trans T.gens,hal.2.2.1⟩
  have C:=call w s2 mg mb a ns [.ref al] (TA.keep keeps) (hdn▸ha) hlen den (hal.1.trans T.gens)
  have hi:=ident_freeW (r:=l.row.toRowW) rfl rfl rfl
  refine wpAny_bind (wpAny_nsGet (TA.g.keeps keeps) ?_)
  show wpAny _ _ (match mg l.name with |some f=>_ |none=>_) _ _ _
  rw [← hdn,ha]
  refine wpAny_bind (wpAny_mono C ?_ fun _ _ x=>x.elim)
  rintro v s' ⟨h',tk',kp,rfl,rfl⟩
  refine wpAny_pure ⟨_,rfl,?_⟩
  have g:GoodWG l.row.toRowW.claim (classAt s.heap) (ExcName.means s.heap) [.list (ns.map WData.int)] s2 (.ok (.ret (.bool true)))
    {s2 with heap:=h',toks:=tk'}:=by
   refine ⟨.inl ⟨_,.bool true,[],rfl,fun _=>rfl,.bool true,?_,fun _=>⟨List.nodup_nil,fun _ h=>nomatch h⟩⟩,kp,rfl,?_⟩
   ·show (WShape.has l.row.toRowW.records (.bool true) .bool&&WTm.holds l.row.toRowW.records (.eq .res (.lit (.bool true))) {args:=[.list (ns.map WData.int)],res:=some (.bool true),after:=[.list (ns.map WData.int)]})=true
    kernel_rfl!
   ·intro y hy;rw [show ({s2 with heap:=h',toks:=tk'}:Shared).gens = #[] from hal.1.trans T.gens] at hy;cases hy with |mk h=>cases h
  have z:=g.laid (c:=l.row.toRowW.claim) rfl rfl hi L
  refine ⟨z.1,z.2.1,z.2.2,fun q=> ?_⟩
  rw [show l.row.writes=l.writes from rfl,hwr] at q
  cases q
end Mine
set_option genSizeOf false
set_option genInjectivity false
namespace Mine
inductive Trip (n:Int):List Value→Prop
 |nil:Trip n []
 |cons {l:Int} {t:Tok} {v w:Value} {r:List Value}:l<n→Trip n r→Trip n (.int l t :: v :: w :: r)
theorem Trip.mono {n m:Int} (h:n≤m):∀ {l:List Value},Trip n l→Trip m l
 |_,.nil=> .nil
 |_,.cons a b=> .cons (by omega) (b.mono h)
theorem Trip.add {n:Int} {l:Int} {t:Tok} {v w:Value} (h:l<n):∀ {r:List Value},Trip n r→Trip n (r++[.int l t,v,w])
 |_,.nil=> .cons h .nil
 |_,.cons a b=> .cons a (Trip.add h b)
theorem Trip.among {n:Int} {pos:Pos} (h:n≤pos.line) {r:List Value} (t:Trip n r):codeAmong pos r=none:=by
 induction t with
 |nil=>rfl
 | @cons l t v w r a b ih =>
  have e:(l==(pos.line:Int))=false:=beq_eq_false_iff_ne.mpr (Int.ne_of_lt (Int.lt_of_lt_of_le a h))
  cases v with
  |int col t' =>
   show (if (l==(pos.line:Int))&&_ then _ else codeAmong pos r)=none
   rw [e];exact ih
  |_=>rfl
noncomputable def plainPar (a:Arguments):Arguments:=⟨[],a.args,none,[],[],none,[]⟩
noncomputable def itemOf:Stmt→DefItem
 | .FunctionDef name params body _ _ _ scope _ _ pos=>⟨name,plainPar params,body,scope,pos⟩
 |_=>⟨"",⟨[],[],none,[],[],none,[]⟩,[],default,default⟩
noncomputable def mkDef (d:DefItem):Stmt:= .FunctionDef d.name (plainPar d.params) d.body [] none [] d.scope none d.name d.pos
noncomputable def isPlain (main:Scope) (names:List Str) (line:Nat) (d:DefItem):Bool:=d.params.args.all (·.annotation.isNone)&&d.scope.names.all (fun x=> !(x.2 == .free))&&(docOf d.body).isNone&&main.names.lookup d.name==some .local && !names.contains d.name && !(d.name==("__builtins__":Str)) && !(d.name==("__name__":Str))&&decide (line≤d.pos.line)
theorem jy (e:Env):∀ (as:List Arg),as.all (·.annotation.isNone)=true→annotationsOf as e=[]
 | [],_=>rfl
 |⟨arg,ann,pos⟩ :: r,h=>aa h fun h1 h2=>by
  cases ann with
  |some _=>exact nomatch h1
  |none=>exact jy e r h2
theorem mX {name:Str} {as:List Arg} {body:List Stmt} {scope:Scope} {pos:Pos} (h:as.all (·.annotation.isNone)=true):PlainDefTree name ⟨[],as,none,[],[],none,[]⟩ body scope pos:=by
 intro env
 have e:annTrees ⟨[],as,none,[],[],none,[]⟩ none env=[]:=by
  have:as++[]++Option.toList none++[]++Option.toList none=as:=by simp
  show annotationsOf (as++[]++Option.toList none++[]++Option.toList none) env++_=_
  rw [this,jy env as h];rfl
 rw [exec_def,e]
 rfl
section
variable {p:Program} {w:World} {A:Around} {E:Value→Shared→Prop} {c Pl F:Addr} {h₀:Heap} {consts:List (Str×PyData)} {objs:List (Str×(Obj→Prop))} {Q:Flow→Shared→Prop} {rest:List Stmt}
theorem fX (x:Str):("":Str)++x=x:=by
 show Str.append _ _=_
 cases x
 simp [Str.append]
 rfl
theorem rO (hmod:p.main.scope.kind = .module) {d:DefItem} {s:Shared} {mg₀ mg:Str→Option Value} {ps:Array Value} {defs:List DefItem} {names:List Str} {line:Nat} (X:Mod h₀ mg₀ c Pl s.heap mg ps defs consts objs names) (T:Trip line ps.toList) (hN:("__name__":Str)∉names) (hp:isPlain p.main.scope names line d=true)
  (k:∀ h' mg' ps' tk,Mod h₀ mg₀ c Pl h' mg' ps' (⟨d.name,plainPar d.params,d.body,d.scope,d.pos⟩ :: defs) consts objs (d.name :: names)→Trip ((d.pos.line+1:Nat):Int) ps'.toList→("__name__":Str)∉d.name :: names→wpAny (model p w) A (execs rest (mainEnv p c F)) Q E {s with heap:=h',toks:=tk}) :
  wpAny (model p w) A (execs (mkDef d :: rest) (mainEnv p c F)) Q E s:=by
 unfold isPlain at hp
 refine aa hp fun hp g9=>aa hp fun hp g8=>aa hp fun hp g7=>aa hp fun hp g6=>aa hp fun hp g5=>aa hp fun hp g4=>aa hp fun g2 g3=> ?_
 have g5:=beq_iff_eq.mp g5
 have g9:(line:Int)≤d.pos.line:=Int.ofNat_le.mpr (of_decide_eq_true g9)
 have no:∀ {b:Bool},(!b)=true→b=false:=fun h=>by rwa [Bool.not_eq_true'] at h
 refine wpAny_execs_cons (X.def_plain (prog:=p) (F:=F) (mX g2) (fun x hx q=> ?_) (Option.isNone_iff_eq_none.mp g4) g5 ?_ ?_ ?_ ?_ hmod ?_ rfl)
 ·have:=List.all_eq_true.mp g3 x hx;rw [q] at this;exact nomatch this
 ·unfold qualnameIn
  rw [show Env.kindOf {scope:=p.main.scope,locals:=mainGlobals,globals:=mainGlobals,cells:=[]} d.name=some .local from g5]
  exact fX _
 ·intro hm;exact nomatch (List.contains_iff_mem.mpr hm).symm.trans (no g6)
 ·intro h' mg' c' tk X'
  refine k _ _ _ _ X' ?_ fun hm=> ?_
  ·rw [Array.toList_append]
   exact Trip.add (Int.ofNat_lt.mpr (Nat.lt_succ_self _)) (T.mono (Int.le_trans g9 (Int.ofNat_le.mpr (Nat.le_succ _))))
  ·rcases List.mem_cons.mp hm with e |e
   ·exact beq_eq_false_iff_ne.mp (no g8) e.symm
   ·exact hN e
 ·intro q;exact beq_eq_false_iff_ne.mp (no g7) q
 ·exact T.among g9
end
end Mine
set_option genSizeOf false
set_option genInjectivity false
namespace Mine
theorem s6:isSubtype (.type "dict") (.type "dict")=pure true:=by rw [isSubtype_type];kernel_rfl
theorem pE:typeLookup (.type "dict") ("__iter__":Str)=pure (some (.builtin "dict.__iter__")):=by rw [typeLookup_type,builtinLookup_eq_fast];kernel_rfl
theorem iu {h:Heap} {b:Addr} (x:h.objs.size≤b):h.get? b=none:=by
 cases e:h.get? b with
 |none=>rfl
 |some o=>exact absurd (Heap.lt_size e) (Nat.not_lt.mpr x)
inductive Sts:List (Int×Value)→List (Int×Str)→Prop
 |nil:Sts [] []
 |cons {k:Int} {x:Str} {t:Tok} {r:List (Int×Value)} {r':List (Int×Str)}:Sts r r'→Sts ((k,.str x t) :: r) ((k,x) :: r')
section
variable {kvs more:List (Int×Value)} {l m:List (Int×Str)}
theorem Sts.keys (h:Sts kvs l):kvs.map (·.1)=l.map (·.1):=by
 induction h with
 |nil=>rfl
 |cons _ ih=>exact congrArg (List.cons _) ih
theorem Sts.length (h:Sts kvs l):kvs.length=l.length:=(List.length_map _).symm.trans ((congrArg List.length h.keys).trans (List.length_map _))
theorem Sts.append (h:Sts kvs l) (g:Sts more m):Sts (kvs++more) (l++m):=by
 induction h with
 |nil=>exact g
 |cons _ ih=>exact .cons ih
theorem Sts.look (i:Int) (h:Sts kvs l):(l.lookup i=none∧valueAt kvs i=none)∨∃ x t,l.lookup i=some x∧valueAt kvs i=some (.str x t):=by
 induction h with
 |nil=>exact .inl ⟨rfl,rfl⟩
 | @cons k x t r r' _ ih =>
  unfold valueAt at ih ⊢
  rw [List.lookup_cons,List.find?_cons]
  by_cases hk:i=k
  ·rw [beq_iff_eq.mpr hk,decide_eq_true hk.symm];exact .inr ⟨x,t,rfl,rfl⟩
  ·rw [beq_eq_false_iff_ne.mpr hk,decide_eq_false (Ne.symm hk)];exact ih
end
section
variable {prog:Program} {w:World} {A:Around} {E:Value→Shared→Prop} {s:Shared}
structure Ac (prog:Program) (w:World) (A:Around) (E:Value→Shared→Prop) (kx:Int×Str) (it:Sem Value×Sem Value):Prop where
 k:∀ {s:Shared} {Q:Value→Shared→Prop},(∀ t tk,Q (.int kx.1 t) {s with toks:=tk})→wpAny (model prog w) A it.1 Q E s
 v:∀ {s:Shared} {Q:Value→Shared→Prop},(∀ t tk,Q (.str kx.2 t) {s with toks:=tk})→wpAny (model prog w) A it.2 Q E s
inductive Itms (prog:Program) (w:World) (A:Around) (E:Value→Shared→Prop):List (Int×Str)→List (Sem Value×Sem Value)→Prop
 |nil:Itms prog w A E [] []
 |cons {kx:Int×Str} {it:Sem Value×Sem Value} {l:List (Int×Str)} {its:List (Sem Value×Sem Value)}:Ac prog w A E kx it→Itms prog w A E l its→Itms prog w A E (kx :: l) (it :: its)
theorem Itms.ne {l:List (Int×Str)} {its:List (Sem Value×Sem Value)} (h:Itms prog w A E l its):its.isEmpty=l.isEmpty:=by
 cases h with
 |nil=>rfl
 |cons _ _=>rfl
theorem Itms.snoc {kx:Int×Str} {it:Sem Value×Sem Value} (a:Ac prog w A E kx it) {l:List (Int×Str)} {its:List (Sem Value×Sem Value)} (h:Itms prog w A E l its):Itms prog w A E (l++[kx]) (its++[it]):=by
 induction h with
 |nil=>exact .cons a .nil
 |cons b _ ih=>exact .cons b ih
theorem gx {i:Int} {t:Tok}:(intKind prog w).is i (.int i t)=true:=by simp [intKind,Value.isInt]
theorem rb {d:Addr} {kvs:List (Int×Value)} {k:Int} {key v:Value} {Q:Unit→Shared→Prop} (hkey:(intKind prog w).is k key=true) (hm:s.heap.DictOf (intKind prog w) d kvs) (hnot:k∉kvs.map (·.1))
  (hQ:∀ h',h'.DictOf (intKind prog w) d (kvs++[(k,v)])→Heap.SameBut d s.heap h'→Q () {s with heap:=h'}) (hsz:kvs.length≤sizeLine) :
  wpAny (model prog w) A (dictPut d ((intKind prog w).hash k) key v) Q E s:=by
 obtain ⟨o,es,ep,ho,hc,hd,hk,hp,hn⟩:=hm
 have hi:(es.findIdx? fun e=>(intKind prog w).is k e.key)=none:=by
  obtain ⟨es⟩:=es
  rw [List.findIdx?_toArray]
  refine (hp.findIdx k).trans (List.findIdx?_eq_none_iff.mpr fun x hx=>decide_eq_false fun e=>hnot (List.mem_map.mpr ⟨x,hx,e⟩))
 unfold dictPut
 refine wpAny_bind (wpAny_dictFind_of hkey ho hd hk ?_)
 rw [hi]
 refine wpAny_updateDictKeys (hz:=by rw [← Array.length_toList,hp.length];exact hsz) ho hd (hQ _ ⟨_,_,ep+1,Heap.get?_update_self _ ho (Obj.isFreed_of_dict (Obj.data_mapDictKeys hd _)),
   hc.mapDictKeys _,Obj.data_mapDictKeys hd _,hk.push hkey _,?_,?_⟩ (Heap.SameBut.update ..))
 ·rw [Array.toList_push];exact hp.append hkey _ v
 ·rw [List.map_append,List.nodup_append]
  exact ⟨hn,List.nodup_cons.mpr ⟨List.not_mem_nil,List.nodup_nil⟩,fun a ha b hb e=>hnot ((e.trans (List.mem_singleton.mp hb:b=k))▸ha)⟩
theorem oR {d:Addr} {kvs:List (Int×Value)} {k:Int} {key v:Value} {Q:Unit→Shared→Prop} (hkey:(intKind prog w).is k key=true) (hm:s.heap.DictOf (intKind prog w) d kvs) (hnot:k∉kvs.map (·.1))
  (hQ:∀ h',h'.DictOf (intKind prog w) d (kvs++[(k,v)])→Heap.SameBut d s.heap h'→Q () {s with heap:=h',toks:=s.toks+1}) (hsz:kvs.length≤sizeLine) :
  wpAny (model prog w) A (dictSet d key v) Q E s:=by
 refine wpAny_dictSet_pairs (hsz:=hsz) hkey hm fun h' h1 h2=>hQ h' ?_ h2
 unfold stored at h1
 rw [if_neg fun q=>let ⟨x,hx,he⟩:=List.any_eq_true.mp q;hnot (List.mem_map.mpr ⟨x,hx,of_decide_eq_true he⟩)] at h1
 exact h1
theorem i9 {l:List (Int×Str)} {its:List (Sem Value×Sem Value)} (h:Itms prog w A E l its):∀ {s:Shared} {Q:List (Value×Value)→Shared→Prop},
  (∀ vs kvs tk,Carries (intKind prog w) vs kvs→Sts kvs l→Q vs {s with toks:=tk})→wpAny (model prog w) A (evalPairs its) Q E s:=by
 induction h with
 |nil=>exact fun {s Q} hq=>evalPairs_nil (hq [] [] s.toks trivial .nil)
 | @cons kx it l its a r ih=>exact fun {s Q} hq=>wpAny_bind (a.k fun t tk=>wpAny_bind (wpAny_holding (a.v fun t' tk'=>wpAny_bind (wpAny_holding (ih fun vs kvs tk'' hc hs=>wpAny_pure (hq _ ((kx.1,.str kx.2 t') :: kvs) _ ⟨gx,rfl,hc⟩ (.cons hs)))))))
end
end Mine
set_option genSizeOf false
set_option genInjectivity false
namespace Mine
section
variable {prog:Program} {w:World} {A:Around} {E:Value→Shared→Prop} {s:Shared}
theorem ue {d:Addr} {h0 h h':Heap} (hd:h0.objs.size≤d) (k:Kq h0 h) (sb:Heap.SameBut d h h'):Kq h0 h':=fun b o e =>
 (sb.2 b fun q=>absurd (Heap.lt_size e) (Nat.not_lt.mpr (q▸hd))).trans (k b o e)
theorem jU (h:Heap):(h.push {cls:= .type "dict",data:= .dict #[]}).DictOf (intKind prog w) h.objs.size [] :=
 ⟨_,#[],0,Heap.get?_push_size _ rfl,⟨rfl,rfl,rfl⟩,rfl,fun e he=>absurd he (Array.not_mem_empty e),.nil,List.nodup_nil⟩
theorem vX {h h':Heap} {d:Addr} {kvs:List (Int×Value)} (k:Kq h h') (x:h.DictOf (intKind prog w) d kvs):h'.DictOf (intKind prog w) d kvs:=let ⟨o,es,ep,e1,e2⟩:=x;⟨o,es,ep,k _ _ e1,e2⟩
theorem vL {h:Heap} {d:Addr} {kvs:List (Int×Value)} (x:h.DictOf (intKind prog w) d kvs):d<h.objs.size:=let ⟨_,_,_,e1,_⟩:=x;Heap.lt_size e1
theorem iT {α β:Type} {la l:List (α×β)} {kx:α×β} (h:((la++[kx]++l).map (·.1)).Nodup):kx.1∉la.map (·.1):=fun hin=>by
 rw [List.map_append,List.map_append] at h
 exact (List.nodup_append.mp (List.nodup_append.mp h).1).2.2 _ hin _ (List.mem_singleton.mpr rfl) rfl
theorem vr {d:Addr} {l:List (Int×Str)} {its:List (Sem Value×Sem Value)} (h:Itms prog w A E l its):∀ {acc:List (Int×Value)} {la:List (Int×Str)} {s:Shared} {Q:PUnit→Shared→Prop},s.heap.DictOf (intKind prog w) d acc→Sts acc la→((la++l).map (·.1)).Nodup→(la++l).length≤sizeLine →
  (∀ h' tk kvs,h'.DictOf (intKind prog w) d kvs→Sts kvs (la++l)→Heap.SameBut d s.heap h'→Q PUnit.unit {s with heap:=h',toks:=tk}) →
  wpAny (model prog w) A (forIn its PUnit.unit fun (x:Sem Value×Sem Value) (_:PUnit)=>(do let kv ← x.1;let vv ← holding [kv] x.2;holding [kv,vv] (dictSet d kv vv);pure (ForInStep.yield PUnit.unit):Sem (ForInStep PUnit))) Q E s:=by
 induction h with
 |nil =>
  intro acc la s Q hm hs hn hz hQ
  rw [List.forIn_nil]
  rw [List.append_nil] at hQ
  exact wpAny_pure (hQ s.heap s.toks acc hm hs (Heap.SameBut.refl _ _))
 | @cons kx it l its a r ih =>
  intro acc la s Q hm hs hn hz hQ
  rw [List.append_cons] at hn hz hQ
  rw [List.forIn_cons]
  refine wpAny_bind (wpAny_bind (a.k fun t tk=>wpAny_bind (wpAny_holding (a.v fun t' tk'=>wpAny_bind (wpAny_holding (oR gx hm (by rw [hs.keys];exact iT hn) (fun h1 hm1 sb1=>wpAny_pure ?_) ?_))))))
  ·exact ih hm1 (hs.append (.cons .nil)) hn hz fun h' tk kvs g1 g2 g3=>hQ h' tk kvs g1 g2 (sb1.trans g3)
  ·rw [hs.length]
   exact Nat.le_trans (by rw [List.length_append,List.length_append,Nat.add_assoc];exact Nat.le_add_right _ _) hz
theorem lK {l:List (Int×Str)} {its:List (Sem Value×Sem Value)} {Q:Addr→Shared→Prop} (h:Itms prog w A E l its) (hn:(l.map (·.1)).Nodup) (hz:l.length≤sizeLine)
  (hQ:∀ d h' tk kvs,s.heap.objs.size≤d→Kq s.heap h'→h'.DictOf (intKind prog w) d kvs→Sts kvs l→Q d {s with heap:=h',toks:=tk}):wpAny (model prog w) A (subDict its) Q E s:=by
 have fin:∀ {h':Heap},Heap.SameBut s.heap.objs.size (s.heap.push {cls:= .type "dict",data:= .dict #[]}) h'→Kq s.heap h':=fun sb=>ue (Nat.le_refl _) (Kq.push _ _) sb
 unfold subDict
 refine wpAny_bind (wpAny_alloc (wpAny_bind (wpAny_holding ?_)))
 by_cases hc:its.length≤15
 ·rw [if_pos hc]
  refine wpAny_bind (i9 h fun vs kvs tk hc hs=>wpAny_holding (wpAny_bind (wpAny_storeAll (knd:=intKind prog w) vs kvs [] _ _ hc (jU _) (by rw [List.length_nil,Nat.zero_add,hs.length];exact hz) fun h' hm sb=>wpAny_pure (wpAny_pure (hQ _ h' _ kvs (Nat.le_refl _) (fin sb) ?_ hs)))))
  rw [merged_append_of_fresh [] kvs (by rw [List.nil_append,hs.keys];exact hn)] at hm
  exact hm
 ·rw [if_neg hc]
  exact wpAny_bind (wpAny_rule (wpAny_bind (vr (la:=[]) h (jU _) .nil hn hz fun h' tk' kvs hm hs sb=>wpAny_pure (wpAny_pure (hQ _ h' tk' kvs (Nat.le_refl _) (fin sb) hm hs)))))
theorem nL {m i x:Nat} {rest:List Nat} (h:x :: rest=List.range' i (m - i)):x=i∧i<m∧rest=List.range' (i+1) (m - (i+1)):=by
 cases e:m - i with
 |zero=>rw [e] at h;exact nomatch h
 |succ k =>
  rw [e,List.range'_succ] at h
  injection h with h1 h2
  exact ⟨h1,Nat.lt_of_sub_eq_succ e,by rw [h2,← Nat.sub_sub,e];rfl⟩
structure Av (prog:Program) (w:World) (d o:Addr) (oo:Obj) (kvs more:List (Int×Value)) (h0:Heap) (rest:List Nat) (i:Nat) (h:Heap):Prop where
 r:rest=List.range' i (more.length - i)
 dd:h.DictOf (intKind prog w) d (kvs++more.take i)
 oo:h.get? o=some oo
 sb:Heap.SameBut d h0 h
theorem sU {d o:Addr} {kvs more:List (Int×Value)} {Q:Unit→Shared→Prop} (hdo:d≠o) (hoS:(o==sysModules)=false) (hd:s.heap.DictOf (intKind prog w) d kvs) (ho:s.heap.DictOf (intKind prog w) o more)
  (hne:kvs≠[]) (hn:((kvs++more).map (·.1)).Nodup) (hz:(kvs++more).length≤sizeLine)
  (hQ:∀ h',h'.DictOf (intKind prog w) d (kvs++more)→Heap.SameBut d s.heap h'→Q () {s with heap:=h'}):wpAny (model prog w) A (mergeMapping d (.ref o) false) Q E s:=by
 obtain ⟨oo,eso,epo,hoo,hco,hdo',hko,hpo,hno⟩:=ho
 have hlen:eso.size=more.length:=Array.length_toList.symm.trans hpo.length
 obtain ⟨od,esd,epd,hod,hcd,hdd,hkd,hpd,hnd⟩:=id hd
 have he:¬ esd.isEmpty=true:=fun e=>hne (List.length_eq_zero_iff.mp (hpd.length.symm.trans (by rw [Array.isEmpty_iff.mp e];rfl)))
 unfold mergeMapping
 refine wpAny_bind (wpAny_isInstance ⟨oo,hoo,hco.1⟩ s6 ?_)
 rw [if_pos rfl]
 refine wpAny_bind (wpAny_specialOf ⟨oo,hoo,hco.1⟩ pE (wpAny_bind (wpAny_pure ?_)))
 rw [show ((some (Value.builtin "dict.__iter__"):Option Value)==some (.builtin "dict.__iter__"))=true from by decide]
 show wpAny _ _ (if (o==sysModules)=true then _ else _) _ _ _
 rw [if_neg (by rw [hoS];exact Bool.false_ne_true)]
 refine wpAny_bind (wpAny_dictEntries hod hdd ?_)
 rw [if_neg he]
 refine wpAny_bind (wpAny_dictEntries hoo hdo' (wpAny_bind (wpAny_dictEpoch hoo hdo' ?_)))
 rw [hlen,List.range_eq_range']
 refine wpAny_bind (wpAny_forIn_list _ (fun rest _ s'=>∃ h' i,s' = {s with heap:=h'}∧Av prog w d o oo kvs more s.heap rest i h') _ (fun x rest b s' hI=> ?_) (fun b s' hI=> ?_) _ _ ⟨s.heap,0,rfl,rfl,by rw [List.take_zero,List.append_nil];exact hd,hoo,Heap.SameBut.refl _ _⟩)
 ·obtain ⟨h',i,rfl,hI⟩:=hI
  obtain ⟨rfl,hlt,hrest⟩:=nL hI.r
  have hlt':x<eso.size:=hlen▸hlt
  obtain ⟨hkey,hval⟩:=hpo.get? (e:=eso[x]) (by rw [Array.getElem?_toList,Array.getElem?_eq_getElem hlt']) (List.getElem?_eq_getElem hlt)
  obtain ⟨k',hkey',hhash⟩:=hko eso[x] (Array.getElem_mem hlt')
  obtain rfl:k'=more[x].1:=(intKind prog w).inj _ _ _ hkey' hkey
  have htk:more.take (x+1)=more.take x++[more[x]]:=by rw [List.take_add_one,List.getElem?_eq_getElem hlt];rfl
  have e:kvs++more.take x++[more[x]]++more.drop (x+1)=kvs++more:=by rw [List.append_assoc kvs,← htk,List.append_assoc,List.take_append_drop]
  refine wpAny_bind (wpAny_dictEntries hI.oo hdo' ?_)
  rw [Array.getElem?_eq_getElem hlt']
  show wpAny _ _ (holding _ (if false=true then _ else _) >>= _) _ _ _
  rw [if_neg Bool.false_ne_true,hhash,hval]
  refine wpAny_bind (wpAny_holding (rb hkey hI.dd (iT (e.symm▸hn)) (fun h2 hd2 hs2=> ?_) ?_))
  ·have ho2:h2.get? o=some oo:=(hs2.2 o (Ne.symm hdo)).trans hI.oo
   refine wpAny_bind (wpAny_dictEpoch ho2 hdo' ?_)
   rw [if_neg (by rw [bne_self_eq_false];exact Bool.false_ne_true)]
   exact wpAny_pure ⟨h2,x+1,rfl,hrest,by rw [htk,← List.append_assoc];exact hd2,ho2,hI.sb.trans hs2⟩
  ·exact Nat.le_trans (by rw [List.length_append,List.length_append];exact Nat.add_le_add_left (List.length_take_le' _ _) _) hz
 ·obtain ⟨h',i,rfl,hI⟩:=hI
  have hi:more.take i=more:=List.take_of_length_le (by
   rcases Nat.lt_or_ge i more.length with h |h
   ·have:=hI.r
    rw [← Nat.succ_sub_one (more.length - i),Nat.sub_one,Nat.pred_succ,← Nat.sub_add_cancel (Nat.sub_pos_of_lt h)] at this
    exact nomatch this
   ·exact h)
  exact wpAny_pure (hQ h' (by have:=hI.dd;rw [hi] at this;exact this) hI.sb)
end
end Mine
set_option genSizeOf false
set_option genInjectivity false
namespace Mine
section
variable {prog:Program} {w:World} {A:Around} {E:Value→Shared→Prop} {s:Shared}
inductive qr (prog:Program) (w:World) (h0:Heap):Heap→List (Int×Str)→Option Addr→Prop
 |none:qr prog w h0 h0 [] none
 |some {d:Addr} {h:Heap} {done:List (Int×Str)} {kvs:List (Int×Value)}:h0.objs.size≤d→Kq h0 h→done≠[]→h.DictOf (intKind prog w) d kvs→Sts kvs done→qr prog w h0 h done (some d)
noncomputable def flushS (run:List (Sem Value×Sem Value)) (main:Option Addr):Sem (Option Addr):=do
 if run.isEmpty then return main
 match main with
 |none=>return some (← subDict run)
 |some d =>
  let sub ← holding [.ref d] (subDict run)
  (holding [.ref d,.ref sub] (mergeMapping d (.ref sub) false)).onRaise fun x=>do let _ ← holding [.ref d,x] (runValue (.builtin "proto.let_go" {}))
  return some d
theorem xj {d:Addr} (h:2≤d):(d==sysModules)=false:=beq_eq_false_iff_ne.mpr fun q=>absurd (q▸h:2≤sysModules) (by decide)
theorem ky {h0:Heap} {done run:List (Int×Str)} {runI:List (Sem Value×Sem Value)} {main:Option Addr} {Q:Option Addr→Shared→Prop} (hbig:2≤h0.objs.size) (a:qr prog w h0 s.heap done main) (hr:Itms prog w A E run runI) (hn:((done++run).map (·.1)).Nodup) (hz:(done++run).length≤sizeLine)
  (hQ:∀ m h' tk,qr prog w h0 h' (done++run) m→Q m {s with heap:=h',toks:=tk}):wpAny (model prog w) A (flushS runI main) Q E s:=by
 cases hru:run with
 |nil =>
  rw [hru] at hr hQ
  cases hr with
  |nil =>
   rw [List.append_nil] at hQ
   exact wpAny_pure (hQ _ _ _ a)
 |cons k r =>
  have hne:¬ runI.isEmpty=true:=by rw [hr.ne,hru];exact Bool.false_ne_true
  have hnr:(run.map (·.1)).Nodup:=by rw [List.map_append] at hn;exact (List.nodup_append.mp hn).2.1
  have hzr:run.length≤sizeLine:=Nat.le_trans (by rw [List.length_append];exact Nat.le_add_left _ _) hz
  have hdn:done++run≠[]:=by rw [hru];exact List.append_ne_nil_of_right_ne_nil _ (List.cons_ne_nil _ _)
  unfold flushS
  rw [if_neg hne]
  cases a with
  |none=>exact wpAny_bind (lK hr hnr hzr fun d h1 tk1 kvs g1 g2 g3 g4=>wpAny_pure (hQ _ _ _ (.some g1 g2 hdn g3 g4)))
  | @some d _ _ kvs a1 a2 a3 a4 a5 =>
   have lt:=vL a4
   refine wpAny_bind (wpAny_holding (lK hr hnr hzr fun d1 h1 tk1 kvs1 g1 g2 g3 g4=> ?_))
   refine wpAny_bind (wpAny_onRaise (wpAny_holding (sU (kvs:=kvs) (more:=kvs1) (Nat.ne_of_lt (Nat.lt_of_lt_of_le lt g1)) (xj (Nat.le_trans hbig (Nat.le_trans a1 (Nat.le_trans (Nat.le_of_lt lt) g1)))) (vX g2 a4) g3 ?_ ?_ ?_ fun h2 q1 q2=>wpAny_pure (hQ _ _ _ (.some a1 (ue a1 (a2.trans g2) q2) hdn q1 (a5.append g4))))))
   ·exact fun q=>a3 (List.length_eq_zero_iff.mp (a5.length.symm.trans (by rw [q];rfl)))
   ·rw [(a5.append g4).keys];exact hn
   ·rw [(a5.append g4).length];exact hz
noncomputable def itP (p:Sem Value×Sem Value):Option (Sem Value)×Sem Value:=(some p.1,p.2)
inductive DI (prog:Program) (w:World) (A:Around) (E:Value→Shared→Prop) (s:Shared) (l:List (Int×Str)):List (Option (Sem Value)×Sem Value)→Option Addr×List (Sem Value×Sem Value)→Shared→Prop
 |mk {h':Heap} {tk:Nat} {main:Option Addr} {done run more:List (Int×Str)} {runI moreI:List (Sem Value×Sem Value)} {rest:List (Option (Sem Value)×Sem Value)}:l=done++run++more→Itms prog w A E run runI→Itms prog w A E more moreI→rest=moreI.map itP→qr prog w s.heap h' done main →
   DI prog w A E s l rest (main,runI) {s with heap:=h',toks:=tk}
variable {l:List (Int×Str)} (hn:(l.map (·.1)).Nodup) (hz:l.length≤sizeLine) (hbig:2≤s.heap.objs.size)
theorem qf {done run more:List (Int×Str)} (hl:l=done++run++more) (hn:(l.map (·.1)).Nodup):((done++run).map (·.1)).Nodup:=by
 rw [hl,List.map_append] at hn
 exact (List.nodup_append.mp hn).1
theorem tH {done run more:List (Int×Str)} (hl:l=done++run++more) (hz:l.length≤sizeLine):(done++run).length≤sizeLine:=Nat.le_trans (by rw [hl,List.length_append (bs:=more)];exact Nat.le_add_right _ _) hz
noncomputable def gatherS (x:Option (Sem Value)×Sem Value) (b:Option Addr×List (Sem Value×Sem Value)) (k:Sem Value):Sem (ForInStep (Option Addr×List (Sem Value×Sem Value))) :=
 if (b.2++[(k,x.2)]).length==17 then (do let main ← flushS (b.2++[(k,x.2)]) b.1;pure (.yield (main,[]))) else pure (.yield (b.1,b.2++[(k,x.2)]))
include hn hz hbig in
theorem wg {k v:Sem Value} {rest:List (Option (Sem Value)×Sem Value)} {b:Option Addr×List (Sem Value×Sem Value)} {s':Shared} (h:DI prog w A E s l ((some k,v) :: rest) b s') :
  wpAny (model prog w) A (gatherS (some k,v) b k) (fun r s'=>match r with | .yield b'=>DI prog w A E s l rest b' s' | .done b'=>False) E s':=by
 cases h with
 |mk hl hr hm hrest ha =>
  rename_i h' tk main done run more runI moreI
  cases hm with
  |nil=>cases hrest
  |cons a r =>
   rename_i kx it more moreI
   injection hrest with e1 e2
   cases e1
   have hl':=hl.trans (List.append_cons _ _ _)
   rw [List.append_assoc done] at hl'
   have hrun:=hr.snoc a
   unfold gatherS
   by_cases hc:((runI++[(it.1,it.2)]).length==17)=true
   ·rw [if_pos hc]
    refine wpAny_bind (ky hbig ha hrun (qf hl' hn) (tH hl' hz) fun m h2 tk2 a2=>wpAny_pure (.mk (done:=done++(run++[kx])) (run:=[]) ?_ .nil r e2 a2))
    rw [List.append_nil];exact hl'
   ·rw [if_neg hc]
    exact wpAny_pure (.mk hl' hrun r e2 ha)
include hn hz hbig in
theorem m9 {its:List (Sem Value×Sem Value)} {Q:Value→Shared→Prop} (h:Itms prog w A E l its) (h0:l≠[])
  (hQ:∀ d h' tk kvs,s.heap.objs.size≤d→Kq s.heap h'→h'.DictOf (intKind prog w) d kvs→Sts kvs l→Q (.ref d) {s with heap:=h',toks:=tk}) :
  wpAny (model prog w) A (dictDisplay (its.map itP)) Q E s:=by
 unfold dictDisplay
 refine wpAny_bind (wpAny_forIn_list _ (DI prog w A E s l) _ (fun x rest b s' hI=> ?_) (fun b s' hI=> ?_) _ _ (.mk (done:=[]) (run:=[]) rfl .nil h rfl .none))
 ·obtain ⟨k,v⟩:=x
  cases k with
  |some k=>exact wpAny_mono (wg hn hz hbig hI) (fun r s' hr=>by
    cases r with
    |yield b'=>exact hr
    |done b'=>exact hr.elim) fun _ _ e=>e
  |none =>
   cases hI with
   |mk hl hr hm hrest ha =>
    cases hm with
    |nil=>cases hrest
    |cons a r=>cases hrest
 ·cases hI with
  |mk hl hr hm hrest ha =>
   cases hm with
   |cons a r=>cases hrest
   |nil =>
    rw [List.append_nil] at hl
    refine wpAny_bind (show wpAny _ _ (flushS _ _) _ _ _ from ky hbig ha hr (hl▸hn) (hl▸hz) fun m h2 tk2 a2=> ?_)
    rw [← hl] at a2
    cases a2 with
    |none=>exact absurd rfl h0
    |some g1 g2 g3 g4 g5=>exact wpAny_pure (hQ _ _ _ _ g1 g2 g4 g5)
noncomputable def cOf:Expr→Const
 | .Constant c _ _=>c
 |_=> .none
noncomputable def intC:Const→Int
 | .int i=>i
 |_=>0
noncomputable def strC:Const→Str
 | .str x=>x
 |_=>Str.empty
noncomputable def cI (e:Expr):Int:=intC (cOf e)
noncomputable def cS (e:Expr):Str:=strC (cOf e)
noncomputable def intE (e:Expr):Expr:= .Constant (.int (cI e)) (numE e) e.pos
noncomputable def strE (e:Expr):Expr:= .Constant (.str (cS e)) (numE e) e.pos
noncomputable def dictLit (ks vs:List Expr):List (Int×Str):=List.zipWith (fun k v=>(cI k,cS v)) ks vs
theorem po {env:Env} {pos:Pos}:∀ ks vs:List Expr,
  ∃ its,(evalEachOpt (ks.map fun k=>some (intE k)) env).zip ((evalEach (vs.map strE) env).map fun v=>do let x ← v;standAt pos;pure x)=its.map itP∧Itms prog w A E (dictLit ks vs) its:=by
 intro ks
 induction ks with
 |nil=>exact fun _=>⟨[],rfl,.nil⟩
 |cons k ks ih =>
  intro vs
  cases vs with
  |nil=>exact ⟨[],rfl,.nil⟩
  |cons v vs =>
   obtain ⟨its,e,hi⟩:=ih vs
   exact ⟨(eval (intE k) env,do let x ← eval (strE v) env;standAt pos;pure x) :: its,congrArg (List.cons _) e,.cons ⟨fun hq=>wpAny_Constant_int (env:=env) (k:=numE k) (pos:=k.pos) (hq _ _),fun hq=>wpAny_bind (wpAny_Constant_str (env:=env) (k:=numE v) (pos:=v.pos) (wpAny_bind (wpAny_standAt (wpAny_pure (hq _ _)))))⟩ hi⟩
noncomputable def below:List (Int×Str)→Int→Bool
 | [],_=>true
 |q :: _,a=>decide (a<q.1)
noncomputable def ascend:List (Int×Str)→Bool
 | []=>true
 |p :: r=>below r p.1&&ascend r
theorem pX {r:List (Int×Str)}:∀ {a:Int},below r a=true→ascend r=true→∀ p∈r,a<p.1:=by
 induction r with
 |nil=>exact fun _ _ _ hp=>nomatch hp
 |cons q r ih=>exact fun hb h p hp=>aa h fun h1 h2=>(List.mem_cons.mp hp).elim (fun e=>e▸de hb) fun hp=>Int.lt_trans (de hb) (ih h1 h2 p hp)
theorem jt {l:List (Int×Str)}:ascend l=true→(l.map (·.1)).Nodup:=by
 induction l with
 |nil=>exact fun _=>List.nodup_nil
 |cons p r ih=>exact fun h=>aa h fun h1 h2=>List.nodup_cons.mpr ⟨fun hm=>let ⟨q,hq,e⟩:=List.mem_map.mp hm;absurd e (Int.ne_of_gt (pX h1 h2 q hq)),ih h2⟩
theorem vK {env:Env} {ks vs:List Expr} {pos:Pos} {Q:Value→Shared→Prop} (ha:ascend (dictLit ks vs)=true) (hz:(dictLit ks vs).length≤sizeLine) (h0:dictLit ks vs≠[]) (hbig:2≤s.heap.objs.size)
  (hQ:∀ d h' tk kvs,s.heap.objs.size≤d→Kq s.heap h'→h'.DictOf (intKind prog w) d kvs→Sts kvs (dictLit ks vs)→Q (.ref d) {s with heap:=h',toks:=tk}) :
  wpAny (model prog w) A (eval (.Dict (ks.map fun k=>some (intE k)) (vs.map strE) pos) env) Q E s:=by
 obtain ⟨its,e,hi⟩:=po (prog:=prog) (w:=w) (A:=A) (E:=E) (env:=env) (pos:=pos) ks vs
 rw [arm_eval_Dict,e]
 exact wpAny_bind (wpAny_standAt (m9 (jt ha) hz hbig hi h0 hQ))
end
end Mine
set_option genSizeOf false
set_option genInjectivity false
namespace Mine
variable [Tabs] [Frk]
noncomputable def DictObj (prog:Program) (w:World) (l:List (Int×Str)) (o:Obj):Prop :=
 ∃ es ep kvs,o.ExactDict∧o.data = .dict es ep∧KeysOf (intKind prog w) es∧Pairs (intKind prog w) es.toList kvs∧(kvs.map (·.1)).Nodup∧Sts kvs l
noncomputable def SetObj (prog:Program) (w:World) (l:List Int) (o:Obj):Prop :=
 ∀ (h:Heap) (a:Addr),h.get? a=some o→∃ n,h.SetOf (intKind prog w) a (fun k=>l.contains k) n
section
variable {p:Program} {w:World} {A:Around} {E:Value→Shared→Prop} {c Pl F:Addr} {h₀:Heap} {consts:List (Str×PyData)} {objs:List (Str×(Obj→Prop))} {Q:Flow→Shared→Prop} {rest:List Stmt}
 {s:Shared} {mg₀ mg:Str→Option Value} {ps:Array Value} {defs:List DefItem} {names:List Str} {line:Nat}
theorem qD {x:Str} {k:Nat} {p1 p2 pos:Pos} (hmod:p.main.scope.kind = .module) (hloc:p.main.scope.names.lookup ("__name__":Str)=some .local) (X:Mod h₀ mg₀ c Pl s.heap mg ps defs consts objs names) (hN:("__name__":Str)∉names)
  (kk:∀ h' mgN mg' tk,(∀ x:Str,x≠"__name__"→mgN x=mg₀ x)→Mod h₀ mgN c Pl h' mg' ps defs consts objs names→wpAny (model p w) A (execs rest (mainEnv p c F)) Q E {s with heap:=h',toks:=tk}) :
  wpAny (model p w) A (execs (.Assign [.Name ("__name__":Str) p1] (.Constant (.str x) k p2) pos :: rest) (mainEnv p c F)) Q E s:=by
 refine wpAny_execs_cons (wpAny_Assign_Name (wpAny_Constant_str ?_) rfl)
 refine wpAny_storeName_local (env:=mainEnv p c F) hloc X.main.g (fun h' hg' hs'=> ?_)
  (by show (p.main.scope.kind == .class || (p.main.scope.kind == .module&&mainGlobals != mainGlobals))=false;rw [hmod];rfl)
 obtain ⟨bm,o,hbm,hne0,hneG,hneP,hbo,hrest⟩:=X.main.bmod
 have keep:∀ b o,b≠Pl→b≠mainGlobals→s.heap.get? b=some o→h'.get? b=some o:=fun b o _ hG e=>(hs'.2 _ hG).trans e
 have up:∀ {b:Addr},h₀.objs.size≤b→b≠Pl∧b≠mainGlobals:=fun hb=>⟨Nat.ne_of_gt (Nat.lt_of_lt_of_le X.lowP hb),Nat.ne_of_gt (Nat.lt_of_lt_of_le X.lowG hb)⟩
 have nm:∀ y∈names,y≠("__name__":Str):=fun y hy q=>hN (q▸hy)
 refine kk h' (fun y=>if y=("__name__":Str) then some (.str x s.toks) else mg₀ y) (fun y=>if y=("__name__":Str) then some (.str x s.toks) else mg y) _ (fun y hy=>if_neg hy) ?_
 refine ⟨⟨hg',X.main.code.sameBut hs' (Nat.ne_of_gt X.main.low.1) (Nat.ne_of_gt X.main.low.2),X.main.low,
   ⟨bm,o,(if_neg (by decide)).trans hbm,hne0,hneG,hneP,(hs'.2 _ hneG).trans hbo,hrest⟩⟩,fun b o hP hG e=>keep b o hP hG (X.keep b o hP hG e),?_,?_,?_,X.dnames,X.cnames,?_,X.onames,Nat.le_trans X.grows (Nat.le_of_eq hs'.1.symm),X.lowP,X.lowG,?_⟩
 ·intro e he
  obtain ⟨a₁,c₁,o₁,pm₁,doc₁,dV₁,h1,h2,h3,h4,h5,h6,h7⟩:=X.made e he
  refine ⟨a₁,c₁,o₁,pm₁,doc₁,dV₁,h1,h2,?_,keep _ _ (up h1).1 (up h1).2 h4,h5,
   h6.at fun o=>keep _ o (up h2).1 (up h2).2,h7.above fun b o hb=>keep b o (up hb).1 (up hb).2⟩
  show (if e.name=_ then _ else mg e.name)=_
  rw [if_neg (nm _ (X.dnames e he))];exact h3
 ·intro q hq
  obtain ⟨v,hv,hd⟩:=X.bound q hq
  refine ⟨v,?_,hd⟩
  show (if q.1=_ then _ else mg q.1)=_
  rw [if_neg (nm _ (X.cnames q hq))];exact hv
 ·intro y hy
  show (if y=_ then _ else mg y)=(if y=_ then _ else mg₀ y)
  split
  ·rfl
  ·exact X.others y hy
 ·intro q hq
  obtain ⟨a,o,hN',hb,ho,hqo⟩:=X.held q hq
  refine ⟨a,o,hN',?_,keep _ _ (up hN').1 (up hN').2 ho,hqo⟩
  show (if q.1=_ then _ else mg q.1)=_
  rw [if_neg (nm _ (X.onames q hq))];exact hb
 ·intro e he
  obtain ⟨a₁,o₁,fd₁,c₁,P₁,h1,r⟩:=(X.tabs e he).above (h':=h') fun b o hb=>keep b o (up hb).1 (up hb).2
  refine ⟨a₁,o₁,fd₁,c₁,P₁,?_,r⟩
  show (if e.name=_ then _ else mg e.name)=_
  rw [if_neg (nm _ (X.dnames e he))];exact h1
theorem sf {x:Str} {i:Int} {k:Nat} {p1 p2 pos:Pos} (hmod:p.main.scope.kind = .module) (hloc:p.main.scope.names.lookup x=some .local) (X:Mod h₀ mg₀ c Pl s.heap mg ps defs consts objs names) (hx:x∉names) (hb:x≠"__builtins__")
  (kk:∀ h' mg' tk,Mod h₀ mg₀ c Pl h' mg' ps defs ((x,.int i) :: consts) objs (x :: names)→wpAny (model p w) A (execs rest (mainEnv p c F)) Q E {s with heap:=h',toks:=tk}) :
  wpAny (model p w) A (execs (.Assign [.Name x p1] (.Constant (.int i) k p2) pos :: rest) (mainEnv p c F)) Q E s :=
 wpAny_execs_cons (X.assign hloc hx (fun Q' hq=>wpAny_Constant_int (hq _ _ fun h=> .int i _)) (fun h' mg' tk Y=>kk h' mg' tk Y) hb hmod rfl)
theorem sK {x y:Str} {k:Nat} {p1 p2 pos:Pos} (hmod:p.main.scope.kind = .module) (hloc:p.main.scope.names.lookup x=some .local) (X:Mod h₀ mg₀ c Pl s.heap mg ps defs consts objs names) (hx:x∉names) (hb:x≠"__builtins__")
  (kk:∀ h' mg' tk,Mod h₀ mg₀ c Pl h' mg' ps defs ((x,.str y) :: consts) objs (x :: names)→wpAny (model p w) A (execs rest (mainEnv p c F)) Q E {s with heap:=h',toks:=tk}) :
  wpAny (model p w) A (execs (.Assign [.Name x p1] (.Constant (.str y) k p2) pos :: rest) (mainEnv p c F)) Q E s :=
 wpAny_execs_cons (X.assign hloc hx (fun Q' hq=>wpAny_Constant_str (hq _ _ fun h=> .str y _)) (fun h' mg' tk Y=>kk h' mg' tk Y) hb hmod rfl)
theorem pF {x:Str} {ks vs:List Expr} {p1 p2 pos:Pos} (hmod:p.main.scope.kind = .module) (hloc:p.main.scope.names.lookup x=some .local) (X:Mod h₀ mg₀ c Pl s.heap mg ps defs consts objs names) (hx:x∉names) (hb:x≠"__builtins__")
  (ha:ascend (dictLit ks vs)=true) (hz:(dictLit ks vs).length≤sizeLine) (h0:dictLit ks vs≠[])
  (kk:∀ h' mg' tk,Mod h₀ mg₀ c Pl h' mg' ps defs consts ((x,DictObj p w (dictLit ks vs)) :: objs) (x :: names)→wpAny (model p w) A (execs rest (mainEnv p c F)) Q E {s with heap:=h',toks:=tk}) :
  wpAny (model p w) A (execs (.Assign [.Name x p1] (.Dict (ks.map fun k=>some (intE k)) (vs.map strE) p2) pos :: rest) (mainEnv p c F)) Q E s:=by
 refine wpAny_execs_cons (X.assign_obj hloc hx (fun Q' hq=> ?_) (fun h' mg' tk Y=>kk h' mg' tk Y) hb hmod rfl)
 refine vK ha hz h0 (Nat.le_trans (by decide) (Nat.succ_le_of_lt X.main.g.lt)) fun d h' tk kvs hn k hm hs=> ?_
 obtain ⟨o,es,ep,e1,e2,e3,e4,e5,e6⟩:=hm
 exact hq d o h' tk hn e1 ⟨es,ep,kvs,e2,e3,e4,e5,e6,hs⟩ k
theorem kQ:∀ ns:List Int,ints? (ns.map D.int)=some ns
 | []=>rfl
 |n :: ns=>ad rfl (aJ (kQ ns) rfl)
theorem rl {vs:List Value} {ns:List Int} (h:∀ h X,DenL h X (ns.map .int) vs):IntsAre vs ns:=(fW (h:={}) (X:=fun _=>False) (kQ ns) (h _ _)).1
theorem su {env:Env} {pos:Pos} (es:List Expr):∀ {s:Shared} {Q:List Value→Shared→Prop},(∀ vs tk,(∀ h X,DenL h X ((es.map cI).map .int) vs)→Q vs {s with toks:=tk})→wpAny (model p w) A (spliced (backTo pos (starEach (es.map intE) env))) Q E s:=by
 induction es with
 |nil =>
  intro s Q hq
  exact PySem.Calls.spliced_nil (hq [] s.toks fun _ _=>rfl)
 |cons e r ih =>
  intro s Q hq
  exact PySem.Calls.spliced_cons (wpAny_Constant_int (k:=numE e) (pos:=e.pos) (ih fun vs tk hv=>hq _ _ fun h X=>⟨_,_,rfl,⟨_,rfl⟩,hv h X⟩))
theorem rD:bootBuiltins ("set":Str)=some (.type "set"):=by decide +kernel
theorem dp {x:Str} {pos:Pos} {mb:Str→Option Value} {T:String} {R:Value→Shared→Prop} (hmod:p.main.scope.kind = .module) (hg:s.heap.Ns mainGlobals mg) (hb:s.heap.Ns builtinsNs mb) (hx:mg x=none) (hv:mb x=some (.type T)) (h:R (.type T) s)
  (hd:(x==("__debug__":Str))=false):wpAny (model p w) A (eval (.Name x pos) (mainEnv p c F)) R E s :=
 PySem.Calls.Name_module hmod rfl (PySem.Calls.loadGlobal_builtin hg hx hb hv h) hd
theorem tY {x:Str} {es:List Expr} {a b:Int} {ka kb:Nat} {p1 p2 p3 p4 p5 p6 p7 p8 p9 p10 p11 pos:Pos} {l:List Int} {mb:Str→Option Value} (hmod:p.main.scope.kind = .module) (hloc:p.main.scope.names.lookup x=some .local) (X:Mod h₀ mg₀ c Pl s.heap mg ps defs consts objs names) (hx:x∉names) (hb:x≠"__builtins__")
  (hB:s.heap.Ns builtinsNs mb) (blt:∀ x:Str,x≠"__name__"→mb x=bootBuiltins x) (m1:mg ("set":Str)=none) (m2:mg ("list":Str)=none) (m3:mg ("range":Str)=none) (hh:A.handled=none)
  (hab : -1000000000<a∧a<1000000000∧ -1000000000<b∧b<1000000000∧(b - a).toNat<1000) (hl:l=es.map cI++(List.range (b - a).toNat).map (fun (i:Nat)=>a+(i:Int))) (hlen:l.length<1000) (hfm:firstMet (fun i=>l.getD i 0) l.length=l)
  (kk:∀ h' mg' tk,Mod h₀ mg₀ c Pl h' mg' ps defs consts ((x,SetObj p w l) :: objs) (x :: names)→wpAny (model p w) A (execs rest (mainEnv p c F)) Q E {s with heap:=h',toks:=tk}) :
  wpAny (model p w) A (execs (.Assign [.Name x p1] (.Call (.Name ("set":Str) p2) [.BinOp (.List (es.map intE) p3) .Add (.Call (.Name ("list":Str) p4) [.Call (.Name ("range":Str) p5) [.Constant (.int a) ka p6,.Constant (.int b) kb p7] [] p8] [] p9) p10] [] pos) p11 :: rest) (mainEnv p c F)) Q E s:=by
 refine wpAny_execs_cons (X.assign_obj hloc hx (fun Q' hq=> ?_) (fun h' mg' tk Y=>kk h' mg' tk Y) hb hmod rfl)
 refine wpAny_Call_ofName (dp hmod X.main.g hB m1 ((blt _ (by decide)).trans rD) ?_ (by decide))
 refine PyProof.Rows.callWith_type rfl (PySem.Calls.evalArgs_plain (PySem.Calls.spliced_cons (wpAny_BinOp (wpAny_List (su _ fun vs tk hv=>⟨?_,?_⟩)))))
 ·have:=(hv s.heap fun _=>False).length
  rw [this,sizeLine_eq]
  have e:=congrArg List.length hl
  simp at e
  simp;omega
 ·let hp:=s.heap.push {cls:= .type "list",data:= .seq vs.toArray}
  have k1:Kq s.heap hp:=Kq.push _ _
  have sz1:hp.objs.size=s.heap.objs.size+1:=Heap.size_push ..
  have L1:hp.PlainList s.heap.objs.size vs.toArray:=⟨0,Heap.get?_push_size _ rfl⟩
  refine wpAny_Call_ofName (dp (s:={s with heap:=hp,toks:=tk}) hmod (X.main.g.keeps k1) (hB.keeps k1) m2 ((blt _ (by decide)).trans ki) ?_ (by decide))
  refine PyProof.Rows.callWith_type rfl (PySem.Calls.evalArgs_plain (PySem.Calls.spliced_cons ?_))
  refine wpAny_Call_ofName (dp (s:={s with heap:=hp,toks:=tk}) hmod (X.main.g.keeps k1) (hB.keeps k1) m3 ((blt _ (by decide)).trans eb) ?_ (by decide))
  refine PyProof.Rows.callWith_type rfl (PySem.Calls.evalArgs_plain (PySem.Calls.spliced_cons (wpAny_Constant_int (k:=ka) (pos:=p6) (PySem.Calls.spliced_cons (wpAny_Constant_int (k:=kb) (pos:=p7) (PySem.Calls.spliced_nil (call_range_2 ?_)))))))
  refine PySem.Calls.spliced_nil ?_
  have hsz:Builtin.Range.rangeSize a b 1=((b - a).toNat:Int):=by rw [rangeSize_one];split<;>omega
  refine call_list_range hh (IsRange.new _ a b 1 _ _ _) (small_one (by omega) (by omega) (by omega) (by omega)) hsz (by omega) fun h2 tk2 acc cc k2 hl2 hit=> ?_
  have sz2:hp.objs.size+1<h2.objs.size:=by
   have:=Heap.lt_size hl2
   rw [Heap.size_push] at this;exact this
  have k2':Kq hp h2:=Kq.trans (Kq.push _ _) k2
  have dl:∀ h X,DenL h X (((List.range (b - a).toNat).map (fun (i:Nat)=>a+(i:Int))).map .int) acc.toList:=fun h X=>DenL.of_get (by simpa using hit.1) fun i d hi=>by
   have hlt:=(List.getElem?_eq_some_iff.mp hi).1
   simp at hlt
   rw [List.getElem?_map,List.getElem?_map,List.getElem?_range (by omega)] at hi
   cases hi
   have hlt':i<acc.size:=by rw [hit.1];omega
   obtain ⟨tk,ht⟩:=hit.2 i acc[i] (Array.getElem?_eq_getElem hlt')
   refine ⟨acc[i],by rw [Array.getElem?_toList];exact Array.getElem?_eq_getElem hlt',tk,?_⟩
   rw [ht,Int.mul_one]
  have L2:h2.PlainList s.heap.objs.size vs.toArray:=PL.at' L1 fun o _=>k2' _ o
  have all:∀ h X,DenL h X (l.map .int) (vs++acc.toList):=fun h X=>by
   rw [hl,List.map_append]
   exact (hv h X).append (dl h X)
  have ll:(vs++acc.toList).length=l.length:=by have:=(all s.heap fun _=>False).length;rw [this,List.length_map]
  obtain ⟨c2,L2⟩:=L2
  refine PySem.P.add_list L2 hl2 ?_ (by rw [sizeLine_eq];simp at ll ⊢;omega)
  refine PySem.Calls.spliced_nil ?_
  refine call_set_list hh (items:=vs.toArray++acc) (ns:=l) ⟨_,Heap.get?_push_size _ rfl,rfl,_,rfl⟩ (rl (by simpa using all)) ?_ ?_
  ·simp at ll ⊢
   have:scanBound=2 ^ 24∨True:= .inr trivial
   have h2:2000<scanBound:=by decide
   omega
  ·intro h3 tk3 hset hk3
   obtain ⟨o,es,ep,t,e1,e2,e3,e4,e5,e6,e7,e8⟩:=hset
   have k3:Kq h2 h3:=fun bb o e=>hk3 bb o (by
    have:=Heap.lt_size e
    show bb<(h2.push _).objs.size
    rw [Heap.size_push];exact Nat.lt_succ_of_lt this) (Heap.get?_push_of_some _ e)
   refine hq _ o h3 tk3 ?_ e1 (fun h a' ha=>⟨_,o,es,ep,t,ha,e2,e3,e4,fun k=> ?_,e6,e7,e8⟩) ((k1.trans k2').trans k3)
   ·show s.heap.objs.size≤(h2.push _).objs.size
    rw [Heap.size_push];omega
   ·rw [← e5 k]
    have hs':(vs.toArray++acc).size=l.length:=by simpa using ll
    rw [hs',hfm]
    constructor
    ·intro h;rw [List.contains_iff_mem] at h
     exact List.any_eq_true.mpr ⟨k,h,by simp⟩
    ·intro h
     obtain ⟨x,hx,e⟩:=List.any_eq_true.mp h
     rw [List.contains_iff_mem,← beq_iff_eq.mp e];exact hx
end
end Mine
set_option genSizeOf false
set_option genInjectivity false
namespace Mine
section
variable {prog:Program} {w:World} {hB:Heap} {a:Addr} {o:Obj}
theorem wt {l:List Int} (s:Shared) (ho:s.heap.get? a=some o) (P:SetObj prog w l o) (A:Around) (E:Value→Shared→Prop) (i:Int) (t:Tok) (Q:Value→Shared→Prop) (hQ:∀ tk,Q (.bool (l.contains i)) {s with toks:=tk}) :
  wpAny (model prog w) A (compareOp .In (.int i t) (.ref a)) Q E s:=by
 obtain ⟨n,hs⟩:=P s.heap a ho
 exact wpAny_inSet_of (knd:=intKind prog w) (k:=i) gx rfl hs (hQ _)
theorem rN {l:List (Int×Str)} (s:Shared) (ho':s.heap.get? a=some o) (ha:mainGlobals<a) (P:DictObj prog w l o):s.TypeIs (.ref a) "dict"∧(∃ ob,s.heap.get? a=some ob∧ob.dict=none) ∧
  ∀ (A:Around) (E:Value→Shared→Prop) (i:Int) (t:Tok) (Q:Value→Shared→Prop) (dv:Value),(∀ tk,match l.lookup i with |some v=>∀ t',Q (.str v t') {s with toks:=tk} |none=>Q dv {s with toks:=tk}) →
   wpAny (model prog w) A (call (.builtin "dict.get") [.ref a,.int i t,dv]) Q E s∧(dv = .none→wpAny (model prog w) A (call (.builtin "dict.get") [.ref a,.int i t]) Q E s):=by
 obtain ⟨es,ep,kvs,e1,e2,e3,e4,e5,e6⟩:=P
 have hT:s.TypeIs (.ref a) "dict":=⟨o,ho',e1.1⟩
 refine ⟨hT,⟨o,ho',e1.2.1⟩,fun A E i t Q dv hQ=> ?_⟩
 have hm:s.heap.DictOf (intKind prog w) a kvs:=⟨o,es,ep,ho',e1,e2,e3,e4,e5⟩
 have hmap:=hm.mapOf
 have hne:(a==sysModules)=false:=by
  rw [beq_eq_false_iff_ne];intro q;rw [q] at ha;exact absurd ha (by decide)
 have hk:(intKind prog w).is i (.int i t)=true:=gx
 have hl:=e6.look i
 have fin:∀ tk,Q ((valueAt kvs i).getD dv) {s with toks:=tk}:=fun tk=>by
  have hq:=hQ tk
  rcases hl with ⟨e1,e2⟩ |⟨x,t,e1,e2⟩
  ·rw [e1] at hq;rw [e2];exact hq
  ·rw [e1] at hq;rw [e2];exact hq t
 refine ⟨call_meetsIn F.slot_dict_get hT F.entry_dict_get (F.args_dict_get_3 _ _ _) (meets_dict_get_default (intKind prog w) a hk hne dv) ⟨_,hmap,fin _⟩,fun q=> ?_⟩
 subst q
 exact call_meetsIn F.slot_dict_get hT F.entry_dict_get (F.args_dict_get_2 _ _) (meets_dict_get (intKind prog w) a hk hne) ⟨_,hmap,fin _⟩
end
theorem pH {prog:Program} {w:World} {h:Heap} {a:Addr} {o:Obj} {l:List Int} (ho:h.get? a=some o) (P:SetObj prog w l o):isTab o=false:=by
 obtain ⟨n,o',es,ep,t,e1,e2,e3,_⟩:=P h a ho
 obtain rfl:=sm (ho.symm.trans e1)
 exact db e2.1 (by rw [e3];rfl)
end Mine
set_option genSizeOf false
set_option genInjectivity false
namespace Mine
variable [Tabs] [Frk]
inductive OD where
 |dict (l:List (Int×Str))
 |set (l:List Int)
noncomputable def OD.P (p:Program) (w:World):OD→Obj→Prop
 | .dict l=>DictObj p w l
 | .set l=>SetObj p w l
structure TS where
 defs:List DefItem
 consts:List (Str×PyData)
 objs:List (Str×OD)
 names:List Str
 line:Nat
noncomputable def TS.os (p:Program) (w:World) (t:TS):List (Str×(Obj→Prop)):=t.objs.map fun x=>(x.1,x.2.P p w)
noncomputable def isStrC:Const→Bool
 | .str _=>true
 |_=>false
noncomputable def kindV (v:Expr):Nat:=cond (v.ctorIdx==19) (cond (isStrC (cOf v)) 1 0) (cond (v.ctorIdx==6) 2 3)
noncomputable def keysE (v:Expr):List Expr:=(kids v).take (numE v)
noncomputable def valsE (v:Expr):List Expr:=(kids v).drop (numE v)
noncomputable def setS:Str:="set"
noncomputable def sumE (v:Expr):Expr:=kid 1 v
noncomputable def lstE (v:Expr):Expr:=kid 0 (sumE v)
noncomputable def lcE (v:Expr):Expr:=kid 1 (sumE v)
noncomputable def rngE (v:Expr):Expr:=kid 1 (lcE v)
noncomputable def setE' (v:Expr):Expr:= .Call (.Name setS (kid 0 v).pos) [.BinOp (.List ((kids (lstE v)).map intE) (lstE v).pos) .Add (.Call (.Name listS (kid 0 (lcE v)).pos) [.Call (.Name rangeS (kid 0 (rngE v)).pos) [intE (kid 1 (rngE v)),intE (kid 2 (rngE v))] [] (rngE v).pos] [] (lcE v).pos) (sumE v).pos] [] v.pos
noncomputable def setL (v:Expr):List Int:=(kids (lstE v)).map cI++(List.range (cI (kid 2 (rngE v)) - cI (kid 1 (rngE v))).toNat).map (fun (i:Nat)=>cI (kid 1 (rngE v))+(i:Int))
noncomputable def rebV (v:Expr):Expr:=match kindV v with
 |0=>intE v
 |1=>strE v
 |2=> .Dict ((keysE v).map fun k=>some (intE k)) ((valsE v).map strE) v.pos
 |_=>setE' v
noncomputable def nmOf:Expr→Str
 | .Name x _=>x
 |_=>Str.empty
noncomputable def rebS (st:Stmt):Stmt:=cond (st.ctorIdx==0) (mkDef (itemOf st)) (.Assign [.Name (nmOf (skid 1 st)) (skid 1 st).pos] (rebV (skid 0 st)) st.pos)
noncomputable def dictOk (l:List (Int×Str)):Bool:=ascend l&&decide (l.length≤sizeLine) && !l.isEmpty
noncomputable def mid (a:Int):Bool:=decide (-1000000000<a)&&decide (a<1000000000)
noncomputable def setOk (names:List Str) (a b:Int) (l:List Int):Bool:= !names.contains setS && !names.contains listS && !names.contains rangeS&&mid a&&mid b&&decide ((b - a).toNat<1000)&&decide (l.length<1000)&&decide (firstMet (fun i=>l.getD i 0) l.length=l)
noncomputable def TS.obj (t:TS) (x:Str) (o:OD):TS:={t with objs:=(x,o) :: t.objs,names:=x :: t.names}
noncomputable def TS.cst (t:TS) (x:Str) (d:PyData):TS:={t with consts:=(x,d) :: t.consts,names:=x :: t.names}
noncomputable def stepV (t:TS) (x:Str) (v:Expr):Option TS:=match kindV v with
 |0=>some (t.cst x (.int (cI v)))
 |1=>some (t.cst x (.str (cS v)))
 |2=>if dictOk (dictLit (keysE v) (valsE v)) then some (t.obj x (.dict (dictLit (keysE v) (valsE v)))) else none
 |_=>if setOk t.names (cI (kid 1 (rngE v))) (cI (kid 2 (rngE v))) (setL v) then some (t.obj x (.set (setL v))) else none
noncomputable def stepA (t:TS) (x:Str) (v:Expr):Option TS :=
 if x==("__name__":Str) then (if kindV v=1 then some t else none)
 else if t.names.contains x || x==("__builtins__":Str) then none else stepV t x v
noncomputable def TS.def (t:TS) (d:DefItem):TS:={t with defs:=⟨d.name,plainPar d.params,d.body,d.scope,d.pos⟩ :: t.defs,names:=d.name :: t.names,line:=d.pos.line+1}
noncomputable def stepT (main:Scope) (t:TS) (st:Stmt):Option TS:=cond (st.ctorIdx==0) (if isPlain main t.names t.line (itemOf st) then some (t.def (itemOf st)) else none)
 (if main.names.lookup (nmOf (skid 1 st))==some .local then stepA t (nmOf (skid 1 st)) (skid 0 st) else none)
noncomputable def runT (main:Scope):TS→List Stmt→Option TS
 |t,[]=>some t
 |t,s :: r=>(stepT main t s).bind fun t'=>runT main t' r
section
variable {p:Program} {w:World} {A:Around} {c Pl F:Addr} {h₀:Heap} {Q:Flow→Shared→Prop} {mb:Str→Option Value}
structure Tp (p:Program) (w:World) (c Pl:Addr) (h₀:Heap) (mg0:Str→Option Value) (s:Shared) (t:TS) (mg₀ mg:Str→Option Value) (ps:Array Value):Prop where
 X:Mod h₀ mg₀ c Pl s.heap mg ps t.defs t.consts (t.os p w) t.names
 T:Trip t.line ps.toList
 N:("__name__":Str)∉t.names
 m:∀ x:Str,x≠"__name__"→mg₀ x=mg0 x
theorem tz (hmod:p.main.scope.kind = .module) (hh:A.handled=none) (hB:h₀.Ns builtinsNs mb) (blt:∀ x:Str,x≠"__name__"→mb x=bootBuiltins x) {mg0:Str→Option Value} (oth:∀ x,x∉bootMainNames→mg0 x=none) {s:Shared} {mg₀ mg:Str→Option Value} {ps:Array Value} {t t1:TS} {x:Str} {v:Expr} {p1 pos:Pos} {rest:List Stmt}
  (K:Tp p w c Pl h₀ mg0 s t mg₀ mg ps) (hloc:p.main.scope.names.lookup x=some .local) (hnm:x≠"__name__") (hnew:x∉t.names) (hb:x≠"__builtins__") (hv:stepV t x v=some t1)
  (k:∀ h' mg' tk,Tp p w c Pl h₀ mg0 {s with heap:=h',toks:=tk} t1 mg₀ mg' ps→wpAny (model p w) A (execs rest (mainEnv p c F)) Q (fun _ _=>False) {s with heap:=h',toks:=tk}) :
  wpAny (model p w) A (execs (.Assign [.Name x p1] (rebV v) pos :: rest) (mainEnv p c F)) Q (fun _ _=>False) s:=by
 have hN':("__name__":Str)∉x :: t.names:=fun q=>(List.mem_cons.mp q).elim (fun e=>hnm e.symm) K.N
 unfold stepV at hv
 unfold rebV
 generalize kindV v=kd at *
 match kd with
 |0 =>
  obtain rfl:=sm hv
  exact sf hmod hloc K.X hnew hb fun h' mg' tk X'=>k h' mg' tk ⟨X',K.T,hN',K.m⟩
 |1 =>
  obtain rfl:=sm hv
  exact sK hmod hloc K.X hnew hb fun h' mg' tk X'=>k h' mg' tk ⟨X',K.T,hN',K.m⟩
 |2 =>
  refine gd hv fun hc hv=>aa hc fun hc c3=>aa hc fun c1 c2=> ?_
  obtain rfl:=sm hv
  exact pF hmod hloc K.X hnew hb c1 (of_decide_eq_true c2) (fun q=>by rw [q] at c3;exact nomatch c3) fun h' mg' tk X'=>k h' mg' tk ⟨X',K.T,hN',K.m⟩
 |n+3 =>
  refine gd hv fun hc hv=>aa hc fun hc c7=>aa hc fun hc c6=>aa hc fun hc c5=>aa hc fun hc c4=>aa hc fun hc c3=>aa hc fun hc n3=>aa hc fun n1 n2=>aa c3 fun a1 a2=>aa c4 fun b1 b2=> ?_
  obtain rfl:=sm hv
  have n0:∀ {y:Str},(!t.names.contains y)=true→y∉bootMainNames→mg y=none:=fun {y} h1 h2=>by
   rw [K.X.others y (mP h1),K.m y fun q=>h2 (q▸by decide)];exact oth y h2
  have hBs:s.heap.Ns builtinsNs mb:=hB.at fun o=>K.X.keep _ o (Nat.ne_of_lt (Nat.lt_trans (by decide) K.X.main.low.2)) (by decide)
  exact tY hmod hloc K.X hnew hb hBs blt (n0 n1 (by decide)) (n0 n2 (by decide)) (n0 n3 (by decide)) hh ⟨of_decide_eq_true a1,of_decide_eq_true a2,of_decide_eq_true b1,of_decide_eq_true b2,of_decide_eq_true c5⟩ rfl (of_decide_eq_true c6) (of_decide_eq_true c7) fun h' mg' tk X'=>k h' mg' tk ⟨X',K.T,hN',K.m⟩
theorem sN (hmod:p.main.scope.kind = .module) (hh:A.handled=none) (hB:h₀.Ns builtinsNs mb) (blt:∀ x:Str,x≠"__name__"→mb x=bootBuiltins x) {mg0:Str→Option Value} (oth:∀ x,x∉bootMainNames→mg0 x=none) (sts:List Stmt) :
  ∀ {s:Shared} {mg₀ mg:Str→Option Value} {ps:Array Value} {t t':TS},sts.map rebS=sts→runT p.main.scope t sts=some t'→Tp p w c Pl h₀ mg0 s t mg₀ mg ps →
  (∀ h' mgN mg' ps' tk,(∀ x:Str,x≠"__name__"→mgN x=mg0 x)→Mod h₀ mgN c Pl h' mg' ps' t'.defs t'.consts (t'.os p w) t'.names→Q .next {s with heap:=h',toks:=tk}) →
  wpAny (model p w) A (execs sts (mainEnv p c F)) Q (fun _ _=>False) s:=by
 induction sts with
 |nil =>
  intro s mg₀ mg ps t t' _ h K k
  obtain rfl:=sm h
  exact wpAny_pure (k _ mg₀ mg ps s.toks K.m K.X)
 |cons st sts ih =>
  intro s mg₀ mg ps t t' hr h K k
  obtain ⟨r1,r2⟩:=List.cons.inj hr
  refine ae h fun t1 hs h=> ?_
  rw [← r1]
  unfold stepT at hs
  unfold rebS
  cases hst:st.ctorIdx==0 with
  |true =>
   rw [hst] at hs
   refine gd hs fun hp hs=> ?_
   obtain rfl:=sm hs
   exact rO hmod K.X K.T K.N hp fun h' mg' ps' tk X' T' hN'=>ih (s:={s with heap:=h',toks:=tk}) r2 h ⟨X',T',hN',K.m⟩ k
  |false =>
   rw [hst] at hs
   refine gd hs fun hloc hs=> ?_
   have hloc:=beq_iff_eq.mp hloc
   show wpAny _ A (execs (.Assign [.Name (nmOf (skid 1 st)) _] (rebV (skid 0 st)) _ :: sts) _) _ _ _
   generalize nmOf (skid 1 st)=x at *
   generalize skid 0 st=v at *
   unfold stepA at hs
   by_cases hx:(x==("__name__":Str))=true
   ·rw [if_pos hx] at hs
    refine gd hs fun hk hs=> ?_
    obtain rfl:=sm hs
    obtain rfl:=beq_iff_eq.mp hx
    unfold rebV
    rw [hk]
    exact qD hmod hloc K.X K.N fun h' mgN mg' tk hn X'=>ih (s:={s with heap:=h',toks:=tk}) r2 h ⟨X',K.T,K.N,fun y hy=>(hn y hy).trans (K.m y hy)⟩ k
   ·rw [if_neg hx] at hs
    refine eH hs fun hf hs=>iC hf fun f1 f2=> ?_
    exact tz hmod hh hB blt oth K hloc (fun q=>hx (beq_iff_eq.mpr q)) (fun q=>nomatch (List.contains_iff_mem.mpr q).symm.trans f1) (beq_eq_false_iff_ne.mp f2) hs fun h' mg' tk K'=>ih (s:={s with heap:=h',toks:=tk}) r2 h K' k
theorem oW (hmod:p.main.scope.kind = .module) {t:TS} (hr:p.main.body.map rebS=p.main.body) (h:runT p.main.scope ⟨[],[],[],[],0⟩ p.main.body=some t):Walked p w t.defs t.consts (t.os p w) t.names:=by
 intro s mg mb c Pl F A Q ar X hb blt oth k
 exact sN hmod ar.hd hb blt oth p.main.body hr h ⟨X,.nil,List.not_mem_nil,fun _ _=>rfl⟩ k
end
end Mine
set_option genSizeOf false
set_option genInjectivity false
namespace Mine
noncomputable def OD.set? : OD→Option (List Int)
 | .set l=>some l
 | .dict _=>none
noncomputable def OD.dict? : OD→Option (List (Int×Str))
 | .dict l=>some l
 | .set _=>none
noncomputable def pyD:PyData→Option D
 | .int i=>some (.int i)
 | .str y=>some (.str y)
 |_=>none
noncomputable def gOf (t:TS):ag where
 dd:=false
 const:=fun x=>(t.consts.lookup x).bind pyD
 iset:=fun x=>(t.objs.lookup x).bind OD.set?
 idict:=fun x=>(t.objs.lookup x).bind OD.dict?
structure cN where
 name:Str
 tbl:List Str
 code:S
noncomputable def parsOf (a:Arguments):List Str:=a.args.map (·.arg)
noncomputable def findD (t:TS) (x:Str):Option DefItem:=t.defs.find? (fun d=>d.name==x)
noncomputable def atT (c:Cx) (tb:List Str):Cx:={c with tbl:=tb}
noncomputable def mkFn (t:TS) (s:cN):Fn:={name:=s.name,ps:=(findD t s.name).elim [] fun d=>parsOf d.params,tbl:=s.tbl,code:=s.code}
noncomputable def nodupB:List Str→Bool
 | []=>true
 |x :: r=> !r.contains x&&nodupB r
theorem br:∀ {l:List Str},nodupB l=true→l.Nodup
 | [],_=>List.nodup_nil
 |x :: r,h=>aa h fun h1 h2=>List.nodup_cons.mpr ⟨mP h1,br h2⟩
noncomputable def defB (c:Cx) (tb:List Str) (d:DefItem):Bool:=d.scope.kind == .function && !d.scope.isGenerator && !d.scope.isCoroutine&&tb.take (parsOf d.params).length==parsOf d.params&&(parsOf d.params).all (fun x=>storable d.scope x)&&nodupB tb &&
  d.scope.names.all (fun x=> !(x.2 == .free))&&tb.all (fun x=>dbg x&&dcl x)
noncomputable def sigB (c:Cx) (s:cN) (d:DefItem):Bool:=defB c s.tbl d&&codeB (atT c s.tbl) d.scope s.code d.body
noncomputable def sigOk (c:Cx) (t:TS) (s:cN):Bool:=(findD t s.name).elim false (sigB c s)
noncomputable def bodyOf (t:TS) (s:cN):List Stmt:=(findD t s.name).elim [] fun d=>d.body
noncomputable def bodyU (c:Cx) (t:TS) (s:cN):List Stmt:=(findD t s.name).elim [] fun d=>(unS (atT c s.tbl) d.scope s.code d.body).2
theorem gF {x:Str}:∀ {ns:List Str} {vs:List Value},ns.length=vs.length→x∈ns→∃ v,(ns.zip vs).lookup x=some v
 |n :: ns,v :: vs,hl,hx=>by
  rw [List.zip_cons_cons,List.lookup_cons]
  by_cases h:x=n
  ·subst h;exact ⟨v,by simp⟩
  ·have:(x==n)=false:=by simpa using h
   rw [this]
   rcases List.mem_cons.mp hx with e |e
   ·exact absurd e h
   ·exact gF (by simpa using hl) e
 | [],_,_,hx=>by cases hx
 |_ :: _,[],hl,_=>by simp at hl
theorem kg {f g:Str→Option (Str×Value)}:∀ {l:List Str},(∀ x∈l,f x=g x)→l.filterMap f=l.filterMap g
 | [],_=>rfl
 |x :: r,h=>by
  rw [List.filterMap_cons,List.filterMap_cons,h x List.mem_cons_self,kg fun y hy=>h y (List.mem_cons_of_mem _ hy)]
theorem eD:∀ {ns:List Str} {vs:List Value},ns.Nodup→ns.length=vs.length→ns.filterMap (fun n=>((ns.zip vs).lookup n).map (n,·))=ns.zip vs
 | [],vs,_,_=>by simp
 |n :: ns,v :: vs,nd,hl=>by
  obtain ⟨h1,h2⟩:=List.nodup_cons.mp nd
  have ih:=eD (vs:=vs) h2 (by simpa using hl)
  rw [List.zip_cons_cons,List.filterMap_cons]
  have e:(List.lookup n ((n,v) :: ns.zip vs))=some v:=by rw [List.lookup_cons];simp
  rw [e]
  simp only [Option.map_some]
  congr 1
  refine Eq.trans (kg fun x hx=> ?_) ih
  have hne:(x==n)=false:=by
   rw [beq_eq_false_iff_ne];rintro rfl;exact h1 hx
  rw [List.lookup_cons,hne]
 |_ :: _,[],_,hl=>by simp at hl
theorem fK {fd:FuncData} {as:List Arg} (hp:fd.params=⟨[],as,none,[],[],none,[]⟩) (hd:fd.defaults = .none) (nd:(as.map (·.arg)).Nodup) (vs:List Value) (hl:vs.length=(as.map (·.arg)).length) :
  bindArgs fd ⟨vs,[]⟩=pure ((as.map (·.arg)).zip vs):=by
 unfold bindArgs
 simp only [hp,hd,List.map_nil,List.nil_append,List.append_nil,List.forIn_nil]
 generalize as.map (·.arg)=ns at nd hl ⊢
 have hs:seqItems? Value.none=pure none:=rfl
 have hmiss:(List.filter (fun n=>(List.lookup n (ns.zip vs)).isNone) ns)=[]:=by
  rw [List.filter_eq_nil_iff]
  intro x hx
  obtain ⟨v,hv⟩:=gF hl.symm hx
  rw [hv];simp
 rw [pure_bind,hs,pure_bind]
 rw [if_neg (by simp [hl])]
 simp only [Option.getD_none,List.drop_nil,List.length_nil,Nat.sub_zero,List.take_length,hmiss,List.isEmpty_nil,Bool.not_true,Bool.false_eq_true,if_false,List.zip_nil_right,List.forIn_nil,pure_bind,eD nd hl.symm]
theorem ig {name:Str} {as:List Arg} {body:List Stmt} {sc:Scope} (nd:(as.map (·.arg)).Nodup) (pm cd doc:Value) (vs:List Value) (hl:vs.length=(as.map (·.arg)).length) :
  bindArgs (Calls.docDef name ⟨[],as,none,[],[],none,[]⟩ body sc pm cd doc) ⟨vs,[]⟩=pure ((as.map (·.arg)).zip vs):=fK rfl rfl nd vs hl
variable [Tabs] [Frk]
theorem bC {t:TS} {consts:List (Str×PyData)} {objs:List (Str×(Obj→Prop))} {names:List Str} {mg mb:Str→Option Value} {h:Heap} (T:TopAt t.defs consts objs names mg mb h) {x:Str} {d:DefItem} (hd:findD t x=some d) {a:Addr} (ha:mg x=some (.ref a)):DefAt h a x d.params d.body d.scope:=by
 have hm:=List.mem_of_find?_eq_some hd
 have hn:=List.find?_some hd
 obtain rfl:d.name=x:=beq_iff_eq.mp hn
 obtain ⟨a',h1,h2⟩:=T.made d hm
 rw [Value.ref.inj (sm (ha.symm.trans h1))];exact h2
theorem fh {c:Cx} {tb:List Str} {d:DefItem} (hs:defB c tb d=true) {name:Str} (hp:d.params=plainPar d.params):dX (atT c tb) (parsOf d.params) name d.params d.body d.scope :=
 aa hs fun hs g8=>aa hs fun hs g7=>aa hs fun hs g6=>aa hs fun hs g5=>aa hs fun hs g4=>aa hs fun hs g3=>aa hs fun g1 g2=>⟨beq_iff_eq.mp g1,nt g2,nt g3,beq_iff_eq.mp g4,fun x hx=>List.all_eq_true.mp g5 x hx,br g6,fun x q=>(by have:=List.all_eq_true.mp g7 _ (PySem.mem_of_lookup q);exact nomatch this),g8,fun pm cd doc vs hl=>by
  rw [hp] at hl g4 ⊢
  exact ig (show (parsOf (plainPar d.params)).Nodup by rw [← beq_iff_eq.mp g4];exact (List.take_sublist _ _).nodup (br g6)) pm cd doc vs hl⟩
theorem uq {p:Program} {w:World} {t:TS} {names:List Str} {mg mb:Str→Option Value} {h:Heap} (T:TopAt t.defs t.consts (t.os p w) names mg mb h) (c:Cx) {s:cN} (hs:sigOk c t s=true) (hu:bodyU c t s=bodyOf t s) (hp:∀ d∈t.defs,d.params=plainPar d.params):FnOk c h mg (mkFn t s):=by
 unfold sigOk at hs
 unfold bodyU bodyOf at hu
 unfold mkFn
 cases hd:findD t s.name with
 |none=>rw [hd] at hs;exact nomatch hs
 |some d =>
  rw [hd] at hs hu
  exact aa hs fun q1 q2=>⟨d.params,d.body,d.scope,fh q1 (hp d (List.mem_of_find?_eq_some hd)),fun a ha=>bC T hd ha,q2,hu⟩
theorem xa {d:PyData} {e:D} {v:Value} {h:Heap} {X:Addr→Prop} (hd:pyD d=some e) (iv:IsDatum v d):e.scalar=true∧Den h X e v:=by
 cases iv {} with
 |int i t=>exact sm hd▸⟨rfl,_,rfl⟩
 |str y t=>exact sm hd▸⟨rfl,_,rfl⟩
 |_=>exact ah hd
theorem wu {p:Program} {w:World} {t:TS} {mg mb:Str→Option Value} {h:Heap} (hfa:∀ b,Al h b→¬ Tabs.fa b) (hdm:∀ l o,Tabs.dm l o→DmObj p w l o) (T:TopAt t.defs t.consts (t.os p w) t.names mg mb h) (c:Cx) (hb:bnames.all (fun x=> !t.names.contains x)=true) (hf:c.fns.all (fun x=>(findD t x).isSome)=true) (hnd:(c.sets++c.dicts).all (fun x=> !(x==("__debug__":Str)))=true) :
  Base p w c (gOf t) h mg mb:=by
 have held:∀ {x:Str} {o:OD},t.objs.lookup x=some o→∃ a ob,mainGlobals<a∧mg x=some (.ref a)∧h.get? a=some ob∧o.P p w ob:=fun {x o} hl=>T.held (x,o.P p w) (List.mem_map.mpr ⟨_,PySem.mem_of_lookup hl,rfl⟩)
 have nb:∀ x∈bnames,x∉bootMainNames∧x≠"__name__":=by decide
 refine ⟨T.g,T.b,fun x hx=>⟨T.oth x (mP (List.all_eq_true.mp hb x hx)) (nb x hx).1,T.blt x (nb x hx).2⟩,fun x d hx hd=> ?_,fun x l hx hl=> ?_,fun x l hx hl=> ?_,fun x hx=>nt (List.all_eq_true.mp hnd x (List.mem_append.mpr hx)),fun x hx=> ?_,hdm,fun h=>nomatch h⟩
 ·refine ae hd fun q hq hd=> ?_
  obtain ⟨v,hv,di⟩:=T.bound _ (PySem.mem_of_lookup hq)
  have:=xa (h:=h) (X:=fun _=>False) hd di
  exact ⟨this.1,v,hv,this.2⟩
 ·refine ae hl fun o ho hl=> ?_
  obtain ⟨a,ob,h0,h1,h2,h3⟩:=held ho
  cases o with
  |dict _=>exact ah hl
  |set l' =>
   obtain rfl:=sm hl
   exact ⟨a,h1,fun A E s i tk Q k hu hq=>wt s (k.ob h2 (.inl (pH h2 h3))) h3 A E i tk Q hq⟩
 ·refine ae hl fun o ho hl=> ?_
  obtain ⟨a,ob,h0,h1,h2,h3⟩:=held ho
  cases o with
  |set _=>exact ah hl
  |dict l' =>
   obtain rfl:=sm hl
   refine ⟨a,h1,fun s k=> ?_⟩
   obtain ⟨es,ep,kvs,e1,e2,_⟩:=id h3
   obtain ⟨g1,g2,g3⟩:=rN s ((k.kp a ob h2).obF e2 (hfa a ⟨ob,h2⟩)) h0 h3
   exact ⟨g1,g2,fun A E i tk Q dv _ hq=>g3 A E i tk Q dv hq⟩
 ·obtain ⟨d,hd⟩:=Option.isSome_iff_exists.mp (List.all_eq_true.mp hf x hx)
  have hn:=List.find?_some hd
  obtain rfl:d.name=x:=beq_iff_eq.mp hn
  obtain ⟨a,h1,h2⟩:=T.made d (List.mem_of_find?_eq_some hd)
  obtain ⟨o,pm,cd,doc,P,oc,vs,tt,e1,e2,_⟩:=h2.at'
  exact ⟨a,o,_,h1,e1,e2⟩
end Mine
set_option genSizeOf false
set_option genInjectivity false
namespace Mine
variable [Tabs] [Frk]
structure KD (D:Addr) (h h':Heap):Prop where
 kp:∀ b o,b≠D→h.get? b=some o→Gw h' b o
 cd:Cd h h'
theorem KD.trans {D:Addr} {a b c:Heap} (x:KD D a b) (y:KD D b c):KD D a c:=⟨fun i o n e=>(x.kp i o n e).then (fun o' e'=>y.kp i o' n e') y.cd,x.cd.trans y.cd⟩
theorem Kp.kd {a b:Heap} (k:Kp a b) (D:Addr):KD D a b:=⟨fun i o _ e=>k i o e,k.cd⟩
theorem KD.ns {D a:Addr} {h h':Heap} {m:Str→Option Value} (k:KD D h h') (n:h.Ns a m) (hn:a≠D):h'.Ns a m:=Ns.gw n fun o e=>k.kp a o hn e
theorem KD.cell {D a:Addr} {h h':Heap} {v:Option Value} (k:KD D h h') (n:h.IsCell a v) (hn:a≠D):h'.IsCell a v :=
 let ⟨o,e1,e2⟩:=n;⟨o,(k.kp a o hn e1).ob (.inl (cE e2)),e2⟩
theorem KD.kpB {D:Addr} {hB h h':Heap} (k0:KB hB h) (hD:hB.get? D=none) (k:KD D h h'):KB hB h':=k0.cdt (fun b o e=>(k0.kp b o e).then (fun o' e'=>k.kp b o' (fun q=>ah (hD.symm.trans (q▸e))) e') k.cd) k.cd
theorem KD.atD {D:Addr} {h h':Heap} {items:Array Value} (pl:h.PlainList D items) (sb:Heap.SameBut D h h'):KD D h h' :=
 ⟨fun b o n e=> .inl (sb.extBut b o n e),Cd.sb (fun b o n e=>sb.extBut b o n e) (PL.nofields pl) fun d=>absurd d (PL.nodt pl)⟩
theorem Gr.kd {h h':Heap} {Mu Ex Mu' Ex':Addr→Prop} (g:Gr h Mu Ex Mu' Ex' h') (D:Addr) {h0:Heap} (k:KD D h0 h) (hn:∀ b,Mu b→h0.get? b=none):KD D h0 h' :=
 ⟨fun b o n e=>(k.kp b o n e).then (fun o' e'=>g.keep b o' (fun q=>ah ((hn b q).symm.trans e)) e') g.cd,k.cd.trans g.cd⟩
theorem Gr.kp0 {h h':Heap} {Mu Ex Mu' Ex':Addr→Prop} (g:Gr h Mu Ex Mu' Ex' h') {h0:Heap} (k:Kp h0 h) (hn:∀ b,Mu b→h0.get? b=none):Kp h0 h' :=
 fun b o e=>(k b o e).then (fun o' e'=>g.keep b o' (fun q=>ah ((hn b q).symm.trans e)) e') g.cd
structure Clo (h:Heap) (f:Addr) (qual:Str) (params:Arguments) (body:List Stmt) (sc:Scope) (cl:List (Str×Addr)) (cm:Str→Option Value):Prop where
 fo:∃ o doc pm cd ct oc vs t,h.get? f=some o∧o.data = .func (fnX "inner" qual params body sc cl .none .none doc pm none (.ref cd) ct)∧h.get? cd=some oc∧oc.cls = .type "code"∧oc.data = .fields vs∧vs[1]? = some (.str qual t)
 cell:∀ x c,cl.lookup x=some c→h.IsCell c (cm x)
 inj:∀ x y c,cl.lookup x=some c→cl.lookup y=some c→x=y
 has:∀ x,sc.names.lookup x=some .free→∃ c,cl.lookup x=some c
 fr:∀ x c,cl.lookup x=some c→sc.names.lookup x=some .free
section
variable {h h':Heap} {f D:Addr} {qual:Str} {params:Arguments} {body:List Stmt} {sc:Scope} {cl:List (Str×Addr)} {cm:Str→Option Value}
theorem Clo.to (C:Clo h f qual params body sc cl cm) (k:∀ b o,isTab o=false→h.get? b=some o→(∀ is n,o.data ≠ .seq is n)→h'.get? b=some o):Clo h' f qual params body sc cl cm:=by
 refine ⟨?_,fun x c e=> ?_,C.inj,C.has,C.fr⟩
 ·obtain ⟨o,doc,pm,cd,ct,oc,vs,t,e1,e2,e3,e4,e5,e6⟩:=C.fo
  exact ⟨o,doc,pm,cd,ct,oc,vs,t,k f o (bg e2) e1 (fun is n q=>nomatch e2.symm.trans q),e2,k cd oc (bd e4 e5) e3 (fun is n q=>nomatch e5.symm.trans q),e4,e5,e6⟩
 ·obtain ⟨o,e1,e2⟩:=C.cell x c e
  exact ⟨o,k c o (cE e2) e1 (fun is n q=>nomatch e2.symm.trans q),e2⟩
theorem Clo.keep (C:Clo h f qual params body sc cl cm) (k:Kp h h'):Clo h' f qual params body sc cl cm:=C.to fun b o t e _=>k.ob e (.inl t)
theorem Clo.kd (C:Clo h f qual params body sc cl cm) (k:KD D h h') {items:Array Value} (pl:h.PlainList D items):Clo h' f qual params body sc cl cm :=
 C.to fun b o t e n=>(k.kp b o (fun q=>let ⟨n0,l0⟩:=pl;n _ _ (congrArg Obj.data (sm (e.symm.trans (q▸l0))))) e).ob (.inl t)
theorem Clo.nseq (C:Clo h f qual params body sc cl cm) {x:Str} {c:Addr} (e:cl.lookup x=some c) {items:Array Value} (pl:h.PlainList D items):c≠D:=fun q=>by
 obtain ⟨o,e1,e2⟩:=C.cell x c e
 obtain ⟨n0,l0⟩:=pl
 have e:Data.cell _=Data.seq _ _:=e2.symm.trans (congrArg Obj.data (sm (e1.symm.trans (q▸l0))))
 exact nomatch e
end
inductive FV (val:Str→Option Value) (h:Heap) (Ex:Addr→Prop):List Str→MEnv→Prop where
 |nil:FV val h Ex [] []
 |no {x:Str} {t:List Str} {σ:MEnv}:FV val h Ex t σ→FV val h Ex (x :: t) (none :: σ)
 |has {x:Str} {t:List Str} {σ:MEnv} {v:Value} {d:D}:val x=some v→Den h Ex d v→FV val h Ex t σ→FV val h Ex (x :: t) (some (d,false) :: σ)
theorem FV.get {val:Str→Option Value} {h:Heap} {Ex:Addr→Prop} {t:List Str} {σ:MEnv} (V:FV val h Ex t σ):∀ {i:Nat} {x:Str} {d:D} {b:Bool},t[i]? = some x→getE σ i=some (d,b)→∃ v,val x=some v∧DenV h Ex b d v∧b=false:=by
 induction V with
 |nil=>exact fun h1 _=>ah h1
 |no V ih =>
  intro i x d b h1 h2
  cases i with
  |zero=>exact ah h2
  |succ i=>exact ih h1 h2
 |has hv hd V ih =>
  intro i x d b h1 h2
  cases i with
  |zero =>
   obtain ⟨rfl,rfl⟩:=Prod.mk.inj (sm h2)
   exact ⟨_,sm h1▸hv,hd,rfl⟩
  |succ i=>exact ih h1 h2
noncomputable def hEx (env:Env):Addr→Prop:=fun b=>b=env.locals∨∃ x,env.cells.lookup x=some b
theorem FV.rr {env:Env} {m cm:Str→Option Value} {h:Heap} {tbl:List Str} {σ:MEnv} (ok:je env) (F:FrM env h m cm) (nd:tbl.Nodup) (V:FV (valOf env m cm) h (hEx env) tbl σ):RR env tbl (hEx env) (fun _=>0) σ h:=by
 refine ⟨ok,nd,?_,⟨.inl rfl,fun x c hc=> .inr ⟨x,hc⟩⟩,m,cm,F,fun i x d b h1 h2 h3=> ?_⟩
 ·rintro b (e |⟨x,hx⟩)
  ·obtain ⟨o,_,_,ho,_⟩:=F.ns;exact ⟨o,e▸ho⟩
  ·obtain ⟨o,ho,_⟩:=F.cell x b hx;exact ⟨o,ho⟩
 ·obtain ⟨v,e1,e2,e3⟩:=V.get h1 h2
  exact ⟨v,e1,e2,fun q=>nomatch e3.symm.trans q⟩
noncomputable def onlyL (env:Env):Addr→Prop:=fun b=>b=env.locals
theorem FV.sr {env:Env} {m cm:Str→Option Value} {h:Heap} {tbl:List Str} {σ:MEnv} (ok:je env) (F:FrM env h m cm) (nd:tbl.Nodup) (nc:∀ x c,env.cells.lookup x=some c→env.scope.names.lookup x=some .free) (V:FV (valOf env m cm) h (hEx env) tbl σ):SR env tbl (onlyL env) (hEx env) (fun _=>0) σ h:=by
 have no:∀ {i:Nat} {x:Str} {d:D} {P:Prop},tbl[i]? = some x→getE σ i=some (d,true)→P:=fun h1 h2=>let ⟨_,_,_,e⟩:=V.get h1 h2;nomatch e
 refine ⟨V.rr ok F nd,fun b e=> .inl e,⟨rfl,fun n c sn hc=> ?_⟩,fun i x d h1 _ h2=>no h1 h2,fun i j x y d e h1 _ _ _ h2 _ _=>no h1 h2⟩
 unfold storable at sn
 rw [nc n c hc] at sn
 exact nomatch sn
noncomputable def innB (sc:Scope) (tbl ps:List Str):Bool:=sc.kind == .function && !sc.isGenerator && !sc.isCoroutine&&sc.names.all (fun x=> !(x.2 == .cell))&&ps.all (fun x=>sc.names.lookup x==some .local)&&nodupB tbl&&nodupB ps
noncomputable def valS (sc:Scope) (m cm:Str→Option Value) (x:Str):Option Value:=valK (m x) (cm x) (sc.names.lookup x)
noncomputable def parM (ps:List Str) (vs:List Value):Str→Option Value:=fun x=>(ps.zip vs).reverse.lookup x
theorem kV (off:Frk.fs=none) {prog:Program} {w:World} {hB:Heap} {n:Nat} (lim:hB.NoLimit) {sc:Scope} {tbl ps:List Str} (I:innB sc tbl ps=true) {as:List Arg} (hps:as.map (·.arg)=ps) {A:Around} {s:Shared} {f:Addr} {fd:FuncData} {body:List Stmt} {cm:Str→Option Value} {vs:List Value} {o:Obj}
  (e1:s.heap.get? f=some o) (e2:o.data = .func fd) (hp:fd.params=⟨[],as,none,[],[],none,[]⟩) (hd:fd.defaults = .none) (hb:fd.body = .stmts body) (hsc:fd.scope=sc) (hgl:(callEnv fd s.heap.objs.size f).globals=mainGlobals) (hbl:(callEnv fd s.heap.objs.size f).builtins=builtinsNs) (hcr:s.heap.CodeRec fd.code fd.qualname)
  (cell:∀ x c,(callEnv fd s.heap.objs.size f).cells.lookup x=some c→s.heap.IsCell c (cm x)) (inj:∀ x y c,(callEnv fd s.heap.objs.size f).cells.lookup x=some c→(callEnv fd s.heap.objs.size f).cells.lookup y=some c→x=y)
  (has:∀ x,sc.names.lookup x=some .free→∃ c,(callEnv fd s.heap.objs.size f).cells.lookup x=some c) (fr:∀ x c,(callEnv fd s.heap.objs.size f).cells.lookup x=some c→sc.names.lookup x=some .free)
  (kp:KB hB s.heap) (ar:Ar (n+1) A) (hl:vs.length=ps.length) {σ:MEnv} (V:∀ h Ex,Kp s.heap h→(∀ b,Ex b→s.heap.get? b=none∨∃ x,(callEnv fd s.heap.objs.size f).cells.lookup x=some b)→FV (valS sc (parM ps vs) cm) h Ex tbl σ)
  {E:Value→Shared→Prop} {Q:Value→Shared→Prop}
  (P:∀ env h tk,env=callEnv fd s.heap.objs.size f→SR env tbl (onlyL env) (hEx env) (fun _=>0) σ h→h.Ns env.locals (parM ps vs)→Kp s.heap h→s.heap.get? env.locals=none→Ar n (A.deeper env) →
   wpAny (model prog w) (A.deeper env) (execs body env) (fun f s'=>Q (match f with | .ret v=>v |_=> .none) s') (fun e s'=>wpAny (model prog w) (A.deeper env) (leaving env e) (fun _ s''=>E e s'') (fun e' s''=>E e' s'') s') {s with heap:=h,toks:=tk}) :
  wpAny (model prog w) A (call (.ref f) vs) Q E s:=by
 refine aa I fun I g7=>aa I fun I g6=>aa I fun I g5=>aa I fun I g4=>aa I fun I g3=>aa I fun g1 g2=> ?_
 subst hsc
 refine wpAny_call (codeAny_call_plain (fd:=fd) (binds:=ps.zip vs) (Nat.lt_of_le_of_lt (Nat.le_trans (Nat.le_add_right _ _) ar.depth) (by decide)) e1 e2 (let ⟨mc,y,z⟩:=lim;⟨mc,kp.ns y,z⟩) hcr hb ?_ ?_ ?_ ?_ (nt g3) (nt g2) (beq_iff_eq.mp g1))
 ·rw [← hps];exact fK hp hd (hps▸br g7) vs (hl.trans (congrArg _ hps.symm))
 ·intro x hx q
  have:=nt (List.all_eq_true.mp g4 x hx)
  rw [q] at this
  exact nomatch this
 ·exact fun y hy=>beq_iff_eq.mp (List.all_eq_true.mp g5 _ (List.of_mem_zip (a:=y.1) (b:=y.2) hy).1)
 ·intro h₀ hns0 hk0
  have k:Kp s.heap h₀:= .of hk0
  have hn:s.heap.get? (callEnv fd s.heap.objs.size f).locals=none:=az _
  have cell0:=fun x c e=>k.cell (cell x c e)
  have hF:FrM (callEnv fd s.heap.objs.size f) h₀ (parM ps vs) cm:=⟨hns0,cell0,fun x c e q=>let ⟨o,g1,_⟩:=cell x c e;ah (hn.symm.trans (q▸g1)),inj,fun x hx=>hx.elim (fun q=>by
   have:=nt (List.all_eq_true.mp g4 _ (PySem.mem_of_lookup q))
   exact nomatch this) (has x)⟩
  have VV:FV (valOf (callEnv fd s.heap.objs.size f) (parM ps vs) cm) h₀ (hEx (callEnv fd s.heap.objs.size f)) tbl σ:=V h₀ _ k fun b e=>e.elim (fun e=> .inl (e▸hn)) .inr
  exact P _ h₀ _ rfl (VV.sr ⟨beq_iff_eq.mp g1,hgl,hbl⟩ hF (br g6) fr) hns0 k hn (ar.deep off _)
theorem Clo.call (off:Frk.fs=none) {prog:Program} {w:World} {hB:Heap} {n:Nat} (lim:hB.NoLimit) {sc:Scope} {tbl ps:List Str} (I:innB sc tbl ps=true) {as:List Arg} (hps:as.map (·.arg)=ps) {A:Around} {s:Shared} {f:Addr} {qual:Str} {body:List Stmt} {cl:List (Str×Addr)} {cm:Str→Option Value} {vs:List Value}
  (C:Clo s.heap f qual ⟨[],as,none,[],[],none,[]⟩ body sc cl cm) (kp:KB hB s.heap) (ar:Ar (n+1) A) (hl:vs.length=ps.length) {σ:MEnv} (V:∀ h Ex,Kp s.heap h→(∀ b,Ex b→s.heap.get? b=none∨∃ x,cl.lookup x=some b)→FV (valS sc (parM ps vs) cm) h Ex tbl σ)
  {E:Value→Shared→Prop} {Q:Value→Shared→Prop}
  (P:∀ env h tk E',env.cells=cl→env.scope=sc→SR env tbl (onlyL env) (hEx env) (fun _=>0) σ h→Kp s.heap h→s.heap.get? env.locals=none→Ar n (A.deeper env) →
   wpAny (model prog w) (A.deeper env) (execs body env) (fun f s'=>Q (match f with | .ret v=>v |_=> .none) s') E' {s with heap:=h,toks:=tk}) :
  wpAny (model prog w) A (PySem.call (.ref f) vs) Q E s:=by
 obtain ⟨o,doc,pm,cd,ct,oc,vc,t,e1,e2,e3,e4,e5,e6⟩:=C.fo
 exact kV off lim I hps e1 e2 rfl rfl rfl rfl rfl rfl ⟨cd,oc,vc,t,rfl,e3,e5,e6⟩ C.cell C.inj C.has C.fr kp ar hl V fun env h tk he S _ k hn ar'=>P env h tk _ (he▸rfl) (he▸rfl) S k hn ar'
end Mine
set_option genSizeOf false
set_option genInjectivity false
namespace Mine
theorem xb (x k:Nat):x &&& (x / 2 ^ k * 2 ^ k)=x / 2 ^ k * 2 ^ k:=by
 apply Nat.eq_of_testBit_eq
 intro i
 rw [Nat.testBit_and,← Nat.shiftRight_eq_div_pow,← Nat.shiftLeft_eq,Nat.testBit_shiftLeft,Nat.testBit_shiftRight]
 by_cases h:k≤i
 ·rw [show k+(i - k)=i by omega];simp [h]
 ·simp [h]
theorem wo {x:Int} (k:Nat) (h:0≤x):Builtin.bitXor x (x.fdiv (2 ^ k) * 2 ^ k)=x.fmod (2 ^ k):=by
 obtain ⟨a,rfl⟩:=Int.eq_ofNat_of_zero_le h
 have hp:(0:Int)≤2 ^ k:=Int.le_of_lt (Int.pow_pos (by decide))
 have e1:(a:Int).fdiv (2 ^ k)=((a / 2 ^ k:Nat):Int):=by
  rw [Int.fdiv_eq_ediv_of_nonneg _ hp];simp
 have e2:(a:Int).fmod (2 ^ k)=((a % 2 ^ k:Nat):Int):=by
  rw [Int.fmod_eq_emod_of_nonneg _ hp];simp
 have e3:((a / 2 ^ k:Nat):Int) * 2 ^ k=((a / 2 ^ k * 2 ^ k:Nat):Int):=by simp
 rw [e1,e2,e3,bitXor_and]
 have e4:Builtin.bitAnd (a:Int) ((a / 2 ^ k * 2 ^ k:Nat):Int)=((a / 2 ^ k * 2 ^ k:Nat):Int):=by
  unfold Builtin.bitAnd
  rw [decide_eq_true (Int.natCast_nonneg _),decide_eq_true (Int.natCast_nonneg _)]
  simp only [Int.toNat_natCast,xb]
 rw [e4]
 have:=Nat.div_add_mod a (2 ^ k)
 rw [Nat.mul_comm] at this
 omega
end Mine
set_option genSizeOf false
set_option genInjectivity false
namespace Mine
theorem aq {G:ag} {F:FEnv} {σ σ1:MEnv} {a b:S} {r:Option (MEnv×Out)} (h:ex G F σ a=some (σ1,.next)) (k:ex G F σ1 b=r):ex G F σ (.seq a b)=r:=ad h k
theorem cL {G:ag} {F:FEnv} {σ:MEnv} {i:Nat} {e:T} {d:D} (h:ev G F σ false e=some d):ex G F σ (.asg i false e)=some (setE σ i d false,.next):=ad h rfl
theorem lV {G:ag} {F:FEnv} {σ:MEnv} {i:Nat} {e:T} {d:D} (h:ev G F σ false e=some d) (hf:freshT e d=true):ex G F σ (.asg i true e)=some (setE σ i d true,.next):=ad h (by rw [hf];rfl)
theorem ai {G:ag} {F:FEnv} {σ:MEnv} {b:Bool} {op:Operator} {a c:T} {x y d:D} (h1:ev G F σ true a=some x) (h2:ev G F σ true c=some y) (h:binD op x y=some d):ev G F σ b (.bin op a c)=some d:=ad h1 (ad h2 h)
theorem ay {G:ag} {F:FEnv} {σ:MEnv} {b:Bool} {a r:T} {x:D} {xs:List D} (h1:ev G F σ b a=some x) (h2:ev G F σ b r=some (.tup xs)):ev G F σ b (.cons a r)=some (.tup (x :: xs)):=ad h1 (ad h2 rfl)
theorem bv {a:Int} (h:a.natAbs<2 ^ 64):small a=true:=by
 unfold small BIG
 exact decide_eq_true (Nat.lt_trans h (Nat.pow_lt_pow_right (by decide) (by decide)))
theorem mm {a b:Int} (h0:0≤a) (hab:a≤b):a.natAbs≤b.natAbs:=by omega
theorem ca {a b:Int} (h:small b=true) (h0:0≤a) (hab:a≤b):small a=true:=by
 unfold small at h ⊢
 exact decide_eq_true (Nat.lt_of_le_of_lt (mm h0 hab) (of_decide_eq_true h))
theorem aP {n:Nat} (h:n≤1000000):small (n:Int)=true:=bv (Nat.lt_of_le_of_lt h (by decide))
theorem fT {n:Nat} (h:n≤4000):sizeOk n=true:=decide_eq_true (Nat.le_trans h (by decide))
theorem hZ {n:Nat} (h:n≤1000000):idxOk (n:Int)=true:=decide_eq_true (Nat.lt_of_le_of_lt h (by decide))
theorem dN {x:Int} {k:Nat} (h:0≤x):0≤x.fdiv (2 ^ k)∧x.fdiv (2 ^ k)≤x:=by
 have hp:(0:Int)<2 ^ k:=Int.pow_pos (by decide)
 rw [Int.fdiv_eq_ediv_of_nonneg _ (Int.le_of_lt hp)]
 exact ⟨Int.ediv_nonneg h (Int.le_of_lt hp),Int.ediv_le_self _ h⟩
theorem hJ {x:Int} {k:Nat} (h:0≤x):0≤x.fmod (2 ^ k)∧x.fmod (2 ^ k)≤x:=by
 have hp:(0:Int)<2 ^ k:=Int.pow_pos (by decide)
 rw [Int.fmod_eq_emod_of_nonneg _ (Int.le_of_lt hp)]
 refine ⟨Int.emod_nonneg _ (Int.ne_of_gt hp),?_⟩
 have h1:=Int.mul_ediv_add_emod x (2 ^ k)
 have h2:0≤2 ^ k * (x / 2 ^ k):=Int.mul_nonneg (Int.le_of_lt hp) (Int.ediv_nonneg h (Int.le_of_lt hp))
 exact Int.le_trans (Int.le_add_of_nonneg_left h2) (Int.le_of_eq h1)
theorem u7 (L len:Nat):((L:Int)+((L+len:Nat):Int)).fdiv (2 ^ (1:Int).toNat)=((L+len / 2:Nat):Int):=by
 rw [Int.fdiv_eq_ediv_of_nonneg _ (by decide)]
 have:((2:Int) ^ (1:Int).toNat)=2:=by decide
 rw [this];omega
theorem qA {G:ag} {F:FEnv} {σ:MEnv} {b:Bool} {i j:Nat} {L len:Nat} (h1:ev G F σ true (.var i)=some (.int (L:Int))) (h2:ev G F σ true (.var j)=some (.int ((L+len:Nat):Int))):ev G F σ b (.bin .RShift (.bin .Add (.var i) (.var j)) (.cst (.int 1)))=some (.int ((L+len / 2:Nat):Int)) :=
 ai (ai h1 h2 rfl) rfl (congrArg (some ∘ D.int) (u7 L len))
theorem qK {L a nn:Nat} (h1:a≤1000000) (h2:nn≤1000000):binD .Mult (.int (((L+a:Nat):Int) - (L:Int))) (.int (nn:Int))=some (.int ((a * nn:Nat):Int)):=by
 have e:((L+a:Nat):Int) - (L:Int)=(a:Int):=by rw [Int.natCast_add,Int.add_comm,Int.add_sub_cancel]
 rw [e,Int.natCast_mul]
 exact ao (by rw [aP h1,aP h2];rfl) rfl
theorem j9 {G:ag} {F:FEnv} {σ:MEnv} {b:Bool} {i j k:Nat} {L a nn:Nat} (h0:ev G F σ true (.var i)=some (.int ((L+a:Nat):Int))) (h1:ev G F σ true (.var j)=some (.int (L:Int))) (h2:ev G F σ true (.var k)=some (.int (nn:Int))) (ha:a≤1000000) (hn:nn≤1000000):ev G F σ b (.bin .Mult (.bin .Sub (.var i) (.var j)) (.var k))=some (.int ((a * nn:Nat):Int)) :=
 ai (ai h0 h1 rfl) h2 (qK ha hn)
theorem oh {G:ag} {F:FEnv} {σ:MEnv} {b:Bool} {i j:Nat} {L R:Int} (h1:ev G F σ true (.var i)=some (.int L)) (h2:ev G F σ true (.var j)=some (.int R)):ev G F σ b (.cmp .Eq (.bin .Add (.var i) (.cst (.int 1))) (.var j))=some (.bool (L+1==R)) :=
 ad (ai h1 rfl rfl) (ad h2 rfl)
theorem pp (L:Nat):(((L:Nat):Int)+1==((L+1:Nat):Int))=true:=beq_iff_eq.mpr rfl
theorem mz {L len:Nat} (h:2≤len):(((L:Nat):Int)+1==((L+len:Nat):Int))=false:=beq_eq_false_iff_ne.mpr fun e=>by
 have:L+1=L+len:=Int.ofNat.inj e
 rw [← Nat.add_left_cancel this] at h
 exact absurd h (by decide)
theorem cf {len:Nat} (h:2≤len):1≤len / 2∧1≤len - len / 2:=by omega
theorem ce {len k:Nat} (h:len≤2 ^ (k+1)):len / 2≤2 ^ k∧len - len / 2≤2 ^ k:=by
 rw [Nat.pow_succ] at h
 omega
theorem fS (L len:Nat):L+len / 2+(len - len / 2)=L+len:=by omega
variable [Tabs] [Frk]
theorem i7 {env:Env} {r:List Stmt}:∀ (l:List Stmt),execs (l++r) env=execs l env >>= fun f=>match f with | .next=>execs r env |f=>pure f
 | []=>rfl
 |st :: l=>by
  rw [List.cons_append,arm_execs_cons,arm_execs_cons,bind_assoc]
  refine congrArg (exec st env >>= ·) (funext fun f=> ?_)
  cases f with
  |next=>exact i7 l
  |_=>rfl
theorem pG {M:Model} {A:Around} {E:Value→Shared→Prop} {env:Env} {l r:List Stmt} {Q:Flow→Shared→Prop} {s:Shared} (h:wpAny M A (execs l env) (fun f s'=>match f with | .next=>wpAny M A (execs r env) Q E s' |f=>Q f s') E s):wpAny M A (execs (l++r) env) Q E s:=by
 rw [i7]
 refine wpAny_bind (wpAny_mono h (fun f s' h'=> ?_) fun _ _ e=>e)
 cases f with
 |next=>exact h'
 |_=>exact wpAny_pure h'
theorem eQ {prog:Program} {w:World} {A:Around} {E:Value→Shared→Prop} {s:Shared} {env:Env} {g:Str} {gp cp pos:Pos} {args:List Expr} {Q:Flow→Shared→Prop} (hk:env.scope.kind = .function) (h:wpAny (model prog w) A (eval (.Call (.Name g gp) args [] cp) env) (fun v s'=>v = .none∧Q .next s') E s) :
  wpAny (model prog w) A (exec (.Expr (.Call (.Name g gp) args [] cp) pos) env) Q E s:=by
 refine wpAny_Expr (wpAny_mono h (fun v s' hv=> ?_) fun _ _ e=>e) (by unfold interactive;rw [hk];rfl) rfl
 rw [hv.1];exact hv.2
section
variable {X:Wd} {sc:Scope} {mg mb:Str→Option Value} {σ:MEnv}
theorem lY {M:Model} {A:Around} {E:Value→Shared→Prop} {s:Shared} {env:Env} {cm:Str→Option Value} {x:Str} {c:Addr} {v:Value} {pos:Pos} {Q:Value→Shared→Prop} (hk:env.scope.kind = .function) (hv:s.heap.IsCell c (cm x)) (hl:celK (env.scope.names.lookup x)=true) (hc:env.cells.lookup x=some c) (hx:cm x=some v) (h1:(x==("__debug__":Str))=false) (h2:(x==("__classdict__":Str))=false) (hQ:Q v s) :
  wpAny M A (eval (.Name x pos) env) Q E s:=by
 rw [hx] at hv
 have e:env.kindOf x=some .cell∨env.kindOf x=some .free:=by
  show env.scope.names.lookup x=some .cell∨env.scope.names.lookup x=some .free
  cases hk:env.scope.names.lookup x with
  |none=>rw [hk] at hl;exact nomatch hl
  |some k =>
   rw [hk] at hl
   cases k with
   |cell=>exact .inl rfl
   |free=>exact .inr rfl
   |_=>exact nomatch hl
 exact e.elim (fun e=>wpAny_Name (wpAny_loadName_cell hk e hc hv hQ) h1) fun e=>wpAny_Name (wpAny_loadName_free hk e hc hv hQ h2) h1
theorem cG {t:T} {es:List Expr} (ha:AS X sc t es) (p:At X sc σ) {cm:Str→Option Value} {c f:Addr} (hv:p.s.heap.IsCell c (cm ("inner":Str))) {q pos:Pos} {E:Value→Shared→Prop} {ds:List D} {Q:Value→Shared→Prop} (hl:celK (p.env.scope.names.lookup ("inner":Str))=true) (hc:p.env.cells.lookup ("inner":Str)=some c) (hx:cm ("inner":Str)=some (.ref f))
  {o:Obj} {fd:FuncData} (ho:p.s.heap.get? f=some o) (hfd:o.data = .func fd) (hd:ev X.G X.F σ true t=some (.tup ds)) (hs:ds.all (·.scalar)=true)
  (hQ:∀ h' vs tk,Kp p.s.heap h'→DenL h' (fun _=>False) ds vs→wpAny (model X.P X.w) p.A (call (.ref f) vs) Q E {p.s with heap:=h',toks:=tk}):wpAny (model X.P X.w) p.A (eval (.Call (.Name ("inner":Str) q) es [] pos) p.env) Q E p.s:=by
 refine wpAny_Call_ofName (lY p.R.ok.kind hv hl hc hx (by decide) (by decide) ?_)
 exact PySem.Calls.callWith_function (o:=o) (fd:=fd) (bp ha p hd fun vs h' tk k' dl=>⟨⟨k'.ob ho (.inl (bg hfd)),hfd⟩,hQ h' vs tk k' (DenRL.free dl)⟩)
end
theorem SR.far {env:Env} {tbl:List Str} {Mu Ex:Addr→Prop} {ow:Nat→Addr} {σ:MEnv} {h h':Heap} {D:Addr} (S:SR env tbl Mu Ex ow σ h) (k:KD D h h') {items items':Array Value} (pl:h.PlainList D items) (pl':h'.PlainList D items')
  (hs:∀ i d b,getE σ i=some (d,b)→d.scalar=true∧b=false):SR env tbl Mu Ex ow σ h':=by
 obtain ⟨⟨ok,nd,lt,own,m,cm,F,hv⟩,mu,fr,ho,hi⟩:=S
 obtain ⟨n1,n2⟩:=gt F pl
 refine ⟨⟨ok,nd,fun b hb=> ?_,own,m,cm,⟨k.ns F.ns n1.symm,fun x c e=>k.cell (F.cell x c e) fun q=>n2 x (q▸e),F.offL,F.inj,F.has⟩,fun i x d b h1 h2 h3=> ?_⟩,mu,fr,ho,hi⟩
 ·by_cases q:b=D
  ·exact q▸PL.al pl'
  ·obtain ⟨o,e⟩:=lt b hb;exact (k.kp b o q e).al
 ·obtain ⟨v,e1,e2,e3⟩:=hv i x d b h1 h2 h3
  obtain ⟨q1,q2⟩:=hs i d b h2
  subst q2
  exact ⟨v,e1,Den.scal q1 e2,e3⟩
end Mine
set_option genSizeOf false
set_option genInjectivity false
namespace Mine
theorem fE {σ:MEnv} {i:Nat} {d:D} {x:Bool} (h:i<σ.length):getE (setE σ i d x) i=some (d,x):=by
 unfold getE setE
 rw [List.getElem?_set_self h];rfl
theorem dM {σ:MEnv} {i j:Nat} {d:D} {x:Bool} (h:i≠j):getE (setE σ i d x) j=getE σ j:=by
 unfold getE setE
 rw [List.getElem?_set_ne h]
theorem setE_len {σ:MEnv} {i:Nat} {d:D} {x:Bool}:(setE σ i d x).length=σ.length:=List.length_set
theorem bG {σ:MEnv} {i:Nat}:(clearE σ [i]).length=σ.length:=List.length_set
theorem fb {σ:MEnv} {i j:Nat} (h:j≠i):getE (clearE σ [i]) j=getE σ j:=by
 show getE (σ.set i none) j=_
 unfold getE
 rw [List.getElem?_set_ne (Ne.symm h)]
section
variable {G:ag} {F:FEnv} {σ:MEnv} {b:Bool} {x y z d:D} {a c e t u:T}
theorem ab {i:Nat} (h:getE σ i=some (d,false)):ev G F σ b (.var i)=some d:=ad h rfl
theorem kG {i:Nat} {x:Bool} (h:getE σ i=some (d,x)):ev G F σ true (.var i)=some d:=ad h (by
 cases x with
 |true=>rfl
 |false=>rfl)
theorem uJ (h:d.scalar=true):ev G F σ b (.cst d)=some d:=ao h rfl
theorem af {i:Int}:ev G F σ b (.cst (.int i))=some (.int i):=rfl
theorem ei {i:Str}:ev G F σ b (.cst (.str i))=some (.str i):=rfl
theorem aG:ev G F σ b (.cst .none)=some .none:=rfl
theorem gk {op:UnaryOp} (h:ev G F σ true a=some x) (k:unD op x=some d):ev G F σ b (.un op a)=some d:=ad h k
theorem am {op:CmpOp} {r:Bool} (h1:ev G F σ true a=some x) (h2:ev G F σ true c=some y) (h:cmpD op x y=some r):ev G F σ b (.cmp op a c)=some (.bool r):=ad h1 (ad h2 (aJ h rfl))
theorem nj {r:Bool} (h:ev G F σ true c=some x) (ht:truthy x=some r) (h1:r=true→ev G F σ b t=some d) (h2:r=false→ev G F σ b u=some d):ev G F σ b (.ite c t u)=some d:=ad h (ad ht (by
 cases r with
 |true=>exact h1 rfl
 |false=>exact h2 rfl))
theorem ji {r s:Bool} (h1:ev G F σ b a=some (.bool r)) (h2:r=false→ev G F σ b c=some (.bool s)):ev G F σ b (.bop .Or a c)=some (.bool (r || s)):=ad h1 (by
 cases r with
 |true=>rfl
 |false=>exact h2 rfl)
theorem tZ {r s:Bool} (h1:ev G F σ b a=some (.bool r)) (h2:r=true→ev G F σ b c=some (.bool s)):ev G F σ b (.bop .And a c)=some (.bool (r&&s)):=ad h1 (by
 cases r with
 |true=>exact h2 rfl
 |false=>rfl)
theorem nC:ev G F σ b .nil=some (.tup []):=rfl
theorem aR (h1:ev G F σ b a=some x):ev G F σ b (.cons a .nil)=some (.tup [x]):=ay h1 rfl
theorem aY (h1:ev G F σ b a=some x) (h2:ev G F σ b c=some y):ev G F σ b (.cons a (.cons c .nil))=some (.tup [x,y]):=ay h1 (aR h2)
theorem fG (h1:ev G F σ b a=some x) (h2:ev G F σ b c=some y) (h3:ev G F σ b e=some z):ev G F σ b (.cons a (.cons c (.cons e .nil)))=some (.tup [x,y,z]):=ay h1 (aY h2 h3)
theorem aj {n:Nat} (h:n≤1048576):sizeOk n=true:=decide_eq_true h
theorem gL {es:T} {xs:List D} (h:ev G F σ false es=some (.tup xs)) (hl:sizeOk xs.length=true:=by rfl):ev G F σ b (.list es)=some (.list xs):=ad h (ao hl rfl)
theorem ch {es:T} {xs:List D} (h:ev G F σ false es=some (.tup xs)) (hl:sizeOk xs.length=true:=by rfl):ev G F σ b (.tup es)=some (.tup xs):=ad h (ao hl rfl)
theorem aC {i:T} (h1:ev G F σ true a=some x) (h2:ev G F σ true i=some y) (h:idxD x y=some d):ev G F σ b (.idx a i)=some d:=ad h1 (ad h2 h)
theorem bV {l s:T} {l' u' s':D} (h1:ev G F σ true a=some x) (h2:ev G F σ true l=some l') (h3:ev G F σ true u=some u') (h4:ev G F σ true s=some s') (h:sliD x l' u' s'=some d):ev G F σ b (.sli a l u s)=some d:=ad h1 (ad h2 (ad h3 (ad h4 h)))
theorem aw {f:Str} {ds:List D} (h:ev G F σ false t=some (.tup ds)) (k:F f ds=some d):ev G F σ b (.call f t)=some d:=ad h k
theorem uV {f:Str} {ds:List D} (h:ev G F σ true t=some (.tup ds)) (k:F f ds=some d) (hs:d.scalar=true):ev G F σ b (.callb f t)=some d:=ad h (ad (a:=ds) rfl (ad k (ao hs rfl)))
theorem aS {f:BF} {ds:List D} (h:ev G F σ true t=some (.tup ds)) (k:bltD f ds=some d):ev G F σ b (.blt f t)=some d:=ad h k
theorem bw {m:MF} {ds:List D} (h1:ev G F σ true a=some x) (h:ev G F σ true t=some (.tup ds)) (k:methD m x ds=some d):ev G F σ b (.meth m a t)=some d:=ad h1 (ad h k)
theorem jz {n:Str} {i:Int} {l:List (Int×Str)} (h:ev G F σ true t=some (.int i)) (k:ev G F σ true u=some x) (hl:G.idict n=some l) (hx:x.scalar=true):ev G F σ b (.dget n t u)=some ((l.lookup i).elim x .str):=ad h (ad (a:=i) rfl (ad k (ad hl (ao hx rfl))))
theorem vS {n:Str} {i:Int} {l:List Int} (h:ev G F σ true t=some (.int i)) (hl:G.iset n=some l):ev G F σ b (.inset n t)=some (.bool (l.contains i)):=ad h (ad (a:=i) rfl (aJ hl rfl))
end
section
variable {G:ag} {F:FEnv} {σ σ':MEnv} {a b e rest:S} {d x y z:D} {r:Option (MEnv×Out)}
theorem aA (h:ex G F σ a=some (σ',.ret d)):ex G F σ (.seq a b)=some (σ',.ret d):=ad h rfl
theorem vn (h:ex G F σ a=some (σ',.brk)):ex G F σ (.seq a b)=some (σ',.brk):=ad h rfl
theorem aH {t:T} (h:ev G F σ false t=some d):ex G F σ (.seq (.ret t) b)=some (σ,.ret d):=ad (aJ h rfl) rfl
theorem aQ {c:T} (h:ev G F σ true c=some x) (ht:truthy x=some true) (k:ex G F σ a=r):ex G F σ (.ifs c a e)=r:=ad h (ad ht k)
theorem bH {c:T} (h:ev G F σ true c=some x) (ht:truthy x=some false) (k:ex G F σ e=r):ex G F σ (.ifs c a e)=r:=ad h (ad ht k)
theorem pi {is:List Nat} {t:T} {ds:List D} (h:ev G F σ false t=some (.tup ds)) (k:setAll σ is ds=some σ'):ex G F σ (.unp is t)=some (σ',.next):=ad h (aJ k rfl)
theorem fP {is:List (Nat×Bool)} {t:T} {ds:List D} (h:ev G F σ false t=some (.tup ds)) (hf:freshAll is t ds=true) (k:setMulti σ is ds=some σ'):ex G F σ (.multi is t)=some (σ',.next):=ad h (ao hf (aJ k rfl))
theorem xd {i:Nat} {t:T} {xs:List D} (h:own? σ i=some xs) (k:ev G F σ false t=some d):ex G F σ (.app i t)=some (setE σ i (.list (xs++[d])) true,.next):=ad h (aJ k rfl)
theorem kt {i:Nat} {op:Operator} {t:T} {m n:Int} (h:getE σ i=some (.int m,false)) (k:ev G F σ true t=some (.int n)) (ho:augOk op=true) (hd:binD op (.int m) (.int n)=some d):ex G F σ (.aug i op t)=some (setE σ i d false,.next):=ad h (ad (a:=m) rfl (ad k (ad (a:=n) rfl (gf (c:=(false || !augOk op)=true) (by rw [ho];decide) (aJ hd rfl)))))
theorem aD {n:Nat} {ds:List D} (σ:MEnv) (hs:ds.map (fun d=>some (d,false))++List.replicate (n - ds.length) none=σ) (h:ex G F σ a=some (σ',.ret d)):run G F n a ds=some d:=by
 unfold run
 rw [hs];exact ad h rfl
theorem eJ {i:Nat} {xs:List D} (h:getE σ i=some (.list xs,true)) (hs:sizeOk xs.length=true):own? σ i=some xs:=ad h (ad (a:=xs) rfl (ao (c:=(true&&sizeOk xs.length)=true) hs rfl))
theorem gJ {i:Nat} {t:T} {xs:List D} (h:getE σ i=some (.list xs,true)) (hs:sizeOk xs.length=true) (hv:ev G F σ false t=some d) (k:ex G F (setE σ i (.list (xs++[d])) true) rest=r):ex G F σ (.seq (.app i t) rest)=r:=aq (xd (eJ h hs) hv) k
theorem za {i:Nat} {xs:List D} (h:getE σ i=some (.list xs,true)) (hs:sizeOk xs.length=true) (k:ex G F (setE σ i (.list xs.reverse) true) rest=r):ex G F σ (.seq (.revm i) rest)=r:=aq (aJ (eJ h hs) rfl) k
theorem t6 {i:Nat} {t:T} {xs ys:List D} (h:getE σ i=some (.list xs,true)) (hs:sizeOk xs.length=true) (hv:ev G F σ false t=some (.list ys)) (hy:sizeOk ys.length=true) (k:ex G F (setE σ i (.list (xs++ys)) true) rest=r):ex G F σ (.seq (.ext i t) rest)=r:=aq (ad (eJ h hs) (ad hv (ad (a:=ys) rfl (ao hy rfl)))) k
theorem aB {i:Nat} {e:T} (h:ev G F σ false e=some d) (k:ex G F (setE σ i d false) rest=r):ex G F σ (.seq (.asg i false e) rest)=r:=aq (cL h) k
theorem dF {i:Nat} {e:T} (h:ev G F σ false e=some d) (hf:freshT e d=true) (k:ex G F (setE σ i d true) rest=r):ex G F σ (.seq (.asg i true e) rest)=r:=aq (lV h hf) k
theorem bX (k:ex G F σ rest=r):ex G F σ (.seq .skip rest)=r:=aq rfl k
theorem cB {c:T} (h:ev G F σ true c=some x) (ht:truthy x=some false) (k:ex G F σ (.seq e rest)=r):ex G F σ (.seq (.ifs c a e) rest)=r:=(congrArg (fun o:Option (MEnv×Out)=>o.bind fun p=>cond p.2.isNext (ex G F p.1 rest) (some p)) (bH h ht rfl)).trans k
theorem x_ifT {c:T} (h:ev G F σ true c=some x) (ht:truthy x=some true) (k:ex G F σ (.seq a rest)=r):ex G F σ (.seq (.ifs c a e) rest)=r:=(congrArg (fun o:Option (MEnv×Out)=>o.bind fun p=>cond p.2.isNext (ex G F p.1 rest) (some p)) (aQ h ht rfl)).trans k
theorem gy {i j:Nat} {t:T} (h:ev G F σ false t=some (.tup [x,y])) (k:ex G F (setE (setE σ i x false) j y false) rest=r):ex G F σ (.seq (.unp [i,j] t) rest)=r:=aq (pi h rfl) k
theorem fM {i j:Nat} {es:T} (h:ev G F σ false es=some (.tup [x,y])) (hf:freshAll [(i,false),(j,false)] es [x,y]=true) (k:ex G F (setE (setE σ i x false) j y false) rest=r):ex G F σ (.seq (.multi [(i,false),(j,false)] es) rest)=r:=aq (fP h hf rfl) k
theorem rM {i j l:Nat} {es:T} (h:ev G F σ false es=some (.tup [x,y,z])) (hf:freshAll [(i,false),(j,false),(l,false)] es [x,y,z]=true) (k:ex G F (setE (setE (setE σ i x false) j y false) l z false) rest=r):ex G F σ (.seq (.multi [(i,false),(j,false),(l,false)] es) rest)=r:=aq (fP h hf rfl) k
theorem s5 {i j l m:Nat} {es:T} {u:D} (h:ev G F σ false es=some (.tup [x,y,z,u])) (hf:freshAll [(i,false),(j,false),(l,false),(m,false)] es [x,y,z,u]=true) (k:ex G F (setE (setE (setE (setE σ i x false) j y false) l z false) m u false) rest=r):ex G F σ (.seq (.multi [(i,false),(j,false),(l,false),(m,false)] es) rest)=r:=aq (fP h hf rfl) k
end
noncomputable def bodyT (G:ag) (F:FEnv) (tg:List Nat) (one:Bool) (b:S):MEnv→D→Option (MEnv×Out):=fun σ d=>(bindT σ tg one d).bind fun σ'=>ex G F σ' b
theorem gv {G:ag} {F:FEnv} {σ σ':MEnv} {tg:List Nat} {one:Bool} {k:IK} {it it2:T} {body els:S} {xs:List D} {o:Out} (he:enumOk one k=true) (hi:evI G F (freeze σ it) false k it it2=some xs) (hl:loopL (bodyT G F tg one body) (freeze σ it) xs=some (σ',o)) :
  ex G F σ (.fors tg one k it it2 body els)=o.aft (ex G F σ' els) σ':=gf (by rw [he];decide) (ad hi (ad hl rfl))
section
variable {G:ag} {F:FEnv} {σ σ':MEnv} {tg:List Nat} {one:Bool} {k:IK} {it it2:T} {body els rest:S} {xs:List D} {d:D} {r:Option (MEnv×Out)}
theorem c9 (he:enumOk one k=true) (hi:evI G F (freeze σ it) false k it it2=some xs) (hl:loopL (bodyT G F tg one body) (freeze σ it) xs=some (σ',.next)) (kk:ex G F σ' rest=r):ex G F σ (.seq (.fors tg one k it it2 body .skip) rest)=r:=aq ((gv he hi hl).trans rfl) kk
theorem xG {σ2:MEnv} (he:enumOk one k=true) (hi:evI G F (freeze σ it) false k it it2=some xs) (hl:loopL (bodyT G F tg one body) (freeze σ it) xs=some (σ',.next)) (ke:ex G F σ' els=some (σ2,.next)) (kk:ex G F σ2 rest=r):ex G F σ (.seq (.fors tg one k it it2 body els) rest)=r:=aq ((gv he hi hl).trans ke) kk
theorem xH (he:enumOk one k=true) (hi:evI G F (freeze σ it) false k it it2=some xs) (hl:loopL (bodyT G F tg one body) (freeze σ it) xs=some (σ',.brk)) (kk:ex G F σ' rest=r):ex G F σ (.seq (.fors tg one k it it2 body els) rest)=r:=aq ((gv he hi hl).trans rfl) kk
theorem xh (he:enumOk one k=true) (hi:evI G F (freeze σ it) false k it it2=some xs) (hl:loopL (bodyT G F tg one body) (freeze σ it) xs=some (σ',.ret d)):ex G F σ (.seq (.fors tg one k it it2 body els) rest)=some (σ',.ret d):=aA ((gv he hi hl).trans rfl)
end
section
variable {f:MEnv→D→Option (MEnv×Out)} {σ σ':MEnv} {x d:D} {xs:List D}
theorem aU {r:Option (MEnv×Out)} (h:f σ x=some (σ',.next)) (k:loopL f σ' xs=r):loopL f σ (x :: xs)=r:=ad h k
theorem ou (h:f σ x=some (σ',.brk)):loopL f σ (x :: xs)=some (σ',.brk):=ad h rfl
theorem qV (h:f σ x=some (σ',.ret d)):loopL f σ (x :: xs)=some (σ',.ret d):=ad h rfl
end
theorem iH {α:Type} {f:D→Option (Option D)} {inj:α→D} {c:α→Bool} {y:α→D}:∀ {l:List α},(∀ a∈l,f (inj a)=some (cond (c a) (some (y a)) none))→compL f (l.map inj)=some ((l.filter c).map y)
 | [],_=>rfl
 |a :: l,h=>ad (h a List.mem_cons_self) (aJ (iH fun b hb=>h b (List.mem_cons_of_mem _ hb)) (by
  rw [List.filter_cons]
  cases c a
  ·rfl
  ·rfl))
section
variable {G:ag} {F:FEnv} {σ:MEnv} {elt it it2 cnd:T} {k:IK} {b:Bool} {α:Type} {inj:α→D} {l:List α}
theorem kX {tg locs:List Nat} {one:Bool} {τ:α→MEnv} {c:α→Bool} {y:α→D} (he:enumOk one k=true) (hf:feedD k (ev G F σ true it) (ev G F σ true it2)=some (l.map inj)) (hb:∀ a∈l,bindT (clearE σ locs) tg one (inj a)=some (τ a))
  (hc:∀ a∈l,∃ x,ev G F (τ a) true cnd=some x∧truthy x=some (c a)) (hy:∀ a∈l,c a=true→ev G F (τ a) false elt=some (y a)):ev G F σ b (.comp elt tg one k it it2 cnd locs)=some (.list ((l.filter c).map y)) :=
 gf (by rw [he];decide) (ad hf (aJ (iH fun a ha=>by
  obtain ⟨x,hx,htx⟩:=hc a ha
  refine ad (hb a ha) (ad hx (ad htx ?_))
  cases e:c a with
  |false=>rfl
  |true=>exact aJ (hy a ha e) rfl) rfl))
theorem fY (l:List α):(l.filter fun _=>true)=l:=List.filter_eq_self.mpr fun _ _=>rfl
theorem tR {tg locs:List Nat} {one:Bool} {τ:α→MEnv} {y:α→D} (he:enumOk one k=true) (hf:feedD k (ev G F σ true it) (ev G F σ true it2)=some (l.map inj)) (hb:∀ a∈l,bindT (clearE σ locs) tg one (inj a)=some (τ a))
  (hy:∀ a∈l,ev G F (τ a) false elt=some (y a)):ev G F σ b (.comp elt tg one k it it2 (.cst (.bool true)) locs)=some (.list (l.map y)) :=
 (kX (c:=fun _=>true) (y:=y) he hf hb (fun a _=>⟨_,rfl,rfl⟩) (fun a ha _=>hy a ha)).trans (by rw [fY])
theorem iF {i:Nat} {c:α→Bool} {y:α→D} (he:enumOk true k=true) (hf:feedD k (ev G F σ true it) (ev G F σ true it2)=some (l.map inj)) (hi:i<σ.length)
  (hc:∀ a∈l,∀ σ',getE σ' i=some (inj a,false)→(∀ j,j≠i→getE σ' j=getE σ j)→σ'.length=σ.length→(∃ x,ev G F σ' true cnd=some x∧truthy x=some (c a))∧(c a=true→ev G F σ' false elt=some (y a))) :
  ev G F σ b (.comp elt [i] true k it it2 cnd [i])=some (.list ((l.filter c).map y)):=by
 have hs:∀ a∈l,_:=fun a ha=>hc a ha (setE (clearE σ [i]) i (inj a) false) (fE (by rw [bG];exact hi)) (fun j hj=>(dM (Ne.symm hj)).trans (fb hj)) (setE_len.trans bG)
 exact kX (τ:=fun a=>setE (clearE σ [i]) i (inj a) false) he hf (fun a _=>rfl) (fun a ha=>(hs a ha).1) (fun a ha=>(hs a ha).2)
theorem cb {i:Nat} {c:α→Bool} {y:α→D} (he:enumOk true k=true) (hf:feedD k (ev G F σ true it) (ev G F σ true it2)=some (l.map inj)) (hi:i<σ.length)
  (hc:∀ a∈l,∀ σ',getE σ' i=some (inj a,false)→(∀ j,j≠i→getE σ' j=getE σ j)→σ'.length=σ.length→ev G F σ' true cnd=some (.bool (c a))∧(c a=true→ev G F σ' false elt=some (y a))) :
  ev G F σ b (.comp elt [i] true k it it2 cnd [i])=some (.list ((l.filter c).map y)) :=
 iF he hf hi fun a ha σ' h1 h2 h3=>⟨⟨_,(hc a ha σ' h1 h2 h3).1,rfl⟩,(hc a ha σ' h1 h2 h3).2⟩
theorem aZ {i:Nat} {y:α→D} (he:enumOk true k=true) (hf:feedD k (ev G F σ true it) (ev G F σ true it2)=some (l.map inj)) (hi:i<σ.length)
  (hy:∀ a∈l,∀ σ',getE σ' i=some (inj a,false)→(∀ j,j≠i→getE σ' j=getE σ j)→σ'.length=σ.length→ev G F σ' false elt=some (y a)) :
  ev G F σ b (.comp elt [i] true k it it2 (.cst (.bool true)) [i])=some (.list (l.map y)) :=
 (cb (c:=fun _=>true) (y:=y) he hf hi (fun a ha σ' h1 h2 h3=>⟨rfl,fun _=>hy a ha σ' h1 h2 h3⟩)).trans (by rw [fY])
end
theorem dg:∀ (n a:Nat),rangeD (a:Int) n=(List.range' a n).map fun i:Nat=>D.int (i:Int)
 |0,a=>rfl
 |n+1,a=>congrArg (D.int a :: ·) (dg n (a+1))
theorem oe (n:Nat):rangeD 0 n=(List.range n).map fun i:Nat=>D.int (i:Int):=by
 rw [List.range_eq_range']
 exact dg n 0
theorem eI {n:Nat} (h:n≤1048576):idxOk (n:Int)=true:=decide_eq_true (Nat.lt_of_le_of_lt h (by decide))
theorem dT {xs:List D} {i:Nat} {d:D} (h:xs[i]? = some d) (hl:xs.length≤1048576):idxL xs (i:Int)=some d :=
 ao (eI (Nat.le_trans (Nat.le_of_lt (List.getElem?_eq_some_iff.mp h).1) hl)) ((if_pos (Int.natCast_nonneg i)).trans h)
theorem wX (a b:Int):eqD (.int a) (.int b)=some (a==b):=rfl
theorem iP {α:Type} [BEq α] {f:D→D→Option Bool} {inj:α→D} (h:∀ a b,f (inj a) (inj b)=some (a==b)):∀ {xs ys:List α},xs.length=ys.length→allEq f (xs.map inj) (ys.map inj)=some (xs==ys)
 | [],[],_=>rfl
 |x :: xs,y :: ys,hl=>ad (h x y) (aJ (iP h (Nat.succ.inj hl)) rfl)
 | [],_ :: _,hl=>nomatch hl
 |_ :: _,[],hl=>nomatch hl
theorem lm {α:Type} [BEq α] [LawfulBEq α] {inj:α→D} (h:∀ a b,eqN 3 (inj a) (inj b)=some (a==b)) (xs ys:List α):eqD (.list (xs.map inj)) (.list (ys.map inj))=some (xs==ys):=by
 show (if (xs.map inj).length=(ys.map inj).length then allEq (eqN 3) (xs.map inj) (ys.map inj) else some false)=_
 rw [List.length_map,List.length_map]
 by_cases hl:xs.length=ys.length
 ·rw [if_pos hl];exact iP h hl
 ·rw [if_neg hl,beq_eq_false_iff_ne.mpr fun (q:xs=ys)=>hl (congrArg List.length q)]
theorem rK (xs ys:List Int):eqD (.list (xs.map .int)) (.list (ys.map .int))=some (xs==ys):=lm (fun _ _=>rfl) xs ys
theorem pI (xs ys:List Bool):eqD (.list (xs.map .bool)) (.list (ys.map .bool))=some (xs==ys):=lm (fun _ _=>rfl) xs ys
theorem sX (d:Int):∀ (xs:List Int),memD (.int d) (xs.map .int)=some (xs.contains d)
 | []=>rfl
 |x :: xs=>by
  rw [List.contains_cons,show (d==x)=(x==d) from BEq.comm]
  exact ad (wX x d) (aJ (sX d xs) rfl)
theorem pD {xs ys:List D} (h1:xs.length≤1048576) (h2:ys.length≤1048576):binD .Add (.list xs) (.list ys)=some (.list (xs++ys)):=ao (c:=(sizeOk xs.length&&sizeOk ys.length)=true) (by rw [aj h1,aj h2];rfl) rfl
theorem nX {a b:Int} (h:b≠0):binD .Mod (.int a) (.int b)=some (.int (a.fmod b)):=gf (fun q=>h (beq_iff_eq.mp q)) rfl
theorem zz {a b:Int} (h:b≠0) (hs:small b=true):binD .FloorDiv (.int a) (.int b)=some (.int (a.fdiv b)):=gf (c:=(b==0 || !small b)=true) (by rw [beq_eq_false_iff_ne.mpr h,hs];decide) rfl
theorem bW {a b:Int} (h1:small a=true) (h2:small b=true):binD .Mult (.int a) (.int b)=some (.int (a * b)):=ao (c:=(small a&&small b)=true) (by rw [h1,h2];rfl) rfl
theorem uu {a:Int} {n:Nat} (h1:small a=true) (h2:n≤1000000):binD .LShift (.int a) (.int (n:Int))=some (.int (a * 2 ^ n)):=ao (c:=(decide (0≤(n:Int))&&decide ((n:Int).toNat≤1000000)&&small a)=true) (by rw [decide_eq_true (Int.natCast_nonneg n),h1,decide_eq_true (show (n:Int).toNat≤1000000 from h2)];rfl) rfl
theorem uf {a b:Int} (h:0≤b):binD .RShift (.int a) (.int b)=some (.int (a.fdiv (2 ^ b.toNat))):=ao (decide_eq_true h) rfl
theorem zj {a b:Int} (h:0≤b) (h2:b.toNat≤1000000) (h3:a.natAbs<18446744073709551616):binD .Pow (.int a) (.int b)=some (.int (a ^ b.toNat)):=ao (c:=(decide (0≤b)&&decide (b.toNat≤1000000)&&decide (a.natAbs<18446744073709551616))=true) (by rw [decide_eq_true h,decide_eq_true h2,decide_eq_true h3];rfl) rfl
theorem nE {xs:List D} (h:xs.length≤1048576):bltD .len [.list xs]=some (.int xs.length):=ao (aj h) rfl
theorem ym {x:Str} (h:x.length≤1048576):bltD .len [.str x]=some (.int x.length):=ao (aj h) rfl
theorem rI {a b:Int} (h:b≠0) (hs:small b=true):bltD .divmod [.int a,.int b]=some (.tup [.int (a.fdiv b),.int (a.fmod b)]):=gf (c:=(b==0 || !small b)=true) (by rw [beq_eq_false_iff_ne.mpr h,hs];decide) rfl
theorem cj {xs:List D} (h:xs.length≤1048576):iterD (.list xs)=some xs:=ao (aj h) rfl
theorem i_tup {xs:List D} (h:xs.length≤1048576):iterD (.tup xs)=some xs:=ao (aj h) rfl
theorem bF {G:ag} {F:FEnv} {σ:MEnv} {e it2:T} {d:D} {xs:List D} (h:ev G F σ true e=some d) (hi:iterD d=some xs):feedD .plain (ev G F σ true e) (ev G F σ true it2)=some xs:=ad h hi
theorem kJ {G:ag} {F:FEnv} {σ:MEnv} {e it2:T} {d:D} {xs:List D} (h:ev G F σ false e=some d) (hi:iterD d=some xs):evI G F σ false .plain e it2=some xs:=ad h hi
theorem l9 {n:Nat} (hn:n≤1048576):rngD 0 (n:Int)=some ((List.range n).map fun i:Nat=>D.int (i:Int)):=by
 rw [← oe]
 have e:((n:Int) - 0).toNat=n:=by rw [Int.sub_zero];rfl
 unfold rngD
 rw [e]
 exact ao (c:=(sizeOk n&&idxOk (n:Int)&&idxOk 0)=true) (by rw [aj hn,eI hn];rfl) rfl
theorem dy {G:ag} {F:FEnv} {σ:MEnv} {e it2:T} {n:Nat} (h:ev G F σ true e=some (.int (n:Int))) (hn:n≤1048576):feedD .range1 (ev G F σ true e) (ev G F σ true it2)=some ((List.range n).map fun i:Nat=>D.int (i:Int)):=ad h (l9 hn)
theorem xO {G:ag} {F:FEnv} {σ:MEnv} {e it2:T} {xs:List D} (h:ev G F σ false e=some (.list xs)) (hs:sizeOk xs.length=true):evI G F σ false .rev e it2=some xs.reverse:=ad h (ad (a:=xs) rfl (ao hs rfl))
theorem fU {G:ag} {F:FEnv} {σ:MEnv} {b:Bool} {e it2:T} {n:Nat} (h:ev G F σ true e=some (.int (n:Int))) (hn:n≤1048576):evI G F σ false .range1 e it2=some ((List.range n).map fun i:Nat=>D.int (i:Int)):=ad h (l9 hn)
theorem wD (n:Nat):(-1+((n+1:Nat):Int)).toNat=n:=by omega
theorem xt {xs:List D} {d:D} (h:xs.length≤1048575):idxL (xs++[d]) (-1)=some d:=by
 refine ao (show idxOk (-1)=true from rfl) ((if_neg (by decide)).trans ?_)
 rw [List.length_append]
 show (if 0 ≤ -1+((xs.length+1:Nat):Int) then (xs++[d])[(-1+((xs.length+1:Nat):Int)).toNat]? else none)=_
 rw [wD,if_pos (by omega),List.getElem?_append_right (Nat.le_refl _),Nat.sub_self];rfl
theorem fQ:∀ {ds:List Int},ints? (ds.map .int)=some ds
 | []=>rfl
 |d :: ds=>ad (a:=d) rfl (aJ fQ rfl)
theorem iI:∀ {ts:List Str},strs? (ts.map .str)=some ts
 | []=>rfl
 |d :: ds=>ad (a:=d) rfl (aJ iI rfl)
theorem uz {i:Int} (h:i.natAbs<18446744073709551616):bltD .hex [.int i]=some (.str (hexS i)):=ao (decide_eq_true h) rfl
theorem kR {x:Str} {ts:List Str} (h:sizeOk (x.length * ts.length+(ts.map (·.length)).sum)=true):methD .join (.str x) [.list (ts.map .str)]=some (.str (Txt.join x ts)):=ad (a:=ts) iI (ao h rfl)
end Mine
set_option genSizeOf false
set_option genInjectivity false
namespace Mine
variable [Tabs] [Frk]
theorem yb {a b:Array Value} (h:Data.fields a=Data.fields b):a=b:=sm (congrArg (fun d:Data=>match d with | .fields v=>some v |_=>none) h)
theorem TabV.triples {h:Heap} {b:Addr} {l:List Value} (T:TabV h b l):TriplesOk l:=by
 induction T with
 |nil=>trivial
 |cons _ _ _ _ _ ih=>exact ih
theorem TabV.among {h:Heap} {b:Addr} {pos:Pos} {cv:Value} {l:List Value} (T:TabV h b l) (e:codeAmong pos l=some cv):∃ a o vs t,cv = .ref a∧h.get? a=some o∧o.cls = .type "code"∧o.data = .fields vs∧vs[1]? = some (.str (Tabs.q pos.line pos.col) t):=by
 induction T with
 |nil=>exact ah e
 | @cons l c t u a o vs tq r e1 e2 e3 e4 T ih =>
  have e:(if (l==(pos.line:Int)&&c==pos.col)=true then some (Value.ref a) else codeAmong pos r)=some cv:=e
  cases hq:(l==(pos.line:Int)&&c==pos.col) with
  |true =>
   rw [hq] at e
   rw [← sm e]
   exact aa hq fun q1 q2=>⟨a,_,_,_,rfl,e1,e2,e3,by rw [← beq_iff_eq.mp q1,← beq_iff_eq.mp q2];exact e4⟩
  |false =>
   rw [hq] at e
   exact ih e
theorem pz {hB h:Heap} {P:Addr} (k:KB hB h) (e:hB.get? P=some (tabObj #[])):∃ ps:Array Value,h.get? P=some (tabObj ps)∧TabV h P ps.toList:=by
 rcases k.kp P _ e with g |⟨_,vs,more,_,e2,g,T⟩ |⟨_,es,n,sl,e2,_⟩
 ·exact ⟨#[],g,.nil⟩
 ·have e2:Data.fields #[]=Data.fields vs:=e2
  obtain rfl : #[]=vs:=yb e2
  exact ⟨#[]++more,g,by rw [Array.toList_append];exact T⟩
 ·exact nomatch (e2:Data.fields #[]=Data.dict es n)
theorem m6 {hB h:Heap} {cd P:Addr} (k:KB hB h) (C:CodeHd hB cd P):CodeHd h cd P:=by
 obtain ⟨o,vs,file,tf,flags,tg,inF,text,tt,e,hc,r⟩:=C
 exact ⟨o,vs,file,tf,flags,tg,inF,text,tt,k.ob e (.inl (bd hc r.1)),hc,r⟩
section
variable {M:Model} {A:Around} {E:Value→Shared→Prop} {s:Shared} {name qual:Str} {params:Arguments} {body:List Stmt} {scope:Scope} {env:Env} {cd P:Addr} {ps:Array Value} {pos:Pos} {firstLine:Nat} {mg:Str→Option Value}
 {q:Str×Addr} {r:List (Str×Addr)} {Q:Value→Shared→Prop}
theorem qg (hcl:closureFor scope env=pure (q :: r)) (hge:env.globals=mainGlobals) (hg:s.heap.Ns mainGlobals mg) (hcode:env.code = .ref cd) (C:CodeHd s.heap cd P) (hP:s.heap.get? P=some (tabObj ps)) (T:TabV s.heap P ps.toList) (htb:Tabs.tb P) (hq:Tabs.q pos.line pos.col=qual)
  (hgP:mainGlobals≠P) (hb:s.heap.BuiltinsAt mg P) (hdoc:docOf body=none)
  (h:∀ f h' tk doc pm c' ct o oc vs t,Kp s.heap h'→s.heap.get? f=none→h'.get? f=some o→o.data = .func (fnX name qual params body scope (q :: r) .none .none doc pm none (.ref c') ct)→h'.get? c'=some oc→oc.cls = .type "code"→oc.data = .fields vs→vs[1]? = some (.str qual t) →
   Q (.ref f) {s with heap:=h',toks:=tk}):wpAny M A (makeFunction name qual params (.stmts body) scope env [] [] [] pos firstLine) Q E s:=by
 cases ha:codeAmong pos ps.toList with
 |some cv =>
  obtain ⟨a,o,vs,t,rfl,e1,e2,e3,e4⟩:=T.among ha
  refine makeFunction_hit hcl hge hg hcode C hP T.triples ha hb fun ctv doc h' tk k sz=> ?_
  rw [hq] at e4
  refine h _ _ tk doc _ a ctv _ o vs t (Kp.trans (.of k) (Kp.push h' _)) (iu sz) (Heap.get?_push_size _ rfl) rfl (Heap.get?_push_of_some _ (k _ _ e1)) e2 e3 e4
 |none =>
  obtain ⟨bm,ob,hbm,hne0,_,hneP,hbo,hcls,hdict,hdata⟩:=hb
  rw [makeFunction_eq]
  simp only [List.zip_nil_right,List.filterMap_nil,List.isEmpty_nil,if_true,pure_bind]
  unfold makeTail
  rw [hcl,hge]
  refine wpAny_bind (wpAny_pure ?_)
  simp only [List.isEmpty_cons,Bool.false_eq_true,if_false]
  refine wpAny_bind (wpAny_newTextTuple ?_)
  have kk:∀ (o:Obj) b o',s.heap.get? b=some o'→(s.heap.push o).get? b=some o':=fun o b o' e=>Heap.get?_push_of_some _ e
  refine wpAny_bind (wpAny_functionCodeX hcode ((C.keeps (kk _)).code (kk _ _ _ hP) T.triples) ((C.keeps (kk _)).tab (kk _ _ _ hP)) ha fun c' h' tk hx hge' hlt _ hrec htab hnew=> ?_)
  obtain ⟨P',_,_,⟨oc,vs',f1,f2,f3,_⟩,_⟩:=hnew
  obtain ⟨c2,oc2,vs2,t2,g1,g2,g3,g4⟩:=hrec
  obtain rfl:=Value.ref.inj g1
  obtain rfl:=sm (f1.symm.trans g2)
  obtain rfl:=yb (f3.symm.trans g3)
  have hx':Heap.ExtBut P s.heap h':=fun b o hb' e=>hx b o hb' (kk _ _ _ e)
  have hg':=(hg.push _).extBut hx hgP
  refine wpAny_bind (wpAny_builtinsFor hg' hbm hne0 (hx' _ _ hneP hbo) hcls hdict hdata ?_)
  refine wpAny_bind (wpAny_nsGet hg' ?_)
  rw [hdoc]
  refine wpAny_bind (wpAny_pure (wpAny_newObj_type ?_ (by size_fits)))
  have sz:s.heap.objs.size≤h'.objs.size:=by
   have h1:(s.heap.push {cls:= .type "tuple",data:= .seq _}).objs.size≤c':=hge'
   rw [Heap.size_push] at h1
   have h2:c'<h'.objs.size:=hlt
   exact Nat.le_of_lt (Nat.lt_of_lt_of_le (Nat.lt_of_lt_of_le (Nat.lt_succ_self _) h1) (Nat.le_of_lt h2))
  have kp:Kp s.heap h':=fun b o e=>by
   by_cases hbP:b=P
   ·subst hbP
    obtain rfl:=sm (hP.symm.trans e)
    refine .inr (.inl ⟨htb,ps,_,rfl,rfl,htab.2,?_⟩)
    exact .cons f1 f2 f3 (by rw [hq];exact g4) .nil
   ·exact .inl (hx' b o hbP e)
  exact h _ _ tk _ _ c' _ _ oc _ t2 (kp.trans (Kp.push h' _)) (iu sz) (Heap.get?_push_size _ rfl) rfl (Heap.get?_push_of_some _ f1) f2 f3 g4
end
end Mine
set_option genSizeOf false
set_option genInjectivity false
namespace Mine
variable [Tabs] [Frk]
noncomputable abbrev inS:Str:="inner"
noncomputable def RV (env:Env) (tbl:List Str) (Ex:Addr→Prop) (ow:Nat→Addr) (σ:MEnv) (h:Heap) (m cm:Str→Option Value):Prop :=
 ∀ i x d b,tbl[i]? = some x→getE σ i=some (d,b)→seen env.scope x=true→∃ v,valOf env m cm x=some v∧DenV h Ex b d v∧(b=true→v = .ref (ow i))
theorem RV.keep {env:Env} {tbl:List Str} {Ex:Addr→Prop} {ow:Nat→Addr} {σ:MEnv} {h h':Heap} {m cm:Str→Option Value} (V:RV env tbl Ex ow σ h m cm) (k:Kp h h'):RV env tbl Ex ow σ h' m cm:=fun i x d b h1 h2 h3 =>
 let ⟨v,e,dv,hw⟩:=V i x d b h1 h2 h3;⟨v,e,dv.keep k,hw⟩
theorem RV.cell {env:Env} {tbl:List Str} {Ex:Addr→Prop} {ow:Nat→Addr} {σ:MEnv} {h:Heap} {m cm:Str→Option Value} (V:RV env tbl Ex ow σ h m cm) {i:Nat} {x:Str} {d:D} {b:Bool} (h1:tbl[i]? = some x) (h2:getE σ i=some (d,b)) (hk:env.scope.names.lookup x=some .cell):∃ v,cm x=some v∧DenV h Ex b d v∧(b=true→v = .ref (ow i)):=by
 obtain ⟨v,e,r⟩:=V i x d b h1 h2 (by unfold seen;rw [hk];rfl)
 unfold valOf Env.kindOf at e
 rw [hk] at e
 exact ⟨v,e,r⟩
theorem SR.re {env:Env} {tbl:List Str} {Mu Ex:Addr→Prop} {ow:Nat→Addr} {σ:MEnv} {h h':Heap} {m cm:Str→Option Value} (S:SR env tbl Mu Ex ow σ h) (lt:∀ b,Ex b→Al h' b) (F:FrM env h' m cm) (V:RV env tbl Ex ow σ h' m cm):SR env tbl Mu Ex ow σ h' :=
 ⟨⟨S.rr.ok,S.rr.nd,lt,S.rr.own,m,cm,F,V⟩,S.mu,S.fr,S.own,S.inj⟩
theorem qZ {prog:Program} {w:World} {A:Around} {E:Value→Shared→Prop} {s:Shared} {env:Env} {tbl:List Str} {Mu Ex:Addr→Prop} {ow:Nat→Addr} {σ:MEnv} {x:Str} {c:Addr} {v:Value} {Q:Unit→Shared→Prop} (S:SR env tbl Mu Ex ow σ s.heap) (hx:x∉tbl) (hk:env.scope.names.lookup x=some .cell) (hc:env.cells.lookup x=some c)
  (P:∀ h' m cm,SR env tbl Mu Ex ow σ h'→FrM env h' m cm→RV env tbl Ex ow σ h' m cm→cm x=some v→Heap.SameBut c s.heap h'→Q () {s with heap:=h'}):wpAny (model prog w) A (storeName env x v) Q E s:=by
 obtain ⟨m,cm,F,V⟩:=S.rr.fr
 refine wpAny_storeName_cell S.rr.ok.kind hk hc (F.cell x c hc) fun h' hc' sb=> ?_
 have kk:∀ b o,b≠c→s.heap.get? b=some o→h'.get? b=some o:=fun b o n e=>sb.extBut b o n e
 have F':FrM env h' m (fun y=>if y=x then some v else cm y):=⟨F.ns.at' fun o e=>kk _ o (F.offL x c hc).symm e,fun y cy hy=>by
  by_cases q:y=x
  ·rw [if_pos q]
   obtain rfl:=sm ((q▸hc).symm.trans hy)
   exact hc'
  ·rw [if_neg q]
   obtain ⟨o,e1,e2⟩:=F.cell y cy hy
   exact ⟨o,kk cy o (fun e=>q (F.inj y x cy hy (e▸hc))) e1,e2⟩,F.offL,F.inj,F.has⟩
 have kf:KF (· = x) env s.heap h':=⟨fun b o _ n e=> .inl (kk b o (fun q=>n x rfl (q▸hc)) e),Cd.sb kk (fun o e vs q=>let ⟨o',e1,e2⟩:=F.cell x c hc;nomatch e2.symm.trans ((congrArg Obj.data (sm (e1.symm.trans e))).trans q)) fun ⟨o,es,n,e1,e2⟩=>let ⟨o',e3,e4⟩:=F.cell x c hc;nomatch e4.symm.trans ((congrArg Obj.data (sm (e3.symm.trans e1))).trans e2)⟩
 have V':RV env tbl Ex ow σ h' m (fun y=>if y=x then some v else cm y):=fun i y d b h1 h2 h3=>by
  obtain ⟨u,e1,e2,e3⟩:=V i y d b h1 h2 h3
  refine ⟨u,?_,im F S.rr.own kf e2,e3⟩
  unfold valOf at e1 ⊢
  show valK (m y) (if y=x then some v else cm y) _=_
  rw [if_neg fun (q:y=x)=>hx (q▸List.mem_of_getElem? h1)]
  exact e1
 refine P h' m _ (S.re (fun b hb=> ?_) F' V') F' V' (if_pos rfl) sb
 by_cases q:b=c
 ·obtain ⟨o,e,_⟩:=hc';exact ⟨o,q▸e⟩
 ·obtain ⟨o,e⟩:=S.rr.lt b hb;exact ⟨o,kk b o q e⟩
section
variable {X:Wd} {sc isc:Scope} {σ:MEnv} {mg mb:Str→Option Value}
noncomputable def HasB (mg:Str→Option Value) (h:Heap):Prop:=∃ bm o,mg "__builtins__"=some (.ref bm)∧bm≠builtinsNs∧bm≠mainGlobals∧h.get? bm=some o∧o.cls = .type "module"∧o.dict=some builtinsNs∧o.data = .plain
theorem HasB.at {h hB:Heap} (k:KB hB h) {P:Addr} (hP:hB.get? P=some (tabObj #[])) (x:HasB mg hB):h.BuiltinsAt mg P:=by
 obtain ⟨bm,o,b1,b2,b3,b4,b5,b6,b7⟩:=x
 refine ⟨bm,o,b1,b2,b3,fun q=> ?_,k.ob b4 (.inl (og b5 b7)),b5,b6,b7⟩
 have e:Data.plain=Data.fields #[]:=b7.symm.trans (congrArg Obj.data (sm (b4.symm.trans (q▸hP))))
 exact nomatch e
theorem qk (p:Ast X sc σ) (B:X.Ok mg mb) (hbm:HasB mg X.hB) {cd T:Addr} (hcode:p.env.code = .ref cd) (h7:X.hB.IsCode cd T #[]) (h8:X.hB.TableAt cd T #[]) (htb:Tabs.tb T) {as:List Arg} {ib:List Stmt} {pd:Pos} {qual:Str} {q:Str×Addr} {r:List (Str×Addr)} (hann:as.all (·.annotation.isNone)=true) (hdoc:docOf ib=none)
  (hqn:qualnameIn p.env inS inS=qual) (hq:Tabs.q pd.line pd.col=qual) (hl:sc.names.lookup inS=some .cell) (hx:inS∉X.c.tbl) {cI:Addr} (hc:p.env.cells.lookup inS=some cI) (hcl:closureFor isc p.env=pure (q :: r))
  (hsub:∀ z∈q :: r,p.env.cells.lookup z.1=some z.2∧isc.names.lookup z.1=some .free) (hfs:isc.names.all (fun z=> !(z.2 == .free) || ((q :: r).lookup z.1).isSome)=true) {E:Value→Shared→Prop} {Q:Flow→Shared→Prop}
  (P:∀ h tk m cm f,SR p.env X.c.tbl p.Mu p.Ex p.ow σ h→Gr p.s.heap p.Mu p.Ex p.Mu p.Ex h→FrM p.env h m cm→RV p.env X.c.tbl p.Ex p.ow σ h m cm→cm inS=some (.ref f)→Clo h f qual ⟨[],as,none,[],[],none,[]⟩ ib isc (q :: r) cm→Q .next {p.s with heap:=h,toks:=tk}) :
  wpAny (model X.P X.w) p.A (exec (.FunctionDef inS ⟨[],as,none,[],[],none,[]⟩ ib [] none [] isc none inS pd) p.env) Q E p.s:=by
 obtain ⟨ps,hP,TV⟩:=pz p.k h8.2
 have hk:p.env.scope.names.lookup inS=some .cell:=p.hsc.symm▸hl
 refine nestDef_K rfl rfl ?_ ?_
 ·have:as++[]++Option.toList none++[]++Option.toList none=as:=by rw [List.append_nil];exact (List.append_nil _).trans ((List.append_nil _).trans (List.append_nil _))
  show annotationsOf (as++[]++Option.toList none++[]++Option.toList none) p.env++_=_
  rw [this,jy p.env as hann];rfl
 rw [hqn]
 refine qg hcl p.S.rr.ok.glob (p.k.ns B.ns) hcode (m6 p.k (CodeHd.of h7 h8)) hP TV htb hq (fun e=> ?_) (hbm.at p.k h8.2) hdoc fun f h1 tk1 doc pm c' ct o oc vs t k1 hfN f1 f2 f3 f4 f5 f6=> ?_
 ·obtain ⟨o',es,ep,e1,e2,_⟩:=B.ns
  have e:Data.dict es ep=Data.fields #[]:=e2.symm.trans (congrArg Obj.data (sm (e1.symm.trans (e▸h8.2))))
  exact nomatch e
 refine qZ (s:={p.s with heap:=h1,toks:=tk1}) (p.S.keep k1) hx hk hc fun h2 m cm S2 F2 V2 hf sb=> ?_
 have kk:∀ b o,b≠cI→h1.get? b=some o→h2.get? b=some o:=fun b o n e=>sb.extBut b o n e
 have muI:p.Mu cI:=p.S.fr.2 inS cI (by unfold storable;rw [hk];rfl) hc
 obtain ⟨m0,cm0,F0,_⟩:=(p.S.keep k1).rr.fr
 obtain ⟨oI,g1,g2⟩:=F0.cell _ cI hc
 have cd2:Cd h1 h2:=Cd.sb kk (fun o e vs q=>nomatch g2.symm.trans ((congrArg Obj.data (sm (g1.symm.trans e))).trans q)) fun ⟨o,es,n,e1,e2⟩=>nomatch g2.symm.trans ((congrArg Obj.data (sm (g1.symm.trans e1))).trans e2)
 have lk:∀ x c,(q :: r).lookup x=some c→p.env.cells.lookup x=some c∧isc.names.lookup x=some .free:=fun x c e=>hsub (x,c) (PySem.mem_of_lookup e)
 refine P h2 tk1 m cm f S2 ⟨fun _ e=> .inl e,fun _ e=> .inl e,fun _ e _=>e,fun b o n e=>(k1 b o e).then (fun o' e'=> .inl (kk b o' (fun q=>n (q▸muI)) e')) cd2,k1.cd.trans cd2⟩ F2 V2 hf ⟨?_,fun x c e=>F2.cell x c (lk x c e).1,fun x y c e1 e2=>F2.inj x y c (lk x c e1).1 (lk y c e2).1,fun x hx=> ?_,fun x c e=>(lk x c e).2⟩
 ·refine ⟨o,doc,pm,c',ct,oc,vs,t,kk f o (fun q=> ?_) f1,f2,kk c' oc (fun q=> ?_) f3,f4,f5,f6⟩
  ·exact nomatch f2.symm.trans ((congrArg Obj.data (sm (f1.symm.trans (q▸g1)))).trans g2)
  ·exact nomatch f5.symm.trans ((congrArg Obj.data (sm (f3.symm.trans (q▸g1)))).trans g2)
 ·have:=List.all_eq_true.mp hfs _ (PySem.mem_of_lookup hx)
  exact Option.isSome_iff_exists.mp this
end
end Mine
set_option genSizeOf false
set_option genInjectivity false
namespace Mine
noncomputable def dig (n:Nat):Nat→Nat→Int→List Int
 |0,_,x=>[x]
 |f+1,len,x=>if len≤1 then [x] else dig n f (len / 2) (x.fmod (2 ^ (len / 2 * n)))++dig n f (len - len / 2) (x.fdiv (2 ^ (len / 2 * n)))
theorem ft (n f:Nat) (x:Int):dig n f 1 x=[x]:=by cases f<;>rfl
theorem fq (n f len:Nat) (x:Int) (h:2≤len):dig n (f+1) len x=dig n f (len / 2) (x.fmod (2 ^ (len / 2 * n)))++dig n f (len - len / 2) (x.fdiv (2 ^ (len / 2 * n))):=if_neg (Nat.not_le.mpr h)
theorem b9 (n:Nat):∀ (f len:Nat) (x:Int),1≤len→len≤2 ^ f→(dig n f len x).length=len
 |0,len,x,h1,h2=>Nat.le_antisymm h1 h2
 |f+1,len,x,h1,h2=>by
  rcases Nat.lt_or_ge 1 len with h |h
  ·rw [fq n f len x h,List.length_append,b9 n f _ _ (cf h).1 (ce h2).1,b9 n f _ _ (cf h).2 (ce h2).2]
   exact Nat.add_sub_cancel' (Nat.div_le_self _ _)
  ·obtain rfl:=Nat.le_antisymm h h1
   rw [ft];rfl
noncomputable def tb8:List Str:=["x","L","R","mid","shift","upper","lower","n"]
noncomputable def nm8:List (Str×NameKind):=[("x",.local),("L",.local),("R",.local),("mid",.local),("shift",.local),("upper",.local),("lower",.local),("a_digits",.free),("inner",.free),("n",.free)]
noncomputable def pms:List Str:=["x","L","R"]
noncomputable def adS:Str:="a_digits"
noncomputable def tI1:T:= .cmp .Eq (.bin .Add (.var 1) (.cst (.int 1))) (.var 2)
noncomputable def blkI:S:= .seq (.asg 3 false (.bin .RShift (.bin .Add (.var 1) (.var 2)) (.cst (.int 1)))) (.seq (.asg 4 false (.bin .Mult (.bin .Sub (.var 3) (.var 1)) (.var 7))) (.seq (.asg 5 false (.bin .RShift (.var 0) (.var 4))) (.seq (.asg 6 false (.bin .BitXor (.var 0) (.bin .LShift (.var 5) (.var 4)))) .skip)))
noncomputable def aI1:T:= .cons (.var 6) (.cons (.var 1) (.cons (.var 3) .nil))
noncomputable def aI2:T:= .cons (.var 5) (.cons (.var 3) (.cons (.var 2) .nil))
noncomputable def callN (as:List Expr) (e:Expr):Expr:= .Call (.Name inS (kid 0 e).pos) as [] e.pos
noncomputable def unA (c:Cx) (sc:Scope) (t:T) (e:Expr):Bool×List Expr:=el t (un c sc t none (argsE e))
noncomputable def unT (c:Cx) (sc:Scope) (t:T) (e:Expr):Bool×Expr:=e1 t (un c sc t none [e])
noncomputable def inI (c:Cx) (sc:Scope) (ib:List Stmt):Bool×List Stmt :=
 let s0:=hs ib;let b0:=hs (sbod s0);let tg:=skid 1 b0
 let t:=unT c sc tI1 (skid 0 s0);let x:=unT c sc (.var 0) (skid 0 b0);let l:=unT c sc (.var 1) (kid 1 tg)
 let m:=unS c sc blkI ib.tail;let c1:=hs ib.tail.tail.tail.tail.tail;let c2:=hs ib.tail.tail.tail.tail.tail.tail
 let a1:=unA c sc aI1 (skid 0 c1);let a2:=unA c sc aI2 (skid 0 c2)
 (t.1&&x.1&&l.1&&m.1&&a1.1&&a2.1,.If t.2 [.Assign [.Subscript (.Name adS (kid 0 tg).pos) l.2 tg.pos] x.2 b0.pos,.Return none (hs (sbod s0).tail).pos] [] s0.pos :: (m.2++[.Expr (callN a1.2 (skid 0 c1)) c1.pos,.Expr (callN a2.2 (skid 0 c2)) c2.pos]))
noncomputable def sI (x L R:Int) (m sh up lo:Option (D×Bool)) (nn:Nat):MEnv:=[some (.int x,false),some (.int L,false),some (.int R,false),m,sh,up,lo,some (.int nn,false)]
noncomputable def oi (i:Int):Option (D×Bool):=some (.int i,false)
theorem uR {G:ag} {F:FEnv} {x:Int} {L len nn:Nat} (hx0:0≤x) (hxs:small x=true) (ha:len / 2≤1000000) (hn:nn≤1000000) (hb:len / 2 * nn≤1000000) :
  ex G F (sI x L ((L+len:Nat):Int) none none none none nn) blkI=some (sI x L ((L+len:Nat):Int) (oi ((L+len / 2:Nat):Int)) (oi ((len / 2 * nn:Nat):Int)) (oi (x.fdiv (2 ^ (len / 2 * nn)))) (oi (x.fmod (2 ^ (len / 2 * nn)))) nn,.next):=by
 refine aq (cL (qA rfl rfl)) (aq (cL (j9 rfl rfl rfl ha hn)) (aq (cL (ai rfl rfl (ao (c:=decide ((0:Int)≤((len / 2 * nn:Nat):Int))=true) (decide_eq_true (Int.natCast_nonneg _)) rfl))) (aq (cL (ai rfl (ai rfl rfl (ao (c:=(decide ((0:Int)≤((len / 2 * nn:Nat):Int))&&decide ((len / 2 * nn)≤1000000)&&small (x.fdiv (2 ^ (len / 2 * nn))))=true) ?_ rfl)) ?_)) rfl)))
 ·rw [decide_eq_true (Int.natCast_nonneg _),decide_eq_true hb,ca hxs (dN hx0).1 (dN hx0).2];rfl
 ·exact congrArg (some ∘ D.int) (wo _ hx0)
noncomputable def flatM (σ:MEnv):Bool:=σ.all fun o=>o.elim true fun p=>p.1.scalar && !p.2
theorem vB {σ:MEnv} (h:flatM σ=true):∀ i d b,getE σ i=some (d,b)→d.scalar=true∧b=false:=fun i d b hg=>by
 unfold getE at hg
 cases e:σ[i]? with
 |none=>rw [e] at hg;exact ah hg
 |some o =>
  rw [e] at hg
  obtain rfl:o=some (d,b):=hg
  exact aa (List.all_eq_true.mp h _ (List.mem_of_getElem? e)) fun h1 h2=>⟨h1,nt h2⟩
structure Filled (a b:Array Value) (L:Nat) (dl:List Int):Prop where
 size:b.size=a.size
 inn:∀ j k,dl[j]? = some k→∃ t,b[L+j]? = some (Value.int k t)
 out:∀ j,(j<L∨L+dl.length≤j)→b[j]? = a[j]?
theorem Filled.one {a:Array Value} {L:Nat} {x:Int} {t:Tok} (h:L<a.size):Filled a (a.setIfInBounds L (.int x t)) L [x]:=by
 refine ⟨Array.size_setIfInBounds,fun j k e=> ?_,fun j hj=> ?_⟩
 ·cases j with
  |zero =>
   obtain rfl:x=k:=sm e
   exact ⟨t,by rw [Nat.add_zero,Array.getElem?_setIfInBounds,if_pos rfl,if_pos h]⟩
  |succ j=>exact ah e
 ·rw [Array.getElem?_setIfInBounds,if_neg fun q=> ?_]
  rw [q] at hj
  exact hj.elim (Nat.lt_irrefl _) fun e=>Nat.lt_irrefl _ e
theorem Filled.app {a b c:Array Value} {L:Nat} {d e:List Int} (x:Filled a b L d) (y:Filled b c (L+d.length) e):Filled a c L (d++e):=by
 refine ⟨y.size.trans x.size,fun j k h=> ?_,fun j hj=> ?_⟩
 ·rcases Nat.lt_or_ge j d.length with q |q
  ·rw [List.getElem?_append_left q] at h
   rw [y.out _ (.inl (Nat.add_lt_add_left q _))]
   exact x.inn j k h
  ·rw [List.getElem?_append_right q] at h
   have:=y.inn _ k h
   rw [Nat.add_assoc,Nat.add_sub_cancel' q] at this
   exact this
 ·rw [List.length_append,← Nat.add_assoc] at hj
  rw [y.out j (hj.imp (fun q=>Nat.lt_of_lt_of_le q (Nat.le_add_right _ _)) id),x.out j (hj.imp id fun q=>Nat.le_trans (Nat.le_add_right _ _) q)]
theorem u5 {L len nn:Nat} (hL:L+len≤100000) (hnb:len * nn≤1000000):L+len / 2≤100000∧L+len / 2+(len - len / 2)≤100000∧len / 2 * nn≤1000000∧(len - len / 2) * nn≤1000000 :=
 ⟨Nat.le_trans (Nat.add_le_add_left (Nat.div_le_self _ _) _) hL,Nat.le_trans (Nat.le_of_eq (fS L len)) hL,Nat.le_trans (Nat.mul_le_mul_right nn (Nat.div_le_self len 2)) hnb,Nat.le_trans (Nat.mul_le_mul_right nn (Nat.sub_le len _)) hnb⟩
variable [Tabs] [Frk]
theorem ox {prog:Program} {w:World} {hB:Heap} {mg:Str→Option Value} {fns:List Str} {n:Nat}:∀ f a,f∈fns→mg f=some (.ref a)→Ctr prog w hB n (fun _ _=>none) f a:=fun f a _ _ A E s X ds vs r Q ar kp hX hd hr=>ah hr
structure z5 (cl:List (Str×Addr)) (cm:Str→Option Value) (z:Str) (D f:Addr) (nn:Nat):Prop where
 a:∃ c,cl.lookup z=some c
 i:∃ c,cl.lookup inS=some c
 mA:cm z=some (.ref D)
 mI:cm inS=some (.ref f)
 mN:∃ t,cm ("n":Str)=some (.int nn t)
theorem Au {sc:Scope} (hnm:sc.names=nm8) {x L R:Int} {nn:Nat} {vs:List Value} {cm:Str→Option Value} (mN:∃ t,cm ("n":Str)=some (.int nn t)) {h h':Heap} {Y Ex:Addr→Prop} (dl:DenL h Y [.int x,.int L,.int R] vs):FV (valS sc (parM pms vs) cm) h' Ex tb8 (sI x L R none none none none nn):=by
 obtain ⟨v1,r1,rfl,⟨t1,rfl⟩,v2,r2,rfl,⟨t2,rfl⟩,v3,r3,rfl,⟨t3,rfl⟩,e⟩:=dl
 obtain rfl:r3=[]:=e
 obtain ⟨tn,hn⟩:=mN
 have e:∀ y,valS sc (parM pms [.int x t1,.int L t2,.int R t3]) cm y=valK (parM pms [.int x t1,.int L t2,.int R t3] y) (cm y) (nm8.lookup y):=fun y=>by unfold valS;rw [hnm]
 exact .has ((e _).trans rfl) ⟨t1,rfl⟩ (.has ((e _).trans rfl) ⟨t2,rfl⟩ (.has ((e _).trans rfl) ⟨t3,rfl⟩ (.no (.no (.no (.no (.has ((e _).trans hn) ⟨tn,rfl⟩ .nil)))))))
section
variable {prog:Program} {w:World} {c:Cx} {G:ag} {hB:Heap} {mg mb:Str→Option Value} {sc:Scope} {ib:List Stmt} {as:List Arg} {qual:Str} {cl:List (Str×Addr)} {cm:Str→Option Value} {f D:Addr} {nn:Nat} {ps:List Str}
structure eE (prog:Program) (w:World) (c:Cx) (G:ag) (hB:Heap) (mg mb:Str→Option Value) (sc:Scope) (ps:List Str) (as:List Arg):Prop where
 B:Base prog w c G hB mg mb
 lim:hB.NoLimit
 ok:CxOk c
 I:innB sc c.tbl ps=true
 has:as.map (·.arg)=ps
noncomputable abbrev wd0 (prog:Program) (w:World) (c:Cx) (G:ag) (hB:Heap):Wd:=⟨prog,w,c,G,fun _ _=>none,hB,0⟩
noncomputable abbrev Ast.inn {A:Around} {s:Shared} {env:Env} {h:Heap} {σ:MEnv} (tk:Nat) (hsc:env.scope=sc) (S:SR env c.tbl (onlyL env) (hEx env) (fun _=>0) σ h) (kp:KB hB h) (hn:hB.get? env.locals=none) {n:Nat} (ar:Ar n A):Ast (wd0 prog w c G hB) sc σ :=
 ⟨A,{s with heap:=h,toks:=tk},env,onlyL env,hEx env,fun _=>0,hsc,S,kp,fun b e=>e▸hn,ar.mono (Nat.zero_le _)⟩
theorem jh (N:eE prog w c G hB mg mb sc ps as) {t:T} {e:Expr} (h:(unA c sc t e).1=true):AS (wd0 prog w c G hB) sc t (unA c sc t e).2:=((b8 (X:=wd0 prog w c G hB) N.B ox t).l h).as
theorem dV (N:eE prog w c G hB mg mb sc ps as) {t:T} {e:Expr} (h:(unT c sc t e).1=true):All (wd0 prog w c G hB) sc t (unT c sc t e).2:=(b8 (X:=wd0 prog w c G hB) N.B ox t).e h
theorem uv (N:eE prog w c G hB mg mb sc ps as) {s:S} {ss:List Stmt} (h1:isSeq s=true) (h:(unS c sc s ss).1=true):SS (wd0 prog w c G hB) sc s (execs (unS c sc s ss).2):=(fC (X:=wd0 prog w c G hB) N.B ox N.ok s).l h1 h
theorem yf (off:Frk.fs=none) (N:eE prog w c G hB mg mb sc pms as) (htb:c.tbl=tb8) (hnm:sc.names=nm8) (hi:(inI c sc ib).1=true) (hr:(inI c sc ib).2=ib) (hn1:nn≤4000) (K:z5 cl cm adS D f nn) (hD:hB.get? D=none) :
  ∀ (fu len:Nat) (x:Int) (L:Nat),1≤len→len≤2 ^ fu→0≤x→small x=true→L+len≤100000→len * nn≤1000000→∀ (A:Around) (E:Value→Shared→Prop) (s:Shared) (items:Array Value) (vs:List Value) (Y:Addr→Prop) (Q:Value→Shared→Prop),Ar (fu+1) A→KB hB s.heap→Clo s.heap f qual ⟨[],as,none,[],[],none,[]⟩ ib sc cl cm→s.heap.PlainList D items→L+len≤items.size→DenL s.heap Y [.int x,.int (L:Int),.int ((L+len:Nat):Int)] vs →
   (∀ h' tk items',KD D s.heap h'→h'.PlainList D items'→Filled items items' L (dig nn fu len x)→Q .none {s with heap:=h',toks:=tk}) →
   wpAny (model prog w) A (call (.ref f) vs) Q E s:=by
 intro fu
 induction fu using Nat.strongRecOn with
 |_ fu ih =>
  intro len x L hl1 hl2 hx0 hxs hL hnb A E s items vs Y Q ar kp C pl hsz dl hQ
  refine C.call off N.lim N.I N.has kp ar dl.length (fun h Ex _ _=>htb▸Au hnm K.mN dl) fun env h₀ tk E' hcel hsc S k0 hn ar1=> ?_
  refine aa hi fun hi q6=>aa hi fun hi q5=>aa hi fun hi q4=>aa hi fun hi q3=>aa hi fun q1 q2=> ?_
  have hnB:hB.get? env.locals=none:=kp.none hn
  let p:Ast (wd0 prog w c G hB) sc _:= .inn (s:=s) tk hsc S (kp.trans k0) hnB ar1
  have kl:celK (env.scope.names.lookup adS)=true∧celK (env.scope.names.lookup inS)=true:=by rw [hsc,hnm];exact ⟨rfl,rfl⟩
  obtain ⟨cA,hcA⟩:=K.a
  obtain ⟨cI,hcI⟩:=K.i
  rw [← hr]
  refine wpAny_execs_cons (wpAny_If ((dV N q1).is _ p.at _ _ _ _ (oh rfl rfl) rfl fun h1 tk1 k1=> ?_))
  have S1:=S.keep k1
  have k01:=k0.trans k1
  have pl1:h1.PlainList D items:=PL.at' pl (k01.at D)
  let p1:Ast (wd0 prog w c G hB) sc _:= .inn (s:=s) tk1 hsc S1 (kp.trans k01) hnB ar1
  rcases Nat.lt_or_ge 1 len with hlen |hlen
  ·obtain ⟨fu',rfl⟩:∃ fu',fu=fu'+1:=by
    cases fu with
    |zero=>exact absurd (Nat.lt_of_lt_of_le hlen hl2) (by decide)
    |succ k=>exact ⟨k,rfl⟩
   rw [mz hlen,if_neg (by decide)]
   refine wpAny_execs_nil (pG ?_)
   obtain ⟨o1,o2,o3,o4⟩:=u5 (nn:=nn) hL hnb
   obtain ⟨f1,f2⟩:=cf hlen
   obtain ⟨g1,g2⟩:=ce hl2
   have up:=dN (k:=len / 2 * nn) hx0
   have lo:=hJ (k:=len / 2 * nn) hx0
   refine uv N rfl q4 _ p1 _ _ _ _ (uR hx0 hxs (Nat.le_trans (Nat.le_trans (Nat.le_add_left _ _) o1) (by decide)) (Nat.le_trans hn1 (by decide)) o3) fun h2 tk2 Mu2 Ex2 ow2 S2 g=> ?_
   have kd2:KD D s.heap h2:=g.kd D (k01.kd D) fun b e=>e▸hn
   have kp2:Kp s.heap h2:=g.kp0 k01 fun b e=>e▸hn
   have pl2:h2.PlainList D items:=PL.at' pl (kp2.at D)
   have C2:=C.keep kp2
   let p2:Ast (wd0 prog w c G hB) sc _:=p1.on S2 g tk2
   obtain ⟨oF,doc,pm,cd,ct,oc,vc,t,e1,e2,_⟩:=C2.fo
   refine wpAny_execs_cons (eQ S.rr.ok.kind (cG (jh N q5) p2.at (C2.cell _ cI hcI) kl.2 (hcel▸hcI) K.mI e1 e2 (ds:=[.int (x.fmod (2 ^ (len / 2 * nn))),.int (L:Int),.int ((L+len / 2:Nat):Int)]) rfl rfl fun h3 us tk3 k3 dl3=> ?_))
   have kp3:=kp2.trans k3
   have pl3:h3.PlainList D items:=PL.at' pl (kp3.at D)
   refine ih fu' (Nat.lt_succ_self _) (len / 2) _ L f1 g1 lo.1 (ca hxs lo.1 lo.2) o1 o3 (A.deeper env) E' {s with heap:=h3,toks:=tk3} items us _ _ ar1 (kp.trans kp3) (C.keep kp3) pl3 (Nat.le_trans (Nat.add_le_add_left (Nat.div_le_self _ _) _) hsz) dl3 fun h4 tk4 items1 kd4 pl4 fl1=>⟨rfl,?_⟩
   have S4:=(S2.keep k3).far kd4 pl3 pl4 (vB rfl)
   have kd4':=(kp3.kd D).trans kd4
   let p4:Ast (wd0 prog w c G hB) sc _:={p2 with s:={s with heap:=h4,toks:=tk4},S:=S4,k:=kd4'.kpB kp hD}
   have C4:=C.kd kd4' pl
   obtain ⟨oF,doc,pm,cd,ct,oc,vc,t,e1,e2,_⟩:=C4.fo
   refine wpAny_execs_cons (eQ S.rr.ok.kind (cG (jh N q6) p4.at (C4.cell _ cI hcI) kl.2 (hcel▸hcI) K.mI e1 e2 (ds:=[.int (x.fdiv (2 ^ (len / 2 * nn))),.int ((L+len / 2:Nat):Int),.int ((L+len:Nat):Int)]) rfl rfl fun h5 us tk5 k5 dl5=> ?_))
   have kd5:=kd4'.trans (k5.kd D)
   have pl5:h5.PlainList D items1:=PL.at' pl4 (k5.at D)
   have hLL:=fS L len
   refine ih fu' (Nat.lt_succ_self _) (len - len / 2) _ (L+len / 2) f2 g2 up.1 (ca hxs up.1 up.2) o2 o4 (A.deeper env) E' {s with heap:=h5,toks:=tk5} items1 us _ _ ar1 (kd5.kpB kp hD) (C.kd kd5 pl) pl5 (Nat.le_trans (Nat.le_of_eq hLL) (Nat.le_trans hsz (Nat.le_of_eq fl1.size.symm))) (hLL.symm▸dl5) fun h6 tk6 items2 kd6 pl6 fl2=>⟨rfl,?_⟩
   refine wpAny_execs_nil (hQ h6 tk6 items2 (kd5.trans kd6) pl6 ?_)
   rw [fq _ _ _ _ hlen]
   exact fl1.app (by rw [b9 _ _ _ _ f1 g1];exact fl2)
  ·obtain rfl:=Nat.le_antisymm hlen hl1
   rw [pp,if_pos rfl]
   refine wpAny_execs_cons (wpAny_Assign_Subscript ((dV N q2).vs _ p1.at _ true (.int x) _ rfl fun v h2 tk2 k2 d2 _=> ?_) rfl)
   obtain ⟨tx,rfl⟩:=d2.top
   let p2:Ast (wd0 prog w c G hB) sc _:=p1.to k2 tk2
   refine lY (s:={s with heap:=h2,toks:=tk2}) S.rr.ok.kind ((C.keep (k01.trans k2)).cell _ cA hcA) kl.1 (hcel▸hcA) K.mA (by decide) (by decide) ?_
   refine (dV N q3).vs _ p2.at _ true (.int (L:Int)) _ rfl fun v h3 tk3 k3 d3 _=> ?_
   obtain ⟨tL,rfl⟩:=d3.top
   have k3':=(k01.trans k2).trans k3
   obtain ⟨n3,l3⟩:h3.PlainList D items:=PL.at' pl (k3'.at D)
   refine eC (s:={s with heap:=h3,toks:=tk3}) l3 (Int.natCast_nonneg _) (Int.ofNat_lt.mpr hsz) (Int.lt_of_le_of_lt (Int.ofNat_le.mpr (Nat.le_trans (Nat.le_add_right L 1) hL)) (by decide)) ?_
   refine wpAny_execs_cons (wpAny_Return_none ?_)
   have l4:=bY l3 (fun xs=>xs.setIfInBounds (L:Int).toNat (.int x tx))
   refine hQ _ _ _ ((k3'.kd D).trans (KD.atD ⟨n3,l3⟩ (Heap.SameBut.update ..))) ⟨_,l4⟩ ?_
   rw [ft]
   exact .one hsz
end
end Mine
set_option genSizeOf false
set_option genInjectivity false
namespace Mine
noncomputable def i2dLen (a n:Int):Nat:=(Builtin.Int.intBits a+n.toNat - 1) / n.toNat
noncomputable def i2d (a:Int) (n:Nat):List Int:=if a=0 then [] else dig n 12 (i2dLen a n) a
noncomputable def i2dSpec (ds:List D):Option D:=(two? ds).bind fun p=>ii (fun a n=>if decide (0≤a)&&small a&&decide (1≤n)&&decide (n≤4000) then some (.list ((i2d a n.toNat).map .int)) else none) p.1 p.2
theorem dh {a:Int} (h:small a=true):Builtin.Int.intBits a≤4000:=PySem.intBits_le_iff.mpr (by unfold small BIG at h;exact Nat.lt_of_lt_of_le (de h) (Nat.le_refl _))
theorem my {b m:Nat} (hb:b≤4000) (h1:1≤m) (h2:m≤4000):(b+m - 1) / m≤4000∧(b+m - 1) / m * m≤8000∧(1≤b→1≤(b+m - 1) / m):=by
 have e:b+m - 1≤8000:=Nat.le_trans (Nat.sub_le _ _) (Nat.le_trans (Nat.add_le_add hb h2) (by decide))
 refine ⟨Nat.div_le_of_le_mul ?_,Nat.le_trans (Nat.div_mul_le_self _ _) e,fun h=>Nat.div_pos ?_ h1⟩
 ·exact Nat.le_trans (Nat.sub_le_sub_right (Nat.add_le_add_right hb m) 1) (Nat.le_trans (Nat.le_of_eq (Nat.sub_add_comm (n:=4000) (by decide))) (Nat.le_trans (show 3999+m≤3999 * m+m from Nat.add_le_add_right (Nat.mul_le_mul_left 3999 h1) m) (Nat.le_of_eq ((Nat.succ_mul 3999 m).symm.trans (Nat.mul_comm _ _)))))
 ·rw [Nat.add_comm,Nat.add_sub_assoc h];exact Nat.le_add_right _ _
theorem oy {a n:Int} (h0:0≤a) (hs:small a=true) (h1:1≤n) (h2:n≤4000):(((Builtin.Int.intBits a:Nat):Int)+n - 1).fdiv n=(i2dLen a n:Int)∧i2dLen a n≤4000∧i2dLen a n * n.toNat≤8000∧(a≠0→1≤i2dLen a n):=by
 obtain ⟨m,rfl⟩:=Int.eq_ofNat_of_zero_le (Int.le_trans (by decide) h1)
 have h1:1≤m:=Int.ofNat_le.mp h1
 obtain ⟨g1,g2,g3⟩:=my (dh hs) h1 (Int.ofNat_le.mp h2)
 refine ⟨?_,g1,g2,fun h=>g3 ?_⟩
 ·rw [Int.fdiv_eq_ediv_of_nonneg _ (Int.natCast_nonneg _)]
  have:((Builtin.Int.intBits a:Nat):Int)+(m:Int) - 1=((Builtin.Int.intBits a+m - 1:Nat):Int):=(Int.ofNat_sub (Nat.le_trans h1 (Nat.le_add_left _ _))).symm
  rw [this];rfl
 ·have:(a==0)=false:=beq_eq_false_iff_ne.mpr h
  unfold Builtin.Int.intBits
  rw [this]
  exact Nat.le_add_left 1 _
end Mine
set_option genSizeOf false
set_option genInjectivity false
namespace Mine
noncomputable def tb3:List Str:=["a","n","a_digits"]
noncomputable def nm5:List (Str×NameKind):=[("a",.local),("n",.cell),("a_digits",.cell),("inner",.cell),("len",.globalImplicit)]
noncomputable def vI:T:= .bin .Mult (.list (.cons (.cst (.int 0)) .nil)) (.bin .FloorDiv (.bin .Sub (.bin .Add (.meth .bitlen (.var 0) .nil) (.var 1)) (.cst (.int 1))) (.var 1))
noncomputable def aO:T:= .cons (.var 0) (.cons (.cst (.int 0)) (.cons (.blt .len (.cons (.var 2) .nil)) .nil))
noncomputable def defN (d:DefItem):Stmt:= .FunctionDef inS (plainPar d.params) d.body [] none [] d.scope none inS d.pos
noncomputable def outI (c:Cx) (sc:Scope) (body:List Stmt):Bool×List Stmt :=
 let s2:=hs body.tail.tail;let e0:=hs (sbod s2)
 let a:=unS c sc (.asg 2 true vI) body;let t:=unT c sc (.var 0) (skid 0 s2);let g:=unA c sc aO (skid 0 e0);let r:=unS c sc (.retv 2) body.tail.tail.tail
 (a.1&&t.1&&g.1&&r.1,[hs a.2,defN (itemOf (hs body.tail)),.If t.2 [.Expr (callN g.2 (skid 0 e0)) e0.pos] [] s2.pos,hs r.2])
noncomputable def defInB (sc:Scope) (tbl ps:List Str) (nm:List (Str×NameKind)) (d:DefItem):Bool:=d.params.args.map (·.arg)==ps&&d.params.args.all (·.annotation.isNone)&&(docOf d.body).isNone&&d.scope.names==nm&&innB d.scope tbl ps&&tbl.all (fun x=>dbg x&&dcl x)
noncomputable def i2dB (c:Cx) (d:DefItem):Bool:=let q:=itemOf (hs d.body.tail)
 (outI (atT c tb3) d.scope d.body).1&&(inI (atT c tb8) q.scope q.body).1&&d.scope.names==nm5&&defB c tb3 d&&parsOf d.params==(["a","n"]:List Str)&&defInB d.scope tb8 pms nm8 q
noncomputable def i2dU (c:Cx) (d:DefItem):List Stmt×List Stmt:=let q:=itemOf (hs d.body.tail);((outI (atT c tb3) d.scope d.body).2,(inI (atT c tb8) q.scope q.body).2)
theorem yq (L:Nat):cellsFrom (L+1) nm5 []=[(inS,L+3),(adS,L+2),(("n":Str),L+1)]:=rfl
theorem ga (n:Nat):(List.replicate n [D.int 0]).flatten.length=n:=by
 induction n with
 |zero=>rfl
 |succ n ih=>rw [List.replicate_succ,List.flatten_cons,List.length_append,ih,Nat.add_comm];rfl
theorem sw {n:Int}:i2dLen 0 n=0:=by
 unfold i2dLen
 rcases Nat.eq_zero_or_pos n.toNat with h |h
 ·rw [h];rfl
 ·exact Nat.div_eq_of_lt (by rw [show Builtin.Int.intBits 0=0 from rfl,Nat.zero_add];exact Nat.sub_lt h (by decide))
variable [Tabs] [Frk]
theorem zg {G:ag} {F:FEnv} {a n:Int} {σ:MEnv} {b:Bool} (h0:0≤a) (hs:small a=true) (h1:1≤n) (h2:n≤4000) (e0:ev G F σ true (.var 0)=some (.int a)) (e1:ev G F σ true (.var 1)=some (.int n)):ev G F σ b vI=some (.list (List.replicate (i2dLen a n) [D.int 0]).flatten):=by
 obtain ⟨g1,g2,_,_⟩:=oy h0 hs h1 h2
 have hn:n.natAbs<2 ^ 64:=Nat.lt_of_le_of_lt (mm (Int.le_trans (by decide) h1) h2) (by decide)
 have z:(n==0)=false:=beq_eq_false_iff_ne.mpr fun e=>absurd (e▸h1) (by decide)
 refine ai (x:= .list [.int 0]) rfl (ai (ai (ai (x:= .int (Builtin.Int.intBits a)) (ad e0 rfl) e1 rfl) rfl rfl) e1 (y:= .int n) (d:= .int (i2dLen a n)) ?_) ?_
 ·refine gf (c:=(n==0 || !small n)=true) ?_ (congrArg (some ∘ D.int) g1)
  rw [z,bv hn];decide
 ·refine ao (c:=(sizeOk ([D.int 0].length * (i2dLen a n:Int).toNat)&&idxOk (i2dLen a n:Int))=true) ?_ rfl
  have e:[D.int 0].length * (i2dLen a n:Int).toNat=i2dLen a n:=Nat.one_mul _
  rw [e,fT g2,hZ (Nat.le_trans g2 (by decide))];rfl
theorem lH {a b:Array Value} {dl:List Int} (f:Filled a b 0 dl) (hl:dl.length=a.size) (h:Heap) (Ex:Addr→Prop):DenL h Ex (dl.map .int) b.toList:=by
 refine DenL.of_get (by rw [Array.length_toList,f.size,List.length_map,hl]) fun i d hi=> ?_
 rw [List.getElem?_map] at hi
 cases e:dl[i]? with
 |none=>rw [e] at hi;exact ah hi
 |some k =>
  rw [e] at hi
  obtain ⟨t,ht⟩:=f.inn i k e
  rw [Nat.zero_add] at ht
  refine ⟨.int k t,by rw [Array.getElem?_toList];exact ht,?_⟩
  rw [← sm hi]
  exact ⟨t,rfl⟩
section
variable {prog:Program} {w:World} {c:Cx} {G:ag} {hB:Heap} {mg mb:Str→Option Value} {d:DefItem} {name:Str} {a:Addr}
theorem Base.at (B:Base prog w c G hB mg mb) (tb:List Str):Base prog w (atT c tb) G hB mg mb:=⟨B.ns,B.bn,B.blt,B.cst,B.iset,B.idict,B.ndb,B.fn,B.dm,B.dk⟩
theorem DefAt.re {params:Arguments} {body:List Stmt} {sc:Scope} (da:DefAt hB a name params body sc) {b:List Stmt} (h:b=body):DefAt hB a name params b sc:=h▸da
theorem u6 (off:Frk.fs=none) (B:Base prog w c G hB mg mb) (hbm:HasB mg hB) (lim:hB.NoLimit) (hd:i2dB c d=true) (hu1:(i2dU c d).1=d.body) (hu2:(i2dU c d).2=(itemOf (hs d.body.tail)).body) (hp:d.params=plainPar d.params) (da:DefAt hB a name d.params d.body d.scope) (htb:∀ cd P,hB.TableAt cd P #[]→Tabs.tb P)
  (hq:Tabs.q (itemOf (hs d.body.tail)).pos.line (itemOf (hs d.body.tail)).pos.col=name++(".<locals>.":Str)++inS) {F':FEnv} (hF:∀ ds r,F' name ds=some r→i2dSpec ds=some r) {k:Nat} (hk:60≤k):Ctr prog w hB k F' name a:=by
 intro A E s Y ds vs r Q ar kp hX hden hr ret
 have hr:=hF _ _ hr
 revert hden
 refine ae hr fun p hp2 hr=>jX (P:=fun ds=>DenL s.heap Y ds vs→_) hp2 (nu (P:=fun x y=>DenL s.heap Y [x,y] vs→_) hr fun av nv hr hden=>gd hr fun hc hr=> ?_)
 refine aa hc fun hc n2=>aa hc fun hc n1=>aa hc fun a0 as1=> ?_
 have a0:=de a0;have n1:=de n1;have n2:=de n2
 obtain rfl:=sm hr
 refine aa hd fun hd d6=>aa hd fun hd d5=>aa hd fun hd d4=>aa hd fun hd d3=>aa hd fun d1 d2=> ?_
 refine aa d6 fun d6 w6=>aa d6 fun d6 w5=>aa d6 fun d6 w4=>aa d6 fun d6 w3=>aa d6 fun w1 w2=> ?_
 refine aa d1 fun d1 u4=>aa d1 fun d1 u3=>aa d1 fun u1 u2=> ?_
 have hnm:d.scope.names=nm5:=eq_of_beq d3
 have hin:(itemOf (hs d.body.tail)).scope.names=nm8:=eq_of_beq w4
 have B3:(Wd.mk prog w (atT c tb3) G (fun _ _=>none) hB 58).Ok mg mb:=B.at tb3
 have CT:(Wd.mk prog w (atT c tb3) G (fun _ _=>none) hB 58).Ct mg:=ox
 have ok3:=fh (name:=name) d4 hp
 refine cW off (X:=⟨prog,w,atT c tb3,G,fun _ _=>none,hB,58⟩) lim ok3 da (ar.mono (Nat.le_trans (show 59≤60 by decide) hk)) kp hX hden (congrArg List.length (eq_of_beq d5)).symm ret fun p cd T he _ h7 h8 hnew k0 fin=> ?_
 rw [← hu1]
 have hcel:p.env.cells=[(inS,s.heap.objs.size+3),(adS,s.heap.objs.size+2),(("n":Str),s.heap.objs.size+1)]:=by rw [he];show cellsFrom _ d.scope.names []=_;rw [hnm];exact yq _
 have hl:∀ {x k},nm5.lookup x=some k→p.env.scope.names.lookup x=some k:=fun h=>by rw [p.hsc,hnm];exact h
 have lk:∀ {x k},([(inS,s.heap.objs.size+3),(adS,s.heap.objs.size+2),(("n":Str),s.heap.objs.size+1)]:List (Str×Addr)).lookup x=some k→p.env.cells.lookup x=some k:=fun h=>by rw [hcel];exact h
 have fk:∀ {x k},nm8.lookup x=some k→(itemOf (hs d.body.tail)).scope.names.lookup x=some k:=fun h=>by rw [hin];exact h
 obtain ⟨l1,l2,l3,l4⟩:=oy a0 as1 n1 n2
 refine wpAny_execs_cons ((fC B3 CT ok3.names (.asg 2 true vI)).s rfl u1 _ p _ _ _ _ (lV (zg a0 as1 n1 n2 rfl rfl) rfl) fun h1 tk1 Mu1 Ex1 ow1 S1 g1=> ?_)
 let p1:Ast _ d.scope _:=p.on S1 g1 tk1
 refine wpAny_execs_cons (qk p1 B3 hbm (he▸rfl) h7 h8 (htb _ _ h8) w2 (Option.isNone_iff_eq_none.mp w3) ?_ hq (by rw [hnm];rfl) (mP rfl) (lk rfl) (q:=(("n":Str),s.heap.objs.size+1)) (r:=[(inS,s.heap.objs.size+3),(adS,s.heap.objs.size+2)]) ?_ ?_ (by rw [hin];rfl) fun h2 tk2 m cm f S2 g2 F2 V2 hf C=> ?_)
 ·unfold qualnameIn
  rw [show p1.env.kindOf inS=some .cell from hl rfl,if_neg (by decide)]
  show p.env.qual++_=_
  rw [he];rfl
 ·unfold closureFor cellOf
  show _=_
  rw [hin,show p1.env.cells=_ from hcel];rfl
 ·refine List.forall_mem_cons.mpr ⟨⟨lk rfl,fk rfl⟩,List.forall_mem_cons.mpr ⟨⟨lk rfl,fk rfl⟩,List.forall_mem_cons.mpr ⟨⟨lk rfl,fk rfl⟩,fun _ h=>nomatch h⟩⟩⟩
 let p2:Ast _ d.scope _:=p1.on S2 g2 tk2
 refine wpAny_execs_cons (wpAny_If (((b8 B3 CT (.var 0)).e u2).is _ p2.at _ (.int av) _ _ rfl rfl fun h3 tk3 k3=> ?_))
 let p3:Ast _ d.scope _:=p2.to k3 tk3
 have G3:=(g1.trans p.lt p.S.mu g2).trans p.lt p.S.mu (Gr.of_kp k3 _ _)
 have ret:=fC (sc:=d.scope) B3 CT ok3.names (.retv 2)
 cases hz:(av==0) with
 |true =>
  rw [if_neg (show ¬ ((!(true))=true) by decide)]
  refine wpAny_execs_nil (wpAny_execs_cons (ret.s rfl u4 _ p3 _ _ _ _ rfl fun h6 tk6 v Mu6 Ex6 g6 dv=>fin h6 tk6 v _ _ (G3.trans p.lt p.S.mu g6) ?_))
  obtain rfl:=eq_of_beq hz
  rw [sw] at dv
  exact dv
 |false =>
  rw [if_pos (show (!(false))=true by decide)]
  have zn:av≠0:=beq_eq_false_iff_ne.mp hz
  have C3:=C.keep k3
  obtain ⟨o,doc,pm,cd',ct,oc,vc,t,e1,e2,_⟩:=C3.fo
  refine wpAny_execs_cons (eQ p.S.rr.ok.kind (cG ((b8 B3 CT aO).l u3).as p3.at (C3.cell inS _ rfl) (by rw [hl (x:=inS) rfl];rfl) (lk rfl) hf e1 e2 (ds:=[.int av,.int ((0:Nat):Int),.int ((0+i2dLen av nv:Nat):Int)]) (ay rfl (ay rfl (ay (ad (ay rfl rfl) (ao (by rw [ga];exact fT l2) (by rw [ga,Nat.zero_add]))) rfl))) rfl fun h4 us tk4 k4 dl4=> ?_))
  have seenA:seen p.env.scope adS=true:=by unfold seen;rw [hl (x:=adS) rfl];rfl
  have S4:=p3.S.keep k4
  obtain ⟨items,ds0,e0,pl4,dl0⟩:=S4.rr.own_al (i:=2) (x:=adS) rfl seenA rfl
  have hz2:items.size=i2dLen av nv:=by
   have:=dl0.length
   rw [← uE e0,ga,Array.length_toList] at this
   exact this
  obtain ⟨vA,mA,_,hA⟩:=V2.cell (i:=2) (x:=adS) rfl rfl (hl rfl)
  obtain ⟨vN,mN,⟨tN,hN⟩,_⟩:=V2.cell (i:=1) (x:=("n":Str)) (b:=false) rfl rfl (hl rfl)
  have hnv:nv=(nv.toNat:Int):=(Int.toNat_of_nonneg (Int.le_trans (by decide) n1)).symm
  have mu2:=S4.own 2 adS _ rfl seenA rfl
  refine yf (prog:=prog) (w:=w) (c:=atT c tb8) (G:=G) (mg:=mg) (mb:=mb) (sc:=(itemOf (hs d.body.tail)).scope) (as:=(itemOf (hs d.body.tail)).params.args) (nn:=nv.toNat) off ⟨B.at tb8,lim,w6,w5,eq_of_beq w1⟩ rfl hin d2 hu2 (Int.toNat_le.mpr n2) ⟨⟨_,rfl⟩,⟨_,rfl⟩,by rw [mA,hA rfl],hf,tN,by rw [mN,hN,← hnv]⟩ (p2.hm _ mu2) 12 (i2dLen av nv) av 0 (l4 zn) (Nat.le_trans l2 (by decide)) a0 as1 (by rw [Nat.zero_add];exact Nat.le_trans l2 (by decide)) (Nat.le_trans l3 (by decide)) p.A _ {p.s with heap:=h4,toks:=tk4} items us _ _ (p.ar.mono (show 13≤58 by decide)) ((p3.k).trans k4) (C3.keep k4) pl4 (by rw [Nat.zero_add,hz2];exact Nat.le_refl _) dl4 fun h5 tk5 items' kd5 pl5 fl=>⟨rfl,?_⟩
  obtain ⟨S5,g5⟩:=S4.mutOwn (c:=atT c tb3) (i:=2) (x:=adS) rfl seenA rfl kd5.kp kd5.cd pl5 (lH fl (by rw [b9 _ _ _ _ (l4 zn) (Nat.le_trans l2 (by decide)),hz2]) _ _)
  have G5:=(G3.trans p.lt p.S.mu (Gr.of_kp k4 _ _)).trans p.lt p.S.mu g5
  let p5:Ast _ d.scope _:=p.on S5 G5 tk5
  refine wpAny_execs_nil (wpAny_execs_cons (ret.s rfl u4 _ p5 _ _ _ _ rfl fun h6 tk6 v Mu6 Ex6 g6 dv=>fin h6 tk6 v _ _ (G5.trans p.lt p.S.mu g6) ?_))
  unfold i2d
  rw [if_neg zn]
  exact dv
end
end Mine
set_option genSizeOf false
set_option genInjectivity false
namespace Mine
noncomputable def und (n:Nat):List Int→Int
 | []=>0
 |x :: r=>x+2 ^ n * und n r
theorem cF (n:Nat):∀ (a b:List Int),und n (a++b)=und n a+2 ^ (n * a.length) * und n b
 | [],b=>by rw [List.nil_append,List.length_nil,Nat.mul_zero,Int.pow_zero,Int.one_mul];exact (Int.zero_add _).symm
 |x :: a,b=>by
  rw [List.cons_append,und,und,cF n a b,List.length_cons,Nat.mul_add,Nat.mul_one,Int.pow_add,Int.mul_add,Int.add_assoc,Int.mul_comm (2 ^ (n * a.length)) (2 ^ n),Int.mul_assoc]
theorem bI (n:Nat):∀ (a:List Int),(∀ x∈a,0≤x)→0≤und n a
 | [],_=>Int.le_refl _
 |x :: a,h=>Int.add_nonneg (h x List.mem_cons_self) (Int.mul_nonneg (Int.le_of_lt (Int.pow_pos (by decide))) (bI n a fun y hy=>h y (List.mem_cons_of_mem _ hy)))
theorem yY (k:Nat) {x:Int} (h:0≤x):x≤2 ^ k * x:=by
 have h1:(1:Int)≤2 ^ k:=Int.pow_pos (by decide)
 have:=Int.mul_le_mul_of_nonneg_right h1 h
 rwa [Int.one_mul] at this
theorem ry (n:Nat) {a b:List Int} (h:∀ x∈a++b,0≤x):und n b≤und n (a++b):=by
 rw [cF]
 have h1:=bI n a fun x hx=>h x (List.mem_append_left _ hx)
 have h2:=bI n b fun x hx=>h x (List.mem_append_right _ hx)
 exact Int.le_trans (yY (n * a.length) h2) (Int.le_add_of_nonneg_left h1)
theorem tO (n:Nat) {a b:List Int} (h:∀ x∈a++b,0≤x):und n a≤und n (a++b):=by
 rw [cF]
 have h2:=bI n b fun x hx=>h x (List.mem_append_right _ hx)
 exact Int.le_add_of_nonneg_right (Int.mul_nonneg (Int.le_of_lt (Int.pow_pos (by decide))) h2)
noncomputable def part (n:Nat) (is:List Int) (L len:Nat):Int:=und n ((is.drop L).take len)
theorem wy (n:Nat) {is:List Int} (h:∀ x∈is,0≤x) (L len:Nat):0≤part n is L len∧part n is L len≤und n is:=by
 have e1:is.take L++is.drop L=is:=List.take_append_drop L is
 have e2:(is.drop L).take len++(is.drop L).drop len=is.drop L:=List.take_append_drop len _
 have h2:∀ x∈is.drop L,0≤x:=fun x hx=>h x (List.mem_of_mem_drop hx)
 have a1:=tO n (a:=(is.drop L).take len) (b:=(is.drop L).drop len) (e2.symm▸h2)
 have a2:=ry n (a:=is.take L) (b:=is.drop L) (e1.symm▸h)
 rw [e2] at a1
 rw [e1] at a2
 exact ⟨bI n _ fun x hx=>h2 x (List.mem_of_mem_take hx),Int.le_trans a1 a2⟩
theorem tQ (n:Nat) {is:List Int} {L:Nat} (h:L<is.length):part n is L 1=is[L]:=by
 unfold part
 rw [List.drop_eq_getElem_cons h,List.take_succ_cons,List.take_zero,und,und,Int.mul_zero,Int.add_zero]
theorem sL (n:Nat) {is:List Int} {L len a:Nat} (h:a≤len) (hL:L+len≤is.length):part n is (L+a) (len - a) * 2 ^ (a * n)+part n is L a=part n is L len:=by
 unfold part
 conv=>rhs;rw [← Nat.add_sub_cancel' h,List.take_add,List.drop_drop,cF]
 have:((is.drop L).take a).length=a:=by
  rw [List.length_take,List.length_drop]
  exact Nat.min_eq_left (Nat.le_sub_of_add_le (Nat.le_trans (Nat.le_of_eq (Nat.add_comm _ _)) (Nat.le_trans (Nat.add_le_add_left h _) hL)))
 rw [this,Nat.mul_comm n a,Int.mul_comm (2 ^ (a * n)),Int.add_comm]
noncomputable def tbJ:List Str:=["L","R","mid","shift","digits","n"]
noncomputable def nmJ:List (Str×NameKind):=[("L",.local),("R",.local),("mid",.local),("shift",.local),("digits",.free),("inner",.free),("n",.free)]
noncomputable def pmJ:List Str:=["L","R"]
noncomputable def dgS:Str:="digits"
noncomputable def tJ1:T:= .cmp .Eq (.bin .Add (.var 0) (.cst (.int 1))) (.var 1)
noncomputable def blkJ:S:= .seq (.asg 2 false (.bin .RShift (.bin .Add (.var 0) (.var 1)) (.cst (.int 1)))) (.seq (.asg 3 false (.bin .Mult (.bin .Sub (.var 2) (.var 0)) (.var 5))) .skip)
noncomputable def aJ1:T:= .cons (.var 2) (.cons (.var 1) .nil)
noncomputable def aJ2:T:= .cons (.var 0) (.cons (.var 2) .nil)
noncomputable def inJ (c:Cx) (sc:Scope) (ib:List Stmt):Bool×List Stmt :=
 let s0:=hs ib;let b0:=hs (sbod s0);let s3:=hs ib.tail.tail.tail;let e:=skid 0 s3;let l:=kid 0 e
 let t:=unT c sc tJ1 (skid 0 s0);let d:=unT c sc (.idx (.var 4) (.var 0)) (skid 0 b0);let m:=unS c sc blkJ ib.tail
 let a1:=unA c sc aJ1 (kid 0 l);let h:=unT c sc (.var 3) (kid 1 l);let a2:=unA c sc aJ2 (kid 1 e)
 (t.1&&d.1&&m.1&&a1.1&&h.1&&a2.1,.If t.2 [.Return (some d.2) b0.pos] [] s0.pos :: (m.2++[.Return (some (.BinOp (.BinOp (callN a1.2 (kid 0 l)) .LShift h.2 l.pos) .Add (callN a2.2 (kid 1 e)) e.pos)) s3.pos]))
noncomputable def sJ (L R:Int) (m sh:Option (D×Bool)) (ds:List D) (nn:Nat):MEnv:=[some (.int L,false),some (.int R,false),m,sh,some (.list ds,false),some (.int nn,false)]
theorem wp {G:ag} {F:FEnv} {ds:List D} {L len nn:Nat} (ha:len / 2≤1000000) (hn:nn≤1000000) :
  ex G F (sJ L ((L+len:Nat):Int) none none ds nn) blkJ=some (sJ L ((L+len:Nat):Int) (oi ((L+len / 2:Nat):Int)) (oi ((len / 2 * nn:Nat):Int)) ds nn,.next) :=
 aq (cL (qA rfl rfl)) (aq (cL (j9 rfl rfl rfl ha hn)) rfl)
theorem zq {G:ag} {F:FEnv} {σ:MEnv} {is:List Int} {L:Nat} {i j:Nat} (h1:ev G F σ true (.var i)=some (.list (is.map .int))) (h2:ev G F σ true (.var j)=some (.int (L:Int))) (h:L<is.length) (hL:L≤1000000):ev G F σ true (.idx (.var i) (.var j))=some (.int is[L]):=by
 refine ad h1 (ad h2 ?_)
 refine ao (c:=idxOk (L:Int)=true) (hZ hL) ?_
 rw [if_pos (Int.natCast_nonneg _),Int.toNat_natCast,List.getElem?_map,List.getElem?_eq_getElem h];rfl
variable [Tabs] [Frk]
theorem en {h h':Heap} {X X':Addr→Prop} {is:List Int} {vs:List Value} (d:DenL h X (is.map .int) vs):DenL h' X' (is.map .int) vs:=by
 induction is generalizing vs with
 |nil=>exact d
 |cons i r ih =>
  obtain ⟨v,q,e,a,b⟩:=d
  exact ⟨v,q,e,a,ih b⟩
theorem Az {sc:Scope} (hnm:sc.names=nmJ) {L R:Int} {nn:Nat} {vs:List Value} {cm:Str→Option Value} {is:List Int} {D:Addr} {items:Array Value} (mD:cm dgS=some (.ref D)) (mN:∃ t,cm ("n":Str)=some (.int nn t)) {h h':Heap} {Y Ex:Addr→Prop} (dl:DenL h Y [.int L,.int R] vs) (hx:¬ Ex D) (pl:h'.PlainList D items) (di:DenL h (fun _=>False) (is.map .int) items.toList) :
  FV (valS sc (parM pmJ vs) cm) h' Ex tbJ (sJ L R none none (is.map .int) nn):=by
 obtain ⟨v1,r1,rfl,⟨t1,rfl⟩,v2,r2,rfl,⟨t2,rfl⟩,e⟩:=dl
 obtain rfl:r2=[]:=e
 obtain ⟨tn,hn⟩:=mN
 have e:∀ y,valS sc (parM pmJ [.int L t1,.int R t2]) cm y=valK (parM pmJ [.int L t1,.int R t2] y) (cm y) (nmJ.lookup y):=fun y=>by unfold valS;rw [hnm]
 exact .has ((e _).trans rfl) ⟨t1,rfl⟩ (.has ((e _).trans rfl) ⟨t2,rfl⟩ (.no (.no (.has ((e _).trans mD) ⟨D,items,rfl,hx,pl,en di⟩ (.has ((e _).trans hn) ⟨tn,rfl⟩ .nil)))))
section
variable {prog:Program} {w:World} {c:Cx} {G:ag} {hB:Heap} {mg mb:Str→Option Value} {sc:Scope} {ib:List Stmt} {as:List Arg} {qual:Str} {cl:List (Str×Addr)} {cm:Str→Option Value} {f D:Addr} {nn:Nat} {is:List Int} {items:Array Value}
theorem xZ (off:Frk.fs=none) (N:eE prog w c G hB mg mb sc pmJ as) (htb:c.tbl=tbJ) (hnm:sc.names=nmJ) (hi:(inJ c sc ib).1=true) (hr:(inJ c sc ib).2=ib) (hn1:nn≤4000) (K:z5 cl cm dgS D f nn) (hpos:∀ x∈is,0≤x) (hsm:small (und nn is)=true) (hsz:is.length≤100000) (hnb:is.length * nn≤1000000) :
  ∀ (fu len:Nat) (L:Nat),1≤len→len≤2 ^ fu→L+len≤is.length→∀ (A:Around) (E:Value→Shared→Prop) (s:Shared) (vs:List Value) (Y:Addr→Prop) (Q:Value→Shared→Prop),Ar (fu+1) A→KB hB s.heap→Clo s.heap f qual ⟨[],as,none,[],[],none,[]⟩ ib sc cl cm→s.heap.PlainList D items→DenL s.heap (fun _=>False) (is.map .int) items.toList→DenL s.heap Y [.int (L:Int),.int ((L+len:Nat):Int)] vs →
   (∀ h' tk t,Kp s.heap h'→Q (.int (part nn is L len) t) {s with heap:=h',toks:=tk}) →
   wpAny (model prog w) A (call (.ref f) vs) Q E s:=by
 intro fu
 induction fu using Nat.strongRecOn with
 |_ fu ih =>
  intro len L hl1 hl2 hL A E s vs Y Q ar kp C pl di dl hQ
  refine C.call off N.lim N.I N.has kp ar dl.length (σ:=sJ L ((L+len:Nat):Int) none none (is.map .int) nn) (fun h Ex k hx=>htb▸Az hnm K.mA K.mN dl (fun e=> ?_) (PL.at' pl (k.at D)) di) fun env h₀ tk E' hcel hsc S k0 hn ar1=> ?_
  ·rcases hx D e with q |⟨x,q⟩
   ·obtain ⟨o,e⟩:=PL.al pl;exact ah (q.symm.trans e)
   ·exact C.nseq q pl rfl
  refine aa hi fun hi q6=>aa hi fun hi q5=>aa hi fun hi q4=>aa hi fun hi q3=>aa hi fun q1 q2=> ?_
  have hnB:hB.get? env.locals=none:=kp.none hn
  let p:Ast (wd0 prog w c G hB) sc _:= .inn (s:=s) tk hsc S (kp.trans k0) hnB ar1
  have kl:celK (env.scope.names.lookup inS)=true:=by rw [hsc,hnm];rfl
  obtain ⟨cI,hcI⟩:=K.i
  rw [← hr]
  refine wpAny_execs_cons (wpAny_If ((dV N q1).is _ p.at _ _ _ _ (oh rfl rfl) rfl fun h1 tk1 k1=> ?_))
  have S1:=S.keep k1
  have k01:=k0.trans k1
  let p1:Ast (wd0 prog w c G hB) sc _:= .inn (s:=s) tk1 hsc S1 (kp.trans k01) hnB ar1
  rcases Nat.lt_or_ge 1 len with hlen |hlen
  ·obtain ⟨fu',rfl⟩:∃ fu',fu=fu'+1:=by
    cases fu with
    |zero=>exact absurd (Nat.lt_of_lt_of_le hlen hl2) (by decide)
    |succ k=>exact ⟨k,rfl⟩
   rw [mz hlen,if_neg (by decide)]
   refine wpAny_execs_nil (pG ?_)
   obtain ⟨f1,f2⟩:=cf hlen
   obtain ⟨g1,g2⟩:=ce hl2
   have hle:len≤is.length:=Nat.le_trans (Nat.le_add_left _ _) hL
   have ha:len / 2 * nn≤1000000:=Nat.le_trans (Nat.mul_le_mul_right nn (Nat.le_trans (Nat.div_le_self _ _) hle)) hnb
   refine uv N rfl q3 _ p1 _ _ _ _ (wp (Nat.le_trans (Nat.le_trans (Nat.div_le_self _ _) hle) (Nat.le_trans hsz (by decide))) (Nat.le_trans hn1 (by decide))) fun h2 tk2 Mu2 Ex2 ow2 S2 g=> ?_
   have kp2:Kp s.heap h2:=g.kp0 k01 fun b e=>e▸hn
   have C2:=C.keep kp2
   let p2:Ast (wd0 prog w c G hB) sc _:=p1.on S2 g tk2
   obtain ⟨oF,doc,pm,cd,ct,oc,vc,t,e1,e2,_⟩:=C2.fo
   refine wpAny_execs_cons (wpAny_Return_some (wpAny_BinOp (wpAny_BinOp (cG (jh N q4) p2.at (C2.cell _ cI hcI) kl (hcel▸hcI) K.mI e1 e2 (ds:=[.int ((L+len / 2:Nat):Int),.int ((L+len:Nat):Int)]) rfl rfl fun h3 us tk3 k3 dl3=> ?_))))
   have kp3:=kp2.trans k3
   have hLL:=fS L len
   refine ih fu' (Nat.lt_succ_self _) (len - len / 2) (L+len / 2) f2 g2 (Nat.le_trans (Nat.le_of_eq hLL) hL) (A.deeper env) E' {s with heap:=h3,toks:=tk3} us _ _ ar1 (kp.trans kp3) (C.keep kp3) (PL.at' pl (kp3.at D)) (en di) (hLL.symm▸dl3) fun h4 tk4 t4 k4=> ?_
   have kp4:=kp3.trans k4
   have S4:=(S2.keep k3).keep k4
   let p4:Ast (wd0 prog w c G hB) sc _:={p2 with s:={s with heap:=h4,toks:=tk4},S:=S4,k:=kp.trans kp4}
   obtain ⟨b0,b1⟩:=wy nn hpos (L+len / 2) (len - len / 2)
   refine (dV N q5).vs _ p4.at _ true (.int ((len / 2 * nn:Nat):Int)) _ rfl fun v h5 tk5 k5 d5 _=> ?_
   refine ez (s:={s with heap:=h5,toks:=tk5}) (Ex:=p4.Ex) (op:= .LShift) (a:= .int (part nn is (L+len / 2) (len - len / 2))) (d:= .int (part nn is (L+len / 2) (len - len / 2) * 2 ^ (len / 2 * nn))) (S4.keep k5).rr.lt ⟨_,rfl⟩ d5.top (ao (c:=(decide ((0:Int)≤((len / 2 * nn:Nat):Int))&&decide (((len / 2 * nn:Nat):Int).toNat≤1000000)&&small (part nn is (L+len / 2) (len - len / 2)))=true) ?_ rfl) fun v6 h6 tk6 k6 d6 _=> ?_
   ·rw [Int.toNat_natCast,decide_eq_true (Int.natCast_nonneg _),decide_eq_true ha,ca hsm b0 b1];rfl
   have kp6:=(kp4.trans k5).trans k6
   have C6:=C.keep kp6
   let p6:Ast (wd0 prog w c G hB) sc _:={p2 with s:={s with heap:=h6,toks:=tk6},S:=(S4.keep k5).keep k6,k:=kp.trans kp6}
   obtain ⟨oF,doc,pm,cd,ct,oc,vc,t,e1,e2,_⟩:=C6.fo
   refine cG (jh N q6) p6.at (C6.cell _ cI hcI) kl (hcel▸hcI) K.mI e1 e2 (ds:=[.int (L:Int),.int ((L+len / 2:Nat):Int)]) rfl rfl fun h7 us tk7 k7 dl7=> ?_
   have kp7:=kp6.trans k7
   refine ih fu' (Nat.lt_succ_self _) (len / 2) L f1 g1 (Nat.le_trans (Nat.add_le_add_left (Nat.div_le_self _ _) _) hL) (A.deeper env) E' {s with heap:=h7,toks:=tk7} us _ _ ar1 (kp.trans kp7) (C.keep kp7) (PL.at' pl (kp7.at D)) (en di) dl7 fun h8 tk8 t8 k8=> ?_
   refine ez (s:={s with heap:=h8,toks:=tk8}) (Ex:=p6.Ex) (op:= .Add) (b:= .int (part nn is L (len / 2))) (d:= .int (part nn is L len)) ((p6.S.keep k7).keep k8).rr.lt (d6.keep (k7.trans k8)).top ⟨_,rfl⟩ (congrArg (some ∘ Mine.D.int) (sL nn (Nat.div_le_self _ _) hL)) fun v9 h9 tk9 k9 d9 _=> ?_
   obtain ⟨t9,rfl⟩:=d9
   exact hQ h9 tk9 t9 ((kp7.trans k8).trans k9)
  ·obtain rfl:=Nat.le_antisymm hlen hl1
   rw [pp,if_pos rfl]
   refine wpAny_execs_cons (wpAny_Return_some ((dV N q2).vs _ p1.at _ true (.int is[L]) _ (zq rfl rfl hL (Nat.le_trans (Nat.le_trans (Nat.le_add_right _ _) hL) (Nat.le_trans hsz (by decide)))) fun v h2 tk2 k2 d2 _=> ?_))
   obtain ⟨t,rfl⟩:=d2.top
   rw [← tQ nn hL]
   exact hQ h2 tk2 t (k01.trans k2)
end
end Mine
set_option genSizeOf false
set_option genInjectivity false
namespace Mine
noncomputable def s_pretty_flags:S :=
 (.seq (.asg 1 true (.list .nil)) <|
 (.seq (.fors [2] true .range1 (.cst (.int 32)) .nil (.seq (.asg 3 false (.bin .LShift (.cst (.int 1)) (.var 2))) <|
  (.seq (.ifs (.bin .BitAnd (.var 0) (.var 3)) (.seq (.app 1 (.dget "COMPILER_FLAG_NAMES" (.var 3) (.blt .hex (.cons (.var 3) .nil)))) <|
   (.seq (.aug 0 .BitXor (.var 3)) <|
   (.seq (.ifs (.un .Not (.var 0)) (.seq .brk <|
    .skip) .skip) <|
   .skip))) .skip) <|
  .skip)) (.seq (.app 1 (.blt .hex (.cons (.var 0) .nil))) <|
  .skip)) <|
 (.seq (.ret (.meth .join (.cst (.str ", ")) (.cons (.var 1) .nil))) <|
 .skip)))
noncomputable def s_div2n1n:S :=
 (.seq (.ifs (.cmp .LtE (.bin .Sub (.meth .bitlen (.var 0) .nil) (.var 2)) (.glob "_DIV_LIMIT")) (.seq (.ret (.blt .divmod (.cons (.var 0) (.cons (.var 1) .nil)))) <|
  .skip) .skip) <|
 (.seq (.asg 3 false (.bin .BitAnd (.var 2) (.cst (.int 1)))) <|
 (.seq (.ifs (.var 3) (.seq (.aug 0 .LShift (.cst (.int 1))) <|
  (.seq (.aug 1 .LShift (.cst (.int 1))) <|
  (.seq (.aug 2 .Add (.cst (.int 1))) <|
  .skip))) .skip) <|
 (.seq (.asg 4 false (.bin .RShift (.var 2) (.cst (.int 1)))) <|
 (.seq (.asg 5 false (.bin .Sub (.bin .LShift (.cst (.int 1)) (.var 4)) (.cst (.int 1)))) <|
 (.seq (.multi [(6,false),(7,false)] (.cons (.bin .RShift (.var 1) (.var 4)) (.cons (.bin .BitAnd (.var 1) (.var 5)) .nil))) <|
 (.seq (.unp [8,9] (.call "_div3n2n" (.cons (.bin .RShift (.var 0) (.var 2)) (.cons (.bin .BitAnd (.bin .RShift (.var 0) (.var 4)) (.var 5)) (.cons (.var 1) (.cons (.var 6) (.cons (.var 7) (.cons (.var 4) .nil)))))))) <|
 (.seq (.unp [10,9] (.call "_div3n2n" (.cons (.var 9) (.cons (.bin .BitAnd (.var 0) (.var 5)) (.cons (.var 1) (.cons (.var 6) (.cons (.var 7) (.cons (.var 4) .nil)))))))) <|
 (.seq (.ifs (.var 3) (.seq (.aug 9 .RShift (.cst (.int 1))) <|
  .skip) .skip) <|
 (.seq (.ret (.tup (.cons (.bin .BitOr (.bin .LShift (.var 8) (.var 4)) (.var 10)) (.cons (.var 9) .nil)))) <|
 .skip))))))))))
noncomputable def s_divmod_pos:S :=
 (.seq (.asg 2 false (.meth .bitlen (.var 1) .nil)) <|
 (.seq (.asg 3 false (.call "_int2digits" (.cons (.var 0) (.cons (.var 2) .nil)))) <|
 (.seq (.asg 4 false (.cst (.int 0))) <|
 (.seq (.asg 5 true (.list .nil)) <|
 (.seq (.fors [6] true .rev (.var 3) .nil (.seq (.unp [7,4] (.call "_div2n1n" (.cons (.bin .Add (.bin .LShift (.var 4) (.var 2)) (.var 6)) (.cons (.var 1) (.cons (.var 2) .nil))))) <|
  (.seq (.app 5 (.var 7)) <|
  .skip)) .skip) <|
 (.seq (.revm 5) <|
 (.seq (.asg 8 false (.callb "_digits2int" (.cons (.var 5) (.cons (.var 2) .nil)))) <|
 (.seq (.ret (.tup (.cons (.var 8) (.cons (.var 4) .nil)))) <|
 .skip))))))))
noncomputable def s_int_divmod:S :=
 (.seq (.ifs (.cmp .Eq (.var 1) (.cst (.int 0))) (.seq .bad <|
  .skip) (.seq (.ifs (.cmp .Lt (.var 1) (.cst (.int 0))) (.seq (.unp [2,3] (.call "int_divmod" (.cons (.un .USub (.var 0)) (.cons (.un .USub (.var 1)) .nil)))) <|
   (.seq (.ret (.tup (.cons (.var 2) (.cons (.un .USub (.var 3)) .nil)))) <|
   .skip)) (.seq (.ifs (.cmp .Lt (.var 0) (.cst (.int 0))) (.seq (.unp [2,3] (.call "int_divmod" (.cons (.un .Invert (.var 0)) (.cons (.var 1) .nil)))) <|
    (.seq (.ret (.tup (.cons (.un .Invert (.var 2)) (.cons (.bin .Add (.var 1) (.un .Invert (.var 3))) .nil)))) <|
    .skip)) (.seq (.ret (.call "_divmod_pos" (.cons (.var 0) (.cons (.var 1) .nil)))) <|
    .skip)) <|
   .skip)) <|
  .skip)) <|
 .skip)
noncomputable def s_ellipsis_match:S :=
 (.seq (.ifs (.cmp .NotIn (.glob "ELLIPSIS_MARKER") (.var 0)) (.seq (.ret (.cmp .Eq (.var 0) (.var 1))) <|
  .skip) .skip) <|
 (.seq (.asg 2 true (.meth .split (.var 0) (.cons (.glob "ELLIPSIS_MARKER") .nil))) <|
 (.seq (.asrt (.cmp .GtE (.blt .len (.cons (.var 2) .nil)) (.cst (.int 2)))) <|
 (.seq (.multi [(3,false),(4,false)] (.cons (.cst (.int 0)) (.cons (.blt .len (.cons (.var 1) .nil)) .nil))) <|
 (.seq (.asg 5 false (.idx (.var 2) (.cst (.int 0)))) <|
 (.seq (.ifs (.var 5) (.seq (.ifs (.meth .startswith (.var 1) (.cons (.var 5) .nil)) (.seq (.asg 3 false (.blt .len (.cons (.var 5) .nil))) <|
   (.seq (.del 2 (.cst (.int 0))) <|
   .skip)) (.seq (.ret (.cst (.bool false))) <|
   .skip)) <|
  .skip) .skip) <|
 (.seq (.asg 5 false (.idx (.var 2) (.un .USub (.cst (.int 1))))) <|
 (.seq (.ifs (.var 5) (.seq (.ifs (.meth .endswith (.var 1) (.cons (.var 5) .nil)) (.seq (.aug 4 .Sub (.blt .len (.cons (.var 5) .nil))) <|
   (.seq (.del 2 (.un .USub (.cst (.int 1)))) <|
   .skip)) (.seq (.ret (.cst (.bool false))) <|
   .skip)) <|
  .skip) .skip) <|
 (.seq (.ifs (.cmp .Gt (.var 3) (.var 4)) (.seq (.ret (.cst (.bool false))) <|
  .skip) .skip) <|
 (.seq (.fors [5] true .plain (.var 2) .nil (.seq (.asg 3 false (.meth .find3 (.var 1) (.cons (.var 5) (.cons (.var 3) (.cons (.var 4) .nil))))) <|
  (.seq (.ifs (.cmp .Lt (.var 3) (.cst (.int 0))) (.seq (.ret (.cst (.bool false))) <|
   .skip) .skip) <|
  (.seq (.aug 3 .Add (.blt .len (.cons (.var 5) .nil))) <|
  .skip))) .skip) <|
 (.seq (.ret (.cst (.bool true))) <|
 .skip)))))))))))
noncomputable def s_in_table_b1:S :=
 (.seq (.ret (.inset "b1_set" (.blt .ord (.cons (.var 0) .nil)))) <|
 .skip)
noncomputable def s_map_table_b3:S :=
 (.seq (.asg 1 false (.dget "b3_exceptions" (.blt .ord (.cons (.var 0) .nil)) (.cst .none))) <|
 (.seq (.ifs (.cmp .IsNot (.var 1) (.cst .none)) (.seq (.retv 1) <|
  .skip) .skip) <|
 (.seq (.ret (.meth .lower (.var 0) .nil)) <|
 .skip)))
noncomputable def s_law_unseen:S :=
 (.seq (.ret (.bin .Add (.list (.cons (.cst (.int 173)) (.cons (.cst (.int 847)) (.cons (.cst (.int 6150)) (.cons (.cst (.int 6155)) (.cons (.cst (.int 6156)) (.cons (.cst (.int 6157)) (.cons (.cst (.int 8203)) (.cons (.cst (.int 8204)) (.cons (.cst (.int 8205)) (.cons (.cst (.int 8288)) (.cons (.cst (.int 65279)) .nil)))))))))))) (.lrange (.cst (.int 65024)) (.cst (.int 65040))))) <|
 .skip)
theorem pP (n a b:Nat):(2:Int) ^ (n * (a+b))=2 ^ (n * a) * 2 ^ (n * b):=by rw [Nat.mul_add,Int.pow_add]
theorem ba (k:Nat):(0:Int)<2 ^ k:=Int.pow_pos (by decide)
theorem dz {b:Int} (hb:0<b) (a:Int):0≤a.fmod b∧a.fmod b<b:=by
 rw [Int.fmod_eq_emod_of_nonneg _ (Int.le_of_lt hb)]
 exact ⟨Int.emod_nonneg _ (Int.ne_of_gt hb),Int.emod_lt_of_pos _ hb⟩
theorem l8 {a b c:Int} (hb:0<b) (h0:0≤a) (h:a<c * b):0≤a.fdiv b∧a.fdiv b<c:=by
 rw [Int.fdiv_eq_ediv_of_nonneg _ (Int.le_of_lt hb)]
 exact ⟨Int.ediv_nonneg h0 (Int.le_of_lt hb),Int.ediv_lt_of_lt_mul hb h⟩
theorem mx {len:Nat} (h1:1≤len) (h2:¬ 2≤len):len=1:=Nat.le_antisymm (Nat.le_of_lt_succ (Nat.lt_of_not_le h2)) h1
theorem iq (n:Nat) (x:Int):und n [x]=x:=by rw [und,und,Int.mul_zero,Int.add_zero]
theorem ik (n:Nat):∀ (f len:Nat) (x:Int),1≤len→len≤2 ^ f→0≤x→und n (dig n f len x)=x
 |0,len,x,h1,h2,h3=>iq n x
 |f+1,len,x,h1,h2,h3=>by
  by_cases h:2≤len
  ·obtain ⟨p1,p2⟩:=cf h
   obtain ⟨q1,q2⟩:=ce h2
   rw [fq _ _ _ _ h,cF,b9 _ _ _ _ p1 q1,ik n f _ _ p1 q1 (hJ h3).1,ik n f _ _ p2 q2 (dN h3).1,Nat.mul_comm n]
   exact Int.fmod_add_mul_fdiv x _
  ·obtain rfl:=mx h1 h
   rw [ft];exact iq n x
theorem km (n:Nat):∀ (f len:Nat) (x:Int),1≤len→len≤2 ^ f→0≤x→x<2 ^ (n * len)→∀ d∈dig n f len x,0≤d∧d<2 ^ n
 |0,len,x,h1,h2,h3,h4,d,hd=>by
  obtain rfl:len=1:=Nat.le_antisymm h2 h1
  rw [List.mem_singleton.mp hd]
  rw [Nat.mul_one] at h4;exact ⟨h3,h4⟩
 |f+1,len,x,h1,h2,h3,h4,d,hd=>by
  by_cases h:2≤len
  ·obtain ⟨p1,p2⟩:=cf h
   obtain ⟨q1,q2⟩:=ce h2
   rw [fq _ _ _ _ h] at hd
   have hp:=ba (len / 2 * n)
   rcases List.mem_append.mp hd with hd |hd
   ·refine km n f _ _ p1 q1 (hJ h3).1 ?_ d hd
    rw [Nat.mul_comm n];exact (dz hp x).2
   ·refine km n f _ _ p2 q2 (dN h3).1 (l8 hp h3 ?_).2 d hd
    rw [Nat.mul_comm (len / 2),← pP,Nat.sub_add_cancel (Nat.div_le_self _ _)]
    exact h4
  ·obtain rfl:=mx h1 h
   rw [ft] at hd
   rw [List.mem_singleton.mp hd]
   rw [Nat.mul_one] at h4;exact ⟨h3,h4⟩
theorem bi (a:Int) (h:0≤a) (k:Nat):Builtin.Int.intBits a≤k↔a<2 ^ k:=by
 obtain ⟨m,rfl⟩:=Int.eq_ofNat_of_zero_le h
 rw [PySem.intBits_le_iff,show ((2:Int) ^ k)=((2 ^ k:Nat):Int) from (Int.natCast_pow 2 k).symm]
 exact Int.ofNat_lt.symm
theorem jT {a:Int} {n:Nat} (h0:0≤a) (hs:small a=true) (h1:1≤n) (h2:n≤4000):i2dSpec [.int a,.int (n:Int)]=some (.list ((i2d a n).map .int)) :=
 ao (c:=(decide (0≤a)&&small a&&decide ((1:Int)≤n)&&decide ((n:Int)≤4000))=true) (by rw [decide_eq_true h0,hs,decide_eq_true (show (1:Int)≤n from Int.ofNat_le.mpr h1),decide_eq_true (show (n:Int)≤4000 from Int.ofNat_le.mpr h2)];rfl) rfl
theorem ql {a:Int} {n:Nat} (h0:0≤a) (h1:1≤n):a<2 ^ (n * i2dLen a n):=by
 rw [← bi a h0]
 show _≤n * ((Builtin.Int.intBits a+n - 1) / n)
 generalize Builtin.Int.intBits a=b
 have h:=Nat.div_add_mod (b+n - 1) n
 have h2:=Nat.mod_lt (b+n - 1) h1
 omega
theorem ef {k:Nat} (h:k≤4000):k≤2 ^ 12:=Nat.le_trans h (by decide)
theorem ux {a:Int} {n:Nat} (hs:small a=true) (h1:1≤n) (h2:n≤4000):i2dLen a n≤4000∧i2dLen a n * n≤8000∧(a≠0→1≤i2dLen a n):=by
 obtain ⟨g1,g2,g3⟩:=my (dh hs) h1 h2
 refine ⟨g1,g2,fun h=>g3 ?_⟩
 unfold Builtin.Int.intBits
 rw [beq_eq_false_iff_ne.mpr h]
 exact Nat.le_add_left 1 _
theorem gR {a:Int} {n:Nat} (h0:0≤a) (hs:small a=true) (h1:1≤n) (h2:n≤4000):und n (i2d a n)=a∧(∀ d∈i2d a n,0≤d∧d<2 ^ n)∧(i2d a n).length * n≤8000∧(i2d a n).length≤4000:=by
 unfold i2d
 by_cases hz:a=0
 ·rw [if_pos hz,hz];exact ⟨rfl,fun d hd=>(nomatch hd),by rw [List.length_nil,Nat.zero_mul];decide,by decide⟩
 ·rw [if_neg hz]
  obtain ⟨g2,g3,g4⟩:=ux hs h1 h2
  have hb:=ql h0 h1
  rw [b9 _ _ _ _ (g4 hz) (ef g2)]
  exact ⟨ik n 12 _ a (g4 hz) (ef g2) h0,km n 12 _ a (g4 hz) (ef g2) h0 hb,g3,g2⟩
theorem kN (n:Nat):∀ (ds:List Int),(∀ d∈ds,0≤d∧d<2 ^ n)→und n ds<2 ^ (n * ds.length)
 | [],_=>by rw [List.length_nil,Nat.mul_zero];exact Int.zero_lt_one
 |d :: ds,h=>by
  have h1:=(h d List.mem_cons_self).2
  have h2:=kN n ds fun x hx=>h x (List.mem_cons_of_mem _ hx)
  rw [und,List.length_cons,Nat.mul_add,Nat.mul_one,Int.pow_add,Int.mul_comm (2 ^ (n * ds.length))]
  have h3:2 ^ n * (und n ds+1)≤2 ^ n * 2 ^ (n * ds.length):=Int.mul_le_mul_of_nonneg_left h2 (Int.le_of_lt (ba n))
  rw [Int.mul_add,Int.mul_one,Int.add_comm] at h3
  exact Int.lt_of_lt_of_le (Int.add_lt_add_right h1 _) h3
theorem pA (n:Nat) {x:Int} (h:0≤x∧x<2 ^ n) (r:Int):(x+2 ^ n * r) % 2 ^ n=x:=by rw [Int.add_mul_emod_self_left];exact Int.emod_eq_of_lt h.1 h.2
theorem mB (n:Nat):∀ (xs ys:List Int),xs.length=ys.length→(∀ d∈xs,0≤d∧d<2 ^ n)→(∀ d∈ys,0≤d∧d<2 ^ n)→und n xs=und n ys→xs=ys
 | [],[],_,_,_,_=>rfl
 |x :: xs,y :: ys,hl,h1,h2,h=>by
  rw [und,und] at h
  obtain rfl:x=y:=by rw [← pA n (h1 x List.mem_cons_self) (und n xs),← pA n (h2 y List.mem_cons_self) (und n ys),h]
  have:=Int.eq_of_mul_eq_mul_left (Int.ne_of_gt (ba n)) (Int.add_left_cancel h)
  rw [mB n xs ys (Nat.succ.inj hl) (fun d hd=>h1 d (List.mem_cons_of_mem _ hd)) (fun d hd=>h2 d (List.mem_cons_of_mem _ hd)) this]
 | [],_ :: _,hl,_,_,_=>nomatch hl
 |_ :: _,[],hl,_,_,_=>nomatch hl
theorem yT {B n k:Nat} (hn:1≤n) (h1:¬ B≤n * k) (h2:B≤n * (k+1)):(B+n - 1) / n=k+1:=by
 rw [Nat.mul_add,Nat.mul_one] at h2
 refine Nat.div_eq_of_lt_le ?_ ?_
 ·rw [Nat.add_mul,Nat.one_mul,Nat.mul_comm k];omega
 ·rw [Nat.add_mul,Nat.one_mul,Nat.add_mul,Nat.one_mul,Nat.mul_comm k];omega
theorem lr {n:Nat} {ds:List Int} {z:Int} (hn:1≤n) (hn2:n≤4000) (hd:∀ d∈ds++[z],0≤d∧d<2 ^ n) (hz:z≠0) (hs:small (und n (ds++[z]))=true):i2d (und n (ds++[z])) n=ds++[z]:=by
 have hnn:=bI n (ds++[z]) fun x hx=>(hd x hx).1
 obtain ⟨g1,g2,_,_⟩:=gR (n:=n) hnn hs hn hn2
 have hz0:1≤z:=Int.lt_iff_le_and_ne.mpr ⟨(hd z (List.mem_append_right _ List.mem_cons_self)).1,Ne.symm hz⟩
 have hlow:2 ^ (n * ds.length)≤und n (ds++[z]):=by
  rw [cF,iq]
  have h1:=bI n ds fun x hx=>(hd x (List.mem_append_left _ hx)).1
  have:=Int.mul_le_mul_of_nonneg_left hz0 (Int.le_of_lt (ba (n * ds.length)))
  rw [Int.mul_one] at this
  exact Int.le_trans this (Int.le_add_of_nonneg_left h1)
 have hup:=kN n (ds++[z]) hd
 have hne:und n (ds++[z])≠0:=Int.ne_of_gt (Int.lt_of_lt_of_le (ba _) hlow)
 refine mB n _ _ ?_ g2 hd g1
 unfold i2d
 rw [if_neg hne]
 obtain ⟨l2,l3,l4⟩:=ux hs hn hn2
 rw [b9 _ _ _ _ (l4 hne) (ef l2)]
 rw [← bi _ hnn] at hup
 have hb1:¬ Builtin.Int.intBits (und n (ds++[z]))≤n * ds.length:=by rw [bi _ hnn];exact Int.not_lt.mpr hlow
 rw [List.length_append] at hup ⊢
 exact yT hn hb1 hup
end Mine
set_option genSizeOf false
set_option genInjectivity false
namespace Mine
noncomputable def d2iB (n:Int) (is:List Int):Bool:=is.all (fun x=>decide (0≤x))&&decide (0≤n)&&decide (n≤4000)&&decide (is.length≤4096)&&decide (is.length * n.toNat≤1000000)&&small (und n.toNat is)
noncomputable def d2iSpec (ds:List D):Option D:=(two? ds).bind fun p=>p.1.list?.bind fun ds=>p.2.int?.bind fun n=>(ints? ds).bind fun is=>if d2iB n is then some (.int (und n.toNat is)) else none
noncomputable def tbK:List Str:=["digits","n"]
noncomputable def nmK:List (Str×NameKind):=[("digits",.cell),("n",.cell),("inner",.cell),("len",.globalImplicit)]
noncomputable def aK:T:= .cons (.cst (.int 0)) (.cons (.blt .len (.cons (.var 0) .nil)) .nil)
noncomputable def outJ (c:Cx) (sc:Scope) (body:List Stmt):Bool×List Stmt :=
 let s1:=hs body.tail;let e:=skid 0 s1
 let t:=unT c sc (.var 0) (kid 0 e);let g:=unA c sc aK (kid 1 e);let z:=unT c sc (.cst (.int 0)) (kid 2 e)
 (t.1&&g.1&&z.1,[defN (itemOf (hs body)),.Return (some (.IfExp t.2 (callN g.2 (kid 1 e)) z.2 e.pos)) s1.pos])
noncomputable def d2iOk (c:Cx) (d:DefItem):Bool:=let q:=itemOf (hs d.body)
 (outJ (atT c tbK) d.scope d.body).1&&(inJ (atT c tbJ) q.scope q.body).1&&d.scope.names==nmK&&defB c tbK d&&parsOf d.params==(["digits","n"]:List Str)&&defInB d.scope tbJ pmJ nmJ q
noncomputable def d2iU (c:Cx) (d:DefItem):List Stmt×List Stmt:=let q:=itemOf (hs d.body);((outJ (atT c tbK) d.scope d.body).2,(inJ (atT c tbJ) q.scope q.body).2)
theorem xX (L:Nat):cellsFrom (L+1) nmK []=[(inS,L+3),(("n":Str),L+2),(dgS,L+1)]:=rfl
theorem mh {ds:List D} {is:List Int} (h:ints? ds=some is):ds=is.map .int:=by
 induction ds generalizing is with
 |nil=>rw [← sm h];rfl
 |cons d ds ih =>
  refine ae h fun i hi h=>ax h fun ns h1 h2=> ?_
  rw [← h2,ih h1]
  exact aM (P:=fun d=>d :: _=_) hi rfl
variable [Tabs] [Frk]
section
variable {prog:Program} {w:World} {c:Cx} {G:ag} {hB:Heap} {mg mb:Str→Option Value} {d:DefItem} {name:Str} {a:Addr}
theorem uU (off:Frk.fs=none) (B:Base prog w c G hB mg mb) (hbm:HasB mg hB) (lim:hB.NoLimit) (hd:d2iOk c d=true) (hu1:(d2iU c d).1=d.body) (hu2:(d2iU c d).2=(itemOf (hs d.body)).body) (hp:d.params=plainPar d.params) (da:DefAt hB a name d.params d.body d.scope) (htb:∀ cd P,hB.TableAt cd P #[]→Tabs.tb P)
  (hq:Tabs.q (itemOf (hs d.body)).pos.line (itemOf (hs d.body)).pos.col=name++(".<locals>.":Str)++inS) {F':FEnv} (hF:∀ ds r,F' name ds=some r→d2iSpec ds=some r) {k:Nat} (hk:60≤k):Ctr prog w hB k F' name a:=by
 intro A E s Y ds vs r Q ar kp hX hden hr ret
 have hr:=hF _ _ hr
 revert hden
 refine ae hr fun p hp2 hr=>jX (P:=fun ds=>DenL s.heap Y ds vs→_) hp2 ?_
 refine ae hr fun ds hds hr=>ae hr fun nv hnv hr=>bE (P:=fun x=>DenL s.heap Y [x,_] vs→_) hds (aM (P:=fun x=>DenL s.heap Y [_,x] vs→_) hnv ?_)
 refine ae hr fun is his hr2=>gd hr2 fun hc hr3 hden=> ?_
 obtain rfl:=mh his
 obtain rfl:=sm hr3
 refine aa hc fun hc c6=>aa hc fun hc c5=>aa hc fun hc c4=>aa hc fun hc c3=>aa hc fun c1 c2=> ?_
 have hpos:∀ x∈is,0≤x:=fun x hx=>de (List.all_eq_true.mp c1 x hx)
 have c2:=de c2;have c3:=de c3;have c4:=de c4;have c5:=de c5
 refine aa hd fun hd d6=>aa hd fun hd d5=>aa hd fun hd d4=>aa hd fun hd d3=>aa hd fun d1 d2=> ?_
 refine aa d6 fun d6 w6=>aa d6 fun d6 w5=>aa d6 fun d6 w4=>aa d6 fun d6 w3=>aa d6 fun w1 w2=> ?_
 refine aa d1 fun d1 u3=>aa d1 fun u1 u2=> ?_
 have hnm:d.scope.names=nmK:=eq_of_beq d3
 have hin:(itemOf (hs d.body)).scope.names=nmJ:=eq_of_beq w4
 have B3:(Wd.mk prog w (atT c tbK) G (fun _ _=>none) hB 58).Ok mg mb:=B.at tbK
 have CT:(Wd.mk prog w (atT c tbK) G (fun _ _=>none) hB 58).Ct mg:=ox
 have ok3:=fh (name:=name) d4 hp
 refine cW off (X:=⟨prog,w,atT c tbK,G,fun _ _=>none,hB,58⟩) lim ok3 da (ar.mono (Nat.le_trans (show 59≤60 by decide) hk)) kp hX hden (congrArg List.length (eq_of_beq d5)).symm ret fun p cd T he _ h7 h8 hnew k0 fin=> ?_
 rw [← hu1]
 have hcel:p.env.cells=[(inS,s.heap.objs.size+3),(("n":Str),s.heap.objs.size+2),(dgS,s.heap.objs.size+1)]:=by rw [he];show cellsFrom _ d.scope.names []=_;rw [hnm];exact xX _
 have hl:∀ {x k},nmK.lookup x=some k→p.env.scope.names.lookup x=some k:=fun h=>by rw [p.hsc,hnm];exact h
 have lk:∀ {x k},([(inS,s.heap.objs.size+3),(("n":Str),s.heap.objs.size+2),(dgS,s.heap.objs.size+1)]:List (Str×Addr)).lookup x=some k→p.env.cells.lookup x=some k:=fun h=>by rw [hcel];exact h
 have fk:∀ {x k},nmJ.lookup x=some k→(itemOf (hs d.body)).scope.names.lookup x=some k:=fun h=>by rw [hin];exact h
 refine wpAny_execs_cons (qk p B3 hbm (he▸rfl) h7 h8 (htb _ _ h8) w2 (Option.isNone_iff_eq_none.mp w3) ?_ hq (by rw [hnm];rfl) (mP rfl) (lk rfl) (q:=(("n":Str),s.heap.objs.size+2)) (r:=[(inS,s.heap.objs.size+3),(dgS,s.heap.objs.size+1)]) ?_ ?_ (by rw [hin];rfl) fun h2 tk2 m cm f S2 g2 F2 V2 hf C=> ?_)
 ·unfold qualnameIn
  rw [show p.env.kindOf inS=some .cell from hl rfl,if_neg (by decide)]
  show p.env.qual++_=_
  rw [he];rfl
 ·unfold closureFor cellOf
  show _=_
  rw [hin,hcel];rfl
 ·exact List.forall_mem_cons.mpr ⟨⟨lk rfl,fk rfl⟩,List.forall_mem_cons.mpr ⟨⟨lk rfl,fk rfl⟩,List.forall_mem_cons.mpr ⟨⟨lk rfl,fk rfl⟩,fun _ h=>nomatch h⟩⟩⟩
 let p2:Ast _ d.scope _:=p.on S2 g2 tk2
 have hsz:sizeOk (is.map D.int).length=true:=decide_eq_true (by rw [List.length_map];exact Nat.le_trans c4 (by decide))
 refine wpAny_execs_cons (wpAny_Return_some (wpAny_IfExp (((b8 B3 CT (.var 0)).e u1).is _ p2.at _ (.list (is.map .int)) (!(is.map D.int).isEmpty) _ rfl (ao hsz rfl) fun h3 tk3 k3=> ?_)))
 let p3:Ast _ d.scope _:=p2.to k3 tk3
 have G3:=g2.trans p.lt p.S.mu (Gr.of_kp k3 _ _)
 cases is with
 |nil =>
  rw [if_neg (show ¬ (!(([]:List Int).map D.int).isEmpty)=true from Bool.false_ne_true)]
  refine ((b8 B3 CT (.cst (.int 0))).e u3).vs _ p3.at _ true (.int 0) _ rfl fun v h4 tk4 k4 d4 _=> ?_
  exact fin h4 tk4 v _ _ (G3.trans p.lt p.S.mu (Gr.of_kp k4 _ _)) d4.top
 |cons i0 ir =>
  rw [if_pos (show (!((i0 :: ir).map D.int).isEmpty)=true from rfl)]
  have C3:=C.keep k3
  obtain ⟨o,doc,pm,cd',ct,oc,vc,t,e1,e2,_⟩:=C3.fo
  obtain ⟨vD,mD,⟨D,items,hD,xD,plD,dlD⟩,_⟩:=V2.cell (i:=0) (x:=dgS) (b:=false) rfl rfl (hl rfl)
  obtain ⟨vN,mN,⟨tN,hN⟩,_⟩:=V2.cell (i:=1) (x:=("n":Str)) (b:=false) rfl rfl (hl rfl)
  have hnv:nv=(nv.toNat:Int):=(Int.toNat_of_nonneg c2).symm
  refine cG ((b8 B3 CT aK).l u2).as p3.at (C3.cell inS _ rfl) (by rw [hl (x:=inS) rfl];rfl) (lk rfl) hf e1 e2 (ds:=[.int ((0:Nat):Int),.int ((0+(i0 :: ir).length:Nat):Int)]) (ay rfl (ay (ad (ay rfl rfl) (ao hsz (by rw [List.length_map,Nat.zero_add]))) rfl)) rfl fun h4 us tk4 k4 dl4=> ?_
  refine xZ (prog:=prog) (w:=w) (c:=atT c tbJ) (G:=G) (mg:=mg) (mb:=mb) (sc:=(itemOf (hs d.body)).scope) (as:=(itemOf (hs d.body)).params.args) (nn:=nv.toNat) (is:=i0 :: ir) off ⟨B.at tbJ,lim,w6,w5,eq_of_beq w1⟩ rfl hin d2 hu2 (Int.toNat_le.mpr c3) ⟨⟨_,rfl⟩,⟨_,rfl⟩,by rw [mD,hD],hf,tN,by rw [mN,hN,← hnv]⟩ hpos c6 (Nat.le_trans c4 (by decide)) c5 12 (i0 :: ir).length 0 (Nat.le_add_left _ _) (Nat.le_trans c4 (by decide)) (by rw [Nat.zero_add];exact Nat.le_refl _) p.A _ {p.s with heap:=h4,toks:=tk4} us _ _ (p.ar.mono (show 13≤58 by decide)) (p3.k.trans k4) (C3.keep k4) (PL.at' plD ((k3.trans k4).at D)) (en dlD) dl4 fun h5 tk5 t5 k5=> ?_
  refine fin h5 tk5 _ _ _ (G3.trans p.lt p.S.mu (Gr.of_kp (k4.trans k5) _ _)) ⟨t5,?_⟩
  show Value.int (und _ (((i0 :: ir).drop 0).take (i0 :: ir).length)) t5=_
  rw [List.drop_zero,List.take_length]
end
end Mine
set_option genSizeOf false
set_option genInjectivity false
namespace Mine
noncomputable abbrev iv (i:Int):Option (D×Bool):=some (.int i,false)
theorem lC {G:ag} {F:FEnv} (hG:G.const "_DIV_LIMIT"=some (.int 4000)) {a b n:Int} (hb:small b=true) (hb0:b≠0) (hbits:((Builtin.Int.intBits a:Nat):Int) - n≤4000) :
  run G F 11 s_div2n1n [.int a,.int b,.int n]=some (.tup [.int (a.fdiv b),.int (a.fmod b)]) :=
 aD [iv a,iv b,iv n,none,none,none,none,none,none,none,none] rfl (aA (aQ (am (x:= .int (((Builtin.Int.intBits a:Nat):Int) - n)) (y:= .int 4000) (r:=true) rfl hG (congrArg some (decide_eq_true hbits))) rfl (aH (aS (aY rfl rfl) (rI hb0 hb)))))
noncomputable def ld (b:Int) (n:Nat):Int→List Int→List Int×Int
 |r,[]=>([],r)
 |r,d :: ds=>((r * 2 ^ n+d).fdiv b :: (ld b n ((r * 2 ^ n+d).fmod b) ds).1,(ld b n ((r * 2 ^ n+d).fmod b) ds).2)
noncomputable def hv (n:Nat) (r:Int) (ds:List Int):Int:=ds.foldl (fun acc d=>acc * 2 ^ n+d) r
theorem ya (n:Nat) (r:Int) (xs:List Int) (d:Int):hv n r (xs++[d])=hv n r xs * 2 ^ n+d:=by
 unfold hv;rw [List.foldl_append];rfl
theorem jB (n:Nat):∀ (ds:List Int),hv n 0 ds.reverse=und n ds
 | []=>rfl
 |d :: ds=>by rw [List.reverse_cons,ya,jB n ds,und,Int.mul_comm,Int.add_comm]
theorem v8 (q0 r d b q m p:Int) (h:m+b * q=r * p+d):(q0 * p+q) * b+m=(q0 * b+r) * p+d:=by
 rw [Int.add_mul,Int.add_mul,Int.mul_right_comm q0,Int.mul_comm q b,Int.add_assoc,Int.add_comm (b * q) m,h,Int.add_assoc]
theorem qb {b:Int} {n:Nat}:∀ (ds:List Int) (q0 r:Int),hv n q0 (ld b n r ds).1 * b+(ld b n r ds).2=hv n (q0 * b+r) ds
 | [],q0,r=>rfl
 |d :: ds,q0,r=>(qb (n:=n) ds (q0 * 2 ^ n+(r * 2 ^ n+d).fdiv b) ((r * 2 ^ n+d).fmod b)).trans (congrArg (hv n · ds) (v8 q0 r d b _ _ _ (Int.fmod_add_mul_fdiv (r * 2 ^ n+d) b)))
theorem yO {b r d p:Int} (hp:0<p) (h0:0≤r) (h1:r<b) (hd:0≤d∧d<p):0≤r * p+d∧r * p+d<b * p:=by
 refine ⟨Int.add_nonneg (Int.mul_nonneg h0 (Int.le_of_lt hp)) hd.1,?_⟩
 have:(r+1) * p≤b * p:=Int.mul_le_mul_of_nonneg_right h1 (Int.le_of_lt hp)
 rw [Int.add_mul,Int.one_mul] at this
 exact Int.lt_of_lt_of_le (Int.add_lt_add_left hd.2 _) this
theorem ua {b:Int} {n:Nat} (hb:0<b):∀ (ds:List Int) (r:Int),0≤r→r<b→(∀ d∈ds,0≤d∧d<2 ^ n)→(0≤(ld b n r ds).2∧(ld b n r ds).2<b)∧(∀ q∈(ld b n r ds).1,0≤q∧q<2 ^ n)∧(ld b n r ds).1.length=ds.length
 | [],r,h0,h1,_=>⟨⟨h0,h1⟩,fun _ h=>(nomatch h),rfl⟩
 |d :: ds,r,h0,h1,h=>by
  obtain ⟨t0,t1⟩:=yO (ba n) h0 h1 (h d List.mem_cons_self)
  obtain ⟨m0,m1⟩:=dz hb (r * 2 ^ n+d)
  obtain ⟨i1,i2,i3⟩:=ua hb ds _ m0 m1 fun x hx=>h x (List.mem_cons_of_mem _ hx)
  refine ⟨i1,fun q hq=> ?_,congrArg Nat.succ i3⟩
  rcases List.mem_cons.mp hq with rfl |hq
  ·exact l8 hb t0 (Int.mul_comm b _▸t1)
  ·exact i2 q hq
noncomputable def dvT:T:= .call "_div2n1n" (.cons (.bin .Add (.bin .LShift (.var 4) (.var 2)) (.var 6)) (.cons (.var 1) (.cons (.var 2) .nil)))
noncomputable def dvB:S:= .seq (.unp [7,4] dvT) (.seq (.app 5 (.var 7)) .skip)
theorem wZ {G:ag} {F:FEnv} {x0 x3 x6 x7 x8:Option (D×Bool)} {b r d q m:Int} {n:Nat} {qs:List D} (hr:small r=true) (hn:n≤4000) (hF:F "_div2n1n" [.int (r * 2 ^ n+d),.int b,.int (n:Int)]=some (.tup [.int q,.int m])) (hq:qs.length≤1048576) :
  bodyT G F [6] true dvB [x0,iv b,iv n,x3,iv r,some (.list qs,true),x6,x7,x8] (.int d)=some ([x0,iv b,iv n,x3,iv m,some (.list (qs++[.int q]),true),iv d,iv q,x8],.next) :=
 ad (a:=[x0,iv b,iv n,x3,iv r,some (.list qs,true),iv d,x7,x8]) rfl (aq (pi (aw (fG (ai (ai (x:= .int r) (y:= .int (n:Int)) rfl rfl (uu hr (Nat.le_trans hn (by decide)))) rfl rfl) rfl rfl) hF) rfl)
  (gJ (xs:=qs) rfl (aj hq) rfl rfl))
theorem jD {G:ag} {F:FEnv} {b:Int} {n:Nat} (hb:0<b) (hn:n≤4000) (hbs:small b=true)
  (hF:∀ t:Int,0≤t→t<b * 2 ^ n→F "_div2n1n" [.int t,.int b,.int (n:Int)]=some (.tup [.int (t.fdiv b),.int (t.fmod b)])) {x0 x3 x8:Option (D×Bool)} :
  ∀ (ds:List Int) (r:Int) (qs:List D) (x6 x7:Option (D×Bool)),0≤r→r<b→(∀ d∈ds,0≤d∧d<2 ^ n)→qs.length+ds.length≤5000 →
   ∃ x6' x7',loopL (bodyT G F [6] true dvB) [x0,iv b,iv n,x3,iv r,some (.list qs,true),x6,x7,x8] (ds.map .int) =
    some ([x0,iv b,iv n,x3,iv (ld b n r ds).2,some (.list (qs++(ld b n r ds).1.map .int),true),x6',x7',x8],.next)
 | [],r,qs,x6,x7,_,_,_,_=>⟨x6,x7,by rw [show (ld b n r []).1.map D.int=[] from rfl,List.append_nil];rfl⟩
 |d :: ds,r,qs,x6,x7,h0,h1,h,hl=>by
  obtain ⟨t0,t1⟩:=yO (ba n) h0 h1 (h d List.mem_cons_self)
  obtain ⟨m0,m1⟩:=dz hb (r * 2 ^ n+d)
  have hl2:qs.length+1+ds.length≤5000:=Nat.le_trans (Nat.le_of_eq (Nat.add_right_comm qs.length 1 ds.length)) hl
  obtain ⟨y6,y7,ih⟩:=jD (G:=G) hb hn hbs hF (x0:=x0) (x3:=x3) (x8:=x8) ds ((r * 2 ^ n+d).fmod b) (qs++[.int ((r * 2 ^ n+d).fdiv b)]) (iv d) (iv ((r * 2 ^ n+d).fdiv b)) m0 m1 (fun x hx=>h x (List.mem_cons_of_mem _ hx)) (by rw [List.length_append];exact hl2)
  refine ⟨y6,y7,aU (wZ (ca hbs h0 (Int.le_of_lt h1)) hn (hF _ t0 t1) (Nat.le_trans (Nat.le_trans (Nat.le_add_right _ _) hl) (by decide))) (ih.trans ?_)⟩
  rw [List.append_assoc];rfl
theorem ku {ds:List Int} {n:Nat} (h0:∀ d∈ds,0≤d) (hn:n≤4000) (hl:ds.length≤4000) (hs:small (und n ds)=true) (hln:ds.length * n≤1000000):d2iSpec [.list (ds.map .int),.int (n:Int)]=some (.int (und n ds)) :=
 ad (a:=ds) fQ (ao (c:=d2iB n ds=true) (by
  unfold d2iB
  rw [List.all_eq_true.mpr fun x hx=>decide_eq_true (h0 x hx),decide_eq_true (Int.natCast_nonneg n),decide_eq_true (show (n:Int)≤4000 from Int.ofNat_le.mpr hn),decide_eq_true (Nat.le_trans hl (by decide)),decide_eq_true (show ds.length * (n:Int).toNat≤1000000 from hln)]
  exact hs) rfl)
theorem zX {a b:Int} {n:Nat} (ha:0≤a) (has:small a=true) (hb:0<b) (hn1:1≤n) (hn4:n≤4000) :
  hv n 0 (ld b n 0 (i2d a n).reverse).1=a.fdiv b∧(ld b n 0 (i2d a n).reverse).2=a.fmod b∧d2iSpec [.list ((ld b n 0 (i2d a n).reverse).1.map .int).reverse,.int (n:Int)]=some (.int (hv n 0 (ld b n 0 (i2d a n).reverse).1))∧(ld b n 0 (i2d a n).reverse).1.length≤4000:=by
 obtain ⟨g1,g2,g3,g4⟩:=gR (n:=n) ha has hn1 hn4
 obtain ⟨l1,l2,l3⟩:=ua (n:=n) hb (i2d a n).reverse 0 (Int.le_refl _) hb fun d hd=>g2 d (List.mem_reverse.mp hd)
 have lv:=qb (b:=b) (n:=n) (i2d a n).reverse 0 0
 rw [Int.zero_mul,Int.add_zero,jB,g1] at lv
 rw [List.length_reverse] at l3
 generalize (ld b n 0 (i2d a n).reverse).1=qs at *
 generalize (ld b n 0 (i2d a n).reverse).2=rr at *
 have hq:und n qs.reverse=hv n 0 qs:=by rw [← jB,List.reverse_reverse]
 have hq0:0≤hv n 0 qs:=by rw [← hq];exact bI n _ fun x hx=>(l2 x (List.mem_reverse.mp hx)).1
 have hqa:hv n 0 qs≤a:=by
  have:hv n 0 qs * 1≤hv n 0 qs * b:=Int.mul_le_mul_of_nonneg_left hb hq0
  rw [Int.mul_one] at this
  exact Int.le_trans this (lv▸Int.le_add_of_nonneg_right l1.1)
 have hqr:a / b=hv n 0 qs∧a % b=rr:=(Int.ediv_emod_unique hb).mpr ⟨by rw [Int.mul_comm,Int.add_comm];exact lv,l1.1,l1.2⟩
 refine ⟨?_,?_,?_,l3▸g4⟩
 ·rw [Int.fdiv_eq_ediv_of_nonneg _ (Int.le_of_lt hb)];exact hqr.1.symm
 ·rw [Int.fmod_eq_emod_of_nonneg _ (Int.le_of_lt hb)];exact hqr.2.symm
 ·rw [← List.map_reverse,← hq]
  exact ku (fun d hd=>(l2 d (List.mem_reverse.mp hd)).1) hn4 (by rw [List.length_reverse,l3];exact g4) (ca has (hq▸hq0) (hq▸hqa)) (by rw [List.length_reverse,l3];exact Nat.le_trans g3 (by decide))
theorem gW {G:ag} {F:FEnv} (h1:∀ ds,F "_int2digits" ds=i2dSpec ds) (h2:∀ ds,F "_digits2int" ds=d2iSpec ds)
  (hF:∀ a b n:Int,small b=true→b≠0→((Builtin.Int.intBits a:Nat):Int) - n≤4000→F "_div2n1n" [.int a,.int b,.int n]=some (.tup [.int (a.fdiv b),.int (a.fmod b)]))
  {a b:Int} (ha:0≤a) (has:small a=true) (hb:0<b) (hbs:small b=true):run G F 9 s_divmod_pos [.int a,.int b]=some (.tup [.int (a.fdiv b),.int (a.fmod b)]):=by
 obtain ⟨n,hn⟩:∃ n:Nat,n=Builtin.Int.intBits b:=⟨_,rfl⟩
 have hn4:n≤4000:=by rw [hn];exact dh hbs
 have hbn:b<2 ^ n:=by rw [← bi b (Int.le_of_lt hb),hn];exact Nat.le_refl _
 have hn1:1≤n:=by
  rcases Nat.eq_zero_or_pos n with h |h
  ·rw [h] at hbn;exact absurd hb (Int.not_lt.mpr (Int.lt_add_one_iff.mp hbn))
  ·exact h
 obtain ⟨_,g2,_,g4⟩:=gR (n:=n) ha has hn1 hn4
 obtain ⟨e1,e2,e3,e4⟩:=zX (b:=b) ha has hb hn1 hn4
 obtain ⟨x6,x7,hloop⟩:=jD (G:=G) (F:=F) (b:=b) hb hn4 hbs (fun t t0 t1=>hF t b n hbs (Int.ne_of_gt hb) (by
   have:t<2 ^ (n+n):=by
    rw [Int.pow_add]
    exact Int.lt_of_lt_of_le t1 (Int.mul_le_mul_of_nonneg_right (Int.le_of_lt hbn) (Int.le_of_lt (ba n)))
   rw [← bi t t0] at this
   omega)) (x0:=iv a) (x3:=some (.list ((i2d a n).map .int),false)) (x8:=none) (i2d a n).reverse 0 [] none none (Int.le_refl _) hb (fun d hd=>g2 d (List.mem_reverse.mp hd)) (by rw [List.length_reverse,List.length_nil,Nat.zero_add];exact Nat.le_trans g4 (by decide))
 rw [List.nil_append] at hloop
 have hz:sizeOk ((i2d a n).map D.int).length=true:=aj (by rw [List.length_map];exact Nat.le_trans g4 (by decide))
 have hz2:sizeOk ((ld b n 0 (i2d a n).reverse).1.map D.int).length=true:=aj (by rw [List.length_map];exact Nat.le_trans e4 (by decide))
 rw [← e1,← e2]
 exact aD [iv a,iv b,none,none,none,none,none,none,none] rfl (aB (d:= .int (n:Int)) (by rw [hn];rfl) (aB (aw (aY rfl rfl) ((h1 _).trans (jT ha has hn1 hn4))) (aB rfl (dF (d:= .list []) rfl rfl
  (c9 rfl (xO (xs:=(i2d a n).map D.int) rfl hz) (by rw [← List.map_reverse];exact hloop)
  (za (xs:=(ld b n 0 (i2d a n).reverse).1.map .int) rfl hz2
  (aB (uV (aY rfl rfl) ((h2 _).trans e3) rfl) (aH (ch (aY rfl rfl))))))))))
end Mine
set_option genSizeOf false
set_option genInjectivity false
namespace Mine
noncomputable def pv1:Int→Int→List Int→Option (Int×List Int)
 |b,val,[]=>if Builtin.bitAnd b 64==0 then some (val,[]) else none
 |b,val,x :: r=>if Builtin.bitAnd b 64==0 then some (val,x :: r) else pv1 x (val * 64+x % 64) r
noncomputable def pv:List Int→Option (Int×List Int)
 | []=>none
 |b :: r=>pv1 b (b % 64) r
noncomputable def rd:Nat→List Int→List Int
 |0,_=>[]
 |n+1,xs=>match pv xs with
  |none=>[]
  |some (v,r)=>v :: rd n r
theorem pv1_nil {b val:Int}:pv1 b val []=if Builtin.bitAnd b 64==0 then some (val,[]) else none:=rfl
theorem pv1_cons {b val x:Int} {r:List Int}:pv1 b val (x :: r)=if Builtin.bitAnd b 64==0 then some (val,x :: r) else pv1 x (val * 64+x % 64) r:=rfl
theorem lc {b val:Int} (h:(Builtin.bitAnd b 64==0)=true) (r:List Int):pv1 b val r=some (val,r):=by
 cases r with
 |nil=>exact if_pos h
 |cons x r=>exact if_pos h
theorem sa {r:List Int}:∀ {b val v:Int} {q:List Int},pv1 b val r=some (v,q)→∃ k,k≤r.length∧q=r.drop k:=by
 induction r with
 |nil =>
  intro b val v q h
  rw [pv1_nil] at h
  exact gd h fun _ h=>⟨0,Nat.le_refl _,(Prod.mk.inj (sm h)).2.symm⟩
 |cons x r ih =>
  intro b val v q h
  rw [pv1_cons] at h
  cases hb:(Builtin.bitAnd b 64==0) with
  |true =>
   rw [hb,if_pos rfl] at h
   exact ⟨0,Nat.zero_le _,(Prod.mk.inj (sm h)).2.symm⟩
  |false =>
   rw [hb,if_neg (by decide)] at h
   obtain ⟨k,h1,h2⟩:=ih h
   exact ⟨k+1,Nat.succ_le_succ h1,h2⟩
theorem pv_drop {xs:List Int} {v:Int} {q:List Int} (h:pv xs=some (v,q)):∃ k,1≤k∧k≤xs.length∧q=xs.drop k:=by
 cases xs with
 |nil=>exact ah h
 |cons b r =>
  obtain ⟨k,h1,h2⟩:=sa h
  exact ⟨k+1,Nat.le_add_left _ _,Nat.succ_le_succ h1,h2⟩
theorem lj (a:Nat):¬ (0≤Builtin.bitNot (a:Int)):=by unfold Builtin.bitNot;omega
theorem pr (a c:Nat):Builtin.bitOr (a:Int) (c:Int)=((a ||| c:Nat):Int):=by
 unfold Builtin.bitOr Builtin.bitAnd
 rw [decide_eq_false (lj a),decide_eq_false (lj c)]
 simp only [bitNot_bitNot,Int.toNat_natCast]
theorem Aj {a c:Int} (h0:0≤a) (c0:0≤c) (c1:c<64):Builtin.bitOr (a * 2 ^ 6) c=a * 64+c:=by
 obtain ⟨a,rfl⟩:=Int.eq_ofNat_of_zero_le h0
 obtain ⟨c,rfl⟩:=Int.eq_ofNat_of_zero_le c0
 have e:(a:Int) * (2:Int) ^ 6=((a <<< 6:Nat):Int):=by rw [Nat.shiftLeft_eq];rfl
 show Builtin.bitOr ((a:Int) * (2:Int) ^ 6) (c:Int)=(a:Int) * 64+(c:Int)
 rw [e,pr,← Nat.shiftLeft_add_eq_or_of_lt (show c<2 ^ 6 from Int.ofNat_lt.mp c1),Nat.shiftLeft_eq];rfl
theorem kr:entryFor table "next"=some Builtin.«next» :=entryFor_of_fast (by kernel_rfl)
theorem lJ (a:Value):PySem.argsOk "next" ⟨[a],[]⟩:=by unfold PySem.argsOk;kernel_rfl
theorem rC:entryFor table "iter"=some Builtin.«iter» :=entryFor_of_fast (by kernel_rfl)
theorem u0 (a:Value):PySem.argsOk "iter" ⟨[a],[]⟩:=by unfold PySem.argsOk;kernel_rfl
section
variable {prog:Program} {w:World} {A:Around} {E:Value→Shared→Prop} {s:Shared} {it l:Addr} {i:Nat} {items:Array Value}
theorem u9 {x:Value} {Q:Option Value→Shared→Prop} (hit:s.heap.IsListIter it l i) (hl:s.heap.IsList l items) (hx:items[i]? = some x)
  (hQ:∀ h',h'.IsListIter it l (i+1)→Heap.SameBut it s.heap h'→Q (some x) {s with heap:=h'}):wpAny (model prog w) A (callSpecial? (.ref it) (Str.ofString "__next__")) Q E s:=by
 obtain ⟨o,ho,hc,hd⟩:=id hit
 obtain ⟨ol,hol,_,nl,hdl⟩:=hl
 refine wpAny_callSpecial?_slot (name:=Str.ofString "__next__") hit.typeIs slot_listiter_next (wpAny_call_entry slot_listiter_next hit.typeIs entry_listiter_next ?_ (args_listiter_next _))
 show wpAny _ _ (field (.ref it) 0 >>= _) _ _ s
 refine wpAny_bind (wpAny_field ho hd (x:= .ref l) rfl ?_)
 show wpAny _ _ (if (Value.ref l==Value.none)=true then _ else _) _ _ s
 rw [if_neg (show ¬ ((Value.ref l==Value.none)=true) from Bool.false_ne_true)]
 show wpAny _ _ (field (.ref it) 1 >>= _) _ _ s
 refine wpAny_bind (wpAny_field ho hd (x:= .int i 0) rfl ?_)
 show wpAny _ _ (seqItems? (.ref l) >>= _) _ _ s
 refine wpAny_bind (wpAny_seqItems hol hdl ?_)
 simp only [Int.toNat_natCast,hx]
 refine wpAny_bind (wpAny_setField ho hd (by simp) (wpAny_pure ⟨x,rfl,hQ _ ?_ (Heap.SameBut.update ..)⟩))
 exact ⟨_,Heap.get?_update_self _ ho (Obj.isFreed_of_fields (Obj.data_mapFields hd _)),(Obj.cls_mapFields ..).trans hc,by
  rw [Obj.data_mapFields hd];simp [rawInt]⟩
noncomputable def Stopped (it:Addr) (h:Heap) (e:Addr) (h':Heap):Prop:=∃ h1,Heap.SameBut it h h1∧(∃ o vs,h1.get? it=some o∧o.data = .fields vs)∧Heap.NewExc h1 h' e "StopIteration"
theorem wU {Q:Option Value→Shared→Prop} (hh:A.handled=none) (hit:s.heap.IsListIter it l i) (hl:s.heap.IsList l items) (hx:items[i]? = none)
  (hE:∀ h' e,Stopped it s.heap e h'→E (.ref e) {s with heap:=h'}):wpAny (model prog w) A (callSpecial? (.ref it) (Str.ofString "__next__")) Q E s:=by
 obtain ⟨o,ho,hc,hd⟩:=id hit
 obtain ⟨ol,hol,_,nl,hdl⟩:=hl
 refine wpAny_callSpecial?_slot (name:=Str.ofString "__next__") hit.typeIs slot_listiter_next (wpAny_call_entry slot_listiter_next hit.typeIs entry_listiter_next ?_ (args_listiter_next _))
 show wpAny _ _ (field (.ref it) 0 >>= _) _ _ s
 refine wpAny_bind (wpAny_field ho hd (x:= .ref l) rfl ?_)
 show wpAny _ _ (if (Value.ref l==Value.none)=true then _ else _) _ _ s
 rw [if_neg (show ¬ ((Value.ref l==Value.none)=true) from Bool.false_ne_true)]
 show wpAny _ _ (field (.ref it) 1 >>= _) _ _ s
 refine wpAny_bind (wpAny_field ho hd (x:= .int i 0) rfl ?_)
 show wpAny _ _ (seqItems? (.ref l) >>= _) _ _ s
 refine wpAny_bind (wpAny_seqItems hol hdl ?_)
 simp only [Int.toNat_natCast,hx]
 refine wpAny_bind (wpAny_rule (wpAny_bind (wpAny_setField ho hd (by simp) ?_)))
 show wpAny _ _ (newExc (.type "StopIteration") [] >>= _) _ _ _
 refine wpAny_bind ?_
 simp only [newExc,newTuple]
 refine wpAny_bind (wpAny_newObj_type ?_ (by size_fits))
 refine wpAny_bind (m:=firstArgMember _ _) (wpAny_of_eq (a:=Value.none) (by first |rfl |(simp only [firstArgMember];rfl)) ?_)
 refine wpAny_newObj_type ?_ (by size_fits)
 simp only [raiseNew]
 refine wpAny_bind (wpAny_handled ?_)
 rw [show A.in1.handled=none from hh]
 refine wpAny_bind (wpAny_pure (wpAny_throw ?_))
 have hf:=Obj.data_mapFields hd (·.setIfInBounds 0 Value.none)
 refine hE _ _ ⟨_,Heap.SameBut.update ..,⟨_,_,Heap.get?_update_self _ ho (Obj.isFreed_of_fields hf),hf⟩,⟨fun b o e=>Heap.get?_push_of_some _ (Heap.get?_push_of_some _ e),?_,?_⟩⟩
 ·exact iu (by simp [Heap.size_push])
 ·exact ⟨_,_,Heap.get?_push_size _ rfl,rfl,rfl⟩
theorem o6 {x:Value} {Q:Value→Shared→Prop} (hit:s.heap.IsListIter it l i) (hl:s.heap.IsList l items) (hx:items[i]? = some x)
  (hQ:∀ h',h'.IsListIter it l (i+1)→Heap.SameBut it s.heap h'→Q x {s with heap:=h'}):wpAny (model prog w) A (call (.builtin "next") [.ref it]) Q E s:=by
 refine PySem.Calls.call_function_entry (by decide +kernel) (by decide +kernel) kr (lJ _) ?_
 unfold Builtin.«next»
 refine wpAny_bind (m:=someArgs "next" 1 2 _) (wpAny_of_eq (a:=[Value.ref it]) (by first |rfl |kernel_rfl!) ?_)
 dsimp only
 refine wpAny_bind (wpAny_specialOf (name:=Str.ofString "__next__") hit.typeIs slot_listiter_next.lookup ?_)
 refine wpAny_ite_split (fun hab=>absurd hab (by decide)) (fun _=> ?_)
 exact wpAny_bind (u9 hit hl hx fun h' h1 h2=>wpAny_pure ⟨_,rfl,hQ h' h1 h2⟩)
theorem pY {Q:Value→Shared→Prop} (hh:A.handled=none) (hit:s.heap.IsListIter it l i) (hl:s.heap.IsList l items) (hx:items[i]? = none)
  (hE:∀ h' e,Stopped it s.heap e h'→E (.ref e) {s with heap:=h'}):wpAny (model prog w) A (call (.builtin "next") [.ref it]) Q E s:=by
 refine PySem.Calls.call_function_entry (by decide +kernel) (by decide +kernel) kr (lJ _) ?_
 unfold Builtin.«next»
 refine wpAny_bind (m:=someArgs "next" 1 2 _) (wpAny_of_eq (a:=[Value.ref it]) (by first |rfl |kernel_rfl!) ?_)
 dsimp only
 refine wpAny_bind (wpAny_specialOf (name:=Str.ofString "__next__") hit.typeIs slot_listiter_next.lookup ?_)
 refine wpAny_ite_split (fun hab=>absurd hab (by decide)) (fun _=> ?_)
 exact wpAny_bind (wU hh hit hl hx hE)
theorem oN {Q:Value→Shared→Prop} (hl:s.heap.IsList l items)
  (hQ:Q (.ref s.heap.objs.size) {s with heap:=s.heap.push {cls:= .type "list_iterator",data:= .fields #[.ref l,.int 0 0]}}):wpAny (model prog w) A (call (.builtin "iter") [.ref l]) Q E s:=by
 refine PySem.Calls.call_function_entry (by decide +kernel) (by decide +kernel) rC (u0 _) ?_
 unfold Builtin.«iter»
 refine wpAny_bind (m:=someArgs "iter" 1 2 _) (wpAny_of_eq (a:=[Value.ref l]) (by first |rfl |kernel_rfl!) ?_)
 show wpAny _ _ (pyIter (.ref l) >>= _) _ _ _
 exact wpAny_bind (wpAny_pyIter_list hl (wpAny_pure ⟨_,rfl,hQ⟩))
end
structure E0 (env:Env) (sc:Scope):Prop where
 ok:je env
 sc:env.scope=sc
 cel:env.cells=[]
 frm:env.frame=some env.locals
section
variable {prog:Program} {w:World} {A:Around} {E:Value→Shared→Prop} {s:Shared} {env:Env} {sc:Scope} {m:Str→Option Value} {x:Str} {v:Value} {p:Pos}
theorem E0.kind (e:E0 env sc) {k:NameKind} (h:sc.names.lookup x=some k):env.kindOf x=some k:=by unfold Env.kindOf;rw [e.sc];exact h
theorem dJ (e:E0 env sc) (n:s.heap.Ns env.locals m) (hx:sc.names.lookup x=some .local) (hm:m x=some v) (hd:(x==("__debug__":Str))=false) {Q:Value→Shared→Prop} (hQ:Q v s):wpAny (model prog w) A (eval (.Name x p) env) Q E s :=
 wpAny_Name (wpAny_loadName_local e.ok.kind (e.kind hx) n hm hQ) hd
noncomputable abbrev SetL [Tabs] (env:Env) (m:Str→Option Value) (x:Str) (v:Value) (h h':Heap):Prop:=Heap.SameBut env.locals h h'∧Cd h h'∧h'.Ns env.locals (fun z=>if z=x then some v else m z)
variable [Tabs] [Frk]
theorem dK (e:E0 env sc) (n:s.heap.Ns env.locals m) (hx:sc.names.lookup x=some .local) {Q:Unit→Shared→Prop} (hQ:∀ h' tk,SetL env m x v s.heap h'→Q () {s with heap:=h',toks:=tk}):wpAny (model prog w) A (storeName env x v) Q E s :=
 wpAny_storeName_local (e.kind hx) n (fun h' hn' sb=>hQ h' _ ⟨sb,Cd.sb (fun b o n e=>sb.extBut b o n e) (Ns.nofields n) fun _=>Ns.dt hn',hn'⟩) (by rw [e.ok.kind];rfl)
variable {c:Cx} {hB:Heap} {G:ag} {mg mb:Str→Option Value}
theorem yH (B:Base prog w c G hB mg mb) (e:E0 env sc) (kp:KB hB s.heap) {Q:Value→Shared→Prop} (hg:sc.names.lookup x=some .globalImplicit) (hn:x∈bnames) (hv:bootBuiltins x=some v) (hd:(x==("__debug__":Str))=false) (h:Q v s):wpAny (model prog w) A (eval (.Name x p) env) Q E s :=
 PySem.Calls.Name_function_global e.ok.kind (e.kind hg) (PySem.Calls.loadGlobal_builtin (by rw [e.ok.glob];exact kp.ns B.ns) (B.blt x hn).1 (by rw [e.ok.blt];exact kp.ns B.bn) ((B.blt x hn).2.trans hv) h) hd
end
end Mine
set_option genSizeOf false
set_option genInjectivity false
namespace Mine
noncomputable def Ups (l:List Env) (h:Heap):Prop:=∀ e∈l,e.scope.kind ≠ .module∧∃ L,e.frame=some L∧Dt h L
noncomputable def frs (l:List Env):List Addr:=l.filterMap (·.frame)
theorem Ups.cd {l:List Env} {h h':Heap} (u:Ups l h) (k:∀ b,Dt h b→Dt h' b):Ups l h':=fun e he=>let ⟨h1,L,h2,h3⟩:=u e he;⟨h1,L,h2,k L h3⟩
theorem Ups.mem {l:List Env} {h:Heap} (u:Ups l h) {b:Addr} (hb:b∈frs l):Dt h b:=by
 obtain ⟨e,he,hf⟩:=List.mem_filterMap.mp hb
 obtain ⟨_,L,h2,h3⟩:=u e he
 exact sm (h2.symm.trans hf)▸h3
theorem eM:∀ {l:List Env} {h base:Heap},Ups l h→(∀ b∈frs l,base.get? b=none)→h.FunFrames base l
 | [],_,_,_,_=>trivial
 |e :: l,h,base,u,hb=>by
  obtain ⟨h1,L,h2,o,es,n,h3,h4⟩:=u e List.mem_cons_self
  have hm:frs (e :: l)=L :: frs l:=by unfold frs;rw [List.filterMap_cons,h2]
  refine ⟨h1,⟨L,o,h2,hb L (by rw [hm];exact List.mem_cons_self),h3,fun vs q=>nomatch h4.symm.trans q⟩,eM (fun e' he'=>u e' (List.mem_cons_of_mem _ he')) fun b hb'=>hb b (by rw [hm];exact List.mem_cons_of_mem _ hb')⟩
structure Flown (it:Addr) (outer:List Env) (e:Addr) (h h':Heap):Prop where
 fl:∃ base a0,Heap.FlyingW base outer e (.type "StopIteration") a0 h'∧∀ b o,b≠it→b∉frs outer→h.get? b=some o→base.get? b=some o
 up:∀ b o,b∈frs outer→h.get? b=some o→∃ sl,h'.get? b=some {o with slots:=sl}
theorem Flown.kept {it e:Addr} {outer:List Env} {h h':Heap} (F:Flown it outer e h h') {b:Addr} {o:Obj} (hb:b≠it) (e1:h.get? b=some o):(b∉frs outer∧h'.get? b=some o)∨(b∈frs outer∧∃ sl,h'.get? b=some {o with slots:=sl}):=by
 by_cases hm:b∈frs outer
 ·exact .inr ⟨hm,F.up b o hm e1⟩
 ·obtain ⟨base,a0,fly,hk⟩:=F.fl
  exact .inl ⟨hm,fly.1 b o (hk b o hb hm e1)⟩
section
variable {M:Model} {A:Around} {E:Value→Shared→Prop} {s:Shared} {env:Env} {outer:List Env} {it e:Addr} {h:Heap} {Q:Unit→Shared→Prop}
theorem nN (hfr:A.frames=some (env :: outer)) {L:Addr} (hf:env.frame=some L) (u:Ups (env :: outer) h) (hit:¬ Dt h it) (st:Stopped it h e s.heap)
  (hQ:∀ h',Flown it outer e (TI.gone h [L]) h'→Q () {s with heap:=h'}):wpAny M A (leaving env (.ref e)) Q E s:=by
 obtain ⟨h1,sb,⟨oi,vi,hi1,hi2⟩,nx⟩:=st
 have hm:frs (env :: outer)=L :: frs outer:=by unfold frs;rw [List.filterMap_cons,hf]
 have old:∀ b o,b≠it→h.get? b=some o→h1.get? b=some o:=fun b o n e=>sb.extBut b o n e
 have dt1:∀ b,Dt h b→Dt h1 b:=fun b d=>d.kq fun o e=>old b o (fun q=>hit (q▸d)) e
 have u1:Ups (env :: outer) h1:=u.cd dt1
 have u2:Ups (env :: outer) s.heap:=u1.cd fun b d=>d.kq fun o e=>nx.keeps b o e
 have ff:s.heap.FunFrames (TI.gone h1 (frs (env :: outer))) (env :: outer):=eM u2 fun b hb=>TI.gone_none hb
 have kb:(TI.gone h1 (frs (env :: outer))).StaysIn s.heap:=fun b o e=>nx.keeps b o (TI.gone_some e).2
 have hen:(TI.gone h1 (frs (env :: outer))).get? e=none:=TI.none_of (fun b o e=>(TI.gone_some e).2) nx.new
 obtain ⟨ob,t,he,hc,hd⟩:=nx.there
 refine wpAny_leaving_firstW hfr ff hf he kb hen hd rfl rfl fun h' hL=> ?_
 obtain ⟨k1,⟨_,_,k2⟩,k3,k4⟩:=hL
 rw [hc] at k3
 refine hQ h' ⟨⟨_,_,⟨k1,hen,k2,k3⟩,fun b o hb hn e=> ?_⟩,fun b o hb e=> ?_⟩
 ·obtain ⟨n1,e1⟩:=TI.gone_some e
  rw [TI.gone_get (by rw [hm];intro q;rcases List.mem_cons.mp q with q |q;exact n1 (by rw [q];exact List.mem_cons_self);exact hn q)]
  exact old b o hb e1
 ·obtain ⟨n1,e1⟩:=TI.gone_some e
  have hbf:b∈frs (env :: outer):=by rw [hm];exact List.mem_cons_of_mem _ hb
  obtain ⟨o',es,n,g1,g2⟩:=u.mem hbf
  obtain rfl:=sm (e1.symm.trans g1)
  exact k4 b o (nx.keeps b o (old b o (fun q=>hit (q▸u.mem hbf)) e1)) fun vs q=>nomatch g2.symm.trans q
theorem pW (hfr:A.frames=some (env :: outer)) {L:Addr} (hf:env.frame=some L) (F:Flown it (env :: outer) e h s.heap) (hdt:∀ b∈frs (env :: outer),Dt h b)
  (hQ:∀ h',(∃ base a0,Heap.FlyingW base (env :: outer) e (.type "StopIteration") a0 h')→Flown it (env :: outer) e h h'→Q () {s with heap:=h'}):wpAny M A (noteFrame (.ref e) env) (fun _ s₂=>wpAny M A (setFlight (.ref e) none) Q E s₂) E s:=by
 obtain ⟨⟨base,a0,fly,hk⟩,up⟩:=F
 refine wpAny_looks_onW hfr hf fly fun h1 held k1=> ?_
 refine wpAny_landsW (s:={s with heap:=h1}) held fun h2 fly2 k2=> ?_
 refine hQ h2 ⟨base,a0,fly2⟩ ⟨⟨base,a0,fly2,hk⟩,fun b o hb e=> ?_⟩
 obtain ⟨o',es,n,g1,g2⟩:=hdt b hb
 obtain rfl:=sm (e.symm.trans g1)
 obtain ⟨sl,e1⟩:=up b o hb e
 obtain ⟨sl1,e2⟩:=k1 b _ e1 fun vs q=>nomatch (g2.symm.trans (show o.data=_ from q))
 obtain ⟨sl2,e3⟩:=k2 b _ e2 fun vs q=>nomatch (g2.symm.trans (show o.data=_ from q))
 exact ⟨sl2,e3⟩
theorem lq (F:Flown it outer e h s.heap) (hdt:∀ b∈frs outer,Dt h b)
  (hQ:∀ h',Flown it outer e h h'→Q () {s with heap:=h'}):wpAny M A (setFlight (.ref e) none) Q E s:=by
 obtain ⟨⟨base,a0,fly,hk⟩,up⟩:=F
 obtain ⟨f1,f2,f3,f4⟩:=fly
 refine wpAny_setFlight_noneW f1 f3 f4 fun h' k1 k2 k3 k4=>hQ h' ⟨⟨base,a0,⟨k1,f2,k2,k3⟩,hk⟩,fun b o hb e=> ?_⟩
 obtain ⟨o',es,n,g1,g2⟩:=hdt b hb
 obtain rfl:=sm (e.symm.trans g1)
 obtain ⟨sl,e1⟩:=up b o hb e
 exact ⟨sl,k4 b _ e1 fun vs q=>nomatch (g2.symm.trans (show o.data=_ from q))⟩
end
end Mine
set_option genSizeOf false
set_option genInjectivity false
namespace Mine
noncomputable def tbP:List Str:=["b","val"]
noncomputable def nmP:List (Str×NameKind):=[("iterator",.local),("b",.local),("val",.local),("next",.globalImplicit)]
noncomputable def bS:Str:="b"
noncomputable def valS':Str:="val"
noncomputable def itS:Str:="iterator"
noncomputable def nextS:Str:="next"
theorem pK:bootBuiltins nextS=some (.builtin "next"):=by decide +kernel
theorem qn:bootBuiltins ("iter":Str)=some (.builtin "iter"):=by decide +kernel
theorem qX:bootBuiltins ("StopIteration":Str)=some (.type "StopIteration"):=by decide +kernel
noncomputable def winfo:Stmt→Expr×List Stmt
 | .While t b _ _=>(t,b)
 |_=>(default,[])
noncomputable def nextE (e:Expr):Expr:= .Call (.Name nextS (kid 0 e).pos) [.Name itS (kid 1 e).pos] [] e.pos
noncomputable def setB (st:Stmt):Stmt:= .Assign [.Name bS (skid 1 st).pos] (nextE (skid 0 st)) st.pos
noncomputable def vP:T:= .bin .BitAnd (.var 0) (.cst (.int 63))
noncomputable def tP:T:= .bin .BitAnd (.var 0) (.cst (.int 64))
noncomputable def bodyP (c:Cx) (sc:Scope) (l:List Stmt):Bool×List Stmt :=
 let s0:=hs l;let s2:=hs l.tail.tail;let a:=unT c sc (.cst (.int 6)) (skid 0 s0);let o:=unT c sc vP (skid 0 s2)
 (a.1&&o.1,[.AugAssign (.Name valS' (skid 1 s0).pos) .LShift a.2 s0.pos,setB (hs l.tail),.AugAssign (.Name valS' (skid 1 s2).pos) .BitOr o.2 s2.pos])
noncomputable def pvS (c:Cx) (sc:Scope) (body:List Stmt):Bool×List Stmt :=
 let s1:=hs body.tail;let s2:=hs body.tail.tail;let s3:=hs body.tail.tail.tail
 let v:=unT c sc vP (skid 0 s1);let t:=unT c sc tP (winfo s2).1;let b:=bodyP c sc (winfo s2).2
 (v.1&&t.1&&b.1 && !isBadC v.2,[setB (hs body),.Assign [.Name valS' (skid 1 s1).pos] v.2 s1.pos,.While t.2 b.2 [] s2.pos,.Return (some (.Name valS' (skid 0 s3).pos)) s3.pos])
variable [Tabs] [Frk]
theorem rm {e:Expr} {x:Str} {p:Pos} {line:Nat} {env:Env} (h:isBadC e=false) (h2:(e.ctorIdx==8)=false):swapsWith e (some (.Name x p)) line env=pure false:=by
 rcases fJ h with e1 |⟨_,elt,gens,sc',pos,e1⟩
 ·exact e1
 ·rw [e1] at h2;exact nomatch h2
theorem KD.sb {D L:Addr} {a b c:Heap} (x:KD D a b) (hn:a.get? L=none) (sb:∀ i o,i≠L→b.get? i=some o→c.get? i=some o) (hd:∀ o,b.get? L=some o→∀ vs,o.data ≠ .fields vs):KD D a c :=
 ⟨fun i o n e=>(x.kp i o n e).thenC (fun o' e'=> .inl (sb i o' (fun q=>ah (hn.symm.trans (q▸e))) e')) (Cc.sb sb hd),x.cd.sbn hn sb hd⟩
theorem KD.gone {D L:Addr} {a b:Heap} (x:KD D a b) (hn:a.get? L=none) (hd:∀ o,b.get? L=some o→∀ vs,o.data ≠ .fields vs):KD D a (TI.gone b [L]) :=
 x.sb hn (fun i o n e=>(TI.gone_get (fun q=>n (List.mem_singleton.mp q))).trans e) hd
theorem IsLI.keep {h h':Heap} {it l:Addr} {i:Nat} (x:h.IsListIter it l i) (k:∀ o,isTab o=false→h.get? it=some o→h'.get? it=some o):h'.IsListIter it l i :=
 let ⟨o,e1,e2,e3⟩:=x;⟨o,k o (bd e2 e3) e1,e2,e3⟩
theorem IsLI.ne {h:Heap} {it l a:Addr} {i:Nat} (x:h.IsListIter it l i) {o:Obj} (ha:h.get? a=some o) (hd:∀ vs,o.data ≠ .fields vs):a≠it:=fun q=>by
 obtain ⟨o',e1,e2,e3⟩:=x
 exact hd _ ((congrArg Obj.data (sm (ha.symm.trans (q▸e1)))).trans e3)
theorem IsLI.nodt {h:Heap} {it l:Addr} {i:Nat} (x:h.IsListIter it l i):¬ Dt h it:=fun ⟨o,es,n,e1,e2⟩=>IsLI.ne x e1 (fun vs q=>nomatch e2.symm.trans q) rfl
theorem IsLI.nsne {h:Heap} {it l a:Addr} {i:Nat} (x:h.IsListIter it l i) {m:Str→Option Value} (n:h.Ns a m):a≠it:=let ⟨o,es,ep,e1,e2,_⟩:=n;IsLI.ne x e1 fun vs q=>nomatch e2.symm.trans q
theorem IsLI.plne {h:Heap} {it l a:Addr} {i:Nat} (x:h.IsListIter it l i) {items:Array Value} (n:h.PlainList a items):a≠it:=let ⟨o,e⟩:=n;IsLI.ne x e (by intro vs q;exact nomatch (q:Data.seq _ _=_))
theorem KD.it {h h':Heap} {it l:Addr} {i:Nat} (x:h.IsListIter it l i) (sb:Heap.SameBut it h h'):KD it h h':=by
 refine ⟨fun b o n e=> .inl (sb.extBut b o n e),fun b o vs h1 h2 e=>sb.extBut b o (fun q=> ?_) e,fun b d=>d.kq fun o e=>sb.extBut b o (fun q=>IsLI.nodt x (q▸d)) e⟩
 obtain ⟨o',g1,g2,_⟩:=x
 obtain rfl:=sm (g1.symm.trans (q▸e))
 rw [g2] at h1
 exact nomatch (Value.type.inj h1)
section
variable {prog:Program} {w:World} {c:Cx} {hB:Heap} {G:ag} {mg mb:Str→Option Value} {A:Around} {E:Value→Shared→Prop} {s:Shared} {env:Env} {sc:Scope} {m:Str→Option Value}
theorem o8 (B:Base prog w c G hB mg mb) (e:E0 env sc) (hn:sc.names=nmP) (n:s.heap.Ns env.locals m) (kp:KB hB s.heap) {x:Expr} {it l:Addr} {i:Nat} {items:Array Value} {Q:Value→Shared→Prop} (hm:m itS=some (.ref it)) (hh:A.handled=none) (hit:s.heap.IsListIter it l i) (hL:s.heap.PlainList l items)
  (hq:∀ v h',items[i]? = some v→h'.IsListIter it l (i+1)→Heap.SameBut it s.heap h'→Q v {s with heap:=h'})
  (hE:items[i]? = none→∀ h' e,Stopped it s.heap e h'→E (.ref e) {s with heap:=h'}):wpAny (model prog w) A (eval (nextE x) env) Q E s:=by
 refine wpAny_Call_ofName (yH B e kp (by rw [hn];rfl) (by decide) pK (by decide) ?_)
 refine PySem.Calls.callWith_builtin rfl (PySem.Calls.evalArgs_plain (PySem.Calls.spliced_cons (dJ e n (by rw [hn];rfl) hm (by decide) (PySem.Calls.spliced_nil ?_))))
 show wpAny _ _ (call (.builtin "next") [.ref it]) _ _ _
 cases hi:items[i]? with
 |none=>exact pY hh hit (PL.isList hL) hi fun h' e st=>hE hi h' e st
 |some v=>exact o6 hit (PL.isList hL) hi fun h' h1 h2=>hq v h' hi h1 h2
noncomputable def MI (m:Str→Option Value) (x:Str) (o:Option Int):Prop:=∀ k,o=some k→∃ t,m x=some (.int k t)
structure PS (env:Env) (it l:Addr) (h0:Heap) (j:Nat) (b v:Option Int) (H:Heap):Prop where
 kd:KD it h0 H
 hit:H.IsListIter it l j
 fr:∃ m,H.Ns env.locals m∧m itS=some (.ref it)∧MI m bS b∧MI m valS' v
theorem PS.keep {it l:Addr} {h0 H H':Heap} {j:Nat} {b v:Option Int} (p:PS env it l h0 j b v H) (k:Kp H H'):PS env it l h0 j b v H' :=
 ⟨p.kd.trans (k.kd it),IsLI.keep p.hit (k.at it),let ⟨m,n,r⟩:=p.fr;⟨m,k.ns n,r⟩⟩
noncomputable def sP (b v:Option Int):MEnv:=[b.map fun i=>(.int i,false),v.map fun i=>(.int i,false)]
theorem PS.rr {it l:Addr} {h0 H:Heap} {j:Nat} {b v:Option Int} (p:PS env it l h0 j b v H) (e:E0 env sc) (hn:sc.names=nmP):RR env tbP (hEx env) (fun _=>0) (sP b v) H:=by
 obtain ⟨m,n,_,h1,h2⟩:=p.fr
 have one:∀ {x:Str} {o:Option Int} {t:List Str} {σ:MEnv},sc.names.lookup x=some .local→MI m x o→FV (valOf env m fun _=>none) H (hEx env) t σ→FV (valOf env m fun _=>none) H (hEx env) (x :: t) (o.map (fun i=>(D.int i,false)) :: σ):=fun {x o t σ} hk h V=>by
  cases o with
  |none=>exact .no V
  |some i =>
   obtain ⟨t,ht⟩:=h i rfl
   exact .has (by unfold valOf;rw [e.kind hk];exact ht) ⟨t,rfl⟩ V
 refine FV.rr e.ok ⟨n,fun x c q=> ?_,fun x c q=> ?_,fun x y c q=> ?_,fun x q=> ?_⟩ (br rfl) (one (by rw [hn];rfl) h1 (one (by rw [hn];rfl) h2 .nil))
 ·rw [e.cel] at q;exact ah q
 ·rw [e.cel] at q;exact ah q
 ·rw [e.cel] at q;exact ah q
 ·have:nmP.all (fun x=> !celK (some x.2))=true:=rfl
  have nk:∀ k,nmP.lookup x=some k→celK (some k)=false:=fun k hk=>nt (List.all_eq_true.mp this _ (PySem.mem_of_lookup hk))
  have nk2:∀ k,env.kindOf x=some k→celK (some k)=false:=fun k q=>nk k (by unfold Env.kindOf at q;rw [e.sc,hn] at q;exact q)
  exact q.elim (fun q=>nomatch nk2 _ q) fun q=>nomatch nk2 _ q
theorem PS.set {it l:Addr} {h0 H H':Heap} {j:Nat} {b v:Option Int} (p:PS env it l h0 j b v H) (hL:h0.get? env.locals=none) {m:Str→Option Value} (n:H.Ns env.locals m) (hm:m itS=some (.ref it)) {x:Str} {k:Value} (st:SetL env m x k H H') {b' v':Option Int} (hx:x≠itS)
  (hb:MI (fun z=>if z=x then some k else m z) bS b') (hv:MI (fun z=>if z=x then some k else m z) valS' v'):PS env it l h0 j b' v' H' :=
 ⟨p.kd.sb hL (fun i o n e=>st.1.extBut i o n e) (Ns.nofields n),IsLI.keep p.hit fun o t e=>st.1.extBut it o (Ne.symm (IsLI.nsne p.hit n)) e,_,st.2.2,(if_neg (Ne.symm hx)).trans hm,hb,hv⟩
theorem MI.here {m:Str→Option Value} {x:Str} {k:Int} {t:Tok}:MI (fun z=>if z=x then some (.int k t) else m z) x (some k):=fun k' e=>⟨t,(if_pos rfl).trans (sm e▸rfl)⟩
theorem MI.there {m:Str→Option Value} {x y:Str} {u:Value} {o:Option Int} (h:MI m x o) (n:x≠y):MI (fun z=>if z=y then some u else m z) x o:=fun k e=>let ⟨t,ht⟩:=h k e;⟨t,(if_neg n).trans ht⟩
theorem MI.no {m:Str→Option Value} {x:Str}:MI m x none:=fun k e=>ah e
end
end Mine
set_option genSizeOf false
set_option genInjectivity false
namespace Mine
noncomputable def IntsAt (items:Array Value) (is:List Int):Prop:=items.size=is.length∧∀ (j:Nat) (k:Int),is[j]? = some k→∃ t,items[j]? = some (Value.int k t)
theorem IntsAt.get {items:Array Value} {is:List Int} (x:IntsAt items is) {j:Nat} {v:Value} (h:items[j]? = some v):∃ k t,is[j]? = some k∧v = .int k t:=by
 have hj:j<is.length:=x.1▸(Array.getElem?_eq_some_iff.mp h).1
 obtain ⟨t,ht⟩:=x.2 j is[j] (List.getElem?_eq_getElem hj)
 exact ⟨_,t,List.getElem?_eq_getElem hj,sm (h.symm.trans ht)⟩
theorem IntsAt.none {items:Array Value} {is:List Int} (x:IntsAt items is) {j:Nat} (h:items[j]? = none):is.length≤j:=x.1▸Array.getElem?_eq_none_iff.mp h
theorem xA (j:Nat):(2:Int) ^ (6 * (j+1))=2 ^ (6 * j) * 64:=by rw [Nat.mul_succ,Int.pow_add];rfl
theorem rE {val b:Int} {j:Nat} (h:val<2 ^ (6 * j)):val * 64+b % 64<2 ^ (6 * (j+1)):=by
 rw [xA]
 have h2:=Int.emod_lt_of_pos b (show (0:Int)<64 by decide)
 have h3:=Int.mul_le_mul_of_nonneg_right (Int.add_one_le_of_lt h) (show (0:Int)≤64 by decide)
 rw [Int.add_mul] at h3
 exact Int.lt_of_lt_of_le (Int.add_lt_add_left h2 _) h3
theorem xo {val b:Int} (h:0≤val):0≤val * 64+b % 64:=Int.add_nonneg (Int.mul_nonneg h (by decide)) (Int.emod_nonneg _ (by decide))
theorem pq {val:Int} {j:Nat} (h0:0≤val) (h:val<2 ^ (6 * j)) (hj:j≤600):small val=true:=by
 obtain ⟨a,rfl⟩:=Int.eq_ofNat_of_zero_le h0
 have h1:a<2 ^ (6 * j):=Int.ofNat_lt.mp (by rw [Int.natCast_pow];exact h)
 unfold small BIG
 exact decide_eq_true (Nat.lt_of_lt_of_le h1 (Nat.pow_le_pow_right (by decide) (Nat.le_trans (Nat.mul_le_mul_left 6 hj) (by decide))))
theorem nW {a:Int} (h:small a=true) [Tabs] [Frk]:(Builtin.Int.intBits a:Int)+6≤2 ^ 27:=Int.le_trans (Int.add_le_add_right (Int.ofNat_le.mpr (cx h)) 6) (by decide)
variable [Tabs] [Frk]
section
variable {prog:Program} {w:World} {c:Cx} {hB:Heap} {G:ag} {mg mb:Str→Option Value} {A:Around} {E:Value→Shared→Prop} {s:Shared} {env:Env} {sc:Scope} {ps:List Str} {as:List Arg} {it l:Addr} {h0:Heap} {j:Nat} {b v:Option Int} {items:Array Value} {is:List Int} {n:Nat}
structure PX (prog:Program) (w:World) (c:Cx) (G:ag) (hB:Heap) (mg mb:Str→Option Value) (sc:Scope) (ps:List Str) (as:List Arg) (env:Env) (it l:Addr) (h0:Heap) (items:Array Value) (is:List Int) (A:Around):Prop where
 N:eE prog w c G hB mg mb sc ps as
 tb:c.tbl=tbP
 nm:sc.names=nmP
 e:E0 env sc
 kp:KB hB h0
 itB:hB.get? it=none
 hL:h0.get? env.locals=none
 pl:h0.PlainList l items
 ne:l≠it
 ia:IntsAt items is
 ar:Ar 0 A
theorem PX.list (X:PX prog w c G hB mg mb sc ps as env it l h0 items is A) {H:Heap} (p:PS env it l h0 j b v H):H.PlainList l items:=PL.at' X.pl fun o t e=>(p.kd.kp l o X.ne e).ob (.inl t)
theorem PX.int (X:PX prog w c G hB mg mb sc ps as env it l h0 items is A) (p:PS env it l h0 j b v s.heap) {t:T} {ex:Expr} (ht:(unT c sc t ex).1=true) {k:Int} {Q:Value→Shared→Prop} (hev:ev G (fun _ _=>none) (sP b v) true t=some (.int k)) (hQ:∀ h' tk tk',Kp s.heap h'→Q (.int k tk) {s with heap:=h',toks:=tk'}):wpAny (model prog w) A (eval (unT c sc t ex).2 env) Q E s:=by
 let q:At (wd0 prog w c G hB) sc (sP b v):=⟨A,s,env,hEx env,fun _=>0,.self X.e.sc,X.tb▸p.rr X.e X.nm,KD.kpB X.kp X.itB p.kd,X.ar⟩
 refine (dV X.N ht).vs _ q E true (.int k) Q hev fun v h' tk' k' d _=> ?_
 obtain ⟨tk,rfl⟩:=d.top
 exact hQ h' tk tk' k'
theorem PX.store (X:PX prog w c G hB mg mb sc ps as env it l h0 items is A) (p:PS env it l h0 j b v s.heap) {x:Str} {k:Int} {t:Tok} (hx:x=bS∨x=valS') {Q:Unit→Shared→Prop} (hQ:∀ h' tk,PS env it l h0 j (if x=bS then some k else b) (if x=valS' then some k else v) h'→Q () {s with heap:=h',toks:=tk}):wpAny (model prog w) A (storeName env x (.int k t)) Q E s:=by
 obtain ⟨m,n,hm,h1,h2⟩:=p.fr
 refine dK X.e n (by rw [X.nm];rcases hx with rfl |rfl<;>rfl) fun h' tk st=>hQ h' tk ?_
 rcases hx with rfl |rfl
 ·exact p.set X.hL n hm st (by decide) .here (h2.there (by decide))
 ·exact p.set X.hL n hm st (by decide) (h1.there (by decide)) .here
theorem PX.next (X:PX prog w c G hB mg mb sc ps as env it l h0 items is A) (p:PS env it l h0 j b v s.heap) {st:Stmt} {Q:Flow→Shared→Prop} (hQ:∀ k h' tk,is[j]? = some k→PS env it l h0 (j+1) (some k) v h'→Q .next {s with heap:=h',toks:=tk})
  (hE:is.length≤j→∀ h' e,Stopped it s.heap e h'→E (.ref e) {s with heap:=h'}):wpAny (model prog w) A (exec (setB st) env) Q E s:=by
 obtain ⟨m,n,hm,h1,h2⟩:=p.fr
 refine wpAny_Assign_Name (o8 X.N.B X.e X.nm n (KD.kpB X.kp X.itB p.kd) hm X.ar.hd p.hit (X.list p) (fun u h' hu hit sb=> ?_) fun hn=>hE (X.ia.none hn)) rfl
 obtain ⟨k,t,hk,rfl⟩:=X.ia.get hu
 have p':PS env it l h0 (j+1) b v h':=⟨p.kd.trans (KD.it p.hit sb),hit,m,n.sameBut sb (IsLI.nsne p.hit n),hm,h1,h2⟩
 exact X.store (s:={s with heap:=h'}) p' (.inl rfl) fun h'' tk q=>hQ k h'' tk hk q
theorem PX.turn (X:PX prog w c G hB mg mb sc ps as env it l h0 items is A) {b0 val:Int} (p:PS env it l h0 j (some b0) (some val) s.heap) {body:List Stmt} (hb:(bodyP c sc body).1=true) (v0:0≤val) (vs:small val=true) {Q:Flow→Shared→Prop}
  (hQ:∀ k h' tk,is[j]? = some k→PS env it l h0 (j+1) (some k) (some (val * 64+k % 64)) h'→Q .next {s with heap:=h',toks:=tk})
  (hE:is.length≤j→∀ h h' e tk v',PS env it l h0 j (some b0) v' h→Stopped it h e h'→E (.ref e) {s with heap:=h',toks:=tk}):wpAny (model prog w) A (execs (bodyP c sc body).2 env) Q E s:=by
 refine aa (a:=(unT c sc (.cst (.int 6)) (skid 0 (hs body))).1) (b:=(unT c sc vP (skid 0 (hs body.tail.tail))).1) hb fun q1 q2=> ?_
 obtain ⟨m,n,hm,h1,h2⟩:=p.fr
 obtain ⟨tv,hv⟩:=h2 val rfl
 have lv:env.kindOf valS'=some .local:=X.e.kind (by rw [X.nm];rfl)
 refine wpAny_execs_cons (wpAny_AugAssign_Name (wpAny_loadName_local X.e.ok.kind lv n hv (X.int (t:= .cst (.int 6)) (k:=6) p q1 rfl fun h2 t2 tk2 k2=>ilshift_int (by decide) (nW vs) ?_)))
 refine X.store (s:={s with heap:=h2,toks:=tk2+1}) (p.keep k2) (k:=val * 2 ^ 6) (.inr rfl) fun h3 tk3 p3=> ?_
 refine wpAny_execs_cons (X.next (s:={s with heap:=h3,toks:=tk3}) (b:=some b0) (v:=some (val * 2 ^ 6)) p3 (fun k h4 tk4 hk p4=> ?_) fun hn h4 e st=>hE hn h3 h4 e tk3 _ p3 st)
 obtain ⟨m,n,hm,h1,h2⟩:=p4.fr
 obtain ⟨tv,hv⟩:=h2 _ rfl
 refine wpAny_execs_cons (wpAny_AugAssign_Name (wpAny_loadName_local (s:={s with heap:=h4,toks:=tk4}) X.e.ok.kind lv n hv (X.int (s:={s with heap:=h4,toks:=tk4}) (t:=vP) p4 q2 (congrArg (some ∘ D.int) (bitAnd_m6 k)) fun h5 t5 tk5 k5=>ior_int ?_)))
 rw [show Builtin.bitOr (val * 2 ^ 6) (k % 64)=val * 64+k % 64 from Aj v0 (Int.emod_nonneg _ (by decide)) (Int.emod_lt_of_pos _ (by decide))]
 exact X.store (s:={s with heap:=h5,toks:=tk5+1}) (p4.keep k5) (.inr rfl) fun h6 tk6 p6=>wpAny_execs_nil (hQ k h6 tk6 hk p6)
theorem PX.raise (X:PX prog w c G hB mg mb sc ps as env it l h0 items is (A.deeper env)) {outer:List Env} (hfr:A.frames=some outer) (u:Ups outer h0) {H:Heap} (p:PS env it l h0 j b v H) {h':Heap} {e:Addr} {tk:Nat} (st:Stopped it H e h')
  (hE:∀ e h' tk hr,KD it h0 hr→(∀ o,hr.get? it=some o→o.cls ≠ .type "code")→Flown it outer e hr h'→E (.ref e) {s with heap:=h',toks:=tk}):wpAny (model prog w) (A.deeper env) (leaving env (.ref e)) (fun _ s''=>E (.ref e) s'') (fun e' s''=>E e' s'') {s with heap:=h',toks:=tk}:=by
 obtain ⟨m,n,_⟩:=p.fr
 refine nN (outer:=outer) (Around.frames_deeper hfr) X.e.frm (h:=H) (fun e' he'=> ?_) (IsLI.nodt p.hit) st fun h2 F=> ?_
 ·rcases List.mem_cons.mp he' with q |q
  ·subst q;exact ⟨by rw [X.e.ok.kind];decide,_,X.e.frm,Ns.dt n⟩
  ·exact (u.cd p.kd.cd.2) e' q
 ·refine hE e h2 tk _ (p.kd.gone X.hL (Ns.nofields n)) (fun o ho=> ?_) F
  obtain ⟨o',g1,g2,_⟩:=p.hit
  rw [← sm (g1.symm.trans (TI.gone_some ho).2),g2]
  exact fun q=>nomatch Value.type.inj q
structure PIn (env:Env) (it l:Addr) (h0:Heap) (is:List Int) (i j:Nat) (b val:Int) (H:Heap):Prop where
 lt:i<j
 le:j≤is.length
 v0:0≤val
 v1:val<2 ^ (6 * j)
 eq:pv (is.drop i)=pv1 b val (is.drop j)
 ps:PS env it l h0 j (some b) (some val) H
theorem PIn.next {i j:Nat} {b val k:Int} {H H':Heap} (p:PIn env it l h0 is i j b val H) (hb:(Builtin.bitAnd b 64==0)=false) (hk:is[j]? = some k) (q:PS env it l h0 (j+1) (some k) (some (val * 64+k % 64)) H'):PIn env it l h0 is i (j+1) k (val * 64+k % 64) H':=by
 obtain ⟨hj,e⟩:=List.getElem?_eq_some_iff.mp hk
 refine ⟨Nat.lt_succ_of_lt p.lt,hj,xo p.v0,rE p.v1,?_,q⟩
 rw [p.eq,List.drop_eq_getElem_cons hj,e,pv1_cons,hb];rfl
theorem PX.loop (X:PX prog w c G hB mg mb sc ps as env it l h0 items is (A.deeper env)) {i j:Nat} {b val:Int} {st:Stmt} {rest:List Stmt} {pos:Pos} (ht:(unT c sc tP (winfo st).1).1=true) (hb:(bodyP c sc (winfo st).2).1=true) (h600:is.length≤600) (p:PIn env it l h0 is i j b val s.heap)
  {Q:Flow→Shared→Prop} {E1:Value→Shared→Prop} (pass:PassesOwn (model prog w) (A.deeper env) env E1)
  (hQ:∀ j b val h' tk,PIn env it l h0 is i j b val h'→(Builtin.bitAnd b 64==0)=true→wpAny (model prog w) (A.deeper env) (execs rest env) Q E1 {s with heap:=h',toks:=tk})
  (hE:pv (is.drop i)=none→∀ h h' e tk b v j,PS env it l h0 j b v h→Stopped it h e h'→E1 (.ref e) {s with heap:=h',toks:=tk}) :
  wpAny (model prog w) (A.deeper env) (execs (.While (unT c sc tP (winfo st).1).2 (bodyP c sc (winfo st).2).2 [] pos :: rest) env) Q E1 s:=by
 refine wpAny_execs_cons (wpAny_While (codeAny_whileLoop (fun nn s'=>∃ H tk j b val,s' = {s with heap:=H,toks:=tk}∧nn=is.length - j∧PIn env it l h0 is i j b val H) ?_ (is.length - j) ⟨s.heap,s.toks,j,b,val,rfl,rfl,p⟩))
 rintro nn s' ⟨H,tk,j,b,val,rfl,rfl,q⟩
 refine wpAny_passesOwn pass ?_
 let a:At (wd0 prog w c G hB) sc (sP (some b) (some val)):=⟨A.deeper env,{s with heap:=H,toks:=tk},env,hEx env,fun _=>0,.self X.e.sc,X.tb▸q.ps.rr X.e X.nm,KD.kpB X.kp X.itB q.ps.kd,X.ar⟩
 refine (dV X.N ht).is _ a _ (.int (Builtin.bitAnd b 64)) _ _ rfl rfl fun h5 tk5 k5=> ?_
 have q5:PIn env it l h0 is i j b val h5:={q with ps:=q.ps.keep k5}
 cases hb0:(Builtin.bitAnd b 64==0) with
 |true =>
  rw [if_neg (show ¬ ((!true)=true) by decide)]
  exact wpAny_execs_nil (hQ j b val h5 tk5 q5 hb0)
 |false =>
  rw [if_pos (show (!false)=true by decide)]
  refine X.turn (s:={s with heap:=h5,toks:=tk5}) q5.ps hb q.v0 (pq q.v0 q.v1 (Nat.le_trans q.le h600)) (fun k h6 tk6 hk p6=> ?_) fun hn h h' e tk6 v' p6 stp=>pass _ _ (hE ?_ h h' e tk6 _ _ _ p6 stp)
  ·have:=q5.next hb0 hk p6
   exact ⟨is.length - (j+1),Nat.sub_succ_lt_self _ _ this.le,h6,tk6,j+1,k,_,rfl,rfl,this⟩
  ·rw [q.eq,List.drop_eq_nil_of_le hn,pv1_nil,hb0];rfl
noncomputable def pmP:List Str:=["iterator"]
theorem sQ {is:List Int} {i:Nat} {k:Int} (h:is[i]? = some k):pv (is.drop i)=pv1 k (k % 64) (is.drop (i+1)):=by
 obtain ⟨hi,e⟩:=List.getElem?_eq_some_iff.mp h
 rw [List.drop_eq_getElem_cons hi,e];rfl
theorem sM (k:Int) (j:Nat):k % 64<2 ^ (6 * (j+1)):=by
 rw [xA]
 have h1:(1:Int)≤2 ^ (6 * j):=Int.pow_pos (by decide)
 exact Int.lt_of_lt_of_le (Int.emod_lt_of_pos k (show (0:Int)<64 by decide)) (Int.mul_le_mul_of_nonneg_right h1 (show (0:Int)≤64 by decide))
theorem zO (off:Frk.fs=none) (N:eE prog w c G hB mg mb sc pmP as) (htb:c.tbl=tbP) (hnm:sc.names=nmP) {body:List Stmt} (hok:(pvS c sc body).1=true) (hu:(pvS c sc body).2=body) {f:Addr} {name:Str} (da:DefAt hB f name ⟨[],as,none,[],[],none,[]⟩ body sc)
  {Q:Value→Shared→Prop} {outer:List Env} {i:Nat} (ar:Ar 1 A) (hfr:A.frames=some outer) (u:Ups outer s.heap) (kp:KB hB s.heap) (hitB:hB.get? it=none) (hit:s.heap.IsListIter it l i) (hL:s.heap.PlainList l items) (hia:IntsAt items is) (h600:is.length≤600)
  (hQ:∀ v j h' tk t,i<j→j≤is.length→pv (is.drop i)=some (v,is.drop j)→h'.IsListIter it l j→KD it s.heap h'→Q (.int v t) {s with heap:=h',toks:=tk})
  (hE:pv (is.drop i)=none→∀ e h' tk hr,KD it s.heap hr→(∀ o,hr.get? it=some o→o.cls ≠ .type "code")→Flown it outer e hr h'→E (.ref e) {s with heap:=h',toks:=tk}) :
  wpAny (model prog w) A (call (.ref f) [.ref it]) Q E s:=by
 obtain ⟨o,pm,cd,doc,tb,oc,vc,tc,h1,h2,h3,h4,h5,h6,h7,h8⟩:=da.at'
 have nofree:∀ x,sc.names.lookup x=some .free→False:=fun x q=>by
  rw [hnm] at q
  exact nomatch nt (List.all_eq_true.mp (show nmP.all (fun x=> !(x.2 == .free))=true from rfl) _ (PySem.mem_of_lookup q))
 refine kV (fd:=Calls.docDef name ⟨[],as,none,[],[],none,[]⟩ body sc pm (.ref cd) doc) (cm:=fun _=>none) (σ:=[none,none]) off N.lim N.I N.has (kp.ob h1 (.inl (bg h2))) h2 rfl rfl rfl rfl rfl rfl ⟨cd,oc,vc,tc,rfl,kp.ob h3 (.inl (bd h4 h5)),h5,h6⟩ (fun x c q=>ah q) (fun x y c q=>ah q) (fun x q=>(nofree x q).elim) (fun x c q=>ah q) kp ar rfl (fun h Ex _ _=>htb ▸ .no (.no .nil)) fun env h₀ tk he S n k0 hn ar1=> ?_
 have X:PX prog w c G hB mg mb sc pmP as env it l s.heap items is (A.deeper env):=⟨N,htb,hnm,⟨S.rr.ok,he▸rfl,he▸rfl,he▸rfl⟩,kp,hitB,hn,hL,IsLI.plne hit hL,hia,ar1⟩
 have p0:PS env it l s.heap i none none h₀:=⟨k0.kd it,IsLI.keep hit (k0.at it),_,n,rfl,.no,.no⟩
 refine aa hok fun hok q4=>aa hok fun hok q3=>aa hok fun q1 q2=> ?_
 rw [← hu]
 have raise:=fun {j b v} (hpv:pv (is.drop i)=none) (h h' e tk) (p:PS env it l s.heap j b v h) (st:Stopped it h e h')=>X.raise (s:=s) (tk:=tk) (E:=E) hfr u p st (hE hpv)
 refine wpAny_execs_cons (X.next (s:={s with heap:=h₀,toks:=tk}) p0 (fun k h1 tk1 hk p1=> ?_) fun hn h' e st=>raise (by rw [List.drop_eq_nil_of_le hn];rfl) h₀ h' e tk p0 st)
 refine wpAny_execs_cons (wpAny_Assign_Name (X.int (s:={s with heap:=h1,toks:=tk1}) (t:=vP) p1 q1 (congrArg (some ∘ D.int) (bitAnd_m6 k)) fun h2 t2 tk2 k2=>X.store (s:={s with heap:=h2,toks:=tk2}) (p1.keep k2) (.inr rfl) fun h3 tk3 p3=> ?_) (rm (nt q4) rfl))
 refine X.loop (s:={s with heap:=h3,toks:=tk3}) q2 q3 h600 ⟨Nat.lt_succ_self _,(List.getElem?_eq_some_iff.mp hk).1,Int.emod_nonneg _ (by decide),sM k i,sQ hk,p3⟩ PassesOwn.leaving (fun j b val h4 tk4 p4 hb=> ?_) fun hpv h h' e tk b v j p st=>raise hpv h h' e tk p st
 obtain ⟨m,n,hm,h1,h2⟩:=p4.ps.fr
 obtain ⟨tv,hv⟩:=h2 val rfl
 refine wpAny_execs_cons (wpAny_Return_some (dJ (s:={s with heap:=h4,toks:=tk4}) X.e n (by rw [hnm];rfl) hv (by decide) ?_))
 exact hQ val j h4 tk4 tv p4.lt p4.le (p4.eq.trans (lc hb _)) p4.ps.hit p4.ps.kd
end
end Mine
set_option genSizeOf false
set_option genInjectivity false
namespace Mine
theorem IntsAt.push {items:Array Value} {is:List Int} (x:IntsAt items is) (k:Int) (t:Tok):IntsAt (items.push (.int k t)) (is++[k]):=by
 obtain ⟨h1,h2⟩:=x
 refine ⟨by rw [Array.size_push,h1,List.length_append];rfl,fun j k' hj=> ?_⟩
 rw [Array.getElem?_push]
 by_cases q:j=items.size
 ·rw [if_pos q]
  rw [q,h1,List.getElem?_append_right (Nat.le_refl _),Nat.sub_self] at hj
  exact ⟨t,congrArg (fun i=>some (Value.int i t)) (sm hj)⟩
 ·rw [if_neg q]
  rcases Nat.lt_or_ge j is.length with hl |hl
  ·rw [List.getElem?_append_left hl] at hj
   exact h2 j k' hj
  ·have:1≤j - is.length:=Nat.sub_pos_of_lt (Nat.lt_of_le_of_ne hl fun e=>q (e.symm.trans h1.symm))
   rw [List.getElem?_append_right hl,List.getElem?_eq_none this] at hj
   exact ah hj
theorem yM {env:Env} {line:Nat} {x y:Str} {px py:Pos} {names:List Str} (h:names=[Expr.Name x px,Expr.Name y py].filterMap (nameAt env line)) (hl:names.length=2):names=[x,y]:=by
 subst h
 rw [List.filterMap_cons,List.filterMap_cons,List.filterMap_nil] at hl ⊢
 cases hx:nameAt env line (.Name x px) with
 |none =>
  rw [hx] at hl
  cases hy:nameAt env line (.Name y py)<;>rw [hy] at hl<;>exact nomatch hl
 |some u =>
  rw [hx] at hl
  cases hy:nameAt env line (.Name y py) with
  |none=>rw [hy] at hl;exact nomatch hl
  |some v =>
   obtain rfl:x=u:=gd hx fun _ q=>sm q
   obtain rfl:y=v:=gd hy fun _ q=>sm q
   rfl
theorem kM {env:Env} {outer:List Env} {L:Addr} (hf:env.frame=some L):frs (env :: outer)=L :: frs outer:=by
 unfold frs;rw [List.filterMap_cons,hf]
variable [Tabs] [Frk]
theorem IntsAt.den {items:Array Value} {is:List Int} (x:IntsAt items is) (h:Heap) (X:Addr→Prop):DenL h X (is.map .int) items.toList:=by
 refine DenL.of_get (by rw [Array.length_toList,x.1,List.length_map]) fun i d hi=> ?_
 rw [List.getElem?_map] at hi
 cases e:is[i]? with
 |none=>rw [e] at hi;exact ah hi
 |some k =>
  rw [e] at hi
  obtain ⟨t,ht⟩:=x.2 i k e
  refine ⟨.int k t,by rw [Array.getElem?_toList];exact ht,?_⟩
  rw [← sm hi];exact ⟨t,rfl⟩
theorem IntsAt.of_den {items:Array Value} {is:List Int} {h:Heap} {X:Addr→Prop} (x:DenL h X (is.map .int) items.toList):IntsAt items is:=by
 refine ⟨by have:=x.length;rw [Array.length_toList,List.length_map] at this;exact this,fun j k hj=> ?_⟩
 obtain ⟨v,h1,t,rfl⟩:=x.get (i:=j) (d:= .int k) (by rw [List.getElem?_map,hj];rfl)
 exact ⟨t,by rw [Array.getElem?_toList] at h1;exact h1⟩
section
variable {prog:Program} {w:World} {A:Around} {E:Value→Shared→Prop} {s:Shared} {env:Env} {sc:Scope} {m:Str→Option Value}
noncomputable abbrev Two (env:Env) (m:Str→Option Value) (x y:Str) (v u:Value) (h h':Heap):Prop:=(∀ b o,b≠env.locals→h.get? b=some o→h'.get? b=some o)∧Cd h h'∧∃ m',h'.Ns env.locals m'∧m' x=some v∧m' y=some u∧∀ z,z≠x→z≠y→m' z=m z
theorem SetL.two {x y:Str} {v u:Value} {h h1 h2:Heap} (hxy:x≠y) (a:SetL env m x v h h1) (b:SetL env (fun z=>if z=x then some v else m z) y u h1 h2):Two env m x y v u h h2 :=
 ⟨fun i o n e=>b.1.extBut i o n (a.1.extBut i o n e),a.2.1.trans b.2.1,_,b.2.2,(if_neg hxy).trans (if_pos rfl),if_pos rfl,fun z h1 h2=>(if_neg h2).trans (if_neg h1)⟩
theorem SetL.owt {x y:Str} {v u:Value} {h h1 h2:Heap} (hxy:x≠y) (a:SetL env m y u h h1) (b:SetL env (fun z=>if z=y then some u else m z) x v h1 h2):Two env m x y v u h h2 :=
 ⟨fun i o n e=>b.1.extBut i o n (a.1.extBut i o n e),a.2.1.trans b.2.1,_,b.2.2,if_pos rfl,(if_neg (Ne.symm hxy)).trans (if_pos rfl),fun z h1 h2=>(if_neg h1).trans (if_neg h2)⟩
theorem n8 {x y:Str} {px py q q' pos:Pos} {k k':Nat} {vs:List Expr} {Q:Flow→Shared→Prop} (e:E0 env sc) (hc:vs.all (constantsAlone 8)=false) (hx:sc.names.lookup x=some .local) (hy:sc.names.lookup y=some .local) (hxy:x≠y) (hh:A.handled=none)
  (h:wpAny (model prog w) A (eval (.Tuple vs k' q') env) (fun v s₁=>∃ a v1 v2 m,v = .ref a∧TupAt s₁.heap a #[v1,v2]∧s₁.heap.Ns env.locals m ∧
   ∀ h2,Kq s₁.heap h2→∀ h' tk,Two env m x y v1 v2 h2 h'→Q .next {s₁ with heap:=h',toks:=tk}) E s) :
  wpAny (model prog w) A (exec (.Assign [.Tuple [.Name x px,.Name y py] k q] (.Tuple vs k' q') pos) env) Q E s:=by
 have ex:∀ {h h':Heap},Heap.ExtBut h.objs.size h h'→Kq h h':=fun k b o e=>k b o (Nat.ne_of_lt (Heap.lt_size e)) e
 rcases eB (p:=k) (q:=q) (p':=k') (q':=q') (env:=env) (ts:=[.Name x px,.Name y py]) hc with hw |⟨names,line,hw,h23,hn1,hn2,hn3⟩
 ·refine wpAny_Assign_stores (wpAny_mono h (fun v s₁ hv=> ?_) fun _ _ e=>e) bK hw
  obtain ⟨a,v1,v2,m,rfl,tup,n,P⟩:=hv
  show wpAny _ A (assign (.Tuple [.Name x px,.Name y py] k q) env (.ref a)) _ E _
  refine wpAny_assign_Tuple hh (TupAt.isTup tup) rfl rfl fun h2 k2=> ?_
  have kq:=ex k2
  show wpAny _ A (do holding [v2] (do standAt px;bindName env x v1);do holding [] (do standAt py;bindName env y v2);pure ()) _ E _
  refine wpAny_bind (wpAny_holding (wpAny_bind (wpAny_standAt (wpAny_bindName (dK (s:={s₁ with heap:=h2}) e (n.keeps kq) hx fun h3 tk3 s3=> ?_)))))
  exact wpAny_bind (wpAny_holding (wpAny_bind (wpAny_standAt (wpAny_bindName (dK (s:={s₁ with heap:=h3,toks:=tk3}) e s3.2.2 hy fun h4 tk4 s4=>wpAny_pure (P h2 kq h4 tk4 (s3.two hxy s4)))))))
 ·rw [arm_exec_Assign]
  refine wpAny_bind (wpAny_standAt (wpAny_bind (wpAny_of_eq bK ?_)))
  rw [if_neg (by decide)]
  refine wpAny_bind (wpAny_mono h (fun v s₁ hv=> ?_) fun _ _ e=>e)
  obtain ⟨a,v1,v2,m,rfl,tup,n,P⟩:=hv
  refine wpAny_bind (wpAny_of_eq hw ?_)
  obtain rfl:=yM hn1 hn2
  unfold assignStores
  dsimp only
  refine wpAny_bind (wpAny_rule (wpAny_bind ?_))
  show wpAny _ A (unpackItems (.ref a) (#[v1,v2]:Array Value).size none) _ E _
  refine wpAny_unpackItems_tuple hh (TupAt.isTup tup) fun h2 k2=> ?_
  have kq:=ex k2
  refine wpAny_bind ?_
  show wpAny _ A (do holding [v1] (bindName env y v2);do holding [] (bindName env x v1);pure ()) _ E _
  refine wpAny_bind (wpAny_holding (wpAny_bindName (dK (s:={s₁ with heap:=h2}) e (n.keeps kq) hy fun h3 tk3 s3=> ?_)))
  exact wpAny_bind (wpAny_holding (wpAny_bindName (dK (s:={s₁ with heap:=h3,toks:=tk3}) e s3.2.2 hx fun h4 tk4 s4=>wpAny_pure (wpAny_pure (P h2 kq h4 tk4 (s3.owt hxy s4))))))
end
end Mine
set_option genSizeOf false
set_option genInjectivity false
namespace Mine
noncomputable def tbR:List Str:=["octets"]
noncomputable def nmR:List (Str×NameKind):=[("octets",.local),("tape",.local),("numbers",.local),("turn",.local),("iter",.globalImplicit),("range",.globalImplicit),("len",.globalImplicit),("_parse_varint",.globalImplicit),("StopIteration",.globalImplicit)]
noncomputable def octS:Str:="octets"
noncomputable def tapeS:Str:="tape"
noncomputable def numS:Str:="numbers"
noncomputable def turnS:Str:="turn"
noncomputable def iterS:Str:="iter"
noncomputable def pvarS:Str:="_parse_varint"
noncomputable def stopS:Str:="StopIteration"
noncomputable def tinfo:Stmt→List Stmt×List ExceptHandler
 | .Try b h _ _ _=>(b,h)
 |_=>([],[])
noncomputable def hinfo:ExceptHandler→Expr×List Stmt×Pos
 | .ExceptHandler t _ b p=>(t.getD default,b,p)
noncomputable def rR:T:= .bin .Add (.blt .len (.cons (.var 0) .nil)) (.cst (.int 1))
noncomputable def tryR (st:Stmt):Stmt :=
 let s0:=hs (tinfo st).1;let c:=skid 0 s0;let g:=kid 1 c;let h:=hinfo ((tinfo st).2.headD default);let r:=hs h.2.1
 .Try [.Expr (.Call (.Attribute (.Name numS (kid 0 (kid 0 c)).pos) appendS (kid 0 c).pos) [.Call (.Name pvarS (kid 0 g).pos) [.Name tapeS (kid 1 g).pos] [] g.pos] [] c.pos) s0.pos]
  [.ExceptHandler (some (.Name stopS h.1.pos)) none [.Return (some (.Name numS (skid 0 r).pos)) r.pos] h.2.2] [] [] st.pos
noncomputable def rdS (c:Cx) (sc:Scope) (body:List Stmt):Bool×List Stmt :=
 let s0:=hs body;let t:=skid 1 s0;let v:=skid 0 s0;let g:=kid 0 v;let s1:=hs body.tail;let i:=skid 0 s1;let st:=hs (sbod s1);let m:=kid 0 (skid 0 (hs (tinfo st).1))
 let r:=unT c sc rR (kid 1 i)
 (r.1&&m.pos.endLine==(skid 0 (hs (tinfo st).1)).pos.line,
  [.Assign [.Tuple [.Name tapeS (kid 0 t).pos,.Name numS (kid 1 t).pos] (numE t) t.pos] (.Tuple [.Call (.Name iterS (kid 0 g).pos) [.Name octS (kid 1 g).pos] [] g.pos,.List [] (kid 1 v).pos] (numE v) v.pos) s0.pos,
  .For (.Name turnS (skid 1 s1).pos) (.Call (.Name rangeS (kid 0 i).pos) [r.2] [] i.pos) [tryR st] [] s1.pos])
theorem lL {n:Nat} {xs r:List Int} {v:Int} (h:pv xs=some (v,r)):rd (n+1) xs=v :: rd n r:=by rw [rd,h]
theorem lT {n:Nat} {xs:List Int} (h:pv xs=none):rd (n+1) xs=[]:=by rw [rd,h]
theorem sF {N k:Nat} (h:k<N):((N - k:Nat):Int) - 1=((N - (k+1):Nat):Int):=by omega
theorem tV {N k:Nat} (h:k<N):(0:Int)<((N - k:Nat):Int):=by omega
theorem i8 {N k:Nat} (h:k<N):N - k=(N - (k+1))+1:=by omega
variable [Tabs] [Frk]
theorem Kp.new {s0 H H':Heap} {a:Addr} (k:Kp s0 H) (hn:s0.get? a=Option.none) (sb:∀ b o,b≠a→H.get? b=some o→H'.get? b=some o) (nc:∀ o vs,H.get? a=some o→o.cls = .type "code"→o.data ≠ .fields vs):Kp s0 H' :=
 fun b o e=>(k b o e).thenC (fun o' e'=> .inl (sb b o' (fun q=>ah (hn.symm.trans (q▸e))) e')) fun b o vs h1 h2 e'=>sb b o (fun q=>nc o vs (q▸e') h1 h2) e'
section
variable {prog:Program} {w:World} {c:Cx} {hB:Heap} {G:ag} {mg mb:Str→Option Value} {A:Around} {E:Value→Shared→Prop} {s:Shared} {env:Env} {sc:Scope} {ps:List Str} {as:List Arg} {it l nl I:Addr} {s0:Heap} {items:Array Value} {is:List Int}
structure RS (env:Env) (it l nl I:Addr) (N:Nat) (s0:Heap) (k j:Nat) (outs:List Int) (H:Heap):Prop where
 kp:Kp s0 H
 hit:H.IsListIter it l j
 li:∃ ots,H.PlainList nl ots∧IntsAt ots outs
 ri:IsRangeIter H I (k:Int) ((N - k:Nat):Int) 1
 fr:∃ m,H.Ns env.locals m∧m tapeS=some (.ref it)∧m numS=some (.ref nl)
structure RN (env:Env) (it nl I:Addr) (s0:Heap):Prop where
 L:s0.get? env.locals=none
 it:s0.get? it=none
 nl:s0.get? nl=none
 I:s0.get? I=none
theorem uI {H:Heap} {a:Addr} {x y z:Int} (r:IsRangeIter H I x y z) {o:Obj} (h:H.get? a=some o) (hc:o.cls ≠ .type "range_iterator"):a≠I:=fun q=>hc (by rw [sm (h.symm.trans (q▸r))])
theorem uh {H:Heap} {x y z:Int} (r:IsRangeIter H I x y z) (p:H.PlainList nl items):nl≠I:=let ⟨n,e⟩:=p;uI r e fun q=>nomatch Value.type.inj q
theorem uc {H:Heap} {x y z:Int} {j:Nat} (r:IsRangeIter H I x y z) (p:H.IsListIter it l j):it≠I:=let ⟨o,e,h,_⟩:=p;uI r e fun q=>nomatch Value.type.inj (h.symm.trans q)
theorem um {H:Heap} {x y z:Int} {m:Str→Option Value} {a:Addr} (r:IsRangeIter H I x y z) (p:H.Ns a m):a≠I:=fun q=>by
 obtain ⟨o,es,ep,e1,e2,_⟩:=p
 have e:Data.dict es ep=Data.fields _:=e2.symm.trans (congrArg Obj.data (sm (e1.symm.trans (q▸r))))
 exact nomatch e
theorem jb {H:Heap} {m:Str→Option Value} {a:Addr} (r:H.PlainList nl items) (p:H.Ns a m):a≠nl:=fun q=>PL.nodt r (q▸Ns.dt p)
theorem RS.range {N k j:Nat} {outs:List Int} {H H':Heap} (r:RS env it l nl I N s0 k j outs H) (n:RN env it nl I s0) (hk:k<N) (ri:IsRangeIter H' I ((k:Int)+1) (((N - k:Nat):Int) - 1) 1) (sb:Heap.SameBut I H H'):RS env it l nl I N s0 (k+1) j outs H':=by
 obtain ⟨kp,hit,⟨ots,pl,ia⟩,ri0,m,ns,h1,h2⟩:=r
 refine ⟨kp.new n.I (fun b o q e=>sb.extBut b o q e) (fun o vs e h=> ?_),IsLI.keep hit fun o t e=>sb.extBut it o (uc ri0 hit) e,⟨ots,PL.at' pl fun o t e=>sb.extBut nl o (uh ri0 pl) e,ia⟩,sF hk▸ri,m,ns.sameBut sb (um ri0 ns),h1,h2⟩
 rw [← sm (ri0.symm.trans e)] at h
 exact nomatch Value.type.inj h
theorem RS.turn {N k j:Nat} {outs:List Int} {H H':Heap} (r:RS env it l nl I N s0 k j outs H) (n:RN env it nl I s0) {m:Str→Option Value} (ns:H.Ns env.locals m) (h1:m tapeS=some (.ref it)) (h2:m numS=some (.ref nl)) {v:Value} (st:SetL env m turnS v H H'):RS env it l nl I N s0 k j outs H':=by
 obtain ⟨kp,hit,⟨ots,pl,ia⟩,ri0,_⟩:=r
 exact ⟨kp.new n.L (fun b o q e=>st.1.extBut b o q e) (fun o vs e _=>Ns.nofields ns o e vs),IsLI.keep hit fun o t e=>st.1.extBut it o (Ne.symm (IsLI.nsne hit ns)) e,⟨ots,PL.at' pl fun o t e=>st.1.extBut nl o (Ne.symm (jb pl ns)) e,ia⟩,st.1.extBut I _ (Ne.symm (um ri0 ns)) ri0,_,st.2.2,(if_neg (by decide)).trans h1,(if_neg (by decide)).trans h2⟩
theorem RS.read {N k j j':Nat} {outs:List Int} {H H':Heap} (r:RS env it l nl I N s0 k j outs H) (n:RN env it nl I s0) (hit':H'.IsListIter it l j') (kd:KD it H H'):RS env it l nl I N s0 k j' outs H':=by
 obtain ⟨kp,hit,⟨ots,pl,ia⟩,ri0,m,ns,h1,h2⟩:=r
 exact ⟨fun b o e=>(kp b o e).then (fun o' e'=>kd.kp b o' (fun q=>ah (n.it.symm.trans (q▸e))) e') kd.cd,hit',⟨ots,PL.at' pl fun o t e=>(kd.kp nl o (IsLI.plne hit pl) e).ob (.inl t),ia⟩,(kd.kp I _ (Ne.symm (uc ri0 hit)) ri0).ob (.inl rfl),m,kd.ns ns (IsLI.nsne hit ns),h1,h2⟩
theorem RS.add {N k j:Nat} {outs:List Int} {v:Int} {t:Tok} {H H':Heap} (r:RS env it l nl I N s0 k j outs H) (n:RN env it nl I s0) {ots:Array Value} (pl:H.PlainList nl ots) (ia:IntsAt ots outs) (pl':H'.PlainList nl (ots.push (.int v t))) (sb:Heap.SameBut nl H H'):RS env it l nl I N s0 k j (outs++[v]) H':=by
 obtain ⟨kp,hit,_,ri0,m,ns,h1,h2⟩:=r
 exact ⟨kp.new n.nl (fun b o q e=>sb.extBut b o q e) (fun o vs e _=>PL.nofields pl o e vs),IsLI.keep hit fun o t e=>sb.extBut it o (Ne.symm (IsLI.plne hit pl)) e,⟨_,pl',ia.push v t⟩,sb.extBut I _ (Ne.symm (uh ri0 pl)) ri0,m,ns.sameBut sb (jb pl ns),h1,h2⟩
structure RI (env:Env) (it l nl I:Addr) (is:List Int) (s0:Heap) (k j:Nat) (outs:List Int) (H:Heap):Prop where
 kj:k≤j
 jl:j≤is.length
 len:outs.length=k
 eq:rd (is.length+1) is=outs++rd (is.length+1 - k) (is.drop j)
 rs:RS env it l nl I (is.length+1) s0 k j outs H
theorem RI.lt {k j:Nat} {outs:List Int} {H:Heap} (r:RI env it l nl I is s0 k j outs H):k<is.length+1:=Nat.lt_succ_of_le (Nat.le_trans r.kj r.jl)
end
end Mine
set_option genSizeOf false
set_option genInjectivity false
namespace Mine
variable [Tabs] [Frk]
theorem Flown.gw {it e:Addr} {outer:List Env} {h h':Heap} (F:Flown it outer e h h') (hdt:∀ b∈frs outer,Dt h b) {b:Addr} {o:Obj} (hb:b≠it) (hf:b∈frs outer→Tabs.fa b) (e1:h.get? b=some o):Gw h' b o:=by
 rcases F.kept hb e1 with ⟨_,q⟩ |⟨hm,sl,q⟩
 ·exact .inl q
 ·obtain ⟨o',es,n,g1,g2⟩:=hdt b hm
  obtain rfl:=sm (e1.symm.trans g1)
  exact .inr (.inr ⟨hf hm,es,n,sl,g2,q⟩)
theorem Flown.cc {it e:Addr} {outer:List Env} {h h':Heap} (F:Flown it outer e h h') (hdt:∀ b∈frs outer,Dt h b) (hit:∀ o,h.get? it=some o→o.cls ≠ .type "code"):Cc h h':=fun b o vs h1 h2 e1=>by
 rcases F.kept (fun q=>hit o (q▸e1) h1) e1 with ⟨_,q⟩ |⟨hm,sl,q⟩
 ·exact q
 ·obtain ⟨o',es,n,g1,g2⟩:=hdt b hm
  obtain rfl:=sm (e1.symm.trans g1)
  exact nomatch h2.symm.trans g2
section
variable {prog:Program} {w:World} {c cv:Cx} {hB:Heap} {G:ag} {mg mb:Str→Option Value} {A:Around} {E:Value→Shared→Prop} {s:Shared} {env:Env} {sc scv:Scope} {as asv:List Arg} {it l nl I fv:Addr} {s0:Heap} {items:Array Value} {is:List Int} {outer:List Env} {bodyv:List Stmt} {namev:Str} {k j:Nat} {outs:List Int}
structure VX (prog:Program) (w:World) (cv:Cx) (G:ag) (hB:Heap) (mg mb:Str→Option Value) (fv:Addr) (scv:Scope) (asv:List Arg) (bodyv:List Stmt) (namev:Str):Prop where
 N:eE prog w cv G hB mg mb scv pmP asv
 tb:cv.tbl=tbP
 nm:scv.names=nmP
 ok:(pvS cv scv bodyv).1=true
 hu:(pvS cv scv bodyv).2=bodyv
 da:DefAt hB fv namev ⟨[],asv,none,[],[],none,[]⟩ bodyv scv
 mg:mg pvarS=some (.ref fv)
structure RX (prog:Program) (w:World) (c:Cx) (G:ag) (hB:Heap) (mg mb:Str→Option Value) (A:Around) (env:Env) (sc:Scope) (as:List Arg) (it l nl I:Addr) (s0:Heap) (items:Array Value) (is:List Int) (outer:List Env):Prop where
 off:Frk.fs=none
 N:eE prog w c G hB mg mb sc tbR as
 nm:sc.names=nmR
 e:E0 env sc
 n:RN env it nl I s0
 kp:KB hB s0
 pl:s0.PlainList l items
 ia:IntsAt items is
 le:is.length≤600
 ar:Ar 1 (A.deeper env)
 fr:A.frames=some outer
 u:Ups outer s0
 fa:∀ b∈frs outer,Tabs.fa b
theorem RX.ups (X:RX prog w c G hB mg mb A env sc as it l nl I s0 items is outer) {H:Heap} (r:RS env it l nl I (is.length+1) s0 k j outs H):Ups (env :: outer) H:=fun e' he'=>by
 obtain ⟨m,ns,_⟩:=r.fr
 rcases List.mem_cons.mp he' with q |q
 ·subst q;exact ⟨by rw [X.e.ok.kind];decide,_,X.e.frm,Ns.dt ns⟩
 ·exact (X.u.cd r.kp.cd.2) e' q
theorem RX.flown (X:RX prog w c G hB mg mb A env sc as it l nl I s0 items is outer) {H hr h:Heap} {e:Addr} (r:RS env it l nl I (is.length+1) s0 k j outs H) (kd:KD it H hr) (hitC:∀ o,hr.get? it=some o→o.cls ≠ .type "code") (F:Flown it (env :: outer) e hr h) :
  Kp s0 h∧(∃ ots,h.PlainList nl ots∧IntsAt ots outs)∧∃ m,h.Ns env.locals m∧m numS=some (.ref nl):=by
 have hdt:∀ b∈frs (env :: outer),Dt hr b:=fun b hb=>((X.ups r).cd kd.cd.2).mem hb
 obtain ⟨kp,hit,⟨ots,pl,ia⟩,_,m,ns,_,h2⟩:=r
 have kcr:=F.cc hdt hitC
 have plr:hr.PlainList nl ots:=PL.at' pl fun o t e1=>(kd.kp nl o (IsLI.plne hit pl) e1).ob (.inl t)
 refine ⟨fun b o e1=>((kp b o e1).then (fun o' e'=>kd.kp b o' (fun q=>ah (X.n.it.symm.trans (q▸e1))) e') kd.cd).thenC (fun o' e'=>F.gw hdt (fun q=>ah (X.n.it.symm.trans (q▸e1))) (fun hm=> ?_) e') kcr,⟨ots,?_,ia⟩,m,?_,h2⟩
 ·rw [kM X.e.frm] at hm
  rcases List.mem_cons.mp hm with q |q
  ·exact ah (X.n.L.symm.trans (q▸e1))
  ·exact X.fa b q
 ·obtain ⟨n1,l1⟩:=id plr
  rcases F.kept (IsLI.plne hit pl) l1 with ⟨_,q⟩ |⟨hm,_⟩
  ·exact ⟨n1,q⟩
  ·exact absurd (hdt nl hm) (PL.nodt plr)
 ·obtain ⟨o1,es,ep,g1,g2,g3⟩:=kd.ns ns (IsLI.nsne hit ns)
  rcases F.kept (IsLI.nsne hit ns) g1 with ⟨_,q⟩ |⟨hm,sl,q⟩
  ·exact ⟨o1,es,ep,q,g2,g3⟩
  ·exact ⟨_,es,ep,q,g2,g3⟩
theorem RX.caught (X:RX prog w c G hB mg mb A env sc as it l nl I s0 items is outer) {H hr:Heap} {e:Addr} {h0:Expr×List Stmt×Pos} {np rp pos:Pos} (r:RS env it l nl I (is.length+1) s0 k j outs H) (kd:KD it H hr) (hitC:∀ o,hr.get? it=some o→o.cls ≠ .type "code") (F:Flown it (env :: outer) e hr s.heap) {Q:Flow→Shared→Prop}
  (hQ:∀ h' tk ots,Kp s0 h'→h'.PlainList nl ots→IntsAt ots outs→Q (.ret (.ref nl)) {s with heap:=h',toks:=tk}) :
  wpAny (model prog w) (A.deeper env) (noteFrame (.ref e) env) (fun _ s₂=>wpAny (model prog w) (A.deeper env) (setFlight (.ref e) none) (fun _ s₃=>wpAny (model prog w) (A.deeper env) (handleBy (.ref e) env [.ExceptHandler (some (.Name stopS h0.1.pos)) none [.Return (some (.Name numS np)) rp] pos]) Q E s₃) E s₂) E s:=by
 have hdt:∀ b∈frs (env :: outer),Dt hr b:=fun b hb=>((X.ups r).cd kd.cd.2).mem hb
 refine pW (outer:=outer) (Around.frames_deeper X.fr) X.e.frm F hdt fun h9 hfl F9=> ?_
 obtain ⟨base9,a9,fly9⟩:=hfl
 refine wpAny_handleBy_builtin (s:={s with heap:=h9}) (X:="StopIteration") (T:="StopIteration") (b:=true) (by rw [isSubtype_type];kernel_rfl) (by kernel_rfl) (by rw [isSubtype_type];kernel_rfl) (yH (s:={s with heap:=h9}) X.N.B X.e (X.kp.trans (X.flown r kd hitC F9).1) (by rw [X.nm];rfl) (by decide) qX (by decide) ⟨rfl,fly9.there,?_⟩)
 rw [if_pos rfl]
 refine lq (s:={s with heap:=h9}) F9 hdt fun hA FA=> ?_
 obtain ⟨kpA,⟨ots,plA,ia⟩,m,nsA,hm⟩:=X.flown r kd hitC FA
 exact wpAny_execs_cons (wpAny_Return_some (dJ (s:={s with heap:=hA}) X.e nsA (by rw [X.nm];rfl) hm (by decide) (hQ hA _ ots kpA plA ia)))
theorem RX.tried (X:RX prog w c G hB mg mb A env sc as it l nl I s0 items is outer) (V:VX prog w cv G hB mg mb fv scv asv bodyv namev) (r:RS env it l nl I (is.length+1) s0 k j outs s.heap) (ho:outs.length≤700) {st:Stmt} (hl:((kid 0 (skid 0 (hs (tinfo st).1))).pos.endLine==(skid 0 (hs (tinfo st).1)).pos.line)=true) {Q:Flow→Shared→Prop}
  (hQ:∀ v j' h' tk,j<j'→j'≤is.length→pv (is.drop j)=some (v,is.drop j')→RS env it l nl I (is.length+1) s0 k j' (outs++[v]) h'→Q .next {s with heap:=h',toks:=tk})
  (hE:∀ h' tk ots,pv (is.drop j)=none→Kp s0 h'→h'.PlainList nl ots→IntsAt ots outs→Q (.ret (.ref nl)) {s with heap:=h',toks:=tk}):wpAny (model prog w) (A.deeper env) (exec (tryR st) env) Q E s:=by
 obtain ⟨m,ns,ht,hn⟩:=r.fr
 obtain ⟨ots,pl,ia⟩:=r.li
 have ld:∀ {x k},nmR.lookup x=some k→sc.names.lookup x=some k:=fun h=>by rw [X.nm];exact h
 refine wpAny_Try_except (wpAny_execs_cons (wpAny_Expr (wpAny_mono (Q:=fun v s'=>v = .none∧_) (wpAny_Call_method_lateS rfl rfl hl (dJ X.e ns (ld rfl) hn (by decide) ?_)) (fun v s' hv=>hv.1▸hv.2) fun _ _ e=>e) (by unfold interactive;rw [X.e.ok.kind];rfl) rfl))
 obtain ⟨n0,l0⟩:=id pl
 refine ⟨"list","list.append",PySem.F.plainAttrs_list,PySem.F.slot_list_append,PySem.F.type_list_append,⟨_,l0,rfl⟩,fun a e=>by rw [← Value.ref.inj e];exact ⟨_,l0,rfl⟩,?_⟩
 refine PySem.Calls.callWith_builtin rfl (PySem.Calls.evalArgs_plain (PySem.Calls.spliced_cons ?_))
 obtain ⟨ov,pmv,cdv,docv,_,_,_,_,hov1,hov2,_⟩:=V.da.at'
 have kB7:=X.kp.trans r.kp
 refine wpAny_Call_ofName (PySem.Calls.Name_function_global X.e.ok.kind (X.e.kind (ld rfl)) (PySem.Calls.loadGlobal_global (by rw [X.e.ok.glob];exact kB7.ns X.N.B.ns) V.mg ?_) (by decide))
 refine PySem.Calls.callWith_function (o:=ov) (fd:=Calls.docDef namev ⟨[],asv,none,[],[],none,[]⟩ bodyv scv pmv (.ref cdv) docv) (PySem.Calls.evalArgs_plain (PySem.Calls.spliced_cons (dJ X.e ns (ld rfl) ht (by decide) (PySem.Calls.spliced_nil ⟨⟨kB7.ob hov1 (.inl (bg hov2)),hov2⟩,?_⟩))))
 refine zO X.off V.N V.tb V.nm V.ok V.hu V.da X.ar (Around.frames_deeper X.fr) (X.ups r) kB7 (X.kp.none X.n.it) r.hit (PL.at' X.pl (r.kp.at l)) X.ia X.le (fun v j' h8 tk8 t8 hj hj' hpv hit8 kd8=> ?_) fun hpv e h8 tk8 hr kdr hitC fly=> ?_
 ·have r8:=r.read X.n hit8 kd8
  have pl8:h8.PlainList nl ots:=PL.at' pl fun o t e=>(kd8.kp nl o (IsLI.plne r.hit pl) e).ob (.inl t)
  refine PySem.Calls.spliced_nil (wpAny_list_append_plain (s:={s with heap:=h8,toks:=tk8}) (hsz:=by rw [sizeLine_eq,ia.1];exact Nat.le_trans ho (by decide)) pl8 fun h9 pl9 sb9=>⟨rfl,?_⟩)
  exact wpAny_execs_nil (wpAny_execs_nil (hQ v j' h9 tk8 hj hj' hpv (r8.add X.n pl8 ia pl9 sb9)))
 ·exact X.caught (s:={s with heap:=h8,toks:=tk8}) (h0:=hinfo ((tinfo st).2.headD default)) r kdr hitC fly fun h' tk ots kp pl ia=>hE h' tk ots hpv kp pl ia
end
end Mine
set_option genSizeOf false
set_option genInjectivity false
namespace Mine
variable [Tabs] [Frk]
section
variable {prog:Program} {w:World} {c cv:Cx} {hB:Heap} {G:ag} {mg mb:Str→Option Value} {A:Around} {E:Value→Shared→Prop} {s:Shared} {env:Env} {sc scv:Scope} {as asv:List Arg} {it l nl I fv:Addr} {s0:Heap} {items:Array Value} {is:List Int} {outer:List Env} {bodyv:List Stmt} {namev:Str} {k j:Nat} {outs:List Int}
theorem RI.next {v:Int} {j':Nat} {H H':Heap} (r:RI env it l nl I is s0 k j outs H) (hj:j<j') (hj':j'≤is.length) (hpv:pv (is.drop j)=some (v,is.drop j')) (q:RS env it l nl I (is.length+1) s0 (k+1) j' (outs++[v]) H'):RI env it l nl I is s0 (k+1) j' (outs++[v]) H':=by
 refine ⟨Nat.lt_of_le_of_lt r.kj hj,hj',by rw [List.length_append,r.len];rfl,?_,q⟩
 rw [r.eq,i8 r.lt,lL hpv,List.append_assoc];rfl
theorem RI.done {H:Heap} (r:RI env it l nl I is s0 k j outs H) (hpv:pv (is.drop j)=none):rd (is.length+1) is=outs:=by
 rw [r.eq,i8 r.lt,lT hpv,List.append_nil]
theorem RX.loop (X:RX prog w c G hB mg mb A env sc as it l nl I s0 items is outer) (V:VX prog w cv G hB mg mb fv scv asv bodyv namev) {st:Stmt} (hl:((kid 0 (skid 0 (hs (tinfo st).1))).pos.endLine==(skid 0 (hs (tinfo st).1)).pos.line)=true) {tp:Pos} (r:RS env it l nl I (is.length+1) s0 0 0 [] s.heap)
  {Q:Flow→Shared→Prop} (hQ:∀ h' tk ots,Kp s0 h'→h'.PlainList nl ots→IntsAt ots (rd (is.length+1) is)→Q (.ret (.ref nl)) {s with heap:=h',toks:=tk}) :
  codeAny (model prog w) (A.deeper env) (.forLoop (.Name turnS tp) (.ref I) [tryR st] [] env) (fun r s'=>match r with | .ok f=>Q f s' | .error e=>cameBackBy (model prog w) (A.deeper env) env E e s') s:=by
 refine codeAny_forLoop (R:=fun r s'=>match r with | .ok f=>Q f s' | .error e=>cameBackBy (model prog w) (A.deeper env) env E e s') (fun nn s'=>∃ H tk k j outs,s' = {s with heap:=H,toks:=tk}∧nn=is.length+1 - k∧RI env it l nl I is s0 k j outs H) ?_ (is.length+1) ⟨s.heap,s.toks,0,0,[],rfl,rfl,Nat.le_refl _,Nat.zero_le _,rfl,rfl,r⟩
 rintro nn s' ⟨H,tk,k,j,outs,rfl,rfl,r⟩
 refine wpAny_pyNext_range_item (s:={s with heap:=H,toks:=tk}) r.rs.ri (tV r.lt) fun h6 ri6 sb6=> ?_
 have r6:=r.rs.range X.n r.lt ri6 sb6
 obtain ⟨m,ns,h1,h2⟩:=r6.fr
 refine wpAny_assign_Name (dK (s:={s with heap:=h6,toks:=tk+1}) X.e ns (by rw [X.nm];rfl) fun h7 tk7 st7=> ?_)
 have r7:=r6.turn X.n ns h1 h2 st7
 refine wpAny_execs_cons (X.tried (s:={s with heap:=h7,toks:=tk7}) V r7 (by rw [r.len];exact Nat.le_trans (Nat.le_of_lt r.lt) (Nat.le_trans (Nat.succ_le_succ X.le) (by decide))) hl (fun v j' h8 tk8 hj hj' hpv r8=> ?_) fun h8 tk8 ots hpv kp pl ia=>hQ h8 tk8 ots kp pl ?_)
 ·exact wpAny_execs_nil ⟨is.length+1 - (k+1),Nat.sub_succ_lt_self _ _ r.lt,h8,tk8,k+1,j',_,rfl,rfl,r.next hj hj' hpv r8⟩
 ·rw [r.done hpv];exact ia
theorem Ax {h:Heap} {m:Str→Option Value} (e:E0 env sc) (hnm:sc.names=nmR) (ho:m octS=some (.ref l)) (pl:h.PlainList l items) (ia:IntsAt items is) (hx:¬ hEx env l):FV (valOf env m fun _=>none) h (hEx env) tbR [some (.list (is.map .int),false)] :=
 .has (by unfold valOf;rw [e.kind (k:= .local) (by rw [hnm];rfl)];exact ho) ⟨l,items,rfl,hx,pl,ia.den _ _⟩ .nil
theorem Aq {h:Heap} {m:Str→Option Value} (e:E0 env sc) (hk:∀ x,celK (sc.names.lookup x)=false) (n:h.Ns env.locals m):FrM env h m fun _=>none:=by
 refine ⟨n,fun x c q=> ?_,fun x c q=> ?_,fun x y c q=> ?_,fun x q=> ?_⟩
 ·rw [e.cel] at q;exact ah q
 ·rw [e.cel] at q;exact ah q
 ·rw [e.cel] at q;exact ah q
 ·have:=hk x
  unfold Env.kindOf at q
  rw [e.sc] at q
  exact q.elim (fun q=>by rw [q] at this;exact nomatch this) fun q=>by rw [q] at this;exact nomatch this
theorem wj {nm:List (Str×NameKind)} (h:nm.all (fun x=> !celK (some x.2))=true) (x:Str):celK (nm.lookup x)=false:=by
 cases e:nm.lookup x with
 |none=>rfl
 |some k=>exact nt (List.all_eq_true.mp h _ (PySem.mem_of_lookup e))
theorem yF {G:ag} {F:FEnv} {is:List Int} (h:is.length≤600):ev G F [some (.list (is.map .int),false)] true rR=some (.int ((is.length:Int)+1)) :=
 ai (x:= .int (is.length:Int)) (ad (ay rfl rfl) (ao (by rw [List.length_map];exact fT (Nat.le_trans h (by decide))) (by rw [List.length_map]))) rfl rfl
theorem sC (N:eE prog w c G hB mg mb sc tbR as) (hnm:sc.names=nmR) (e:E0 env sc) (hh:A.handled=none) {m:Str→Option Value} (n:s.heap.Ns env.locals m) (ho:m octS=some (.ref l)) (kp:KB hB s.heap) (pl:s.heap.PlainList l items) {st:Stmt} {t v g e2:Expr} {Q:Flow→Shared→Prop}
  (hQ:∀ it nl h' tk m',s.heap.get? it=none→s.heap.get? nl=none→(∀ b o,b≠env.locals→s.heap.get? b=some o→h'.get? b=some o)→h'.IsListIter it l 0→h'.PlainList nl #[]→h'.Ns env.locals m'→m' tapeS=some (.ref it)→m' numS=some (.ref nl)→m' octS=some (.ref l)→Q .next {s with heap:=h',toks:=tk}) :
  wpAny (model prog w) A (exec (.Assign [.Tuple [.Name tapeS (kid 0 t).pos,.Name numS (kid 1 t).pos] (numE t) t.pos] (.Tuple [.Call (.Name iterS (kid 0 g).pos) [.Name octS (kid 1 g).pos] [] g.pos,.List [] e2.pos] (numE v) v.pos) st.pos) env) Q E s:=by
 have ld:∀ {x k},nmR.lookup x=some k→sc.names.lookup x=some k:=fun h=>by rw [hnm];exact h
 refine n8 e rfl (ld rfl) (ld rfl) (by decide) hh (wpAny_Tuple (PySem.Calls.spliced_cons (wpAny_Call_ofName (yH N.B e kp (ld rfl) (by decide) qn (by decide) ?_))))
 refine PySem.Calls.callWith_builtin rfl (PySem.Calls.evalArgs_plain (PySem.Calls.spliced_cons (dJ e n (ld rfl) ho (by decide) (PySem.Calls.spliced_nil ?_))))
 show wpAny _ _ (call (.builtin "iter") [.ref l]) _ _ _
 refine oN (PL.isList pl) ?_
 have hitI:(s.heap.push {cls:= .type "list_iterator",data:= .fields #[.ref l,.int 0 0]}).IsListIter s.heap.objs.size l 0:=⟨_,Heap.get?_push_size _ rfl,rfl,rfl⟩
 have kq1:Kq s.heap (s.heap.push {cls:= .type "list_iterator",data:= .fields #[.ref l,.int 0 0]}):=Kq.push _ _
 have hitN:s.heap.get? s.heap.objs.size=none:=az _
 revert hitN
 generalize s.heap.objs.size=it at hitI
 generalize (s.heap.push {cls:= .type "list_iterator",data:= .fields #[.ref l,.int 0 0]})=hb at hitI kq1
 intro hitN
 refine PySem.Calls.spliced_cons (wpAny_List (PySem.Calls.spliced_nil ⟨by show (0:Nat)≤sizeLine;exact Nat.zero_le _,?_⟩))
 refine PySem.Calls.spliced_nil ⟨by show (2:Nat)≤sizeLine;decide,?_⟩
 have plN:(hb.push {cls:= .type "list",data:= .seq ([]:List Value).toArray}).PlainList hb.objs.size #[]:=⟨0,Heap.get?_push_size _ rfl⟩
 have kq2:Kq hb (hb.push {cls:= .type "list",data:= .seq ([]:List Value).toArray}):=Kq.push _ _
 have nlN:hb.get? hb.objs.size=none:=az _
 revert nlN
 generalize hb.objs.size=nl at plN
 generalize (hb.push {cls:= .type "list",data:= .seq ([]:List Value).toArray})=hc at plN kq2
 intro nlN
 have kq3:Kq hc (hc.push {cls:= .type "tuple",data:= .seq [Value.ref it,.ref nl].toArray}):=Kq.push _ _
 have tup:TupAt (hc.push {cls:= .type "tuple",data:= .seq [Value.ref it,.ref nl].toArray}) hc.objs.size #[.ref it,.ref nl]:=⟨0,Heap.get?_push_size _ rfl⟩
 have n3:=n.keeps (Kq.trans kq1 (Kq.trans kq2 kq3))
 refine ⟨hc.objs.size,.ref it,.ref nl,m,rfl,tup,n3,fun h2 kq4 h' tk two=> ?_⟩
 obtain ⟨k,cd,m',ns',g1,g2,g3⟩:=two
 have k24:=Kq.trans kq2 (Kq.trans kq3 kq4)
 have n4:=n3.keeps kq4
 exact hQ it nl h' tk m' hitN ((Kp.of kq1).none nlN) (fun b o hb q=>k b o hb (Kq.trans kq1 k24 b o q)) (IsLI.keep hitI fun o t q=>k it o (Ne.symm (IsLI.nsne hitI (n.keeps kq1))) (k24 _ _ q)) (PL.at' plN fun o t q=>k nl o (Ne.symm (jb plN (n.keeps (Kq.trans kq1 kq2)))) (kq4 _ _ (kq3 _ _ q))) ns' g1 g2 ((g3 _ (by decide) (by decide)).trans ho)
theorem rW (off:Frk.fs=none) (N:eE prog w c G hB mg mb sc tbR as) (htb:c.tbl=tbR) (hnm:sc.names=nmR) {body:List Stmt} (hok:(rdS c sc body).1=true) (hu:(rdS c sc body).2=body) {f:Addr} {name:Str} (da:DefAt hB f name ⟨[],as,none,[],[],none,[]⟩ body sc) (V:VX prog w cv G hB mg mb fv scv asv bodyv namev)
  {Q:Value→Shared→Prop} (ar:Ar 2 A) (hfr:A.frames=some outer) (u:Ups outer s.heap) (hfa:∀ b∈frs outer,Tabs.fa b) (kp:KB hB s.heap) (hL:s.heap.PlainList l items) (hia:IntsAt items is) (h600:is.length≤600)
  (hQ:∀ a its h' tk,Kp s.heap h'→s.heap.get? a=none→h'.PlainList a its→IntsAt its (rd (is.length+1) is)→Q (.ref a) {s with heap:=h',toks:=tk}) :
  wpAny (model prog w) A (call (.ref f) [.ref l]) Q E s:=by
 obtain ⟨o,pm,cd,doc,tb,oc,vc,tc,h1,h2,h3,h4,h5,h6,h7,h8⟩:=da.at'
 have nocell:∀ x,celK (sc.names.lookup x)=false:=fun x=>by rw [hnm];exact wj rfl x
 refine kV (fd:=Calls.docDef name ⟨[],as,none,[],[],none,[]⟩ body sc pm (.ref cd) doc) (cm:=fun _=>none) (σ:=[none]) off N.lim N.I N.has (kp.ob h1 (.inl (bg h2))) h2 rfl rfl rfl rfl rfl rfl ⟨cd,oc,vc,tc,rfl,kp.ob h3 (.inl (bd h4 h5)),h5,h6⟩ (fun x c q=>ah q) (fun x y c q=>ah q) (fun x q=>by have:=nocell x;rw [q] at this;exact nomatch this) (fun x c q=>ah q) kp ar rfl (fun h Ex _ _=>by rw [htb];exact .no .nil) fun env h₀ tk he S n k0 hn ar1=> ?_
 have e:E0 env sc:=⟨S.rr.ok,he▸rfl,he▸rfl,he▸rfl⟩
 refine aa hok fun q1 q2=> ?_
 rw [← hu]
 refine wpAny_execs_cons (sC (s:={s with heap:=h₀,toks:=tk}) N hnm e ar1.hd n rfl (kp.trans k0) (PL.at' hL (k0.at l)) fun it nl h3 tk3 m3 it0 nl0 keep hit pl ns mt mn mo=> ?_)
 have kp3:Kp s.heap h3:=k0.new hn keep fun o vs q _=>Ns.nofields n o q vs
 have plL:h3.PlainList l items:=PL.at' hL (kp3.at l)
 have hx:¬ hEx env l:=fun q=>q.elim (fun q=>jb plL ns q.symm) fun ⟨x,q⟩=>by rw [e.cel] at q;exact ah q
 let p:At (wd0 prog w c G hB) sc _:=⟨A.deeper env,{s with heap:=h3,toks:=tk3},env,hEx env,fun _=>0,.self e.sc,(Ax e hnm mo plL hia hx).rr e.ok (Aq e nocell ns) (br rfl) |> fun R=>htb▸R,kp.trans kp3,ar1.mono (Nat.zero_le _)⟩
 have rg:=gN (np:=(kid 0 (skid 0 (hs body.tail))).pos) (pos:=(skid 0 (hs body.tail)).pos) N.B (EL.one (dV N q1)).as (by unfold isGlob;rw [hnm];rfl)
 refine wpAny_execs_cons (wpAny_For (rg _ p _ 0 ((is.length:Int)+1) _ rfl (yF h600) fun r h4 tk4 t4 u4 v4 kp4 hr hrN=> ?_) fun x=>rfl)
 have hidx:idxOk ((is.length:Int)+1)=true:=hZ (n:=is.length+1) (Nat.le_trans (Nat.succ_le_succ h600) (by decide))
 obtain ⟨b1,b2,b3,hsz⟩:=eF (m:=0) rfl hidx
 refine wpAny_pyIter_range (s:={s with heap:=h4,toks:=tk4}) hr (small_one b1.1 b1.2 b2.1 b2.2) ?_
 rw [hsz]
 have hI:(h4.push {cls:= .type "range_iterator",data:= .fields #[rawInt 0,rawInt ((((is.length:Int)+1 - 0).toNat:Nat):Int),rawInt 1]}).get? h4.objs.size=some {cls:= .type "range_iterator",data:= .fields #[rawInt 0,rawInt ((((is.length:Int)+1 - 0).toNat:Nat):Int),rawInt 1]}:=Heap.get?_push_size _ rfl
 have kp5:Kp h4 (h4.push {cls:= .type "range_iterator",data:= .fields #[rawInt 0,rawInt ((((is.length:Int)+1 - 0).toNat:Nat):Int),rawInt 1]}):=Kp.push _ _
 have kp35:=kp4.trans kp5
 have hIN:h4.get? h4.objs.size=none:=az _
 have kp6:=kp3.trans kp35
 refine RX.loop (s:={s with heap:=h4.push {cls:= .type "range_iterator",data:= .fields #[rawInt 0,rawInt ((((is.length:Int)+1 - 0).toNat:Nat):Int),rawInt 1]},toks:=tk4}) ⟨off,N,hnm,e,⟨hn,k0.none it0,k0.none nl0,(kp3.trans kp4).none hIN⟩,kp,hL,hia,h600,ar1,hfr,u,hfa⟩ V (st:=hs (sbod (hs body.tail))) q2 ⟨kp6,IsLI.keep hit (kp35.at it),⟨#[],PL.at' pl (kp35.at nl),rfl,fun j k h=>ah h⟩,hI,m3,kp35.ns ns,mt,mn⟩ fun h' tk ots kpF plF iaF=> ?_
 exact hQ nl ots h' tk kpF (k0.none nl0) plF iaF
end
end Mine
set_option genSizeOf false
set_option genInjectivity false
namespace Mine
noncomputable abbrev F0:Frk:=⟨none,none⟩
noncomputable abbrev F1 (env:Env):Frk:=⟨some [env],none⟩
noncomputable abbrev F2 (L:Addr):Frk:=⟨none,some L⟩
noncomputable def readSpec (ds:List D):Option D:=(one? ds).bind fun d=>d.list?.bind fun ds=>(ints? ds).bind fun is=>if decide (is.length≤600)=true then some (.list ((rd (is.length+1) is).map .int)) else none
variable [Tabs]
theorem Ctr.lift {T1:Frk} {prog:Program} {w:World} {hB:Heap} {n:Nat} {F:FEnv} {f:Str} {a:Addr} (h : @Ctr _ F0 prog w hB n F f a) : @Ctr _ T1 prog w hB n F f a :=
 fun A E s X ds vs r Q ar kp hX hd hr P=>h A E s X ds vs r Q (@Ar.mk F0 _ _ ar.hd ar.depth ar.units (fun l hl=>nomatch hl)) (@KB.mk _ F0 _ _ kp.kp (fun l hl=>nomatch hl) fun b hb=>nomatch hb) hX hd hr P
section
variable {prog:Program} {w:World} {c cv:Cx} {hB:Heap} {G:ag} {mg mb:Str→Option Value} {sc scv:Scope} {body bodyv:List Stmt} {as asv:List Arg} {f fv:Addr} {name namev:Str}
theorem rY (N : @eE _ F0 prog w c G hB mg mb sc tbR as) (htb:c.tbl=tbR) (hnm:sc.names=nmR) (hok:(rdS c sc body).1=true) (hu:(rdS c sc body).2=body) (da:DefAt hB f name ⟨[],as,none,[],[],none,[]⟩ body sc) (V : @VX _ F0 prog w cv G hB mg mb fv scv asv bodyv namev)
  {env:Env} {F:FEnv} {n:Nat} (hn:2≤n) (hF:∀ ds r,F name ds=some r→readSpec ds=some r) : @Ctr _ (F1 env) prog w hB n F name f:=by
 intro A E s X ds vs r Q ar kp hX hden hr P
 have hr:=hF _ _ hr
 revert hden
 refine ae hr fun d h1 hr=>kF (P:=fun ds=>DenL s.heap X ds vs→_) h1 ?_
 refine ae hr fun ds h2 hr=>bE (P:=fun d=>DenL s.heap X [d] vs→_) h2 ?_
 refine ae hr fun is h3 hr=>gd hr fun h600 hr2 hden=> ?_
 obtain rfl:=mh h3
 obtain rfl:=sm hr2
 obtain ⟨v,r1,rfl,⟨l,items,rfl,hx,hL,dl⟩,e⟩:=hden
 obtain rfl:r1=[]:=e
 obtain ⟨a1,a2,a3,a4⟩:=ar
 obtain ⟨k1,k2⟩:=kp
 obtain ⟨g1,L,g2,g3,g4⟩:=k2 [env] rfl env List.mem_cons_self
 letI:Frk:=F0
 refine @rW _ F0 _ _ _ _ _ _ _ _ _ E _ _ _ _ _ _ _ _ _ [env] _ _ rfl N htb hnm _ hok hu _ _ da V Q (@Ar.mk F0 _ _ a1 (Nat.le_trans (Nat.add_le_add_left hn _) a2) (Nat.le_trans (Nat.add_le_add_left (Nat.mul_le_mul_left 4 hn) _) a3) (fun l hl=>nomatch hl)) (a4 [env] rfl) ?_ ?_ (@KB.mk _ F0 _ _ k1 (fun l hl=>nomatch hl) fun b hb=>nomatch hb) hL (IntsAt.of_den dl) (of_decide_eq_true h600) fun a its h' tk kp' ha pl hi=>P _ h' tk kp' ⟨a,its,rfl,fun q=>(hX a q).ne ha rfl,pl,hi.den _ _⟩
 ·intro e he
  rw [List.mem_singleton.mp he]
  exact ⟨g1,L,g2,g4⟩
 ·intro b hb
  rw [kM g2] at hb
  rw [List.mem_singleton.mp hb];exact g3
theorem qL {F:FEnv} {n:Nat} (hfa:Tabs.fa hB.objs.size) (B:∀ T:Frk,@Base _ T prog w c G hB mg mb) (lim:hB.NoLimit) {ps:List Str} {params:Arguments} {code:S}
  (CT:∀ (env:Env) f a,f∈c.fns→mg f=some (.ref a)→ @Ctr _ (F1 env) prog w hB n F f a) (ok:dX c ps name params body sc) (hc:codeB c sc code body=true) (hu:(unS c sc code body).2=body)
  {a:Addr} (da:DefAt hB a name params body sc) {A:Around} {s:Shared} {ds:List D} {vs:List Value} {r:D} {Q:Value→Shared→Prop} {E:Value→Shared→Prop} (hsB:s.heap=hB) (hfr:A.frames=some []) (ar : @Ar F0 (n+1) A)
  (hden:DenL s.heap (fun _=>False) ds vs) (hlen:ds.length=ps.length) (hr:run G F c.tbl.length code ds=some r)
  (P:∀ v h' tk,Kp s.heap h'→Den h' (fun _=>False) r v→Q v {s with heap:=h',toks:=tk}):wpAny (model prog w) A (call (.ref a) vs) Q E s:=by
 letI:Frk:=F0
 refine @cW _ F0 rfl ⟨prog,w,c,G,F,hB,n⟩ lim ps name params body sc ok a da A E s (fun _=>False) ds vs r Q ar (@KB.mk _ F0 _ _ (hsB▸Kp.refl _) (fun l hl=>nomatch hl) fun b hb=>nomatch hb) (fun _ h=>h.elim) hden hlen P fun p cd tb he hA _ _ hnew k0 fin=> ?_
 have hL:p.env.locals=hB.objs.size:=by rw [he,← hsB];rfl
 have k1 : @KB _ (F1 p.env) hB p.s.heap:=by
  refine @KB.mk _ (F1 p.env) _ _ p.k.kp (fun l hl e he'=> ?_) fun b hb=>nomatch hb
  rw [← sm (a:=[p.env]) hl] at he'
  rw [List.mem_singleton.mp he']
  obtain ⟨m,cm,Fm,_⟩:=p.S.rr.fr
  exact ⟨by rw [p.S.rr.ok.kind];decide,p.env.locals,by rw [he];rfl,by rw [hL];exact hfa,Ns.dt Fm.ns⟩
 have a1 : @Ar (F1 p.env) n p.A:= @Ar.mk (F1 p.env) _ _ p.ar.hd p.ar.depth p.ar.units fun l hl=>by rw [hA,← sm (a:=[p.env]) hl];exact Around.frames_deeper hfr
 have ss:= @mL _ (F1 p.env) ⟨prog,w,c,G,F,hB,n⟩ sc mg mb (B _) (CT p.env) ok.names code body hc hu
 refine ae hr fun q hex hr=> ?_
 obtain ⟨σ',o'⟩:=q
 let p1 : @Ast _ (F1 p.env) ⟨prog,w,c,G,F,hB,n⟩ sc _:= @Ast.mk _ (F1 p.env) _ _ _ p.A p.s p.env p.Mu p.Ex p.ow p.hsc p.S k1 p.hm a1
 cases o' with
 |next =>
  obtain rfl:=sm hr
  exact ss _ p1 _ σ' .next _ hex fun h' tk' Mu' Ex' ow' S' g=>fin h' tk' .none Mu' Ex' g rfl
 |brk=>exact ah hr
 |ret d =>
  obtain rfl:=sm hr
  exact ss _ p1 _ σ' (.ret d) _ hex fun h' tk' v Mu' Ex' g dv=>fin h' tk' v Mu' Ex' g dv
end
end Mine
set_option genSizeOf false
set_option genInjectivity false
namespace Mine
noncomputable def nI:Str:="_int2digits"
noncomputable def nD:Str:="_digits2int"
noncomputable def nP:Str:="_parse_varint"
noncomputable def nR:Str:="_law_read"
noncomputable def QI:Str:=nI++(".<locals>.":Str)++inS
noncomputable def QD:Str:=nD++(".<locals>.":Str)++inS
noncomputable def qOf (line:Nat) (l c:Int):Str:=cond (l==(line:Int)) QI QD
structure HI (t:TS) (c:Cx) (line:Nat) (d:DefItem):Prop where
 find:findD t nI=some d
 ok:i2dB c d=true
 hu1:(i2dU c d).1=d.body
 hu2:(i2dU c d).2=(itemOf (hs d.body.tail)).body
 hq:qOf line (itemOf (hs d.body.tail)).pos.line (itemOf (hs d.body.tail)).pos.col=QI
structure HD (t:TS) (c:Cx) (line:Nat) (d:DefItem):Prop where
 find:findD t nD=some d
 ok:d2iOk c d=true
 hu1:(d2iU c d).1=d.body
 hu2:(d2iU c d).2=(itemOf (hs d.body)).body
 hq:qOf line (itemOf (hs d.body)).pos.line (itemOf (hs d.body)).pos.col=QD
structure HP (t:TS) (c:Cx) (d:DefItem):Prop where
 find:findD t nP=some d
 ok:(innB d.scope tbP pmP&&d.scope.names==nmP&&(pvS (atT c tbP) d.scope d.body).1&&tbP.all (fun x=>dbg x&&dcl x)&&parsOf d.params==pmP)=true
 hu:(pvS (atT c tbP) d.scope d.body).2=d.body
structure HR (t:TS) (c:Cx) (d:DefItem):Prop where
 find:findD t nR=some d
 ok:(innB d.scope tbR tbR&&d.scope.names==nmR&&(rdS (atT c tbR) d.scope d.body).1&&tbR.all (fun x=>dbg x&&dcl x)&&parsOf d.params==tbR)=true
 hu:(rdS (atT c tbR) d.scope d.body).2=d.body
noncomputable def spn2:List Str:=[nI,nD]
noncomputable def sp2 (f:Str) (ds:List D):Option D:=cond (f==nI) (i2dSpec ds) (d2iSpec ds)
noncomputable def FL (G:ag) (fns:List Fn) (k:Nat):FEnv:=fun f ds=>cond (f==nR) (readSpec ds) (FF G fns spn2 sp2 k f ds)
theorem yG [Tabs] {h h':Heap} (k:Kp h h') (hf:∀ b,Al h b→¬ Tabs.fa b) (ht:∀ b,Tabs.tb b→isCodeTable h b):OldK h h':=by
 refine ⟨fun b o e=> ?_,fun b o e=>(k b o e).al⟩
 rcases k b o e with g |⟨t,vs,more,e1,e2,e3,_⟩ |⟨f,_⟩
 ·exact .inl g
 ·exact .inr (.inl ⟨ht b t,e1,vs,more,e2,e3⟩)
 ·exact absurd f (hf b ⟨o,e⟩)
theorem gn {d:DefItem} (hp:d.params=plainPar d.params):∃ as,d.params=⟨[],as,none,[],[],none,[]⟩∧parsOf d.params=as.map (·.arg):=⟨d.params.args,hp,rfl⟩
section
variable {p:Program} {w:World} {t:TS} {mg mb:Str→Option Value} {h:Heap} {c:Cx} {line:Nat} {sigs:List cN}
structure Top (p:Program) (w:World) (t:TS) (mg mb:Str→Option Value) (h:Heap) (c:Cx):Prop where
 T:TopAt t.defs t.consts (t.os p w) t.names mg mb h
 plain:∀ d∈t.defs,d.params=plainPar d.params
 bnm:bnames.all (fun x=> !t.names.contains x)=true
 fn:c.fns.all (fun x=>(findD t x).isSome)=true
 nd:(c.sets++c.dicts).all (fun x=> !(x==("__debug__":Str)))=true
noncomputable def tabsOf (p:Program) (w:World) (h:Heap) (line:Nat):Tabs:={tb:=fun P=>∃ cd,h.TableAt cd P #[],q:=qOf line,fa:=fun b=>b=h.objs.size,dm:=DmObj p w,dmi:=xL}
theorem mC (b:Addr) (x:Al h b):¬ (tabsOf p w h line).fa b:=fun q=>let ⟨o,e⟩:=x;Nat.ne_of_lt (Heap.lt_size e) q
theorem Top.base (X:Top p w t mg mb h c) (T1:Frk) (tb:List Str) : @Base (tabsOf p w h line) T1 p w (atT c tb) (gOf t) h mg mb :=
 @wu (tabsOf p w h line) T1 p w t mg mb h mC (fun _ _ q=>q) X.T (atT c tb) X.bnm X.fn X.nd
theorem Top.par (X:Top p w t mg mb h c) {x:Str} {d:DefItem} (hd:findD t x=some d):d.params=plainPar d.params:=X.plain d (List.mem_of_find?_eq_some hd)
theorem Top.at (X:Top p w t mg mb h c) {x:Str} {d:DefItem} (hd:findD t x=some d):∃ a,mg x=some (.ref a):=by
 obtain ⟨a,h1,h2⟩:=X.T.made d (List.mem_of_find?_eq_some hd)
 have hn:=List.find?_some hd
 obtain rfl:d.name=x:=beq_iff_eq.mp hn
 exact ⟨a,h1⟩
theorem Top.spec (X:Top p w t mg mb h c) {dI dD:DefItem} (hI:HI t c line dI) (hD:HD t c line dD) (f:Str) (a:Addr) (k:Nat) (hf:f∈spn2) (ha:mg f=some (.ref a)) (hk:SPL≤k) : @Ctr (tabsOf p w h line) F0 p w h k (fun f ds=>sp2 f ds) f a:=by
 letI:Tabs:=tabsOf p w h line
 letI:Frk:=F0
 rcases List.mem_cons.mp hf with rfl |hf
 ·exact u6 rfl (X.base F0 c.tbl) X.T.bm X.T.lim hI.ok hI.hu1 hI.hu2 (X.par hI.find) (bC X.T hI.find ha) (fun cd P q=>⟨cd,q⟩) hI.hq (fun ds r q=>q) hk
 ·obtain rfl:=List.mem_singleton.mp hf
  exact uU rfl (X.base F0 c.tbl) X.T.bm X.T.lim hD.ok hD.hu1 hD.hu2 (X.par hD.find) (bC X.T hD.find ha) (fun cd P q=>⟨cd,q⟩) hD.hq (fun ds r q=>q) hk
theorem Top.read (X:Top p w t mg mb h c) {dP dR:DefItem} (hP:HP t c dP) (hR:HR t c dR) {env:Env} {a:Addr} (ha:mg nR=some (.ref a)) {F:FEnv} (hF:∀ ds r,F nR ds=some r→readSpec ds=some r) : @Ctr (tabsOf p w h line) (F1 env) p w h 300 F nR a:=by
 letI:Tabs:=tabsOf p w h line
 letI:Frk:=F0
 obtain ⟨av,hav⟩:=X.at hP.find
 obtain ⟨ap,e1,e2⟩:=gn (X.par hP.find)
 obtain ⟨ar,e3,e4⟩:=gn (X.par hR.find)
 have da:=bC X.T hR.find ha
 have dav:=bC X.T hP.find hav
 rw [e3] at da
 rw [e1] at dav
 refine aa hP.ok fun q q5=>aa q fun q q4=>aa q fun q q3=>aa q fun q1 q2=>aa hR.ok fun r r5=>aa r fun r r4=>aa r fun r r3=>aa r fun r1 r2=> ?_
 exact rY (c:=atT c tbR) (cv:=atT c tbP) ⟨X.base F0 tbR,X.T.lim,r4,r1,e4.symm.trans (eq_of_beq r5)⟩ rfl (eq_of_beq r2) r3 hR.hu da ⟨⟨X.base F0 tbP,X.T.lim,q4,q1,e2.symm.trans (eq_of_beq q5)⟩,rfl,eq_of_beq q2,q3,hP.hu,dav,hav⟩ (by decide) hF
end
theorem Top.ctr {p:Program} {w:World} {t:TS} {mg mb:Str→Option Value} {s:Shared} {c:Cx} {line:Nat} {sigs:List cN} {dI dD dP dR:DefItem} (X:Top p w t mg mb s.heap c) (hsig:sigs.all (sigOk c t)=true) (hu:sigs.map (bodyU c t)=sigs.map (bodyOf t))
  (hI:HI t c line dI) (hD:HD t c line dD) (hP:HP t c dP) (hR:HR t c dR) (env:Env) (f:Str) (a:Addr) (hf:f∈c.fns) (ha:mg f=some (.ref a)) : @Ctr (tabsOf p w s.heap line) (F1 env) p w s.heap 300 (FL (gOf t) (sigs.map (mkFn t)) 300) f a:=by
 letI:Tabs:=tabsOf p w s.heap line
 have okF:∀ f∈sigs.map (mkFn t),FnOk c s.heap mg f:=fun f hf=>by
  obtain ⟨sg,h1,rfl⟩:=List.mem_map.mp hf
  letI:Frk:=F0
  exact uq X.T c (List.all_eq_true.mp hsig sg h1) (List.map_inj_left.mp hu sg h1) X.plain
 cases hr:f==nR with
 |true =>
  obtain rfl:=beq_iff_eq.mp hr
  exact X.read hP hR ha fun ds r h=>h
 |false =>
  have h1:=Ctr.lift (T1:=F1 env) (@qM _ F0 rfl _ _ _ _ _ _ _ (X.base F0 c.tbl) X.T.lim _ _ _ okF (X.spec hI hD) 300 f a ha)
  exact fun A E s' Y ds vs r Q ar kp hY hd h P=>h1 A E s' Y ds vs r Q ar kp hY hd (by rw [← h];unfold FL;rw [hr];rfl) P
theorem qF {l:OpenLaw} {t:TS} {c:Cx} {line:Nat} {ls:cN} {dL:DefItem} (hrun:runT l.prog.main.scope ⟨[],[],[],[],0⟩ l.prog.main.body=some t) (hreb:l.prog.main.body.map rebS=l.prog.main.body) (hmod:l.prog.main.scope.kind = .module)
  (said:l.row.wellSaid=true) (wit:l.row.toRowW.promised) (hop:opening l.prog=plainProg l.prog.main.scope.names) (hfence:∀ s,fenceModules? l.prog s=some s)
  (himp:importedModules l.prog.main.body=[]) (hann:hasAnns l.prog.main.body=false) (hdoc:docOf l.prog.main.body=none) (hbeh:behindTheImports l.prog=l.prog.main.body)
  (how:opensWell l.prog=true) (hb:l.prog.bare) (hwr:l.writes=false) (hmost:l.most=some 63) (hbound:l.bound=none)
  (hn:t.names.all (fun x=>l.prog.boundNames.contains x)=true) (hl:laidNames.all (fun x=> !t.names.contains x)=true) (plain:∀ d∈t.defs,d.params=plainPar d.params)
  (hfind:findD t l.name=some dL) (hthe:l.prog.theDef l.name=some (dL.params,dL.body,dL.scope))
  (bnm:bnames.all (fun x=> !t.names.contains x)=true) (hfn:c.fns.all (fun x=>(findD t x).isSome)=true) (hnd:(c.sets++c.dicts).all (fun x=> !(x==("__debug__":Str)))=true)
  (hls:sigOk c t ls=true) (hlu:bodyU c t ls=bodyOf t ls) (hln:ls.name=l.name) (hlp:(parsOf dL.params).length=1)
  (FX:FEnv) (CTX:∀ (w:World) (s:Shared) (mg mb:Str→Option Value),Top l.prog w t mg mb s.heap c→∀ (env:Env) f a,f∈c.fns→mg f=some (.ref a)→ @Ctr (tabsOf l.prog w s.heap line) (F1 env) l.prog w s.heap 300 FX f a)
  (eval:∀ ns:List Int,ns.length≤63→run (gOf t) FX ls.tbl.length ls.code [.list (ns.map .int)]=some (.bool true)):l.row.Holds:=by
 have hw:∀ w,Walked l.prog w t.defs t.consts (t.os l.prog w) t.names:=fun w=> @oW (tabsOf l.prog w {} 0) F0 _ _ hmod t hreb hrun
 refine qH (objs:=fun w=>t.os l.prog w) said wit hop hfence himp hann hdoc hbeh how hb hwr hmost hbound (fun x hx=>List.contains_iff_mem.mp (List.all_eq_true.mp hn x hx)) (fun x hx=>mP (List.all_eq_true.mp hl x hx)) (fun d hd=>by rw [plain d hd];rfl) ⟨dL,List.mem_of_find?_eq_some hfind,beq_iff_eq.mp (List.find?_some hfind :),hthe,by rw [plain dL (List.mem_of_find?_eq_some hfind)];rfl,by rw [plain dL (List.mem_of_find?_eq_some hfind)];rfl⟩ hw fun w s mg mb a ns vs T ha hlen hden hg=> ?_
 have X:Top l.prog w t mg mb s.heap c:=⟨T,plain,bnm,hfn,hnd⟩
 letI:Tabs:=tabsOf l.prog w s.heap line
 have CT:=CTX w s mg mb X
 have hs2:=hls
 unfold sigOk at hs2
 unfold bodyU bodyOf at hlu
 rw [hln,hfind] at hs2 hlu
 refine aa hs2 fun q1 q2=> ?_
 letI:Frk:=F0
 refine qL (c:=atT c ls.tbl) (n:=300) (show s.heap.objs.size=s.heap.objs.size from rfl) (fun T1=>X.base T1 ls.tbl) T.lim CT (fh q1 (X.par hfind)) q2 hlu (bC T hfind ha) (s:=s) rfl rfl ⟨rfl,by show 1+claimMargin+301≤900;decide,by show 4+4 * 301≤9000;decide,fun l hl=>nomatch hl⟩ (hden _) (by rw [hlp];rfl) (eval ns hlen) fun v h' tk kp hv=> ?_
 exact ⟨h',tk,yG kp mC fun b ⟨cd,x⟩=>x.isCodeTable,hv,rfl⟩
end Mine
set_option genSizeOf false
set_option genInjectivity false
namespace Mine
noncomputable def flagN:List (Int×Str):=[((1:Int),("OPTIMIZED":Str)),(2,"NEWLOCALS"),(4,"VARARGS"),(8,"VARKEYWORDS"),(16,"NESTED"),(32,"GENERATOR"),(64,"NOFREE"),(128,"COROUTINE"),(256,"ITERABLE_COROUTINE"),(512,"ASYNC_GENERATOR")]
structure uF (G:ag) (fns:List Fn) (b1L:List Int) (b3L:List (Int×Str)):Prop where
 lim:G.const "_DIV_LIMIT"=some (.int 4000)
 mark:G.const "ELLIPSIS_MARKER"=some (.str "...")
 b1:G.iset "b1_set"=some b1L
 b3:G.idict "b3_exceptions"=some b3L
 nm:G.idict "COMPILER_FLAG_NAMES"=some flagN
 f1:∃ x,fns.find? (fun x=>x.name==("pretty_flags":Str))=some x∧x.ps.length=1∧x.tbl.length=4∧x.code=s_pretty_flags
 f2:∃ x,fns.find? (fun x=>x.name==("_div2n1n":Str))=some x∧x.ps.length=3∧x.tbl.length=11∧x.code=s_div2n1n
 f3:∃ x,fns.find? (fun x=>x.name==("_divmod_pos":Str))=some x∧x.ps.length=2∧x.tbl.length=9∧x.code=s_divmod_pos
 f4:∃ x,fns.find? (fun x=>x.name==("int_divmod":Str))=some x∧x.ps.length=2∧x.tbl.length=4∧x.code=s_int_divmod
 f5:∃ x,fns.find? (fun x=>x.name==("_ellipsis_match":Str))=some x∧x.ps.length=2∧x.tbl.length=6∧x.code=s_ellipsis_match
 f6:∃ x,fns.find? (fun x=>x.name==("in_table_b1":Str))=some x∧x.ps.length=1∧x.tbl.length=1∧x.code=s_in_table_b1
 f7:∃ x,fns.find? (fun x=>x.name==("map_table_b3":Str))=some x∧x.ps.length=1∧x.tbl.length=2∧x.code=s_map_table_b3
 f8:∃ x,fns.find? (fun x=>x.name==("_law_unseen":Str))=some x∧x.ps.length=0∧x.tbl.length=0∧x.code=s_law_unseen
theorem bB {G:ag} {fns:List Fn} {k n m:Nat} {f:Str} {ds:List D} {cd:S} (h1:spn2.contains f=false) (h2:∃ x,fns.find? (fun x=>x.name==f)=some x∧x.ps.length=m∧x.tbl.length=n∧x.code=cd) (hl:ds.length=m) {r:Option D} (h:run G (FF G fns spn2 sp2 k) n cd ds=r) :
  FF G fns spn2 sp2 (k+1) f ds=r:=by
 obtain ⟨x,e1,e2,rfl,rfl⟩:=h2
 rw [FF_s,h1]
 exact ad e1 (ao (hl.trans e2.symm) h)
theorem om {G:ag} {fns:List Fn} {k:Nat} {ds:List D} (hk:SPL≤k):FF G fns spn2 sp2 (k+1) "_int2digits" ds=i2dSpec ds:=(FF_s.trans (congrArg (fun x=>cond x _ _) (show spn2.contains ("_int2digits":Str)=true from rfl))).trans (ao hk rfl)
theorem oD {G:ag} {fns:List Fn} {k:Nat} {ds:List D} (hk:SPL≤k):FF G fns spn2 sp2 (k+1) "_digits2int" ds=d2iSpec ds:=(FF_s.trans (congrArg (fun x=>cond x _ _) (show spn2.contains ("_digits2int":Str)=true from rfl))).trans (ao hk rfl)
theorem kP (x:Int):Builtin.bitNot x = -x - 1:=by unfold Builtin.bitNot;omega
theorem vY {a:Int} (h:¬ 0≤a):0 ≤ -a - 1∧(-a - 1).natAbs≤a.natAbs:=by omega
theorem uM {a b q r:Int} (h:r+b * q = -a - 1):b * (-q - 1)+(b+(-r - 1))=a:=by
 rw [Int.mul_sub,Int.mul_neg,Int.mul_one]
 omega
theorem xw {b r:Int} (h:0≤r∧r<b):0≤b+(-r - 1)∧b+(-r - 1)<b:=by omega
theorem oQ {a b:Int} (hb:0<b):a.fdiv b=Builtin.bitNot ((Builtin.bitNot a).fdiv b)∧a.fmod b=b+Builtin.bitNot ((Builtin.bitNot a).fmod b):=by
 rw [kP,kP,kP,Int.fdiv_eq_ediv_of_nonneg a (Int.le_of_lt hb),Int.fmod_eq_emod_of_nonneg a (Int.le_of_lt hb)]
 have h1:=Int.fmod_add_mul_fdiv (-a - 1) b
 have h2:=xw (dz hb (-a - 1))
 exact (Int.ediv_emod_unique hb).mpr ⟨(Int.add_comm _ _).trans (uM h1),h2.1,h2.2⟩
section
variable {G:ag} {fns:List Fn} {b1L:List Int} {b3L:List (Int×Str)} (C:uF G fns b1L b3L)
include C
theorem wI {k:Nat} {a b n:Int} (hb:small b=true) (hb0:b≠0) (hbits:((Builtin.Int.intBits a:Nat):Int) - n≤4000):FF G fns spn2 sp2 (k+1) "_div2n1n" [.int a,.int b,.int n]=some (.tup [.int (a.fdiv b),.int (a.fmod b)]) :=
 bB rfl C.f2 rfl (lC C.lim hb hb0 hbits)
theorem xp {k:Nat} (hk:SPL≤k) {a b:Int} (ha:0≤a) (has:small a=true) (hb:0<b) (hbs:small b=true):FF G fns spn2 sp2 (k+2) "_divmod_pos" [.int a,.int b]=some (.tup [.int (a.fdiv b),.int (a.fmod b)]) :=
 bB rfl C.f3 rfl (gW (fun ds=>om hk) (fun ds=>oD hk) (fun a b n h1 h2 h3=>wI C h1 h2 h3) ha has hb hbs)
theorem oB {k:Nat} (hk:SPL≤k) {a b:Int} (ha:0≤a) (has:small a=true) (hb:0<b) (hbs:small b=true):FF G fns spn2 sp2 (k+3) "int_divmod" [.int a,.int b]=some (.tup [.int (a.fdiv b),.int (a.fmod b)]) :=
 bB rfl C.f4 rfl (aD [iv a,iv b,none,none] rfl (aA (bH (am rfl rfl (congrArg some (beq_eq_false_iff_ne.mpr (Int.ne_of_gt hb)))) rfl
  (aA (bH (am (x:= .int b) (y:= .int 0) rfl rfl (congrArg some (decide_eq_false (Int.not_lt.mpr (Int.le_of_lt hb))))) rfl
  (aA (bH (am (x:= .int a) (y:= .int 0) rfl rfl (congrArg some (decide_eq_false (Int.not_lt.mpr ha)))) rfl (aH (aw (aY rfl rfl) (xp C hk ha has hb hbs))))))))))
theorem oH {k:Nat} (hk:SPL≤k) {a b:Int} (has:small a=true) (hb:0<b) (hbs:small b=true):FF G fns spn2 sp2 (k+4) "int_divmod" [.int a,.int b]=some (.tup [.int (a.fdiv b),.int (a.fmod b)]):=by
 by_cases ha:0≤a
 ·exact oB C (Nat.le_succ_of_le hk) ha has hb hbs
 ·obtain ⟨n0,n1⟩:=vY ha
  have hs:small (Builtin.bitNot a)=true:=by
   rw [kP];exact decide_eq_true (Nat.lt_of_le_of_lt n1 (de has))
  rw [(oQ hb).1,(oQ hb).2]
  exact bB rfl C.f4 rfl (aD [iv a,iv b,none,none] rfl (aA (bH (am rfl rfl (congrArg some (beq_eq_false_iff_ne.mpr (Int.ne_of_gt hb)))) rfl
   (aA (bH (am (x:= .int b) (y:= .int 0) rfl rfl (congrArg some (decide_eq_false (Int.not_lt.mpr (Int.le_of_lt hb))))) rfl
   (aA (aQ (am (x:= .int a) (y:= .int 0) rfl rfl (congrArg some (decide_eq_true (Int.not_le.mp ha)))) rfl (gy (aw (aY rfl rfl) (oB C hk (by rw [kP];exact n0) hs hb hbs)) (aH (ch (aY rfl rfl)))))))))))
theorem xi {k:Nat} (hk:70≤k) {a b:Int} (has:small a=true) (hb:b≠0) (hbs:small b=true):FF G fns spn2 sp2 k "int_divmod" [.int a,.int b]=some (.tup [.int (a.fdiv b),.int (a.fmod b)]):=by
 obtain ⟨k,rfl⟩:∃ k',k=k'+5:=⟨k - 5,(Nat.sub_add_cancel (Nat.le_trans (by decide) hk)).symm⟩
 have hk:SPL≤k:=Nat.le_of_add_le_add_right (b:=5) (Nat.le_trans (by decide) hk)
 by_cases hp:0<b
 ·exact oH C (Nat.le_succ_of_le hk) has hp hbs
 ·have hb0:b<0:=Int.lt_iff_le_and_ne.mpr ⟨Int.not_lt.mp hp,hb⟩
  have s1:small (-a)=true:=by unfold small at has ⊢;rw [Int.natAbs_neg];exact has
  have s2:small (-b)=true:=by unfold small at hbs ⊢;rw [Int.natAbs_neg];exact hbs
  have key:a.fdiv b=(-a).fdiv (-b)∧a.fmod b = -((-a).fmod (-b)):=by
   rw [Int.neg_fdiv_neg,Int.neg_fmod_neg,Int.neg_neg]
   exact ⟨rfl,rfl⟩
  rw [key.1,key.2]
  exact bB rfl C.f4 rfl (aD [iv a,iv b,none,none] rfl (aA (bH (am rfl rfl (congrArg some (beq_eq_false_iff_ne.mpr hb))) rfl
   (aA (aQ (am (x:= .int b) (y:= .int 0) rfl rfl (congrArg some (decide_eq_true hb0))) rfl
   (gy (aw (aY rfl rfl) (oH C hk s1 (Int.neg_pos_of_neg hb0) s2)) (aH (ch (aY rfl rfl)))))))))
theorem zc {k:Nat} {p:Nat}:FF G fns spn2 sp2 (k+1) "in_table_b1" [.str ⟨#[p]⟩]=some (.bool (b1L.contains (p:Int))) :=
 bB rfl C.f6 rfl (aD [some (.str ⟨#[p]⟩,false)] rfl (aH (vS (i:=(p:Int)) rfl C.b1)))
noncomputable def b3v (b3L:List (Int×Str)) (p:Nat):Str:=(b3L.lookup (p:Int)).elim (Txt.lower ⟨#[p]⟩) id
theorem yi {F:FEnv} {p:Nat}:∀ {o:Option Str},b3L.lookup (p:Int)=o→run G F 2 s_map_table_b3 [.str ⟨#[p]⟩]=some (.str (o.elim (Txt.lower ⟨#[p]⟩) id))
 |none,h=>aD [some (.str ⟨#[p]⟩,false),none] rfl (aB (d:= .none) ((jz (x:= .none) (i:=(p:Int)) rfl rfl C.b3 rfl).trans (by rw [h];rfl)) (cB (x:= .bool false) rfl rfl (bX (aH rfl))))
 |some v,h=>aD [some (.str ⟨#[p]⟩,false),none] rfl (aB (d:= .str v) ((jz (x:= .none) (i:=(p:Int)) rfl rfl C.b3 rfl).trans (by rw [h];rfl)) (aA (aQ (x:= .bool true) rfl rfl (aA (aJ (a:=(.str v,false)) rfl rfl)))))
theorem zI {k:Nat} {p:Nat}:FF G fns spn2 sp2 (k+1) "map_table_b3" [.str ⟨#[p]⟩]=some (.str (b3v b3L p)):=bB rfl C.f7 rfl (yi C rfl)
noncomputable def unseen:List Int:=[173,847,6150,6155,6156,6157,8203,8204,8205,8288,65279,65024,65025,65026,65027,65028,65029,65030,65031,65032,65033,65034,65035,65036,65037,65038,65039]
theorem o9 {k:Nat}:FF G fns spn2 sp2 (k+1) "_law_unseen" []=some (.list (unseen.map .int)):=bB rfl C.f8 rfl rfl
end
end Mine
set_option genSizeOf false
set_option genInjectivity false
namespace Mine
noncomputable def pfName (i:Nat):Str:=(flagN.lookup ((2:Int) ^ i)).elim (hexS ((2:Int) ^ i)) id
noncomputable def pfl:Nat→Nat→Nat→List Str×Int×Bool
 |0,i,h=>([],(2:Int) ^ i * (h:Int),false)
 |n+1,i,h=>if h % 2=1 then (if h / 2=0 then ([pfName i],0,true) else (pfName i :: (pfl n (i+1) (h / 2)).1,(pfl n (i+1) (h / 2)).2)) else pfl n (i+1) (h / 2)
noncomputable def pf (h:Nat):List Str:=(pfl 32 0 h).1++cond (pfl 32 0 h).2.2 [] [hexS (pfl 32 0 h).2.1]
theorem lU (i k:Nat):(2:Int) ^ i * (k:Int)=((2 ^ i * k:Nat):Int):=by push_cast;rfl
theorem ec (a c:Nat):Builtin.bitAnd (a:Int) (c:Int)=((a &&& c:Nat):Int):=by
 unfold Builtin.bitAnd
 rw [decide_eq_true (Int.natCast_nonneg _),decide_eq_true (Int.natCast_nonneg _)];rfl
theorem ip (i h:Nat):Builtin.bitAnd ((2:Int) ^ i * (h:Int)) ((2:Int) ^ i)=(2:Int) ^ i * ((h % 2:Nat):Int):=by
 rw [lU,lU,show ((2:Int) ^ i)=((2 ^ i:Nat):Int) from (Int.natCast_pow 2 i).symm,ec]
 congr 1
 have h1:2 ^ i * h=h <<< i:=by rw [Nat.shiftLeft_eq,Nat.mul_comm]
 have h2:2 ^ i=1 <<< i:=by rw [Nat.shiftLeft_eq,Nat.one_mul]
 have h3:2 ^ i * (h % 2)=(h % 2) <<< i:=by rw [Nat.shiftLeft_eq,Nat.mul_comm]
 rw [h1,h3,h2,← Nat.shiftLeft_and_distrib,Nat.and_one_is_mod]
theorem rt {h:Nat} (ho:h % 2=1):(h:Int)=2 * ((h / 2:Nat):Int)+1:=by omega
theorem oq {h:Nat} (ho:¬ h % 2=1):h % 2=0∧(2:Int) * ((h / 2:Nat):Int)=(h:Int):=by omega
theorem yz (p a:Int):p * (2 * a+1)+p - 2 * p=p * 2 * a:=by
 rw [Int.mul_add,Int.mul_one,← Int.mul_assoc];omega
theorem vM (i h:Nat) (ho:h % 2=1):Builtin.bitXor ((2:Int) ^ i * (h:Int)) ((2:Int) ^ i)=(2:Int) ^ (i+1) * ((h / 2:Nat):Int):=by
 rw [bitXor_and,ip,ho,Int.pow_succ,rt ho,show ((1:Nat):Int)=1 from rfl,Int.mul_one]
 exact yz _ _
noncomputable def pfBody:S:=(.seq (.asg 3 false (.bin .LShift (.cst (.int 1)) (.var 2))) (.seq (.ifs (.bin .BitAnd (.var 0) (.var 3)) (.seq (.app 1 (.dget "COMPILER_FLAG_NAMES" (.var 3) (.blt .hex (.cons (.var 3) .nil)))) (.seq (.aug 0 .BitXor (.var 3)) (.seq (.ifs (.un .Not (.var 0)) (.seq .brk .skip) .skip) .skip))) .skip) .skip))
theorem qo {i:Nat} (h:i≤31):((2:Int) ^ i).natAbs<18446744073709551616:=by
 rw [Int.natAbs_pow]
 exact Nat.lt_of_le_of_lt (Nat.pow_le_pow_right (by decide) h) (by decide)
theorem tC (o:Option Str) (x:Str):o.elim (D.str x) .str = .str (o.elim x id):=by
 cases o with
 |none=>rfl
 |some _=>rfl
section
variable {G:ag} {F:FEnv} {X:Int} {i:Nat} {ns:List D} {x2 x3:Option (D×Bool)}
theorem q7 (hi:i≤31) {σ:MEnv} {b:Bool} (h:ev G F σ true (.var 2)=some (.int (i:Int))):ev G F σ b (.bin .LShift (.cst (.int 1)) (.var 2))=some (.int ((2:Int) ^ i)):=by
 have:=uu (a:=1) (n:=i) (bv (by decide)) (Nat.le_trans hi (by decide))
 rw [Int.one_mul] at this
 exact ai rfl h this
theorem zh (hi:i≤31) (h:Builtin.bitAnd X ((2:Int) ^ i)=0):bodyT G F [2] true pfBody [iv X,some (.list ns,true),x2,x3] (.int (i:Int))=some ([iv X,some (.list ns,true),iv i,iv ((2:Int) ^ i)],.next) :=
 ad (a:=[iv X,some (.list ns,true),iv i,x3]) rfl (aB (q7 hi rfl) (cB (x:= .int 0) (ai (x:= .int X) (y:= .int ((2:Int) ^ i)) rfl rfl (congrArg (some ∘ D.int) h)) rfl (bX rfl)))
theorem xv (hG:G.idict "COMPILER_FLAG_NAMES"=some flagN) (hi:i≤31) (hn:ns.length≤31) {Z Y:Int} (h:Builtin.bitAnd X ((2:Int) ^ i)=Z) (hz:(Z==0)=false) (hx:Builtin.bitXor X ((2:Int) ^ i)=Y) {o:Out}
  (k:ex G F [iv Y,some (.list (ns++[.str (pfName i)]),true),iv i,iv ((2:Int) ^ i)] (.seq (.ifs (.un .Not (.var 0)) (.seq .brk .skip) .skip) .skip)=some ([iv Y,some (.list (ns++[.str (pfName i)]),true),iv i,iv ((2:Int) ^ i)],o)) :
  bodyT G F [2] true pfBody [iv X,some (.list ns,true),x2,x3] (.int (i:Int))=some ([iv Y,some (.list (ns++[.str (pfName i)]),true),iv i,iv ((2:Int) ^ i)],o):=by
 have e:ev G F [iv X,some (.list ns,true),iv i,iv ((2:Int) ^ i)] false (.dget "COMPILER_FLAG_NAMES" (.var 3) (.blt .hex (.cons (.var 3) .nil)))=some (.str (pfName i)) :=
  (jz (x:= .str (hexS ((2:Int) ^ i))) (i:=(2:Int) ^ i) rfl (aS (aR rfl) (uz (qo hi))) hG rfl).trans (congrArg some (tC _ _))
 refine ad (a:=[iv X,some (.list ns,true),iv i,x3]) rfl (aB (q7 hi rfl) (ad (a:=([iv Y,some (.list (ns++[.str (pfName i)]),true),iv i,iv ((2:Int) ^ i)],o)) ?_ ?_))
 ·refine aQ (x:= .int Z) (ai (x:= .int X) (y:= .int ((2:Int) ^ i)) rfl rfl (congrArg (some ∘ D.int) h)) (by show some (!(Z==0))=_;rw [hz];rfl) ?_
  exact gJ rfl (aj (Nat.le_trans hn (by decide))) e (aq (kt (m:=X) rfl rfl rfl (congrArg (some ∘ D.int) hx)) k)
 ·cases o with
  |next=>rfl
  |_=>rfl
end
theorem wi {G:ag} {F:FEnv} {Y:Int} {x1 x2 x3:Option (D×Bool)} {o:Out} (h:cond (Y==0) .brk .next=o):ex G F [iv Y,x1,x2,x3] (.seq (.ifs (.un .Not (.var 0)) (.seq .brk .skip) .skip) .skip)=some ([iv Y,x1,x2,x3],o):=by
 subst h
 cases e:Y==0 with
 |true=>exact vn (aQ (x:= .bool true) (gk (x:= .int Y) rfl (aJ rfl (by rw [e];rfl))) rfl rfl)
 |false=>exact aq (bH (x:= .bool false) (gk (x:= .int Y) rfl (aJ rfl (by rw [e];rfl))) rfl rfl) rfl
theorem yP {h i:Nat}:((2:Int) ^ (i+1) * ((h / 2:Nat):Int)==0)=decide (h / 2=0):=by
 by_cases q:h / 2=0
 ·rw [decide_eq_true q,q,show ((0:Nat):Int)=0 from rfl,Int.mul_zero];rfl
 ·rw [decide_eq_false q,beq_eq_false_iff_ne]
  exact Int.ne_of_gt (Int.mul_pos (ba _) (Int.natCast_pos.mpr (Nat.pos_of_ne_zero q)))
theorem hK {G:ag} {F:FEnv} (hG:G.idict "COMPILER_FLAG_NAMES"=some flagN):∀ (n i h:Nat) (ns:List Str) (x2 x3:Option (D×Bool)),i+n≤32→ns.length≤i →
  ∃ x2' x3',loopL (bodyT G F [2] true pfBody) [iv ((2:Int) ^ i * (h:Int)),some (.list (ns.map .str),true),x2,x3] (rangeD (i:Int) n) =
   some ([iv (pfl n i h).2.1,some (.list ((ns++(pfl n i h).1).map .str),true),x2',x3'],cond (pfl n i h).2.2 .brk .next)
 |0,i,h,ns,x2,x3,hi,hn=>⟨x2,x3,by rw [show (pfl 0 i h).1=[] from rfl,List.append_nil];rfl⟩
 |n+1,i,h,ns,x2,x3,hi,hn=>by
  have hi1:i+1+n≤32:=Nat.le_trans (Nat.le_of_eq (Nat.succ_add_eq_add_succ i n)) hi
  have hi31:i≤31:=Nat.le_of_succ_le_succ (Nat.le_trans (Nat.le_add_right _ _) hi1)
  have hn1:(ns++[pfName i]).length≤i+1:=by rw [List.length_append];exact Nat.succ_le_succ hn
  show ∃ x2' x3',loopL _ _ (D.int (i:Int) :: rangeD ((i+1:Nat):Int) n)=_
  by_cases ho:h % 2=1
  ·have hz:((2:Int) ^ i * ((h % 2:Nat):Int)==0)=false:=by rw [ho];exact beq_eq_false_iff_ne.mpr (Int.ne_of_gt (Int.mul_pos (ba i) (by decide)))
   have ht:=fun {o:Out} (k:cond (decide (h / 2=0)) .brk .next=o)=>xv (F:=F) (x2:=x2) (x3:=x3) (ns:=ns.map .str) hG hi31 (by rw [List.length_map];exact Nat.le_trans hn hi31) (ip i h) hz (vM i h ho) (wi ((congrArg (fun c=>cond c Out.brk Out.next) yP).trans k))
   rw [show ns.map D.str++[.str (pfName i)]=(ns++[pfName i]).map .str by rw [List.map_append];rfl] at ht
   by_cases hz:h / 2=0
   ·refine ⟨iv i,iv ((2:Int) ^ i),(ou (ht (by rw [decide_eq_true hz];rfl))).trans ?_⟩
    rw [pfl,if_pos ho,if_pos hz,hz,show ((0:Nat):Int)=0 from rfl,Int.mul_zero];rfl
   ·obtain ⟨y2,y3,ih⟩:=hK hG n (i+1) (h / 2) (ns++[pfName i]) (iv i) (iv ((2:Int) ^ i)) hi1 hn1
    refine ⟨y2,y3,aU (ht (by rw [decide_eq_false hz];rfl)) (ih.trans ?_)⟩
    rw [pfl,if_pos ho,if_neg hz,List.append_assoc];rfl
  ·obtain ⟨h0,h2⟩:=oq ho
   have hh:(2:Int) ^ (i+1) * ((h / 2:Nat):Int)=(2:Int) ^ i * (h:Int):=by rw [Int.pow_succ,Int.mul_assoc,h2]
   obtain ⟨y2,y3,ih⟩:=hK hG n (i+1) (h / 2) ns (iv i) (iv ((2:Int) ^ i)) hi1 (Nat.le_succ_of_le hn)
   rw [hh] at ih
   refine ⟨y2,y3,aU (zh hi31 (by rw [ip,h0];exact Int.mul_zero _)) (ih.trans ?_)⟩
   rw [pfl,if_neg ho]
theorem mS:∀ (n i h:Nat),(pfl n i h).1.length≤n
 |0,i,h=>Nat.le_refl 0
 |n+1,i,h=>by
  have:=mS n (i+1) (h / 2)
  rw [pfl]
  by_cases h1:h % 2=1
  ·rw [if_pos h1]
   by_cases h2:h / 2=0
   ·rw [if_pos h2];exact Nat.succ_le_succ (Nat.zero_le n)
   ·rw [if_neg h2];exact Nat.succ_le_succ this
  ·rw [if_neg h1];exact Nat.le_succ_of_le this
theorem yh {G:ag} {F:FEnv} (hG:G.idict "COMPILER_FLAG_NAMES"=some flagN) {h:Nat} (hrem:(pfl 32 0 h).2.1.natAbs<18446744073709551616) (hsz:sizeOk (2 * (pf h).length+((pf h).map (·.length)).sum)=true) :
  run G F 4 s_pretty_flags [.int (h:Int)]=some (.str (Txt.join ", " (pf h))):=by
 obtain ⟨x2,x3,hl⟩:=hK (F:=F) hG 32 0 h [] none none (by decide) (by decide)
 rw [show (2:Int) ^ 0 * (h:Int)=(h:Int) from Int.one_mul _,List.nil_append] at hl
 have hlen:=mS 32 0 h
 have hfin:∀ fl,ex G F [iv fl,some (.list ((pf h).map .str),true),x2,x3] (.seq (.ret (.meth .join (.cst (.str ", ")) (.cons (.var 1) .nil))) .skip)=some ([iv fl,some (.list ((pf h).map .str),true),x2,x3],.ret (.str (Txt.join ", " (pf h)))):=fun fl =>
  aH (bw (x:= .str ", ") (ds:=[.list ((pf h).map .str)]) rfl rfl (kR hsz))
 have hI:evI G F [iv h,some (.list [],true),none,none] false .range1 (.cst (.int 32)) .nil=some (rangeD 0 32):=rfl
 unfold pf at hfin ⊢
 generalize pfl 32 0 h=P at *
 obtain ⟨ns,fl,bk⟩:=P
 cases bk with
 |true =>
  rw [show ns++cond true [] [hexS fl]=ns from List.append_nil _] at hfin ⊢
  exact aD [iv h,none,none,none] rfl (dF (d:= .list []) rfl rfl (xH rfl hI hl (hfin fl)))
 |false =>
  have he:ex G F [iv fl,some (.list (ns.map .str),true),x2,x3] (.seq (.app 1 (.blt .hex (.cons (.var 0) .nil))) .skip)=some ([iv fl,some (.list ((ns++cond false [] [hexS fl]).map .str),true),x2,x3],.next) :=
   gJ (xs:=ns.map D.str) rfl (aj (by rw [List.length_map];exact Nat.le_trans hlen (by decide))) (aS (aR rfl) (uz hrem)) (by rw [List.map_append];rfl)
  exact aD [iv h,none,none,none] rfl (dF (d:= .list []) rfl rfl (xG rfl hI hl he (hfin fl)))
end Mine
set_option genSizeOf false
set_option genInjectivity false
namespace Mine
open PySem.StrLaws PySem.Builtin PySem.Builtin.Str
noncomputable def mk (l:List Nat):PySem.Str:=⟨l.toArray⟩
theorem au (l:List Nat):(mk l).length=l.length:=List.size_toArray
theorem bO (l:List Nat):(mk l).cps.toList=l:=rfl
theorem xy (x:PySem.Str):mk x.cps.toList=x:=congrArg PySem.Str.mk (Array.toArray_toList)
theorem r9 (x:PySem.Str):x.cps.toList.length=x.length:=Array.length_toList
theorem xK {a b:List Nat} (h:mk a=mk b):a=b:=congrArg (fun x:PySem.Str=>x.cps.toList) h
theorem qE (a b:List Nat):(mk a==mk b)=(a==b):=by
 by_cases h:a=b
 ·rw [h,beq_self_eq_true,beq_self_eq_true]
 ·rw [beq_eq_false_iff_ne.mpr h,beq_eq_false_iff_ne.mpr fun q=>h (xK q)]
noncomputable def dots:List Nat:=[46,46,46]
theorem ea:("...":PySem.Str)=mk dots:=by decide
noncomputable def joinL:List (List Nat)→List Nat
 | []=>[]
 | [p]=>p
 |p :: q :: r=>p++dots++joinL (q :: r)
theorem eL (x:PySem.Str) (l:List Nat) (hi i:Nat):StrLaws.At x (mk l) hi i↔i+l.length≤hi∧(x.cps.toList.drop i).take l.length=l:=by
 unfold StrLaws.At
 rw [au,subAt_eq,au,bO,beq_iff_eq]
theorem qQ {x:PySem.Str} {i:Nat} (h:StrLaws.At x (mk dots) x.length i):x.cps.toList[i]? = some 46:=by
 have h2:=((eL x dots x.length i).mp h).2
 have h3:((x.cps.toList.drop i).take 3)[0]? = some 46:=congrArg (fun l:List Nat=>l[0]?) h2
 rw [List.getElem?_take,if_pos (by decide),List.getElem?_drop] at h3
 exact h3
theorem qa {x:PySem.Str} {a k:Nat} {p r:List Nat} (hd:46∉p) (hx:x.cps.toList.drop a=p++r) (h1:a≤k) (h2:k<a+p.length):¬ StrLaws.At x (mk dots) x.length k:=fun hk=>by
 have h3:=qQ hk
 have e:(x.cps.toList.drop a)[k - a]? = some 46:=by rw [List.getElem?_drop,Nat.add_sub_cancel' h1];exact h3
 rw [hx,List.getElem?_append_left (Nat.sub_lt_left_of_lt_add h1 h2)] at e
 exact hd (List.mem_of_getElem? e)
theorem jY {x:PySem.Str} {a:Nat} {p r:List Nat} (hx:x.cps.toList.drop a=p++r):strSub x a (a+p.length)=mk p:=by
 rw [← xy (strSub x a (a+p.length)),strSub_toList,hx,Nat.add_sub_cancel_left,List.take_left]
theorem jp {x:PySem.Str} {a:Nat} {p:List Nat} (hx:x.cps.toList.drop a=p) (ha:a≤x.length):x.length=a+p.length:=by
 rw [← hx,List.length_drop,r9,Nat.add_sub_cancel' ha]
theorem gA (x:PySem.Str):∀ (ps:List (List Nat)) (a:Nat) (cuts:List Nat) (f:Nat),ps≠[]→(∀ p∈ps,46∉p)→x.cps.toList.drop a=joinL ps→a≤x.length→ChainG x (mk dots) x.length a cuts f→(∀ k,f≤k→¬ StrLaws.At x (mk dots) x.length k)→partsFrom x 3 a cuts=ps.map mk
 | [],_,_,_,h,_,_,_,_,_=>absurd rfl h
 | [p],a,cuts,f,_,hd,hx,ha,hc,hn=>by
  have hx':x.cps.toList.drop a=p++[]:=hx.trans (List.append_nil p).symm
  have hl:=jp (p:=p) hx ha
  cases cuts with
  |nil=>exact congrArg (· :: []) ((congrArg (strSub x a) hl).trans (jY hx'))
  |cons c r =>
   have lt:c<a+p.length:=Nat.lt_of_lt_of_le (Nat.lt_add_of_pos_right (by decide)) (hl▸((eL x dots x.length c).mp hc.2.1).1)
   exact absurd hc.2.1 (qa (hd p List.mem_cons_self) hx' hc.1 lt)
 |p :: q :: r,a,cuts,f,_,hd,hx,ha,hc,hn=>by
  have hx':x.cps.toList.drop a=p++(dots++joinL (q :: r)):=hx.trans (List.append_assoc p dots _)
  have hlen:x.length=a+p.length+(3+(joinL (q :: r)).length):=by
   rw [jp hx' ha,List.length_append,List.length_append,Nat.add_assoc];rfl
  have hdrop:x.cps.toList.drop (a+p.length)=dots++joinL (q :: r):=by rw [← List.drop_drop,hx',List.drop_left]
  have hA:StrLaws.At x (mk dots) x.length (a+p.length):=by
   rw [eL,hdrop,hlen]
   exact ⟨Nat.add_le_add_left (Nat.le_add_right 3 _) _,List.take_left⟩
  have hno:=fun k h1 h2=>qa (k:=k) (hd p List.mem_cons_self) hx' h1 h2
  cases cuts with
  |nil =>
   obtain rfl:f=a:=hc
   exact absurd hA (hn _ (Nat.le_add_right _ _))
  |cons c rest =>
   obtain ⟨c1,c2,c3,c4⟩:=hc
   obtain rfl:c=a+p.length:=Nat.le_antisymm (Nat.not_lt.mp fun h=>c3 _ (Nat.le_add_right _ _) h hA) (Nat.not_lt.mp fun h=>hno c c1 h c2)
   have hnext:x.cps.toList.drop (a+p.length+3)=joinL (q :: r):=by
    rw [← List.drop_drop,hdrop];exact List.drop_left (l₁:=dots)
   have ih:=gA x (q :: r) (a+p.length+3) rest f (List.cons_ne_nil _ _) (fun p' hp'=>hd p' (List.mem_cons_of_mem _ hp')) hnext (by rw [hlen];exact Nat.add_le_add_left (Nat.le_add_right 3 _) _) (by rw [au] at c4;exact c4) hn
   show strSub x a (a+p.length) :: partsFrom x 3 (a+p.length+3) rest=_
   rw [ih,jY hx'];rfl
theorem rh (x:PySem.Str):1≤PySem.Builtin.Str.strKind x:=by
 unfold PySem.Builtin.Str.strKind
 split
 ·exact Nat.le_refl 1
 ·split
  ·decide
  ·decide
theorem zo (x:PySem.Str):decide (PySem.Builtin.Str.strKind x<PySem.Builtin.Str.strKind (mk dots))=false:=by
 rw [show PySem.Builtin.Str.strKind (mk dots)=1 from by decide +kernel]
 exact decide_eq_false (Nat.not_lt.mpr (rh x))
theorem iG (p q:List Nat) (r:List (List Nat)):3+p.length≤(joinL (p :: q :: r)).length:=by
 show _≤(p++dots++joinL (q :: r)).length
 rw [List.length_append,List.length_append,Nat.add_comm 3]
 exact Nat.le_add_right _ _
theorem n6 {ps:List (List Nat)} (h:ps≠[]) (hd:∀ p∈ps,46∉p):Txt.split (mk (joinL ps)) (mk dots)=ps.map mk:=by
 obtain ⟨f,hc,hn⟩:=occ_tight (mk (joinL ps)) (mk dots) (by rw [au];decide)
 have hp:=gA (mk (joinL ps)) ps 0 _ f h hd rfl (Nat.zero_le _) hc hn
 unfold Txt.split
 rw [zo,Bool.or_false,partsBetween_eq,au dots,show dots.length=3 from rfl]
 by_cases hs:decide ((mk (joinL ps)).length<3)=true
 ·rw [if_pos hs]
  have hs:=of_decide_eq_true hs
  cases ps with
  |nil=>exact absurd rfl h
  |cons p r =>
   cases r with
   |nil=>rfl
   |cons q r=>exact absurd (Nat.le_trans (Nat.le_add_right _ _) (iG p q r)) (Nat.not_le.mpr (au _▸hs))
 ·rw [if_neg hs]
  by_cases he:(occurrences (mk (joinL ps)) (mk dots) 0 (mk (joinL ps)).length ((mk (joinL ps)).length+1)).isEmpty=true
  ·rw [if_pos he]
   rw [List.isEmpty_iff.mp he] at hp
   rw [← hp]
   exact congrArg (· :: []) (jY (x:=mk (joinL ps)) (a:=0) (p:=joinL ps) (r:=[]) (List.append_nil _).symm |>.symm.trans (by rw [Nat.zero_add,au]))
  ·rw [if_neg he];exact hp
theorem wT {ps:List (List Nat)} (h:ps≠[]) (hd:∀ p∈ps,46∉p):strIn (mk dots) (mk (joinL ps))=decide (2≤ps.length):=by
 unfold strIn
 rcases occ_head (mk (joinL ps)) (mk dots) 1 (Nat.le_refl _) with ⟨h0,hn⟩ |⟨i,r,h0,ha,_⟩
 ·rw [h0]
  cases ps with
  |nil=>exact absurd rfl h
  |cons p r =>
   cases r with
   |nil=>rfl
   |cons q r =>
    refine absurd ?_ (hn p.length)
    rw [eL,au]
    refine ⟨by rw [Nat.add_comm];exact iG p q r,?_⟩
    show ((p++dots++joinL (q :: r)).drop p.length).take 3=dots
    rw [List.append_assoc,List.drop_left];exact List.take_left (l₁:=dots)
 ·rw [h0]
  cases ps with
  |nil=>exact absurd rfl h
  |cons p q =>
   cases q with
   |nil=>exact absurd (List.mem_of_getElem? (qQ ha)) (hd p List.mem_cons_self)
   |cons q r=>exact (decide_eq_true (Nat.le_add_left 2 _)).symm
noncomputable def isAt (t w:List Nat) (i:Nat):Bool:=decide (i+w.length≤t.length)&&(t.drop i).take w.length==w
theorem oP (t w:List Nat):Txt.startswith (mk t) (mk w)=isAt t w 0:=by
 unfold Txt.startswith isAt
 rw [subAt_eq,au,au,bO,bO]
theorem wS (t w:List Nat):Txt.endswith (mk t) (mk w)=(decide (w.length≤t.length)&&isAt t w (t.length - w.length)):=by
 unfold Txt.endswith isAt
 rw [subAt_eq,au,au,bO,bO,Nat.zero_add]
 by_cases h:w.length≤t.length
 ·rw [decide_eq_true h,Nat.sub_add_cancel h,decide_eq_true (Nat.le_refl _)];rfl
 ·rw [decide_eq_false h];rfl
noncomputable def fitP (t w:List Nat) (hi i:Nat):Bool:=decide (i+w.length≤hi)&&((t.drop i).take w.length==w)
noncomputable def findL (t w:List Nat) (lo hi:Nat):Option Nat:=(List.range' lo (hi+1 - lo)).find? (fitP t w hi)
theorem jG (t w:List Nat) (hi i:Nat):StrLaws.At (mk t) (mk w) hi i↔fitP t w hi i=true:=by
 unfold fitP
 rw [eL,bO,Bool.and_eq_true,decide_eq_true_eq,beq_iff_eq]
noncomputable def fndI (o:Option Nat):Int:=match o with |some i=>(i:Int) |none=> -1
theorem tK {arr:Array Nat} {a:Nat} (h:arr[0]? = some a):∃ r,arr.toList=a :: r:=by
 rw [← Array.getElem?_toList] at h
 cases e:arr.toList with
 |nil=>rw [e] at h;exact nomatch h
 |cons b r=>rw [e] at h;exact ⟨r,by rw [sm h]⟩
theorem vg (t w:List Nat) (lo hi:Nat) (h:hi≤t.length) (hs:hi<4611686018427387904) (hl:lo<4611686018427387904):findIn (mk t) (mk w) (lo:Int) (hi:Int)=some (fndI (findL t w lo hi)):=by
 refine ao (c:=(idxOk (lo:Int)&&idxOk (hi:Int)&&decide (0≤(lo:Int))&&decide (0≤(hi:Int)))=true) ?_ (congrArg some ?_)
 ·rw [show idxOk (lo:Int)=true from decide_eq_true hl,show idxOk (hi:Int)=true from decide_eq_true hs,decide_eq_true (Int.natCast_nonneg lo),decide_eq_true (Int.natCast_nonneg hi)];rfl
 rw [au,Int.toNat_natCast,Int.toNat_natCast,Nat.min_eq_left h,occ_eq]
 rcases occ_first (mk t) (mk w) hi 1 (Nat.le_refl _) (List.range' lo (hi+1 - lo)) lo (fun i hi=>(List.mem_range'_1.mp hi).1) with ⟨h0,hn⟩ |⟨pre,a,post,e,h0,ha,hn⟩
 ·rw [h0,show findL t w lo hi=none from List.find?_eq_none.mpr fun i hi' hq=>hn i hi' ((jG t w hi i).mpr hq)];rfl
 ·have:findL t w lo hi=some a:=by
   unfold findL
   rw [e,List.find?_append,List.find?_eq_none.mpr fun i hi' hq=>hn i hi' ((jG t w hi i).mpr hq),List.find?_cons,(jG t w hi a).mp ha];rfl
  obtain ⟨r,er⟩:=tK h0
  rw [this,er];rfl
noncomputable def midL (t:List Nat):List (List Nat)→Nat→Nat→Bool
 | [],_,_=>true
 |w :: ws,lo,hi=>match findL t w lo hi with
  |some i=>midL t ws (i+w.length) hi
  |none=>false
noncomputable def tailL (t:List Nat) (ws:List (List Nat)) (lo:Nat):Bool :=
 if (ws.getLastD []).isEmpty then (if t.length<lo then false else midL t ws lo t.length)
 else if decide ((ws.getLastD []).length≤t.length)&&isAt t (ws.getLastD []) (t.length - (ws.getLastD []).length) then
  (if t.length - (ws.getLastD []).length<lo then false else midL t ws.dropLast lo (t.length - (ws.getLastD []).length))
 else false
noncomputable def emL:List (List Nat)→List Nat→Bool
 | [],_=>false
 | [w],t=>w==t
 |p :: q :: r,t=>if p.isEmpty then tailL t (p :: q :: r) 0 else if isAt t p 0 then tailL t (q :: r) p.length else false
end Mine
set_option genSizeOf false
set_option genInjectivity false
namespace Mine
noncomputable def emBody:S:=(.seq (.asg 3 false (.meth .find3 (.var 1) (.cons (.var 5) (.cons (.var 3) (.cons (.var 4) .nil))))) <|
  (.seq (.ifs (.cmp .Lt (.var 3) (.cst (.int 0))) (.seq (.ret (.cst (.bool false))) <|
   .skip) .skip) <|
  (.seq (.aug 3 .Add (.blt .len (.cons (.var 5) .nil))) <|
  .skip)))
noncomputable def emTail:S:=(.seq (.fors [5] true .plain (.var 2) .nil emBody .skip)<|(.seq (.ret (.cst (.bool true))) <| .skip))
noncomputable def emMid:S:=(.seq (.asg 5 false (.idx (.var 2) (.un .USub (.cst (.int 1))))) <|
 (.seq (.ifs (.var 5) (.seq (.ifs (.meth .endswith (.var 1) (.cons (.var 5) .nil)) (.seq (.aug 4 .Sub (.blt .len (.cons (.var 5) .nil))) <|
   (.seq (.del 2 (.un .USub (.cst (.int 1)))) <|
   .skip)) (.seq (.ret (.cst (.bool false))) <|
   .skip)) <|
  .skip) .skip) <|
 (.seq (.ifs (.cmp .Gt (.var 3) (.var 4)) (.seq (.ret (.cst (.bool false))) <|
  .skip) .skip)<|emTail)))
noncomputable abbrev sv (x:Str):Option (D×Bool):=some (.str x,false)
noncomputable def wsD (ws:List (List Nat)):List D:=ws.map fun w=> .str (mk w)
theorem cH {w:List Nat} (h:w.length≤1000):sizeOk (mk w).length=true:=by
 rw [au];exact aj (Nat.le_trans h (by decide))
theorem fD {ws:List (List Nat)} (h:ws.length≤100):sizeOk (wsD ws).length=true:=aj (by unfold wsD;rw [List.length_map];exact Nat.le_trans h (by decide))
section
variable {G:ag} {F:FEnv} {x0 x2 x5:Option (D×Bool)} {t:List Nat}
noncomputable def fndZ (o:Option Nat):Int:=o.elim (-1) fun i=>(i:Int)
theorem yZ {t w:List Nat} {lo hi:Nat} (h:hi≤t.length) (ht:t.length≤1000) (hl:lo≤1000000):methD .find3 (.str (mk t)) [.str (mk w),.int (lo:Int),.int (hi:Int)]=some (.int (fndZ (findL t w lo hi))):=by
 show (findIn (mk t) (mk w) (lo:Int) (hi:Int)).map D.int=_
 rw [vg t w lo hi h (Nat.lt_of_le_of_lt (Nat.le_trans h ht) (by decide)) (Nat.lt_of_le_of_lt hl (by decide))]
 cases findL t w lo hi with
 |none=>rfl
 |some _=>rfl
theorem zx {T W:Str} {lo hi:Int} (hf:methD .find3 (.str T) [.str W,.int lo,.int hi]=some (.int (-1))) :
  bodyT G F [5] true emBody [x0,sv T,x2,iv lo,iv hi,x5] (.str W)=some ([x0,sv T,x2,iv (-1),iv hi,sv W],.ret (.bool false)) :=
 ad (a:=[x0,sv T,x2,iv lo,iv hi,sv W]) rfl (aB (bw (ab rfl) (fG rfl rfl rfl) hf) (aA (aQ (x:= .bool true) rfl rfl (aH rfl))))
theorem ye {T W:Str} {lo hi:Int} {i n:Nat} (hf:methD .find3 (.str T) [.str W,.int lo,.int hi]=some (.int (i:Int))) (hs:sizeOk W.length=true) (hn:W.length=n) :
  bodyT G F [5] true emBody [x0,sv T,x2,iv lo,iv hi,x5] (.str W)=some ([x0,sv T,x2,iv ((i+n:Nat):Int),iv hi,sv W],.next):=by
 subst hn
 exact ad (a:=[x0,sv T,x2,iv lo,iv hi,sv W]) rfl (aB (bw (ab rfl) (fG rfl rfl rfl) hf) (cB (x:= .bool false) (am (x:= .int (i:Int)) (y:= .int 0) rfl rfl (congrArg some (decide_eq_false (Int.not_lt.mpr (Int.natCast_nonneg i))))) rfl (bX
  (aq (kt (m:=(i:Int)) (n:=(W.length:Int)) rfl (aS (aR rfl) (ao hs rfl)) rfl rfl) rfl))))
theorem vT {w:List Nat} {lo hi i:Nat} (h:findL t w lo hi=some i):i+w.length≤hi:=aa (List.find?_some h :) fun h1 _=>de h1
theorem mU:∀ (ws:List (List Nat)) (lo hi:Nat) (x5:Option (D×Bool)),(∀ w∈ws,w.length≤1000)→hi≤t.length→t.length≤1000→lo≤1000 →
  ∃ y3 y5,loopL (bodyT G F [5] true emBody) [x0,sv (mk t),x2,iv lo,iv hi,x5] (wsD ws)=some ([x0,sv (mk t),x2,y3,iv hi,y5],cond (midL t ws lo hi) .next (.ret (.bool false)))
 | [],lo,hi,x5,_,_,_,_=>⟨_,_,rfl⟩
 |w :: ws,lo,hi,x5,hw,hh,ht,hl=>by
  have hf:=yZ (w:=w) hh ht (Nat.le_trans hl (by decide))
  cases hc:findL t w lo hi with
  |none =>
   rw [hc] at hf
   refine ⟨iv (-1),sv (mk w),(qV (zx hf)).trans ?_⟩
   rw [midL,hc];rfl
  |some i =>
   rw [hc] at hf
   obtain ⟨y3,y5,ih⟩:=mU ws (i+w.length) hi (sv (mk w)) (fun w' h'=>hw w' (List.mem_cons_of_mem _ h')) hh ht (Nat.le_trans (vT hc) (Nat.le_trans hh ht))
   refine ⟨y3,y5,aU (ye hf (cH (hw w List.mem_cons_self)) (au w)) (ih.trans ?_)⟩
   rw [midL,hc]
theorem wB {ws:List (List Nat)} {lo hi:Nat} {b2:Bool} (hw:∀ w∈ws,w.length≤1000) (hn:ws.length≤100) (hh:hi≤t.length) (ht:t.length≤1000) (hl:lo≤1000) :
  ∃ σ,ex G F [x0,sv (mk t),some (.list (wsD ws),b2),iv lo,iv hi,x5] emTail=some (σ,.ret (.bool (midL t ws lo hi))):=by
 obtain ⟨y3,y5,h⟩:=mU (G:=G) (F:=F) (x0:=x0) (x2:=some (.list (wsD ws),false)) ws lo hi x5 hw hh ht hl
 have hi':evI G F (freeze [x0,sv (mk t),some (.list (wsD ws),b2),iv lo,iv hi,x5] (.var 2)) false .plain (.var 2) .nil=some (wsD ws):=kJ (ab rfl) (ao (fD hn) rfl)
 cases hm:midL t ws lo hi with
 |true =>
  rw [hm] at h
  exact ⟨_,c9 rfl hi' h (aH rfl)⟩
 |false =>
  rw [hm] at h
  exact ⟨_,xh rfl hi' h⟩
theorem vy {n:Nat} (h:0<n):0 ≤ -1+(n:Int)∧(-1+(n:Int)).toNat=n - 1:=by omega
theorem oU {ws:List (List Nat)} (h:ws≠[]):idxL (wsD ws) (-1)=some (.str (mk (ws.getLastD []))):=by
 obtain ⟨h1,h2⟩:=vy (List.length_pos_iff.mpr h)
 have hl:(wsD ws).length=ws.length:=List.length_map _
 refine ao (show idxOk (-1)=true from rfl) ((if_neg (by decide)).trans ?_)
 rw [hl,if_pos h1,h2]
 unfold wsD
 rw [List.getElem?_map,← List.getLast?_eq_getElem?,List.getLast?_eq_some_getLast h,List.getLastD_eq_getLast?,List.getLast?_eq_some_getLast h]
 rfl
theorem vV (ws:List (List Nat)):(wsD ws).eraseIdx ((wsD ws).length - 1)=wsD ws.dropLast:=by
 rw [List.eraseIdx_eq_take_drop_succ,List.drop_eq_nil_of_le (Nat.sub_le_iff_le_add.mp (Nat.le_refl _)),List.append_nil,← List.dropLast_eq_take]
 exact List.map_dropLast.symm
theorem ud {ws:List (List Nat)} {lo hi:Nat} {b2:Bool} (hw:∀ w∈ws,w.length≤1000) (hn:ws.length≤100) (hh:hi≤t.length) (ht:t.length≤1000) (hl:lo≤1000) :
  ∃ σ,ex G F [x0,sv (mk t),some (.list (wsD ws),b2),iv lo,iv hi,x5] (.seq (.ifs (.cmp .Gt (.var 3) (.var 4)) (.seq (.ret (.cst (.bool false))) .skip) .skip) emTail)=some (σ,.ret (.bool (if hi<lo then false else midL t ws lo hi))):=by
 by_cases h:hi<lo
 ·rw [if_pos h]
  exact ⟨_,aA (aQ (am (x:= .int (lo:Int)) (y:= .int (hi:Int)) rfl rfl (congrArg some (decide_eq_true (Int.ofNat_lt.mpr h)))) rfl (aH rfl))⟩
 ·rw [if_neg h]
  obtain ⟨σ,e⟩:=wB (G:=G) (F:=F) (x0:=x0) (x5:=x5) (b2:=b2) hw hn hh ht hl
  exact ⟨σ,cB (am (x:= .int (lo:Int)) (y:= .int (hi:Int)) rfl rfl (congrArg some (decide_eq_false fun q=>h (Int.ofNat_lt.mp q)))) rfl (bX e)⟩
theorem ee {w:List Nat} (h:w.length≤1000):truthy (.str (mk w))=some (!w.isEmpty):=ao (cH h) (by
 rw [au]
 cases w with
 |nil=>rfl
 |cons _ _=>rfl)
theorem qi {t w:Nat} (h:w≤t):(t:Int) - (w:Int)=((t - w:Nat):Int):=(Int.ofNat_sub h).symm
theorem pe {ws:List (List Nat)} {lo:Nat} (hne:ws≠[]) (hw:∀ w∈ws,w.length≤1000) (hn:ws.length≤100) (ht:t.length≤1000) (hl:lo≤1000) :
  ∃ σ,ex G F [x0,sv (mk t),some (.list (wsD ws),true),iv lo,iv t.length,x5] emMid=some (σ,.ret (.bool (tailL t ws lo))):=by
 have hlast:=oU hne
 have hm:ws.getLastD []∈ws:=by rw [List.getLastD_eq_getLast?,List.getLast?_eq_some_getLast hne];exact List.getLast_mem hne
 have hwl:=hw _ hm
 unfold tailL
 generalize ws.getLastD []=w at *
 have hidx:ev G F [x0,sv (mk t),some (.list (wsD ws),true),iv lo,iv t.length,x5] false (.idx (.var 2) (.un .USub (.cst (.int 1))))=some (.str (mk w)):=aC (x:= .list (wsD ws)) (y:= .int (-1)) rfl rfl hlast
 cases hz:w.isEmpty with
 |true =>
  rw [if_pos rfl]
  obtain ⟨σ,e⟩:=ud (G:=G) (F:=F) (x0:=x0) (x5:=sv (mk w)) (b2:=true) hw hn (Nat.le_refl _) ht hl
  exact ⟨σ,aB hidx (cB (ab rfl) ((ee hwl).trans (by rw [hz];rfl)) (bX e))⟩
 |false =>
  rw [if_neg (by decide)]
  have htr:truthy (.str (mk w))=some true:=(ee hwl).trans (by rw [hz];rfl)
  have hends:=wS t w
  have hend:ev G F [x0,sv (mk t),some (.list (wsD ws),true),iv lo,iv t.length,sv (mk w)] true (.meth .endswith (.var 1) (.cons (.var 5) .nil))=some (.bool (decide (w.length≤t.length)&&isAt t w (t.length - w.length))):=bw (ab rfl) (aR (ab rfl)) (congrArg (some ∘ D.bool) hends)
  cases he:(decide (w.length≤t.length)&&isAt t w (t.length - w.length)) with
  |false =>
   rw [he] at hend
   rw [if_neg (by decide)]
   exact ⟨_,aB hidx (aA (aQ (ab rfl) htr (aA (bH hend rfl (aH rfl)))))⟩
  |true =>
   rw [he] at hend
   rw [if_pos rfl]
   have hle:w.length≤t.length:=aa he fun h _=>de h
   obtain ⟨σ,e⟩:=ud (G:=G) (F:=F) (x0:=x0) (x5:=sv (mk w)) (b2:=true) (hi:=t.length - w.length) (fun w' h'=>hw w' ((List.dropLast_sublist ws).mem h')) (Nat.le_trans (by rw [List.length_dropLast];exact Nat.sub_le _ _) hn) (Nat.sub_le _ _) ht hl
   refine ⟨σ,aB hidx (aq (aQ (ab rfl) htr (aq (aQ hend rfl (aq (kt (m:=(t.length:Int)) (n:=(w.length:Int)) rfl (aS (aR (ab rfl)) (ao (cH hwl) (by rw [au]))) rfl (congrArg (some ∘ D.int) (qi hle))) (aq ?_ rfl))) rfl)) e)⟩
   refine ad (eJ rfl (fD hn)) (ad (a:= .int (-1)) rfl (ad (a:= -1) rfl ((if_neg (show ¬ (decide (0≤(-1:Int))&&decide ((-1:Int)<(wsD ws).length))=true from Bool.false_ne_true)).trans (ao (c:=(decide ((-1:Int) = -1)&&decide (0<(wsD ws).length))=true) ?_ (by rw [vV];rfl)))))
   rw [show (wsD ws).length=ws.length from List.length_map _,decide_eq_true (List.length_pos_iff.mpr hne)];rfl
end
end Mine
set_option genSizeOf false
set_option genInjectivity false
namespace Mine
section
variable {G:ag} {F:FEnv}
theorem qT {ps:List (List Nat)} (h:ps≠[]) (hd:∀ p∈ps,46∉p):strIn ("...":Str) (mk (joinL ps))=decide (2≤ps.length):=by
 rw [ea];exact wT h hd
theorem jr:∀ (ps:List (List Nat)),(∀ p∈ps,p.length≤1000)→(joinL ps).length≤ps.length * 1003
 | [],_=>Nat.le_refl 0
 | [p],h=>show p.length≤1 * 1003 from Nat.le_trans (h p List.mem_cons_self) (by decide)
 |p :: q :: r,h=>by
  have h1:=h p List.mem_cons_self
  have h2:=jr (q :: r) fun x hx=>h x (List.mem_cons_of_mem _ hx)
  show (p++dots++joinL (q :: r)).length≤_
  rw [List.length_append,List.length_append,List.length_cons,Nat.succ_mul,Nat.add_comm]
  exact Nat.add_le_add h2 (Nat.add_le_add_right h1 3)
theorem wM {ps:List (List Nat)} (hw:∀ p∈ps,p.length≤1000) (hn:ps.length≤100):(joinL ps).length≤1048576:=Nat.le_trans (jr ps hw) (Nat.le_trans (Nat.mul_le_mul_right 1003 hn) (by decide))
theorem mJ {x y:Str} (hs:sizeOk x.length=true) (hy:0<y.length):methD .split (.str x) [.str y]=some (.list ((Txt.split x y).map .str)):=if_pos (by rw [hs,decide_eq_true hy];rfl)
theorem xS {G:ag} {F:FEnv} {σ:MEnv} {e:T} {d:D} {rest:S} {r:Option (MEnv×Out)} (h:ev G F σ true e=some d) (ht:truthy d=some true) (k:ex G F σ rest=r):ex G F σ (.seq (.asrt e) rest)=r:=aq (ad h (ad ht rfl)) k
theorem yC (hG:G.const "ELLIPSIS_MARKER"=some (.str "...")) {w t:List Nat} (h:strIn ("...":Str) (mk w)=false):run G F 6 s_ellipsis_match [.str (mk w),.str (mk t)]=some (.bool (w==t)) :=
 aD [sv (mk w),sv (mk t),none,none,none,none] rfl (aA (aQ (x:= .bool true) (am (x:= .str "...") (y:= .str (mk w)) hG rfl (congrArg (fun b=>some (!b)) h)) rfl
  (aH (am (x:= .str (mk w)) (y:= .str (mk t)) rfl rfl (congrArg some (qE w t))))))
theorem tG {W:Str} {p q:List Nat} {r:List (List Nat)} {t:List Nat} (hw:∀ p'∈p :: q :: r,p'.length≤1000) (hn:(p :: q :: r).length≤100) (ht:t.length≤1000) :
  ∃ σ,ex G F [sv W,sv (mk t),some (.list (wsD (p :: q :: r)),true),iv ((0:Nat):Int),iv t.length,sv (mk p)] (.seq (.ifs (.var 5) (.seq (.ifs (.meth .startswith (.var 1) (.cons (.var 5) .nil)) (.seq (.asg 3 false (.blt .len (.cons (.var 5) .nil))) (.seq (.del 2 (.cst (.int 0))) .skip)) (.seq (.ret (.cst (.bool false))) .skip)) .skip) .skip) emMid) =
   some (σ,.ret (.bool (emL (p :: q :: r) t))):=by
 have hp:=hw p List.mem_cons_self
 cases hz:p.isEmpty with
 |true =>
  obtain ⟨σ,h⟩:=pe (G:=G) (F:=F) (x0:=sv W) (x5:=sv (mk p)) (t:=t) (ws:=p :: q :: r) (lo:=0) (List.cons_ne_nil _ _) hw hn ht (by decide)
  refine ⟨σ,cB (ab rfl) ((ee hp).trans (by rw [hz];rfl)) (bX (h.trans ?_))⟩
  rw [emL,hz,if_pos rfl]
 |false =>
  have htr:truthy (.str (mk p))=some true:=(ee hp).trans (by rw [hz];rfl)
  have hs:ev G F [sv W,sv (mk t),some (.list (wsD (p :: q :: r)),true),iv ((0:Nat):Int),iv t.length,sv (mk p)] true (.meth .startswith (.var 1) (.cons (.var 5) .nil))=some (.bool (isAt t p 0)):=bw (ab rfl) (aR (ab rfl)) (congrArg (some ∘ D.bool) (oP t p))
  rw [emL,hz,if_neg (by decide)]
  cases e:isAt t p 0 with
  |false =>
   rw [e] at hs
   rw [if_neg (by decide)]
   exact ⟨_,aA (aQ (ab rfl) htr (aA (bH hs rfl (aH rfl))))⟩
  |true =>
   rw [e] at hs
   rw [if_pos rfl]
   obtain ⟨σ,h⟩:=pe (G:=G) (F:=F) (x0:=sv W) (x5:=sv (mk p)) (t:=t) (ws:=q :: r) (lo:=p.length) (List.cons_ne_nil _ _) (fun w h=>hw w (List.mem_cons_of_mem _ h)) (Nat.le_of_succ_le hn) ht hp
   refine ⟨σ,aq (aQ (ab rfl) htr (aq (aQ hs rfl (aB (aS (aR (ab rfl)) (ao (cH hp) (by rw [au]))) (aq ?_ rfl))) rfl)) h⟩
   exact ad (eJ rfl (fD hn)) (ad (a:= .int 0) rfl (ad (a:=0) rfl (ao (c:=(decide ((0:Int)≤0)&&decide ((0:Int)<((wsD (p :: q :: r)).length:Nat)))=true) (decide_eq_true (Int.natCast_pos.mpr (Nat.zero_lt_succ _))) rfl)))
theorem xC (hG:G.const "ELLIPSIS_MARKER"=some (.str "...")) {ps:List (List Nat)} {t:List Nat} (hne:ps≠[]) (hd:∀ p∈ps,46∉p) (hw:∀ p∈ps,p.length≤1000) (hn:ps.length≤100) (ht:t.length≤1000) :
  run G F 6 s_ellipsis_match [.str (mk (joinL ps)),.str (mk t)]=some (.bool (emL ps t)):=by
 have hin:=qT hne hd
 cases ps with
 |nil=>exact absurd rfl hne
 |cons p ps =>
 cases ps with
 |nil=>exact yC hG hin
 |cons q r =>
  have hsp:Txt.split (mk (joinL (p :: q :: r))) ("...":Str)=(p :: q :: r).map mk:=by rw [ea];exact n6 (List.cons_ne_nil _ _) hd
  have e0:sizeOk (mk (joinL (p :: q :: r))).length=true:=by rw [au];exact aj (wM hw hn)
  rw [decide_eq_true (show 2≤(p :: q :: r).length from Nat.succ_le_succ (Nat.succ_le_succ (Nat.zero_le _)))] at hin
  generalize mk (joinL (p :: q :: r))=W at *
  obtain ⟨σ,h⟩:=tG (G:=G) (F:=F) (W:=W) hw hn ht
  have hl:((p :: q :: r).map mk).map D.str=wsD (p :: q :: r):=List.map_map
  have h2:(2:Int)≤((wsD (p :: q :: r)).length:Nat):=Int.ofNat_le.mpr (Nat.succ_le_succ (Nat.succ_le_succ (Nat.zero_le _)))
  have hs:ev G F [sv W,sv (mk t),none,none,none,none] false (.meth .split (.var 0) (.cons (.glob "ELLIPSIS_MARKER") .nil))=some (.list (wsD (p :: q :: r))):=bw (kG rfl) (aR hG) ((mJ e0 (by decide)).trans (by rw [hsp,hl]))
  have hlen:bltD .len [.list (wsD (p :: q :: r))]=some (.int ((wsD (p :: q :: r)).length:Nat)):=ao (fD hn) rfl
  have hlt:bltD .len [.str (mk t)]=some (.int (t.length:Int)):=ao (cH ht) (by rw [au])
  have hge:cmpD .GtE (.int ((wsD (p :: q :: r)).length:Nat)) (.int 2)=some true:=congrArg some (decide_eq_true h2)
  have k3:ex G F [sv W,sv (mk t),some (.list (wsD (p :: q :: r)),true),iv ((0:Nat):Int),iv t.length,none] (.seq (.asg 5 false (.idx (.var 2) (.cst (.int 0)))) (.seq (.ifs (.var 5) (.seq (.ifs (.meth .startswith (.var 1) (.cons (.var 5) .nil)) (.seq (.asg 3 false (.blt .len (.cons (.var 5) .nil))) (.seq (.del 2 (.cst (.int 0))) .skip)) (.seq (.ret (.cst (.bool false))) .skip)) .skip) .skip) emMid))=some (σ,.ret (.bool (emL (p :: q :: r) t))) :=
   aB (d:= .str (mk p)) (aC (x:= .list (wsD (p :: q :: r))) (y:= .int 0) rfl rfl rfl) h
  exact aD [sv W,sv (mk t),none,none,none,none] rfl (σ':=σ) (cB (x:= .bool false) (am (x:= .str "...") (y:= .str W) hG rfl (congrArg (fun b=>some (!b)) hin)) rfl (bX (dF (d:= .list (wsD (p :: q :: r))) hs rfl
   (xS (am (aS (aR (kG rfl)) hlen) rfl hge) rfl
   (fM (x:= .int ((0:Nat):Int)) (y:= .int (t.length:Int)) (aY rfl (aS (aR (ab rfl)) hlt)) rfl k3)))))
end
section
variable {G:ag} {fns:List Fn} {b1L:List Int} {b3L:List (Int×Str)} (C:uF G fns b1L b3L)
include C
theorem zk {k:Nat} {ps:List (List Nat)} {t:List Nat} (hne:ps≠[]) (hd:∀ p∈ps,46∉p) (hw:∀ p∈ps,p.length≤1000) (hn:ps.length≤100) (ht:t.length≤1000) :
  FF G fns spn2 sp2 (k+1) "_ellipsis_match" [.str (mk (joinL ps)),.str (mk t)]=some (.bool (emL ps t)):=bB rfl C.f5 rfl (xC C.mark hne hd hw hn ht)
end
end Mine
set_option genSizeOf false
set_option genInjectivity false
namespace Mine
noncomputable def s2_law_stock:S :=
 (.seq (.asg 4 false (.tup (.cons (.cst (.int 119808)) (.cons (.cst (.int 119860)) (.cons (.cst (.int 119912)) (.cons (.cst (.int 120016)) (.cons (.cst (.int 120172)) (.cons (.cst (.int 120224)) (.cons (.cst (.int 120276)) (.cons (.cst (.int 120328)) (.cons (.cst (.int 120380)) (.cons (.cst (.int 120432)) .nil)))))))))))) <|
 (.seq (.asg 5 false (.ddisp ["hp","pr","rs","st","tm","mw","wb","bq"] (.cons (.cst (.int 13259)) (.cons (.cst (.int 13274)) (.cons (.cst (.int 8360)) (.cons (.bin .Add (.cst (.int 64261)) (.bin .Mod (.var 2) (.cst (.int 2)))) (.cons (.cst (.int 8482)) (.cons (.bin .Add (.cst (.int 13245)) (.bin .Mult (.cst (.int 2)) (.bin .Mod (.var 2) (.cst (.int 2))))) (.cons (.cst (.int 13277)) (.cons (.cst (.int 13251)) .nil)))))))))) <|
 (.seq (.asg 6 true (.list .nil)) <|
 (.seq (.fors [7] true .range1 (.blt .len (.cons (.var 0) .nil)) .nil (.seq (.fors [8] true .range1 (.idx (.var 1) (.var 7)) .nil (.seq (.asg 9 false (.bin .Mod (.bin .Add (.bin .Add (.var 2) (.bin .Mult (.cst (.int 5)) (.var 7))) (.bin .Mult (.var 8) (.bin .Add (.cst (.int 1)) (.bin .Mod (.var 3) (.cst (.int 11)))))) (.cst (.int 12)))) <|
   (.seq (.asg 10 false (.blt .ord (.cons (.idx (.var 0) (.var 7)) .nil))) <|
   (.seq (.app 6 (.ite (.cmp .Eq (.var 9) (.cst (.int 0))) (.var 10) (.ite (.cmp .Eq (.var 9) (.cst (.int 1))) (.bin .Sub (.var 10) (.cst (.int 32))) (.bin .Sub (.bin .Add (.idx (.var 4) (.bin .Sub (.var 9) (.cst (.int 2)))) (.var 10)) (.cst (.int 97)))))) <|
   .skip))) .skip) <|
  (.seq (.ext 6 (.ite (.cmp .Lt (.bin .Add (.var 7) (.cst (.int 1))) (.blt .len (.cons (.var 0) .nil))) (.list (.cons (.idx (.var 5) (.sli (.var 0) (.var 7) (.bin .Add (.var 7) (.cst (.int 2))) (.cst .none))) .nil)) (.list .nil))) <|
  (.seq (.ext 6 (.ite (.bin .BitAnd (.bin .RShift (.bin .FloorDiv (.var 3) (.cst (.int 11))) (.var 7)) (.cst (.int 1))) (.list (.cons (.idx (.call "_law_unseen" .nil) (.bin .Mod (.bin .Add (.var 3) (.bin .Mult (.cst (.int 4)) (.var 7))) (.cst (.int 27)))) .nil)) (.list .nil))) <|
  .skip))) .skip) <|
 (.seq (.retv 6) <|
 .skip)))))
noncomputable def s2_law_octets:S :=
 (.seq (.asg 1 true (.list .nil)) <|
 (.seq (.fors [2] true .plain (.var 0) .nil (.seq (.asg 3 false (.comp (.bin .BitAnd (.bin .RShift (.var 2) (.bin .Mult (.cst (.int 6)) (.var 5))) (.cst (.int 63))) [5] true .plain (.tup (.cons (.cst (.int 2)) (.cons (.cst (.int 1)) (.cons (.cst (.int 0)) .nil)))) .nil (.bin .RShift (.var 2) (.bin .Mult (.cst (.int 6)) (.var 5))) [5])) <|
  (.seq (.fors [4] true .range1 (.blt .len (.cons (.var 3) .nil)) .nil (.seq (.app 1 (.bin .Add (.bin .Add (.idx (.var 3) (.var 4)) (.ite (.cmp .Lt (.bin .Add (.var 4) (.cst (.int 1))) (.blt .len (.cons (.var 3) .nil))) (.cst (.int 64)) (.cst (.int 0)))) (.bin .Mult (.cst (.int 128)) (.bin .Mod (.blt .len (.cons (.var 1) .nil)) (.cst (.int 2)))))) <|
   .skip) .skip) <|
  .skip)) .skip) <|
 (.seq (.retv 1) <|
 .skip)))
noncomputable def s2_law_stands:S :=
 (.seq (.asg 4 false (.bin .Add (.var 2) (.blt .len (.cons (.var 0) .nil)))) <|
 (.seq (.ifs (.cmp .Eq (.bin .Mod (.var 3) (.cst (.int 4))) (.cst (.int 3))) (.seq (.ret (.cmp .Is (.call "_ellipsis_match" (.cons (.meth .join (.cst (.str "...")) (.cons (.list (.cons (.sli (.var 1) (.cst .none) (.var 2) (.cst .none)) (.cons (.var 0) (.cons (.sli (.var 1) (.var 4) (.cst .none) (.cst .none)) .nil)))) .nil)) (.cons (.var 1) .nil))) (.cst (.bool true)))) <|
  .skip) .skip) <|
 (.seq (.unp [5,6] (.idx (.tup (.cons (.tup (.cons (.var 0) (.cons (.sli (.var 1) (.var 2) (.var 4) (.cst .none)) .nil))) (.cons (.tup (.cons (.bin .Add (.var 0) (.cst (.str "..."))) (.cons (.sli (.var 1) (.var 2) (.cst .none) (.cst .none)) .nil))) (.cons (.tup (.cons (.bin .Add (.cst (.str "...")) (.var 0)) (.cons (.sli (.var 1) (.cst .none) (.var 4) (.cst .none)) .nil))) .nil)))) (.bin .Mod (.var 3) (.cst (.int 4))))) <|
 (.seq (.ret (.cmp .Is (.call "_ellipsis_match" (.cons (.var 5) (.cons (.var 6) .nil))) (.cst (.bool true)))) <|
 .skip))))
noncomputable def s2_law_ways:S :=
 (.seq (.asg 2 false (.comp (.idx (.var 1) (.var 5)) [5] true .range1 (.blt .len (.cons (.var 1) .nil)) .nil (.cmp .NotIn (.idx (.var 1) (.var 5)) (.sli (.var 1) (.cst .none) (.var 5) (.cst .none))) [5])) <|
 (.seq (.multi [(3,false),(4,false)] (.cons (.list (.cons (.cst (.int 1)) .nil)) (.cons (.list (.cons (.cst (.int 1)) .nil)) .nil))) <|
 (.seq (.fors [5] true .range2 (.cst (.int 1)) (.bin .Add (.blt .len (.cons (.var 0) .nil)) (.cst (.int 1))) (.seq (.asg 6 false (.bin .Sub (.blt .len (.cons (.var 0) .nil)) (.var 5))) <|
  (.seq (.asg 7 false (.comp (.var 8) [8] true .plain (.var 2) .nil (.bop .And (.cmp .LtE (.blt .len (.cons (.var 8) .nil)) (.var 5)) (.call "_law_stands" (.cons (.var 8) (.cons (.var 0) (.cons (.var 6) (.cons (.var 6) .nil)))))) [8])) <|
  (.seq (.asg 3 false (.bin .Add (.list (.cons (.blt .sum (.cons (.comp (.bin .Mult (.meth .count (.var 1) (.cons (.var 8) .nil)) (.idx (.var 3) (.bin .Sub (.blt .len (.cons (.var 8) .nil)) (.cst (.int 1))))) [8] true .plain (.var 7) .nil (.cst (.bool true)) [8]) .nil)) .nil)) (.var 3))) <|
  (.seq (.asg 7 false (.comp (.var 8) [8] true .plain (.var 2) .nil (.bop .And (.cmp .LtE (.blt .len (.cons (.var 8) .nil)) (.var 5)) (.call "_law_stands" (.cons (.var 8) (.cons (.var 0) (.cons (.bin .Sub (.var 5) (.blt .len (.cons (.var 8) .nil))) (.cons (.var 5) .nil)))))) [8])) <|
  (.seq (.asg 4 false (.bin .Add (.var 4) (.list (.cons (.blt .sum (.cons (.comp (.bin .Mult (.meth .count (.var 1) (.cons (.var 8) .nil)) (.idx (.var 4) (.un .USub (.blt .len (.cons (.var 8) .nil))))) [8] true .plain (.var 7) .nil (.cst (.bool true)) [8]) .nil)) .nil)))) <|
  .skip))))) .skip) <|
 (.seq (.ret (.tup (.cons (.var 3) (.cons (.var 4) .nil)))) <|
 .skip))))
noncomputable def s2t28:S:= .seq (.ret (.cmp .Eq (.call "pretty_flags" (.cons (.blt .sum (.cons (.comp (.bin .Pow (.cst (.int 2)) (.bin .Sub (.bin .Sub (.bin .Add (.var 26) (.var 5)) (.cst (.int 1))) (.var 31))) [31] true .plain (.sli (.var 10) (.cst .none) (.un .USub (.cst (.int 1))) (.cst .none)) .nil (.cst (.bool true)) [31]) .nil)) .nil)) (.ite (.var 29) (.meth .join (.cst (.str ", ")) (.cons (.var 29) .nil)) (.cst (.str "0x0"))))) .skip
noncomputable def s2t27:S:= .seq (.asg 29 false (.comp (.ite (.cmp .Lt (.var 31) (.cst (.int 10))) (.idx (.meth .split (.var 27) (.cons (.cst (.str " ")) .nil)) (.var 31)) (.bin .Add (.bin .Add (.cst (.str "0x")) (.idx (.cst (.str "1248")) (.bin .Mod (.var 31) (.cst (.int 4))))) (.bin .Mult (.cst (.str "0")) (.bin .FloorDiv (.var 31) (.cst (.int 4)))))) [31] true .plain (.var 28) .nil (.cst (.bool true)) [31])) s2t28
noncomputable def s2t26:S:= .seq (.asg 28 false (.comp (.bin .Add (.var 26) (.var 31)) [31] true .plain (.sli (.var 10) (.cst .none) (.un .USub (.cst (.int 1))) (.cst .none)) .nil (.cst (.bool true)) [31])) s2t27
noncomputable def s2t25:S:= .seq (.asg 27 false (.cst (.str "OPTIMIZED NEWLOCALS VARARGS VARKEYWORDS NESTED GENERATOR NOFREE COROUTINE ITERABLE_COROUTINE ASYNC_GENERATOR"))) s2t26
noncomputable def s2t24:S:= .seq (.ifs (.cmp .NotEq (.call "_int2digits" (.cons (.call "_digits2int" (.cons (.sli (.var 17) (.cst .none) (.cst .none) (.un .USub (.cst (.int 1)))) (.cons (.var 25) .nil))) (.cons (.var 25) .nil))) (.sli (.var 17) (.cst .none) (.cst .none) (.un .USub (.cst (.int 1))))) (.seq (.ret (.cst (.bool false))) <|
  .skip) .skip) s2t25
noncomputable def s2t23:S:= .seq (.multi [(25,false),(26,false)] (.cons (.bin .Add (.meth .bitlen (.var 19) .nil) (.bin .Mod (.bin .FloorDiv (.idx (.var 2) (.cst (.int 4))) (.cst (.int 2))) (.cst (.int 50)))) (.cons (.bin .Mod (.bin .FloorDiv (.idx (.var 2) (.cst (.int 4))) (.cst (.int 100))) (.cst (.int 28))) .nil))) s2t24
noncomputable def s2t22:S:= .seq (.ifs (.bop .Or (.cmp .NotEq (.idx (.var 24) (.cst (.int 1))) (.cst (.int 1))) (.cmp .NotEq (.call "int_divmod" (.cons (.bin .Mult (.var 7) (.bin .Add (.bin .Pow (.idx (.var 17) (.cst (.int 1))) (.cst (.int 2))) (.cst (.int 1)))) (.cons (.bin .Mult (.un .USub (.var 7)) (.var 19)) .nil))) (.tup (.cons (.bin .Sub (.idx (.var 24) (.cst (.int 0))) (.idx (.var 17) (.cst (.int 1)))) (.cons (.cst (.int 0)) .nil))))) (.seq (.ret (.cst (.bool false))) <|
  .skip) .skip) s2t23
noncomputable def s2t21:S:= .seq (.asg 24 false (.call "int_divmod" (.cons (.bin .Mult (.idx (.var 18) (.un .USub (.cst (.int 2)))) (.idx (.var 17) (.cst (.int 1)))) (.cons (.var 19) .nil)))) s2t22
noncomputable def s2t20:S:= .seq (.ifs (.cmp .NotEq (.call "int_divmod" (.cons (.bin .Mult (.var 7) (.bin .Add (.bin .Pow (.var 20) (.cst (.int 2))) (.bin .Pow (.var 21) (.cst (.int 2))))) (.cons (.bin .Mult (.var 7) (.var 19)) .nil))) (.tup (.cons (.var 23) (.cons (.cst (.int 0)) .nil)))) (.seq (.ret (.cst (.bool false))) <|
  .skip) .skip) s2t21
noncomputable def s2t19:S:= .seq (.ifs (.bop .Or (.cmp .NotEq (.idx (.var 18) (.un .USub (.cst (.int 1)))) (.var 19)) (.bop .Or (.cmp .NotEq (.bin .Add (.idx (.var 18) (.un .USub (.cst (.int 2)))) (.idx (.var 17) (.cst (.int 1)))) (.var 19)) (.cmp .NotEq (.bin .Add (.var 23) (.var 19)) (.bin .Mult (.bin .Mult (.cst (.int 3)) (.var 20)) (.var 21))))) (.seq (.ret (.cst (.bool false))) <|
  .skip) .skip) s2t20
noncomputable def s2t18:S:= .seq (.asg 23 false (.ite (.cmp .Lt (.var 22) (.cst (.int 0))) (.idx (.var 17) (.bin .Mult (.cst (.int 4)) (.idx (.var 9) (.cst (.int 0))))) (.ite (.cmp .Gt (.var 22) (.cst (.int 0))) (.idx (.var 18) (.bin .Sub (.bin .Mult (.cst (.int 2)) (.var 22)) (.cst (.int 1)))) (.cst (.int 1))))) s2t19
noncomputable def s2t17:S:= .seq (.multi [(19,false),(20,false),(21,false),(22,false)] (.cons (.idx (.var 17) (.cst (.int 0))) (.cons (.idx (.var 18) (.bin .Sub (.bin .Mult (.cst (.int 2)) (.idx (.var 9) (.cst (.int 0)))) (.cst (.int 1)))) (.cons (.idx (.var 17) (.bin .Mult (.cst (.int 2)) (.idx (.var 9) (.cst (.int 0))))) (.cons (.bin .Sub (.bin .Mult (.cst (.int 2)) (.idx (.var 9) (.cst (.int 0)))) (.var 5)) .nil))))) s2t18
noncomputable def s2t16:S:= .seq (.unp [17,18] (.call "_law_ways" (.cons (.var 12) (.cons (.var 16) .nil)))) s2t17
noncomputable def s2t15:S:= .seq (.asg 16 false (.comp (.call "map_table_b3" (.cons (.blt .chr (.cons (.var 30) .nil)) .nil)) [30] true .plain (.var 15) .nil (.cmp .Is (.call "in_table_b1" (.cons (.blt .chr (.cons (.var 30) .nil)) .nil)) (.cst (.bool false))) [30])) s2t16
noncomputable def s2t14:S:= .seq (.ifs (.cmp .NotEq (.comp (.cmp .Is (.call "in_table_b1" (.cons (.blt .chr (.cons (.var 30) .nil)) .nil)) (.cst (.bool true))) [30] true .plain (.var 15) .nil (.cst (.bool true)) [30]) (.comp (.cmp .In (.var 30) (.call "_law_unseen" .nil)) [30] true .plain (.var 13) .nil (.cst (.bool true)) [30])) (.seq (.ret (.cst (.bool false))) <|
  .skip) .skip) s2t15
noncomputable def s2t13:S:= .seq (.ifs (.bop .Or (.cmp .NotEq (.var 15) (.var 13)) (.cmp .NotEq (.call "_law_read" (.cons (.sli (.var 14) (.cst .none) (.un .USub (.cst (.int 1))) (.cst .none)) .nil)) (.sli (.var 13) (.cst .none) (.un .USub (.cst (.int 1))) (.cst .none)))) (.seq (.ret (.cst (.bool false))) <|
  .skip) .skip) s2t14
noncomputable def s2t12:S:= .seq (.asg 15 false (.call "_law_read" (.cons (.var 14) .nil))) s2t13
noncomputable def s2t11:S:= .seq (.asg 14 false (.call "_law_octets" (.cons (.var 13) .nil))) s2t12
noncomputable def s2t10:S:= .seq (.asg 13 false (.call "_law_stock" (.cons (.var 12) (.cons (.var 11) (.cons (.idx (.var 2) (.cst (.int 2))) (.cons (.idx (.var 2) (.cst (.int 3))) .nil)))))) s2t11
noncomputable def s2t9:S:= .seq (.asg 12 false (.sli (.sli (.cst (.str "hprstmwbq")) (.bin .Mod (.idx (.var 2) (.cst (.int 2))) (.bin .Sub (.cst (.int 11)) (.bin .Mult (.cst (.int 2)) (.var 5)))) (.cst .none) (.cst .none)) (.cst .none) (.bin .Sub (.bin .Mult (.cst (.int 2)) (.var 5)) (.cst (.int 1))) (.cst .none))) s2t10
noncomputable def s2t8:S:= .seq (.asg 11 false (.comp (.ite (.cmp .In (.bin .FloorDiv (.var 31) (.cst (.int 2))) (.var 10)) (.cst (.int 2)) (.cst (.int 1))) [31] true .range1 (.bin .Sub (.bin .Mult (.cst (.int 2)) (.var 5)) (.cst (.int 1))) .nil (.cst (.bool true)) [31])) s2t9
noncomputable def s2t7:S:= .seq (.ifs (.bop .Or (.cmp .NotEq (.blt .len (.cons (.var 9) .nil)) (.cst (.int 1))) (.cmp .NotEq (.comp (.un .Invert (.idx (.call "int_divmod" (.cons (.bin .Mult (.bin .Mult (.un .USub (.var 33)) (.var 5)) (.var 6)) (.cons (.bin .Mult (.var 4) (.var 6)) .nil))) (.cst (.int 0)))) [33] true .range2 (.cst (.int 1)) (.bin .Add (.var 4) (.cst (.int 1))) (.cst (.bool true)) [33]) (.var 10))) (.seq (.ret (.cst (.bool false))) <|
  .skip) .skip) s2t8
noncomputable def s2t6:S:= .seq (.asg 10 false (.comp (.var 31) [31] true .range1 (.var 5) .nil (.cmp .Eq (.bin .Sub (.idx (.idx (.var 8) (.bin .Add (.var 31) (.cst (.int 1)))) (.cst (.int 0))) (.idx (.idx (.var 8) (.var 31)) (.cst (.int 0)))) (.cst (.int 1))) [31])) s2t7
noncomputable def s2t5:S:= .seq (.asg 9 false (.comp (.var 31) [31] true .range1 (.var 5) .nil (.cmp .Eq (.idx (.idx (.var 8) (.var 31)) (.cst (.int 1))) (.var 6)) [31])) s2t6
noncomputable def s2t4:S:= .seq (.asg 8 false (.comp (.call "int_divmod" (.cons (.bin .Mult (.bin .Mult (.var 31) (.var 4)) (.var 6)) (.cons (.bin .Mult (.var 5) (.var 6)) .nil))) [31] true .range1 (.bin .Add (.var 5) (.cst (.int 1))) .nil (.cst (.bool true)) [31])) s2t5
noncomputable def s2t3:S:= .seq (.multi [(5,false),(6,false),(7,false)] (.cons (.bin .Add (.var 3) (.var 4)) (.cons (.bin .Mult (.bin .Add (.cst (.int 1)) (.idx (.var 2) (.cst (.int 1)))) (.bin .Sub (.cst (.int 1)) (.bin .Mult (.cst (.int 2)) (.bin .Mod (.bin .FloorDiv (.idx (.var 2) (.cst (.int 0))) (.cst (.int 9))) (.cst (.int 2)))))) (.cons (.bin .Sub (.cst (.int 1)) (.bin .Mult (.cst (.int 2)) (.bin .Mod (.idx (.var 2) (.cst (.int 4))) (.cst (.int 2))))) .nil)))) s2t4
noncomputable def s2t2:S:= .seq (.unp [3,4] (.idx (.tup (.cons (.tup (.cons (.cst (.int 1)) (.cons (.cst (.int 1)) .nil))) (.cons (.tup (.cons (.cst (.int 2)) (.cons (.cst (.int 1)) .nil))) (.cons (.tup (.cons (.cst (.int 1)) (.cons (.cst (.int 2)) .nil))) (.cons (.tup (.cons (.cst (.int 3)) (.cons (.cst (.int 1)) .nil))) (.cons (.tup (.cons (.cst (.int 1)) (.cons (.cst (.int 3)) .nil))) (.cons (.tup (.cons (.cst (.int 3)) (.cons (.cst (.int 2)) .nil))) (.cons (.tup (.cons (.cst (.int 2)) (.cons (.cst (.int 3)) .nil))) (.cons (.tup (.cons (.cst (.int 4)) (.cons (.cst (.int 1)) .nil))) (.cons (.tup (.cons (.cst (.int 1)) (.cons (.cst (.int 4)) .nil))) .nil)))))))))) (.bin .Mod (.idx (.var 2) (.cst (.int 0))) (.cst (.int 9))))) s2t3
noncomputable def s2t1:S:= .seq (.asg 2 false (.comp (.bin .Add (.var 32) (.blt .sum (.cons (.sli (.var 1) (.var 31) (.cst .none) (.cst (.int 5))) .nil))) [31,32] false .enum (.tup (.cons (.cst (.int 11)) (.cons (.cst (.int 6)) (.cons (.cst (.int 27)) (.cons (.cst (.int 102)) (.cons (.cst (.int 941)) .nil)))))) .nil (.cst (.bool true)) [31,32])) s2t2
noncomputable def s2t0:S:= .seq (.asg 1 false (.comp (.bin .Mod (.var 30) (.bin .Pow (.cst (.int 10)) (.cst (.int 9)))) [30] true .plain (.sli (.var 0) (.cst .none) (.cst (.int 60)) (.cst .none)) .nil (.cst (.bool true)) [30])) s2t1
structure xR (G:ag) (fns:List Fn) (b1L:List Int) (b3L:List (Int×Str)):Prop where
 com:uF G fns b1L b3L
 octets:∃ x,fns.find? (fun x=>x.name==("_law_octets":Str))=some x∧x.ps.length=1∧x.tbl.length=6∧x.code=s2_law_octets
 stands:∃ x,fns.find? (fun x=>x.name==("_law_stands":Str))=some x∧x.ps.length=4∧x.tbl.length=7∧x.code=s2_law_stands
 ways:∃ x,fns.find? (fun x=>x.name==("_law_ways":Str))=some x∧x.ps.length=2∧x.tbl.length=9∧x.code=s2_law_ways
end Mine
set_option genSizeOf false
set_option genInjectivity false
namespace Mine
noncomputable def nS:Str:="_law_stock"
noncomputable def gD (t:TS):ag:={gOf t with dd:=true}
noncomputable def FSt (t:TS) (sg:List cN):FEnv:=FF (gD t) (sg.map (mkFn t)) [] (fun _ _=>none) 300
noncomputable def FL2 (t:TS) (sigs sg:List cN):FEnv:=fun f ds=>cond (f==nS) (FSt t sg f ds) (FL (gOf t) (sigs.map (mkFn t)) 300 f ds)
theorem Top.ctr2 {p:Program} {w:World} {t:TS} {mg mb:Str→Option Value} {s:Shared} {c:Cx} {line:Nat} {sigs sg:List cN} {dI dD dP dR:DefItem} (X:Top p w t mg mb s.heap c) (hsig:sigs.all (sigOk c t)=true) (hu:sigs.map (bodyU c t)=sigs.map (bodyOf t))
  (hsig2:sg.all (sigOk c t)=true) (hu2:sg.map (bodyU c t)=sg.map (bodyOf t))
  (hI:HI t c line dI) (hD:HD t c line dD) (hP:HP t c dP) (hR:HR t c dR) (env:Env) (f:Str) (a:Addr) (hf:f∈c.fns) (ha:mg f=some (.ref a)) : @Ctr (tabsOf p w s.heap line) (F1 env) p w s.heap 300 (FL2 t sigs sg) f a:=by
 letI:Tabs:=tabsOf p w s.heap line
 cases hr:f==nS with
 |false =>
  have h1:=X.ctr hsig hu hI hD hP hR env f a hf ha
  exact fun A E s' Y ds vs r Q ar kp hY hd h P=>h1 A E s' Y ds vs r Q ar kp hY hd (by rw [← h];unfold FL2;rw [hr];rfl) P
 |true =>
  have okF:∀ f∈sg.map (mkFn t),FnOk c s.heap mg f:=fun f hf=>by
   obtain ⟨sg,h1,rfl⟩:=List.mem_map.mp hf
   letI:Frk:=F0
   exact uq X.T c (List.all_eq_true.mp hsig2 sg h1) (List.map_inj_left.mp hu2 sg h1) X.plain
  have B:=X.base (line:=line) (F2 s.heap.objs.size) c.tbl
  have B2 : @Base (tabsOf p w s.heap line) (F2 s.heap.objs.size) p w (atT c c.tbl) (gD t) s.heap mg mb:=by
   letI:Frk:=F2 s.heap.objs.size
   exact @Base.mk (tabsOf p w s.heap line) (F2 s.heap.objs.size) _ _ _ _ _ _ _ B.ns B.bn B.blt B.cst B.iset B.idict B.ndb B.fn B.dm fun _=>⟨fun _ _ q=>q,_,rfl,fun _ e=>e⟩
  have h1:= @qM _ (F2 s.heap.objs.size) rfl _ _ _ _ _ _ _ B2 X.T.lim _ [] (fun _ _=>none) okF (fun _ _ _ h=>nomatch h) 300 f a ha
  letI:Frk:=F1 env
  intro A E s' Y ds vs r Q ar kp hY hd h P
  unfold FL2 at h
  rw [hr] at h
  refine h1 A E s' Y ds vs r Q (@Ar.mk (F2 _) _ _ ar.hd ar.depth ar.units (fun l hl=>nomatch hl)) (@KB.mk _ (F2 _) _ _ kp.kp (fun l hl=>nomatch hl) fun b hb=> ?_) hY hd h P
  obtain ⟨_,L,_,e2,e3⟩:=kp.al [env] rfl env (List.mem_singleton.mpr rfl)
  rw [← sm hb]
  exact (show L=s.heap.objs.size from e2)▸e3
end Mine
set_option genSizeOf false
set_option genInjectivity false
namespace Mine
noncomputable abbrev p2:Program:=PySem.Challenge.pw_ta0109_02
noncomputable abbrev l2:OpenLaw:=PySem.Challenge.rw_ta0109_02
noncomputable def R2:Option TS:=runT p2.main.scope ⟨[],[],[],[],0⟩ p2.main.body
theorem mw:R2.isSome=true:=by decide +kernel
noncomputable def T2:TS:=R2.get mw
theorem z0:runT p2.main.scope ⟨[],[],[],[],0⟩ p2.main.body=some T2:=(Option.some_get mw).symm
theorem sD:T2.names.all (fun x=>p2.boundNames.contains x)=true:=by decide +kernel
theorem uL:laidNames.all (fun x=> !T2.names.contains x)=true:=by decide +kernel
noncomputable def sigs2:List cN:=[
 ⟨"pretty_flags",["flags","names","i","flag"],s_pretty_flags⟩,
 ⟨"_div2n1n",["a","b","n","pad","half_n","mask","b1","b2","q1","r","q2"],s_div2n1n⟩,
 ⟨"_divmod_pos",["a","b","n","a_digits","r","q_digits","a_digit","q_digit","q"],s_divmod_pos⟩,
 ⟨"int_divmod",["a","b","q","r"],s_int_divmod⟩,
 ⟨"_ellipsis_match",["want","got","ws","startpos","endpos","w"],s_ellipsis_match⟩,
 ⟨"in_table_b1",["code"],s_in_table_b1⟩,
 ⟨"map_table_b3",["code","r"],s_map_table_b3⟩,
 ⟨"_law_unseen",[],s_law_unseen⟩,
 ⟨"_law_octets",["numbers","octets","number","figures","place","k"],s2_law_octets⟩,
 ⟨"_law_stands",["x","word","at","turn","behind","want","got"],s2_law_stands⟩,
 ⟨"_law_ways",["word","folds","unlike","backs","fronts","k","at","fits","x"],s2_law_ways⟩]
noncomputable def sgS2:List cN:=[
 ⟨"_law_unseen",[],s_law_unseen⟩,
 ⟨"_law_stock",["word","forms","pick","noise","great","joined","points","k","turn","form","own"],s2_law_stock⟩]
noncomputable def lsig2:cN:=⟨"law",(["script","numbers","draws","ons","ups","size","unit","turned","parts","cuts","rises","forms","word","points","octets","told"]:List Str)++(["folds","backs","fronts","whole","first","second","least","third","inner","width","base","flags","within","words","x","k"]:List Str)++(["c","j"]:List Str),s2t0⟩
noncomputable def fnames2:List Str:=["pretty_flags","_div2n1n","_div3n2n","_int2digits","_digits2int","_divmod_pos","int_divmod","_ellipsis_match","in_table_b1","map_table_b3","_law_unseen","_law_stock","_law_octets","_law_read","_law_stands","_law_ways"]
noncomputable def c2:Cx:={tbl:=[],fns:=fnames2,consts:=["ELLIPSIS_MARKER","_DIV_LIMIT"],sets:=["b1_set"],dicts:=["b3_exceptions","COMPILER_FLAG_NAMES"]}
noncomputable def dI2:DefItem:=itemOf (p2.main.body.getD 9 default)
noncomputable def dD2:DefItem:=itemOf (p2.main.body.getD 10 default)
noncomputable def dP2:DefItem:=itemOf (p2.main.body.getD 16 default)
noncomputable def dR2:DefItem:=itemOf (p2.main.body.getD 24 default)
noncomputable def dL2:DefItem:=itemOf (p2.main.body.getD 27 default)
theorem yn:l2.row.toRowW.promised:=⟨[.list [.int 3]],by decide +kernel,by decide +kernel⟩
theorem qc:T2.defs.map (fun d=>d.params)=T2.defs.map (fun d=>plainPar d.params):=by kernel_rfl
theorem sB:∀ d∈T2.defs,d.params=plainPar d.params:=fun d hd=>List.map_inj_left.mp qc d hd
theorem xB:sigs2.all (fun s=>sigOk c2 T2 s)=true:=by decide +kernel
theorem Ak:sigs2.map (bodyU c2 T2)=sigs2.map (bodyOf T2):=by kernel_rfl
theorem wf:sgS2.all (fun s=>sigOk c2 T2 s)=true:=by decide +kernel
theorem zb:sgS2.map (bodyU c2 T2)=sgS2.map (bodyOf T2):=by kernel_rfl
theorem vJ:sigOk c2 T2 lsig2=true:=by decide +kernel
theorem zJ:bodyU c2 T2 lsig2=bodyOf T2 lsig2:=by kernel_rfl
theorem zH:HI T2 c2 42 dI2:=⟨by kernel_rfl,by decide +kernel,by kernel_rfl,by kernel_rfl,by decide +kernel⟩
theorem zT:HD T2 c2 42 dD2:=⟨by kernel_rfl,by decide +kernel,by kernel_rfl,by kernel_rfl,by decide +kernel⟩
theorem ze:HP T2 c2 dP2:=⟨by kernel_rfl,by decide +kernel,by kernel_rfl⟩
theorem zY:HR T2 c2 dR2:=⟨by kernel_rfl,by decide +kernel,by kernel_rfl⟩
theorem nF (said:l2.row.wellSaid=true) (eval:∀ ns:List Int,ns.length≤63→run (gOf T2) (FL2 T2 sigs2 sgS2) lsig2.tbl.length lsig2.code [.list (ns.map .int)]=some (.bool true)):l2.row.Holds :=
 qF (c:=c2) (line:=42) (dL:=dL2) z0 (by kernel_rfl) rfl said yn rfl (fun s=>rfl) (by decide +kernel) (by decide +kernel) (by decide +kernel) rfl (by decide +kernel) ⟨rfl,rfl,rfl,rfl,rfl,by decide +kernel⟩ rfl rfl rfl sD uL sB
  (by kernel_rfl) (by kernel_rfl) (by decide +kernel) (by decide +kernel) (by decide +kernel) vJ zJ rfl (by decide +kernel) (FL2 T2 sigs2 sgS2) (fun w s mg mb X env f a hf ha=>X.ctr2 xB Ak wf zb zH zT ze zY env f a hf ha) eval
end Mine
set_option genSizeOf false
set_option genInjectivity false
namespace Mine
noncomputable def oct (f:Int) (c:Bool) (p:Int):Int:=f+cond c 64 0+128 * p
noncomputable def octB (f:Int) (c:Bool) (p:Int):Bool:=oct f c p % 64==f&&((Builtin.bitAnd (oct f c p) 64==0) == !c)&&decide (0≤oct f c p)&&decide (oct f c p<256)
theorem wn:(List.range 64).all (fun f=>octB (f:Int) true 0&&octB (f:Int) true 1&&octB (f:Int) false 0&&octB (f:Int) false 1)=true:=by decide +kernel
theorem oK {f p:Int} {c:Bool} (h0:0≤f) (h1:f<64) (hp:p=0∨p=1):oct f c p % 64=f∧(Builtin.bitAnd (oct f c p) 64==0) = !c∧0≤oct f c p∧oct f c p<256:=by
 obtain ⟨n,rfl⟩:=Int.eq_ofNat_of_zero_le h0
 refine aa (List.all_eq_true.mp wn n (List.mem_range.mpr (Int.ofNat_lt.mp h1))) fun a a4=>aa a fun a a3=>aa a fun a1 a2=> ?_
 have h:octB (n:Int) c p=true:=by
  rcases hp with rfl |rfl
  ·cases c with
   |true=>exact a1
   |false=>exact a3
  ·cases c with
   |true=>exact a2
   |false=>exact a4
 exact aa h fun b b4=>aa b fun b b3=>aa b fun b1 b2=>⟨beq_iff_eq.mp b1,beq_iff_eq.mp b2,de b3,de b4⟩
noncomputable def BlkAt (a v:Int):List Int→Prop
 | []=>False
 |o :: r=>(∀ t,pv1 o (a * 64+o % 64) (r++t)=some (v,t))∧(r=[]∨pv1 o (a * 64+o % 64) r.dropLast=none)
noncomputable def Blk (l:List Int) (a v:Int):Prop:=BlkAt a v l
theorem Blk.last {o a:Int} (h:(Builtin.bitAnd o 64==0)=true):Blk [o] a (a * 64+o % 64):=⟨fun t=>lc h t,.inl rfl⟩
theorem Blk.more {o a v:Int} {r:List Int} (h:(Builtin.bitAnd o 64==0)=false) (b:Blk r (a * 64+o % 64) v):Blk (o :: r) a v:=by
 have hn:¬ (Builtin.bitAnd o 64==0)=true:=by rw [h];decide
 cases r with
 |nil=>exact b.elim
 |cons x r =>
  refine ⟨fun t=>pv1_cons.trans ((if_neg hn).trans (b.1 t)),.inr ?_⟩
  rcases b.2 with rfl |e
  ·exact pv1_nil.trans (if_neg hn)
  ·cases r with
   |nil=>exact pv1_nil.trans (if_neg hn)
   |cons y r=>exact pv1_cons.trans ((if_neg hn).trans e)
theorem Blk.pv {l t:List Int} {v:Int} (b:Blk l 0 v):Mine.pv (l++t)=some (v,t):=by
 cases l with
 |nil=>exact b.elim
 |cons o r =>
  have h:=b.1 t
  rw [Int.zero_mul,Int.zero_add] at h
  exact h
theorem Blk.pv_cut {l:List Int} {v:Int} (b:Blk l 0 v):Mine.pv l.dropLast=none:=by
 cases l with
 |nil=>exact b.elim
 |cons o r =>
  cases r with
  |nil=>rfl
  |cons x r =>
   rcases b.2 with h |h
   ·nomatch h
   ·rw [Int.zero_mul,Int.zero_add] at h;exact h
theorem Blk.pos {l:List Int} {a v:Int} (b:Blk l a v):1≤l.length:=by
 cases l with
 |nil=>exact b.elim
 |cons o r=>exact Nat.le_add_left 1 _
structure Tape (t vs:List Int):Prop where
 len:vs.length≤t.length
 all:∀ n u,Mine.rd (vs.length+n) (t++u)=vs++Mine.rd n u
 cut:∀ n,Mine.rd (vs.length+n) t.dropLast=vs.dropLast
theorem oJ (n:Nat):rd n []=[]:=by
 cases n with
 |zero=>rfl
 |succ n=>rfl
theorem Tape.nil:Tape [] []:=⟨Nat.le_refl _,fun n u=>by rw [List.length_nil,Nat.zero_add];rfl,fun n=>oJ _⟩
theorem vZ {n:Nat} {xs:List Int} (h:pv xs=none):rd n xs=[]:=by
 cases n with
 |zero=>rfl
 |succ n=>exact lT h
theorem Tape.snoc {t vs b:List Int} {v:Int} (h:Tape t vs) (bk:Blk b 0 v):Tape (t++b) (vs++[v]):=by
 have hl:(vs++[v]).length=vs.length+1:=List.length_append
 refine ⟨?_,fun n u=> ?_,fun n=> ?_⟩
 ·rw [hl,List.length_append];exact Nat.add_le_add h.len bk.pos
 ·rw [hl,List.append_assoc,Nat.add_assoc,Nat.add_comm 1 n,h.all,lL bk.pv,List.append_assoc];rfl
 ·have hb:b≠[]:=List.length_pos_iff.mp bk.pos
  rw [hl,List.dropLast_append_of_ne_nil hb,Nat.add_assoc,h.all,vZ bk.pv_cut,List.append_nil,List.dropLast_concat]
theorem Tape.rd {t vs:List Int} (h:Tape t vs) {n:Nat} (hn:vs.length≤n):Mine.rd n t=vs:=by
 have:=h.all (n - vs.length) []
 rw [Nat.add_sub_cancel' hn,List.append_nil,oJ,List.append_nil] at this
 exact this
theorem Tape.rd_cut {t vs:List Int} (h:Tape t vs) {n:Nat} (hn:vs.length≤n):Mine.rd n t.dropLast=vs.dropLast:=by
 have:=h.cut (n - vs.length)
 rw [Nat.add_sub_cancel' hn] at this
 exact this
noncomputable def octN (v:Int) (L:Nat) (par:Nat→Int) (k:Nat):Int:=oct (v / 64 ^ (L - k) % 64) (decide (k<L)) (par k)
theorem pn (x:Int):0≤x % 64∧x % 64<64:=⟨Int.emod_nonneg x (by decide),Int.emod_lt_of_pos x (by decide)⟩
theorem pB (x:Int):x / 64 * 64+x % 64=x:=Int.ediv_mul_add_emod x 64
theorem gj (v:Int) (m:Nat):v / 64 ^ (m+1)=v / 64 ^ m / 64:=by rw [Int.ediv_ediv_of_nonneg (Int.le_of_lt (Int.pow_pos (by decide))),← Int.pow_succ]
theorem oL {v:Int} {par:Nat→Int} (hp:∀ k,par k=0∨par k=1):∀ (m k L:Nat) (a:Int),k+m=L→a=v / 64 ^ (m+1)→Blk ((List.range' k (m+1)).map (octN v L par)) a v
 |0,k,_,a,rfl,ha=>by
  obtain ⟨f1,f2⟩:=pn v
  obtain ⟨h1,h2,_⟩:=oK (c:=false) f1 f2 (hp k)
  have b:=Blk.last (a:=a) h2
  rw [h1,ha,gj,show v / 64 ^ 0=v from Int.ediv_one v,pB] at b
  rw [ha,gj,show v / 64 ^ 0=v from Int.ediv_one v]
  show Blk [oct (v / 64 ^ (k - k) % 64) (decide (k<k)) (par k)] _ v
  rw [Nat.sub_self,decide_eq_false (Nat.lt_irrefl k),show v / 64 ^ 0=v from Int.ediv_one v]
  exact b
 |m+1,k,_,a,rfl,ha=>by
  obtain ⟨f1,f2⟩:=pn (v / 64 ^ (m+1))
  obtain ⟨h1,h2,_⟩:=oK (c:=true) f1 f2 (hp k)
  have b:=oL hp m (k+1) (k+(m+1)) (a * 64+oct (v / 64 ^ (m+1) % 64) true (par k) % 64) (Nat.succ_add_eq_add_succ k m) (by rw [h1,ha,gj v (m+1),pB])
  have e:octN v (k+(m+1)) par k=oct (v / 64 ^ (m+1) % 64) true (par k):=by
   unfold octN
   rw [Nat.add_sub_cancel_left,decide_eq_true (Nat.lt_add_of_pos_right (Nat.succ_pos m))]
  rw [List.range'_succ,List.map_cons,e]
  exact Blk.more h2 b
end Mine
set_option genSizeOf false
set_option genInjectivity false
namespace Mine
theorem ci {α:Type} (xs:List α) (lo hi:Option Int):pickL xs lo hi none=(xs.drop (lo.elim 0 (clipAt xs.length))).take (hi.elim xs.length (clipAt xs.length) - lo.elim 0 (clipAt xs.length)):=by
 unfold pickL
 rw [sliceBounds_plain]
 show (sliceRange _ _ 1).filterMap _=_
 rw [sliceRange_one]
 exact (congrArg (fun f=>List.filterMap f _) (funext fun i=>List.getElem?_toArray.symm)).trans (pick_run xs.toArray _ _)
theorem kz (a b:Nat):min (a:Int) (b:Int)=((min a b:Nat):Int):=by
 rcases Nat.le_total a b with h |h
 ·rw [Nat.min_eq_left h,Int.min_eq_left (Int.ofNat_le.mpr h)]
 ·rw [Nat.min_eq_right h,Int.min_eq_right (Int.ofNat_le.mpr h)]
theorem fB (n i:Nat):clipAt n (i:Int)=min i n:=by
 unfold clipAt
 rw [if_neg (Int.not_lt.mpr (Int.natCast_nonneg i)),kz,Int.max_eq_right (Int.natCast_nonneg _)];rfl
theorem rQ (m:Nat) : -1+((m+1:Nat):Int)=m:=by rw [Int.natCast_succ,Int.add_comm,Int.add_assoc];exact Int.add_zero _
theorem vk (n:Nat):clipAt n (-1)=n - 1:=by
 cases n with
 |zero=>rfl
 |succ m =>
  show (max 0 (min (-1+((m+1:Nat):Int)) ((m+1:Nat):Int))).toNat=m
  rw [rQ,kz,Nat.min_eq_left (Nat.le_succ m),Int.max_eq_right (Int.natCast_nonneg _)];rfl
theorem iV {α:Type} (xs:List α) (b:Nat):pickL xs none (some (b:Int)) none=xs.take b:=by
 rw [ci]
 show (xs.drop 0).take (clipAt xs.length (b:Int) - 0)=_
 rw [List.drop_zero,Nat.sub_zero,fB]
 exact List.take_eq_take_iff.mpr (by rw [Nat.min_assoc,Nat.min_self])
theorem sj {α:Type} (xs:List α) {k n:Nat} (h:k≤xs.length):pickL xs (some (k:Int)) (some ((k+n:Nat):Int)) none=(xs.drop k).take n:=by
 rw [ci]
 show (xs.drop (clipAt xs.length (k:Int))).take (clipAt xs.length ((k+n:Nat):Int) - clipAt xs.length (k:Int))=_
 rw [fB,fB,Nat.min_eq_left h]
 exact List.take_eq_take_iff.mpr (by rw [List.length_drop,← Nat.sub_min_sub_right,Nat.add_sub_cancel_left,Nat.min_assoc,Nat.min_self])
theorem iL {α:Type} (xs:List α) (a:Nat):pickL xs (some (a:Int)) none none=xs.drop a:=by
 rw [ci]
 show (xs.drop (clipAt xs.length (a:Int))).take (xs.length - clipAt xs.length (a:Int))=_
 rw [fB]
 by_cases h:a≤xs.length
 ·rw [Nat.min_eq_left h];exact List.take_of_length_le (Nat.le_of_eq List.length_drop)
 ·have h:=Nat.le_of_lt (Nat.lt_of_not_le h)
  rw [Nat.min_eq_right h,List.drop_length,List.drop_eq_nil_of_le h,List.take_nil]
theorem qG {α:Type} (xs:List α):pickL xs none (some (-1)) none=xs.dropLast:=by
 rw [ci]
 show (xs.drop 0).take (clipAt xs.length (-1) - 0)=_
 rw [vk,List.dropLast_eq_take];rfl
theorem bM {n:Nat} (h:n≤1048576):part? (.int (n:Int))=some (some (n:Int)):=ao (eI h) rfl
section
variable {l u st:D} {l' u' st':Option Int} (h1:part? l=some l') (h2:part? u=some u') (h3:part? st=some st') (h0:¬ (st'==some 0)=true)
include h1 h2 h3 h0
theorem gq {xs ys:List D} (hs:xs.length≤1048576) (h:pickL xs l' u' st'=ys):sliD (.list xs) l u st=some (.list ys):=ad h1 (ad h2 (ad h3 ((if_neg h0).trans (ao (aj hs) (by rw [h])))))
theorem n9 {t ys:List Nat} (hs:t.length≤1000) (h:pickL t l' u' st'=ys):sliD (.str (mk t)) l u st=some (.str (mk ys)):=ad h1 (ad h2 (ad h3 ((if_neg h0).trans (ao (cH hs) (by rw [bO,h];rfl)))))
end
theorem gm {xs:List D} (h:xs.length≤1048576):sliD (.list xs) .none (.int (-1)) .none=some (.list xs.dropLast):=gq (l':=none) (u':=some (-1)) (st':=none) rfl rfl rfl Bool.false_ne_true h (qG _)
theorem sli_from {xs:List D} {k:Nat} (h:xs.length≤1048576) (hk:k≤1048576):sliD (.list xs) (.int (k:Int)) .none .none=some (.list (xs.drop k)):=gq (u':=none) (st':=none) (bM hk) rfl rfl Bool.false_ne_true h (iL _ _)
theorem iE {xs:List D} {n:Nat} (h:xs.length≤1048576) (hn:n≤1048576):sliD (.list xs) .none (.int (n:Int)) .none=some (.list (xs.take n)):=gq (l':=none) (st':=none) rfl (bM hn) rfl Bool.false_ne_true h (iV _ _)
theorem rV {t:List Nat} {n:Nat} (ht:t.length≤1000) (hn:n≤1048576):sliD (.str (mk t)) .none (.int (n:Int)) .none=some (.str (mk (t.take n))):=n9 (l':=none) (st':=none) rfl (bM hn) rfl Bool.false_ne_true ht (iV _ _)
theorem mM {t:List Nat} {k n:Nat} (ht:t.length≤1000) (hk:k≤t.length) (hn:n≤1000):sliD (.str (mk t)) (.int (k:Int)) (.int ((k+n:Nat):Int)) .none=some (.str (mk ((t.drop k).take n))) :=
 n9 (st':=none) (bM (Nat.le_trans hk (Nat.le_trans ht (by decide)))) (bM (Nat.le_trans (Nat.add_le_add (Nat.le_trans hk ht) hn) (by decide))) rfl Bool.false_ne_true ht (sj _ hk)
theorem lR {α:Type} {f:α→D} {l:List α} {k:Nat} (z:α) (h:k<l.length):(l.map f)[k]? = some (f (l.getD k z)):=by
 rw [List.getElem?_map,List.getD_eq_getElem?_getD,List.getElem?_eq_getElem h];rfl
theorem j8 {α:Type} {f:α→D} {l:List α} {k:Nat} (z:α) (h:k<l.length) (hl:l.length≤1048576):idxL (l.map f) (k:Int)=some (f (l.getD k z)):=dT (lR z h) (by rw [List.length_map];exact hl)
noncomputable def dn (l:List Nat):D:= .list (l.map fun (n:Nat)=>D.int (n:Int))
noncomputable def o (d:D):Option (D×Bool):=some (d,false)
theorem jL {l:List Nat} {k:Nat} (h:k<l.length) (hl:l.length≤1048576):idxD (dn l) (.int (k:Int))=some (.int ((l.getD k 0:Nat):Int)):=j8 (f:=fun n:Nat=>D.int (n:Int)) 0 h hl
theorem qU {xs ys:List Nat} (h1:xs.length≤1048576) (h2:ys.length≤1048576):binD .Add (dn xs) (dn ys)=some (dn (xs++ys)) :=
 (pD (by rw [List.length_map];exact h1) (by rw [List.length_map];exact h2)).trans (congrArg (some ∘ D.list) List.map_append.symm)
theorem ug (m n:Nat):((m:Int)).fmod (n:Int)=((m % n:Nat):Int):=by
 rw [Int.fmod_eq_emod_of_nonneg _ (Int.natCast_nonneg _)];rfl
theorem ui (m n:Nat):((m:Int)).fdiv (n:Int)=((m / n:Nat):Int):=by
 rw [Int.fdiv_eq_ediv_of_nonneg _ (Int.natCast_nonneg _)];rfl
theorem Ay (m k:Nat):((m:Int)).fdiv (2 ^ k)=((m / 2 ^ k:Nat):Int):=by
 rw [show (2:Int) ^ k=((2 ^ k:Nat):Int) from (Int.natCast_pow 2 k).symm,ui]
theorem nJ (a b:Nat):cmpD .Eq (.int (a:Int)) (.int (b:Int))=some (decide (a=b)):=by
 refine congrArg some ?_
 by_cases h:a=b
 ·rw [decide_eq_true h];exact beq_iff_eq.mpr (congrArg Int.ofNat h)
 ·rw [decide_eq_false h];exact beq_eq_false_iff_ne.mpr fun e=>h (Int.ofNat.inj e)
theorem zi (a b:Nat):cmpD .Lt (.int (a:Int)) (.int (b:Int))=some (decide (a<b)):=congrArg some (decide_eq_decide.mpr Int.ofNat_lt)
theorem c_geN (a b:Nat):cmpD .GtE (.int (a:Int)) (.int (b:Int))=some (decide (b≤a)):=congrArg some (decide_eq_decide.mpr Int.ofNat_le)
theorem oY (a b:List Nat):eqD (.str (mk a)) (.str (mk b))=some (a==b):=congrArg some (qE a b)
section
variable {G:ag} {F:FEnv} {σ:MEnv} {b:Bool} {a c:T} {m n k:Nat}
theorem bL (n:Nat) (h:ev G F σ true a=some (.int (m:Int))) (hn:n≠0):ev G F σ b (.bin .Mod a (.cst (.int (n:Int))))=some (.int ((m % n:Nat):Int)) :=
 ai h af ((nX fun e=>hn (Int.ofNat.inj e)).trans (congrArg (some ∘ D.int) (ug m n)))
theorem yy (h:ev G F σ true a=some (.int (m:Int))) (h2:ev G F σ true c=some (.int (n:Int))) (hn:n≠0) (hs:n≤1000000):ev G F σ b (.bin .FloorDiv a c)=some (.int ((m / n:Nat):Int)) :=
 ai h h2 ((zz (fun e=>hn (Int.ofNat.inj e)) (aP hs)).trans (congrArg (some ∘ D.int) (ui m n)))
theorem fi (n:Nat) (h:ev G F σ true a=some (.int (m:Int))) (hn:n≠0) (hs:n≤1000000):ev G F σ b (.bin .FloorDiv a (.cst (.int (n:Int))))=some (.int ((m / n:Nat):Int)):=yy h af hn hs
theorem aE (h:ev G F σ true a=some (.int (m:Int))) (h2:ev G F σ true c=some (.int (n:Int))):ev G F σ b (.bin .Add a c)=some (.int ((m+n:Nat):Int)):=ai h h2 rfl
theorem aX (h:ev G F σ true a=some (.int (m:Int))) (h2:ev G F σ true c=some (.int (n:Int))) (hm:m≤1000000) (hn:n≤1000000):ev G F σ b (.bin .Mult a c)=some (.int ((m * n:Nat):Int)):=ai h h2 (bW (aP hm) (aP hn))
theorem Ao (m:Nat):Builtin.bitAnd (m:Int) 1=((m % 2:Nat):Int):=(ec m 1).trans (congrArg _ (Nat.and_one_is_mod m))
theorem zM (h:ev G F σ true a=some (.int (m:Int))) (h2:ev G F σ true c=some (.int (k:Int))):ev G F σ b (.bin .BitAnd (.bin .RShift a c) (.cst (.int 1)))=some (.int ((m / 2 ^ k % 2:Nat):Int)) :=
 ai (ai h h2 ((uf (Int.natCast_nonneg _)).trans (congrArg (some ∘ D.int) (Ay m k)))) af (congrArg (some ∘ D.int) (Ao _))
theorem nK {m:Nat}:truthy (.int ((m % 2:Nat):Int))=some (decide (m % 2=1)):=by
 rcases Nat.mod_two_eq_zero_or_one m with h |h<;>rw [h]<;>rfl
end
theorem getD_mem {f:List Nat} {k:Nat} (h:k<f.length):f.getD k 0∈f:=by
 rw [List.getD_eq_getElem?_getD,List.getElem?_eq_getElem h]
 exact List.getElem_mem h
section
variable {α:Type} {f:α→D}
noncomputable def lst {α:Type} (f:α→D) (l:List α):D:= .list (l.map f)
theorem lst_app {xs ys:List α} (h1:xs.length≤1048576) (h2:ys.length≤1048576):binD .Add (lst f xs) (lst f ys)=some (lst f (xs++ys)) :=
 (pD (by rw [List.length_map];exact h1) (by rw [List.length_map];exact h2)).trans (congrArg (some ∘ D.list) List.map_append.symm)
theorem lst_last {xs:List α} {x:α} (h:(xs++[x]).length≤1048576):sliD (lst f (xs++[x])) .none (.int (-1)) .none=some (lst f xs)∧idxD (lst f (xs++[x])) (.int (-1))=some (f x):=by
 unfold lst
 rw [← List.length_map (f:=f),List.map_append] at h
 rw [List.map_append]
 exact ⟨(gm h).trans (by rw [show List.map f [x]=[f x] from rfl,List.dropLast_concat]),xt (Nat.le_of_succ_le_succ (by rw [List.length_append] at h;exact h))⟩
end
theorem pw:1≤1048576:=by decide
noncomputable def greatN:List Nat:=[119808,119860,119912,120016,120172,120224,120276,120328,120380,120432]
noncomputable def uN:List Nat:=[173,847,6150,6155,6156,6157,8203,8204,8205,8288,65279,65024,65025,65026,65027,65028,65029,65030,65031,65032,65033,65034,65035,65036,65037,65038,65039]
theorem unseen_N:unseen=uN.map fun (n:Nat)=>(n:Int):=rfl
noncomputable def ptN (f c:Nat):Nat:=cond (decide (f=0)) c (cond (decide (f=1)) (c - 32) (greatN.getD (f - 2) 0+c - 97))
noncomputable def dI (n:Nat):D:= .int (n:Int)
section
variable {G:ag} {F:FEnv} {σ:MEnv} {b:Bool} {a c e t u:T} {d:D}
theorem bT {α:Type} (f:α→D) {r:Bool} {x y:α} (h:ev G F σ true c=some d) (ht:truthy d=some r) (h1:r=true→ev G F σ b t=some (f x)) (h2:r=false→ev G F σ b u=some (f y)):ev G F σ b (.ite c t u)=some (f (cond r x y)):=nj h ht (fun q=>(h1 q).trans (by rw [q];rfl)) fun q=>(h2 q).trans (by rw [q];rfl)
theorem bD {m n:Nat} (h:ev G F σ true a=some (.int (m:Int))) (h2:ev G F σ true c=some (.int (n:Int))) (hn:n≤m):ev G F σ b (.bin .Sub a c)=some (.int ((m - n:Nat):Int)):=ai h h2 (congrArg (some ∘ D.int) (qi hn))
theorem yc {k:Nat} (h:ev G F σ true c=some (.int (k:Int))) (hk:k≤1000):ev G F σ b (.bin .Mult (.cst (.int 5)) c)=some (.int ((5 * k:Nat):Int)):=aX (m:=5) af h (by decide) (Nat.le_trans hk (by decide))
theorem rX {m n:Nat} (h:ev G F σ true a=some (.int (m:Int))) (h2:ev G F σ true c=some (.int (n:Int))):ev G F σ b (.cmp .Eq a c)=some (.bool (decide (m=n))):=am h h2 (nJ m n)
theorem xJ:∀ {f:Nat},f≠0→f≠1→2≤f
 |0,h,_=>absurd rfl h
 |1,_,h=>absurd rfl h
 |f+2,_,_=>Nat.le_add_left 2 f
theorem Ai {f:Nat} (h:f<12) (h2:2≤f):f - 2<greatN.length:=Nat.sub_lt_left_of_lt_add h2 h
theorem vp {cs:List Nat} {k c:Nat} (h:cs[k]? = some c) (hl:cs.length≤1000):idxD (.str (mk cs)) (.int (k:Int))=some (.str ⟨#[c]⟩):=by
 show idxL ((mk cs).cps.toList.map fun c=>D.str ⟨#[c]⟩) _=_
 rw [bO]
 exact dT (by rw [List.getElem?_map,h];rfl) (by rw [List.length_map];exact Nat.le_trans hl (by decide))
theorem add_size {m n k:Nat} (h:m+n≤10000) (hk:k≤n):sizeOk (m+k)=true:=aj (Nat.le_trans (Nat.add_le_add_left hk m) (Nat.le_trans h (by decide)))
end
theorem zs {x:Int} (h:0≤x):Builtin.bitAnd x 63=x % 64:=by
 obtain ⟨n,rfl⟩:=Int.eq_ofNat_of_zero_le h
 exact (ec n 63).trans (congrArg _ (Nat.and_two_pow_sub_one_eq_mod n 6))
theorem jc (j:Nat):(2:Int) ^ (6 * j)=64 ^ j:=by rw [Int.pow_mul];rfl
theorem vm {v:Int} (h:0≤v) (j:Nat):binD .BitAnd (.int (v.fdiv (2 ^ ((6 * j:Nat):Int).toNat))) (.int 63)=some (.int (v / 64 ^ j % 64)):=by
 have hp:(0:Int)≤64 ^ j:=Int.le_of_lt (Int.pow_pos (by decide))
 rw [Int.toNat_natCast,jc,Int.fdiv_eq_ediv_of_nonneg _ hp]
 exact congrArg (some ∘ D.int) (zs (Int.ediv_nonneg h hp))
noncomputable def lastN (v:Int):Nat:=(Builtin.Int.intBits v - 1) / 6
theorem lO {v:Int} (h:0≤v):v<64 ^ (lastN v+1):=by
 rw [← jc,← bi v h]
 exact Nat.le_of_pred_lt (Nat.lt_mul_div_succ _ (by decide))
theorem ic {v:Int} {M:Nat} (h:0≤v) (hM:v<64 ^ (M+1)):lastN v≤M:=by
 rw [← jc,← bi v h] at hM
 exact Nat.le_of_lt_succ (Nat.div_lt_of_lt_mul (Nat.lt_of_le_of_lt (Nat.sub_le_sub_right hM 1) (Nat.sub_one_lt (Nat.succ_ne_zero _))))
noncomputable def parN (n k:Nat):Int:=((n+k) % 2:Nat)
noncomputable def blkN (v:Int) (n:Nat):List Int:=(List.range (lastN v+1)).map (octN v (lastN v) (parN n))
theorem uK (n k:Nat):parN n k=0∨parN n k=1:=(Nat.mod_two_eq_zero_or_one (n+k)).imp (congrArg Int.ofNat) (congrArg Int.ofNat)
theorem wm {v:Int} (h:0≤v) (n:Nat):Blk (blkN v n) 0 v:=by
 unfold blkN
 rw [List.range_eq_range']
 exact oL (uK n) (lastN v) 0 (lastN v) 0 (Nat.zero_add _) (Int.ediv_eq_zero_of_lt h (lO h)).symm
theorem ju {v:Int} {M:Nat} (h:0≤v) (hM:v<64 ^ (M+1)) (n:Nat):(blkN v n).length≤M+1:=by
 unfold blkN
 rw [List.length_map,List.length_range]
 exact Nat.succ_le_succ (ic h hM)
noncomputable def tapeN:List Int→List Int→List Int
 |os,[]=>os
 |os,v :: vs=>tapeN (os++blkN v os.length) vs
theorem j0:∀ (vs os ws:List Int),Tape os ws→(∀ v∈vs,0≤v)→Tape (tapeN os vs) (ws++vs)
 | [],os,ws,h,_=>by rw [List.append_nil];exact h
 |v :: vs,os,ws,h,h0=>by
  have:=j0 vs (os++blkN v os.length) (ws++[v]) (h.snoc (wm (h0 v List.mem_cons_self) _)) fun x hx=>h0 x (List.mem_cons_of_mem _ hx)
  rw [List.append_assoc] at this
  exact this
theorem ix {n m B k L:Nat} (h:n+B * (L+1)≤m) (hk:k≤B):n+k+B * L≤m:=by
 rw [Nat.mul_succ,Nat.add_comm (B * L),← Nat.add_assoc] at h
 exact Nat.le_trans (Nat.add_le_add_right (Nat.add_le_add_left hk n) _) h
theorem iz {M m:Nat}:∀ (vs os:List Int),(∀ v∈vs,0≤v∧v<64 ^ (M+1))→os.length+(M+1) * vs.length≤m→(tapeN os vs).length≤m
 | [],os,_,hl=>hl
 |v :: vs,os,h,hl=>iz vs (os++blkN v os.length) (fun x hx=>h x (List.mem_cons_of_mem _ hx)) (by
  rw [List.length_append]
  exact ix hl (ju (h v List.mem_cons_self).1 (h v List.mem_cons_self).2 _))
noncomputable abbrev dZ (l:List Int):D:=lst D.int l
theorem kA {os:List Int} (ho:os.length≤100000):bltD .len [dZ os]=some (dI os.length):=(nE (by rw [List.length_map];exact Nat.le_trans ho (by decide))).trans (by rw [List.length_map];rfl)
section
variable {G:ag} {F:FEnv}
theorem rH {σ:MEnv} {b:Bool} {a c:T} {m n:Nat} (h:ev G F σ true a=some (.int (m:Int))) (h2:ev G F σ true c=some (.int (n:Int))):ev G F σ b (.cmp .Lt a c)=some (.bool (decide (m<n))):=am h h2 (zi m n)
theorem dH {σ:MEnv} {b:Bool} {a:T} {w:List Nat} (h:ev G F σ true a=some (.str (mk w))) (hw:w.length≤1000):ev G F σ b (.blt .len (.cons a .nil))=some (dI w.length) :=
 aS (aR h) ((ym (by rw [au];exact Nat.le_trans hw (by decide))).trans (by rw [au];rfl))
theorem v_andT {σ:MEnv} {b r s:Bool} {a c:T} {x:D} (h:ev G F σ b a=some x) (ht:truthy x=some r) (h2:r=true→ev G F σ b c=some (.bool s)):∃ y,ev G F σ b (.bop .And a c)=some y∧truthy y=some (r&&s):=by
 cases r with
 |false=>exact ⟨x,ad h (ad ht rfl),ht⟩
 |true=>exact ⟨.bool s,ad h (ad ht (h2 rfl)),rfl⟩
end
theorem f0:∀ (xs:List Nat),ints? (xs.map dI)=some (xs.map fun n:Nat=>(n:Int))
 | []=>rfl
 |x :: xs=>ad (a:=(x:Int)) rfl (aJ (f0 xs) rfl)
theorem jF (d:Nat):∀ xs:List Nat,memD (dI d) (xs.map dI)=some (xs.contains d)
 | []=>rfl
 |x :: xs=>ad (nJ x d) (aJ (jF d xs) (congrArg (· || xs.contains d) (decide_eq_decide.mpr eq_comm)))
theorem dn_truth {es:List Nat} (h:es.length≤1048576):truthy (dn es)=some (!es.isEmpty):=ao (aj (by rw [List.length_map];exact h)) (by rw [List.isEmpty_map])
theorem c_eqS (a b:List Nat):cmpD .Eq (.str (mk a)) (.str (mk b))=some (a==b):=oY a b
noncomputable def iN (l:List Nat):List Int:=l.map fun (n:Nat)=>(n:Int)
theorem fy (l:List Nat):dn l=dZ (iN l):=congrArg D.list List.map_map.symm
structure AA (b1L:List Int) (b3L:List (Int×Str)) (f c:Nat):Prop where
 b1:b1L.contains ((ptN f c:Nat):Int)=false
 b3:b3v b3L (ptN f c)=⟨#[c]⟩
 u:uN.contains (ptN f c)=false
 pos:0<ptN f c
 lt:ptN f c<131072
structure ij (b1L:List Int) (b3L:List (Int×Str)):Prop where
 u:uN.all (fun u=>b1L.contains (u:Int)&&decide (u<131072))=true
 l:((List.range 12).all fun f=>(List.range 26).all fun c=> !b1L.contains ((ptN f (97+c):Nat):Int)&&(b3v b3L (ptN f (97+c))==⟨#[97+c]⟩) && !uN.contains (ptN f (97+c))&&decide (0<ptN f (97+c))&&decide (ptN f (97+c)<131072))=true
noncomputable def isLt (c:Nat):Prop:=∃ k,k<26∧c=97+k
theorem isLt.le {c:Nat} (h:isLt c):97≤c:=let ⟨k,_,e⟩:=h;e▸Nat.le_add_right 97 k
section
variable {b1L:List Int} {b3L:List (Int×Str)} (P:ij b1L b3L)
include P
theorem zZ {f c:Nat} (hf:f<12) (hc:isLt c):AA b1L b3L f c:=by
 obtain ⟨k,hk,rfl⟩:=hc
 exact aa (List.all_eq_true.mp (List.all_eq_true.mp P.l f (List.mem_range.mpr hf)) k (List.mem_range.mpr hk)) fun h h5=>aa h fun h h4=>aa h fun h h3=>aa h fun h1 h2=>⟨nt h1,eq_of_beq h2,nt h3,de h4,de h5⟩
end
noncomputable def wordsL:List Str:=["OPTIMIZED","NEWLOCALS","VARARGS","VARKEYWORDS","NESTED","GENERATOR","NOFREE","COROUTINE","ITERABLE_COROUTINE","ASYNC_GENERATOR"]
noncomputable def flagsS:Str:="OPTIMIZED NEWLOCALS VARARGS VARKEYWORDS NESTED GENERATOR NOFREE COROUTINE ITERABLE_COROUTINE ASYNC_GENERATOR"
theorem ly:Txt.split flagsS " "=wordsL:=by decide +kernel
noncomputable def digS (k:Nat):Str:=["1","2","4","8"].getD k ""
noncomputable def wordN (k:Nat):Str:=cond (decide (k<10)) (wordsL.getD k "") (("0x":Str)++digS (k % 4)++rep "0" (k / 4))
theorem wc:∀ {j:Nat},j<4→idxD (.str "1248") (dI j)=some (.str (digS j))
 |0,_=>rfl
 |1,_=>rfl
 |2,_=>rfl
 |3,_=>rfl
 |n+4,h=>absurd h (Nat.not_lt.mpr (Nat.le_add_left 4 n))
theorem vE:∀ n<8,(rep "0" n).length≤1048576:=by decide
theorem mR:∀ j<4,(("0x":Str)++digS j).length≤1048576∧(digS j).length≤1048576:=by decide
theorem vU:methD .split (.str flagsS) [.str " "]=some (.list (wordsL.map .str)):=(mJ (by decide +kernel) (by decide)).trans (by rw [ly])
theorem jK {x y:Str} (h1:x.length≤1048576) (h2:y.length≤1048576):binD .Add (.str x) (.str y)=some (.str (x++y)):=ao (c:=(sizeOk x.length&&sizeOk y.length)=true) (by rw [aj h1,aj h2];rfl) rfl
theorem zp {n:Nat} (h:n<8):binD .Mult (.str "0") (dI n)=some (.str (rep "0" n)):=by
 show (if (sizeOk (1 * n)&&idxOk (n:Int))=true then some (D.str (rep "0" n)) else none)=_
 rw [Nat.one_mul,aj (Nat.le_trans (Nat.le_of_lt h) (by decide)),eI (Nat.le_trans (Nat.le_of_lt h) (by decide))];rfl
theorem c_neN (a b:Nat):cmpD .NotEq (dI a) (dI b)=some (!decide (a=b)):=congrArg (Option.map (!·)) (nJ a b)
theorem eK {i j:Nat} {d e:D} {l:List (Nat×D)} {P:Prop} (h:((i,d) :: l).lookup j=some e) (k1:j=i→d=e→P) (k2:i≠j→l.lookup j=some e→P):P:=by
 rw [List.lookup_cons] at h
 by_cases q:j=i
 ·rw [beq_iff_eq.mpr q] at h;exact k1 q (sm h)
 ·rw [beq_eq_false_iff_ne.mpr q] at h;exact k2 (Ne.symm q) h
theorem jR {α β:Type} (f:α→β) (xs:List α) (lo hi st:Option Int):pickL (xs.map f) lo hi st=(pickL xs lo hi st).map f:=by
 unfold pickL
 rw [List.length_map,List.map_filterMap]
 exact congrArg (List.filterMap · _) (funext fun i=>List.getElem?_map)
theorem s7 {α:Type} {xs:List α} {lo hi st:Option Int} {x:α} (h:x∈pickL xs lo hi st):x∈xs :=
 let ⟨_,_,h2⟩:=List.mem_filterMap.mp h
 List.mem_of_getElem? h2
theorem kU {B:Nat}:∀ {l:List Nat},(∀ x∈l,x≤B)→l.sum≤l.length * B
 | [],_=>Nat.zero_le _
 |x :: l,h=>by
  rw [List.sum_cons,List.length_cons,Nat.succ_mul,Nat.add_comm]
  exact Nat.add_le_add (kU fun y hy=>h y (List.mem_cons_of_mem _ hy)) (h x List.mem_cons_self)
theorem mv:∀ l:List Nat,(l.map fun n:Nat=>(n:Int)).sum=((l.sum:Nat):Int)
 | []=>rfl
 |x :: l=>by
  rw [List.map_cons,List.sum_cons,List.sum_cons,mv l];rfl
theorem n7 {l:List Nat} (h:l.length≤1048576):bltD .sum [dn l]=some (dI l.sum):=by
 show (if sizeOk (l.map dI).length then (ints? (l.map dI)).map (fun ns=>D.int ns.sum) else none)=_
 exact ao (aj (by rw [List.length_map];exact h)) (aJ (f0 l) (congrArg D.int (mv l)))
noncomputable def drawZ (ns:List Int):List Nat:=(ns.take 60).map fun x=>(x.fmod 1000000000).toNat
theorem eX (ns:List Int):(drawZ ns).length≤60:=by unfold drawZ;rw [List.length_map,List.length_take];exact Nat.min_le_left _ _
theorem yx (x:Int):x.fmod 1000000000=(((x.fmod 1000000000).toNat:Nat):Int)∧(x.fmod 1000000000).toNat≤1000000000:=by
 obtain ⟨h1,h2⟩:=dz (b:=1000000000) (by decide) x
 exact ⟨(Int.toNat_of_nonneg h1).symm,Int.toNat_le.mpr (Int.le_of_lt h2)⟩
theorem pT {a:Int} {k:Nat} (h0:0≤a) (h:a<2 ^ k) (hk:k≤4000):small a=true:=by
 obtain ⟨n,rfl⟩:=Int.eq_ofNat_of_zero_le h0
 rw [show (2:Int) ^ k=((2 ^ k:Nat):Int) from (Int.natCast_pow 2 k).symm] at h
 unfold small BIG
 exact decide_eq_true (Nat.lt_of_lt_of_le (Int.ofNat_lt.mp h) (Nat.pow_le_pow_right (by decide) hk))
theorem dB {d:D} (h:eqD d d=some true):cmpD .NotEq d d=some false:=congrArg (Option.map (!·)) h
theorem eW (a:Int):cmpD .NotEq (.int a) (.int a)=some false:=dB (congrArg some (beq_self_eq_true _))
theorem gU (l:List Int):cmpD .NotEq (dZ l) (dZ l)=some false:=dB ((rK l l).trans (congrArg some (beq_self_eq_true _)))
theorem yN (x:Str):eqD (.str x) (.str x)=some true:=congrArg some (beq_self_eq_true x)
theorem iN_bd {m:Nat} {l:List Nat} (h:∀ x∈l,x<2 ^ m):∀ d∈iN l,0≤d∧d<2 ^ m:=fun d hd=>by
 obtain ⟨x,hx,rfl⟩:=List.mem_map.mp hd
 rw [show (2:Int) ^ m=((2 ^ m:Nat):Int) from (Int.natCast_pow 2 m).symm]
 exact ⟨Int.natCast_nonneg x,Int.ofNat_lt.mpr (h x hx)⟩
theorem jn {l:List Nat}:(iN l).length=l.length:=List.length_map _
theorem vC {os:List Int} (h:os.length≤1048576):sliD (dZ os) .none (.int (-1)) .none=some (dZ os.dropLast):=(gm (by rw [List.length_map];exact h)).trans (congrArg (some ∘ D.list) (List.map_dropLast).symm)
theorem ma {os:List Int} (h:os.length≤600):readSpec [dZ os]=some (dZ (rd (os.length+1) os)):=ad (a:=dZ os) rfl (ad (a:=os.map .int) rfl (ad (a:=os) fQ (ao (decide_eq_true h) rfl)))
section
variable {G:ag} {F:FEnv} {σ:MEnv}
noncomputable def iPair (p:Nat×Nat):D:= .tup [dI p.1,dI p.2]
theorem pa {α:Type} {b:Bool} {elt it it2:T} {k:IK} {i j:Nat} {l:List α} {f g:α→D} {y:α→D} (he:enumOk false k=true) (hf:feedD k (ev G F σ true it) (ev G F σ true it2)=some (l.map fun a=> .tup [f a,g a])) (hi:i<σ.length) (hj:j<σ.length) (hij:i≠j)
  (hy:∀ a∈l,∀ σ',getE σ' i=o (f a)→getE σ' j=o (g a)→(∀ m,m≠i→m≠j→getE σ' m=getE σ m)→ev G F σ' false elt=some (y a)):ev G F σ b (.comp elt [i,j] false k it it2 (.cst (.bool true)) [i,j])=some (.list (l.map y)) :=
 tR (τ:=fun a=>setE (setE (clearE (clearE σ [i]) [j]) i (f a) false) j (g a) false) he hf (fun a _=>rfl) fun a ha=>hy a ha _
  ((dM (Ne.symm hij)).trans (fE (by rw [bG,bG];exact hi))) (fE (by rw [setE_len,bG,bG];exact hj)) fun m h1 h2=>(dM (Ne.symm h2)).trans ((dM (Ne.symm h1)).trans ((fb h2).trans (fb h1)))
end
end Mine
set_option genSizeOf false
set_option genInjectivity false
namespace Mine
noncomputable def LN:List Nat:=[104,112,114,115,116,109,119,98,113]
noncomputable def wdN (a n:Nat):List Nat:=(LN.drop a).take n
noncomputable def jnS:List Str:=["hp","pr","rs","st","tm","mw","wb","bq"]
noncomputable def jnL (pick:Nat):List Nat:=[13259,13274,8360,64261+pick % 2,8482,13245+2 * (pick % 2),13277,13251]
noncomputable def jnD (pick:Nat):List (Str×Int):=jnS.zip ((jnL pick).map fun n:Nat=>(n:Int))
noncomputable def fmN' (pick noise k t:Nat):Nat:=(pick+5 * k+t * (1+noise % 11)) % 12
noncomputable def sgN' (pick noise c k m:Nat):List Nat:=(List.range m).map fun t=>ptN (fmN' pick noise k t) c
noncomputable def jnN (pick a n k:Nat):List Nat:=cond (decide (k+1<n)) [(jnL pick).getD (a+k) 0] []
noncomputable def mkN (noise k:Nat):List Nat:=cond (decide (noise / 11 / 2 ^ k % 2=1)) [uN.getD ((noise+4 * k) % 27) 0] []
noncomputable def chN (a n:Nat) (fs:List Nat) (pick noise k:Nat):List Nat:=sgN' pick noise ((wdN a n).getD k 0) k (fs.getD k 0)++jnN pick a n k++mkN noise k
noncomputable def stkN (a n:Nat) (fs:List Nat) (pick noise:Nat):List Nat:=(List.range n).flatMap (chN a n fs pick noise)
theorem ck {a n:Nat} (h:a+n≤9):(wdN a n).length=n:=by
 unfold wdN
 rw [List.length_take,List.length_drop]
 exact Nat.min_eq_left (Nat.le_sub_of_add_le (by rw [Nat.add_comm];exact h))
theorem yK {a n k:Nat} (h:k+1<n):((wdN a n).drop k).take 2=(LN.drop (a+k)).take 2:=by
 unfold wdN
 rw [List.drop_take,List.take_take,List.drop_drop,Nat.min_eq_left (Nat.le_sub_of_add_le (by rw [Nat.add_comm];exact h))]
theorem uA (a n:Nat):∀ c∈wdN a n,97≤c∧c<123:=fun c hc=>(by decide:∀ c∈LN,97≤c∧c<123) c (List.mem_of_mem_drop (List.mem_of_mem_take hc))
theorem yI (pick:Nat):(List.range 8).map (fun j=>(jnD pick).lookup (mk ((LN.drop j).take 2)))=(List.range 8).map fun j=>some (((jnL pick).getD j 0:Nat):Int):=by kernel_rfl
theorem zR {pick j:Nat} (h:j<8):(jnD pick).lookup (mk ((LN.drop j).take 2))=some (((jnL pick).getD j 0:Nat):Int):=List.map_inj_left.mp (yI pick) j (List.mem_range.mpr h)
theorem tM {l:List (Str×Int)} {k:Str} {i:Int} (h:l.lookup k=some i):idxD (.dmap l) (.str k)=some (.int i):=congrArg (Option.map D.int) h
theorem zP (pick:Nat):ddOk jnS ((jnL pick).map fun n:Nat=>(n:Int))=true:=by kernel_rfl
theorem gC {b:Bool} {x:Nat}:((cond b [x] []).map dI).length≤1:=by
 cases b with
 |true=>exact Nat.le_refl 1
 |false=>exact Nat.zero_le 1
noncomputable def jTs:T:= .cons (.cst (.int 13259)) (.cons (.cst (.int 13274)) (.cons (.cst (.int 8360)) (.cons (.bin .Add (.cst (.int 64261)) (.bin .Mod (.var 2) (.cst (.int 2)))) (.cons (.cst (.int 8482)) (.cons (.bin .Add (.cst (.int 13245)) (.bin .Mult (.cst (.int 2)) (.bin .Mod (.var 2) (.cst (.int 2))))) (.cons (.cst (.int 13277)) (.cons (.cst (.int 13251)) .nil)))))))
noncomputable def fTm:T:= .bin .Mod (.bin .Add (.bin .Add (.var 2) (.bin .Mult (.cst (.int 5)) (.var 7))) (.bin .Mult (.var 8) (.bin .Add (.cst (.int 1)) (.bin .Mod (.var 3) (.cst (.int 11)))))) (.cst (.int 12))
noncomputable def pTm:T:= .ite (.cmp .Eq (.var 9) (.cst (.int 0))) (.var 10) (.ite (.cmp .Eq (.var 9) (.cst (.int 1))) (.bin .Sub (.var 10) (.cst (.int 32))) (.bin .Sub (.bin .Add (.idx (.var 4) (.bin .Sub (.var 9) (.cst (.int 2)))) (.var 10)) (.cst (.int 97))))
noncomputable def iBody:S:= .seq (.asg 9 false fTm) <| .seq (.asg 10 false (.blt .ord (.cons (.idx (.var 0) (.var 7)) .nil))) <| .seq (.app 6 pTm) .skip
noncomputable def jTm:T:= .ite (.cmp .Lt (.bin .Add (.var 7) (.cst (.int 1))) (.blt .len (.cons (.var 0) .nil))) (.list (.cons (.idx (.var 5) (.sli (.var 0) (.var 7) (.bin .Add (.var 7) (.cst (.int 2))) (.cst .none))) .nil)) (.list .nil)
noncomputable def mTm:T:= .ite (.bin .BitAnd (.bin .RShift (.bin .FloorDiv (.var 3) (.cst (.int 11))) (.var 7)) (.cst (.int 1))) (.list (.cons (.idx (.call "_law_unseen" .nil) (.bin .Mod (.bin .Add (.var 3) (.bin .Mult (.cst (.int 4)) (.var 7))) (.cst (.int 27)))) .nil)) (.list .nil)
noncomputable def oBdy:S:= .seq (.fors [8] true .range1 (.idx (.var 1) (.var 7)) .nil iBody .skip) <| .seq (.ext 6 jTm) <| .seq (.ext 6 mTm) .skip
noncomputable def gT:T:= .tup (.cons (.cst (.int 119808)) (.cons (.cst (.int 119860)) (.cons (.cst (.int 119912)) (.cons (.cst (.int 120016)) (.cons (.cst (.int 120172)) (.cons (.cst (.int 120224)) (.cons (.cst (.int 120276)) (.cons (.cst (.int 120328)) (.cons (.cst (.int 120380)) (.cons (.cst (.int 120432)) .nil))))))))))
theorem sk:s2_law_stock = .seq (.asg 4 false gT) (.seq (.asg 5 false (.ddisp jnS jTs)) (.seq (.asg 6 true (.list .nil)) (.seq (.fors [7] true .range1 (.blt .len (.cons (.var 0) .nil)) .nil oBdy .skip) (.seq (.retv 6) .skip)))):=rfl
section
variable {G:ag} {F:FEnv} {σ:MEnv}
theorem zm {pick:Nat} (h2:getE σ 2=o (dI pick)):ev G F σ false jTs=some (.tup ((jnL pick).map dI)) :=
 have m:∀ {b},ev G F σ b (.bin .Mod (.var 2) (.cst (.int 2)))=some (dI (pick % 2)):=bL 2 (ab h2) (by decide)
 have hp:pick % 2≤1000000:=Nat.le_trans (Nat.le_of_lt (Nat.mod_lt _ (by decide))) (by decide)
 ay af (ay af (ay af (ay (aE (m:=64261) af m) (ay af (ay (aE (m:=13245) af (aX (m:=2) af m (by decide) hp)) (aY af af))))))
theorem pg {pick:Nat} (hdd:G.dd=true) (h2:getE σ 2=o (dI pick)):ev G F σ false (.ddisp jnS jTs)=some (.dmap (jnD pick)) :=
 ad (zm h2) (ad (a:=(jnL pick).map dI) rfl (ad (f0 _) (ao (c:=(G.dd&&ddOk jnS _)=true) (by rw [hdd,zP];rfl) rfl)))
theorem wF {f c:Nat} (h3:getE σ 4=o (.tup (greatN.map dI))) (h6:getE σ 9=o (dI f)) (h7:getE σ 10=o (dI c)) (hf:f<12) (hc:97≤c):ev G F σ false pTm=some (dI (ptN f c)) :=
 bT dI (rX (m:=f) (n:=0) (ab h6) af) rfl (fun _=>ab h7) fun e0=>bT dI (rX (m:=f) (n:=1) (ab h6) af) rfl (fun _=>bD (m:=c) (n:=32) (ab h7) af (Nat.le_trans (by decide) hc)) fun e1 =>
  have h2:=xJ (of_decide_eq_false e0) (of_decide_eq_false e1)
  bD (n:=97) (aE (aC (ab h3) (bD (m:=f) (n:=2) (ab h6) af h2) (j8 (f:=dI) 0 (Ai hf h2) (by decide))) (ab h7)) af (Nat.le_trans hc (Nat.le_add_left _ _))
end
section
variable {G:ag} {F:FEnv} {w fs:List Nat} {pick noise:Nat} {dj:D}
noncomputable def stE (w fs:List Nat) (pick noise:Nat) (dj:D) (xs:List D) (x7 x8 x9 x10:Option (D×Bool)):MEnv:=[o (.str (mk w)),o (dn fs),o (dI pick),o (dI noise),o (.tup (greatN.map dI)),o dj,some (.list xs,true),x7,x8,x9,x10]
variable (hl:w.length≤1000)
include hl
theorem xW {k c t:Nat} {xs:List D} {x8 x9 x10:Option (D×Bool)} (hc:w[k]? = some c) (h97:97≤c) (ht:t≤1000) (hp:xs.length≤10000) :
  bodyT G F [8] true iBody (stE w fs pick noise dj xs (o (dI k)) x8 x9 x10) (dI t)=some (stE w fs pick noise dj (xs++[dI (ptN (fmN' pick noise k t) c)]) (o (dI k)) (o (dI t)) (o (dI (fmN' pick noise k t))) (o (dI c)),.next) :=
 have hk:k≤1000:=Nat.le_trans (Nat.le_of_lt (List.getElem?_eq_some_iff.mp hc).1) hl
 ad (a:=stE w fs pick noise dj xs (o (dI k)) (o (dI t)) x9 x10) rfl (aB (bL 12 (aE (aE (m:=pick) rfl (yc (k:=k) rfl hk)) (aX (m:=t) rfl (aE (m:=1) af (bL 11 (m:=noise) rfl (by decide))) (Nat.le_trans ht (by decide)) (Nat.le_trans (Nat.add_le_add_left (Nat.le_of_lt (Nat.mod_lt _ (by decide))) 1) (by decide)))) (by decide))
  (aB (aS (aR (aC (y:=dI k) rfl rfl (vp hc hl))) rfl) (gJ rfl (aj (Nat.le_trans hp (by decide))) (wF rfl rfl rfl (Nat.mod_lt _ (by decide)) h97) rfl)))
theorem qt {k c:Nat} (hc:w[k]? = some c) (h97:97≤c):∀ (ts:List Nat) (xs:List D) (x8 x9 x10:Option (D×Bool)),(∀ t∈ts,t≤1000)→xs.length+ts.length≤10000 →
  ∃ y8 y9 y10,loopL (bodyT G F [8] true iBody) (stE w fs pick noise dj xs (o (dI k)) x8 x9 x10) (ts.map dI)=some (stE w fs pick noise dj (xs++(ts.map fun t=>ptN (fmN' pick noise k t) c).map dI) (o (dI k)) y8 y9 y10,.next)
 | [],xs,x8,x9,x10,_,_=>⟨x8,x9,x10,by rw [List.map_nil,List.map_nil,List.map_nil,List.append_nil];rfl⟩
 |t :: ts,xs,x8,x9,x10,ht,hp =>
  let ⟨y8,y9,y10,ih⟩:=qt hc h97 ts (xs++[dI (ptN (fmN' pick noise k t) c)]) (o (dI t)) (o (dI (fmN' pick noise k t))) (o (dI c)) (fun t h=>ht t (List.mem_cons_of_mem _ h)) (by rw [List.length_append,Nat.add_assoc];exact Nat.le_trans (Nat.le_of_eq (congrArg (xs.length + ·) (Nat.add_comm 1 _))) hp)
  ⟨y8,y9,y10,aU (xW hl hc h97 (ht t List.mem_cons_self) (Nat.le_trans (Nat.le_add_right _ _) hp)) (ih.trans (by rw [List.append_assoc];rfl))⟩
end
section
variable {G:ag} {F:FEnv} {a n:Nat} (han:a+n≤9) {fs:List Nat} (hf:fs.length=n) (hf2:∀ f∈fs,f≤2) {pick noise:Nat} (hU:F "_law_unseen" []=some (.list (unseen.map .int)))
include han hf hf2 hU
theorem xE {k:Nat} (hk:k<n) {xs:List D} {x7 x8 x9 x10:Option (D×Bool)} (hp:xs.length+4≤10000):∃ y8 y9 y10,
  bodyT G F [7] true oBdy (stE (wdN a n) fs pick noise (.dmap (jnD pick)) xs x7 x8 x9 x10) (dI k)=some (stE (wdN a n) fs pick noise (.dmap (jnD pick)) (xs++(chN a n fs pick noise k).map dI) (o (dI k)) y8 y9 y10,.next):=by
 have hl:(wdN a n).length≤1000:=by rw [ck han];exact Nat.le_trans (Nat.le_trans (Nat.le_add_left n a) han) (by decide)
 have hkl:k<(wdN a n).length:=by rw [ck han];exact hk
 have hkf:k<fs.length:=by rw [hf];exact hk
 have hk8:k≤1000:=Nat.le_trans (Nat.le_of_lt hkl) hl
 have hc:(wdN a n)[k]? = some ((wdN a n).getD k 0):=by rw [List.getD_eq_getElem?_getD,List.getElem?_eq_getElem hkl];rfl
 have h2:fs.getD k 0≤2:=hf2 _ (getD_mem hkf)
 have hz:(List.range (fs.getD k 0)).length≤2:=by rw [List.length_range];exact h2
 obtain ⟨y8,y9,y10,e⟩:=qt (G:=G) (F:=F) (fs:=fs) (pick:=pick) (noise:=noise) (dj:= .dmap (jnD pick)) hl hc (uA a n _ (getD_mem hkl)).1 (List.range (fs.getD k 0)) xs x8 x9 x10 (fun t h=>Nat.le_trans (Nat.le_of_lt (List.mem_range.mp h)) (Nat.le_trans h2 (by decide))) (Nat.le_trans (Nat.add_le_add_left (Nat.le_trans hz (by decide)) _) hp)
 have z1:(xs++(sgN' pick noise ((wdN a n).getD k 0) k (fs.getD k 0)).map dI).length≤xs.length+2:=by
  rw [List.length_append,List.length_map]
  exact Nat.add_le_add_left (Nat.le_trans (Nat.le_of_eq (List.length_map _)) hz) _
 have z2:(xs++(sgN' pick noise ((wdN a n).getD k 0) k (fs.getD k 0)).map dI++(jnN pick a n k).map dI).length≤xs.length+3:=by
  rw [List.length_append]
  exact Nat.add_le_add (b:=xs.length+2) (d:=1) z1 gC
 refine ⟨y8,y9,y10,ad (a:=stE (wdN a n) fs pick noise (.dmap (jnD pick)) xs (o (dI k)) x8 x9 x10) rfl (c9 rfl (fU (b:=true) (n:=fs.getD k 0) (aC (y:=dI k) rfl rfl (jL hkf (by rw [hf];exact Nat.le_trans (Nat.le_trans (Nat.le_add_left n a) han) (by decide)))) (Nat.le_trans h2 (by decide))) e ?_)⟩
 refine t6 (ys:=(jnN pick a n k).map dI) rfl (aj (Nat.le_trans z1 (Nat.le_trans (Nat.le_trans (Nat.add_le_add_left (by decide) _) hp) (by decide)))) ?_ (aj (Nat.le_trans gC (by decide))) (t6 (ys:=(mkN noise k).map dI) rfl (aj (Nat.le_trans z2 (Nat.le_trans (Nat.le_trans (Nat.add_le_add_left (by decide) _) hp) (by decide)))) ?_ (aj (Nat.le_trans gC (by decide))) ?_)
 ·exact bT (lst dI) (rH (m:=k+1) (n:=n) (aE (m:=k) (n:=1) rfl af) ((dH rfl hl).trans (by rw [ck han];rfl))) rfl (fun h=>gL (aR (aC (x:= .dmap (jnD pick)) rfl (bV (x:= .str (mk (wdN a n))) (l':=dI k) (u':=dI (k+2)) rfl rfl (aE (m:=k) (n:=2) rfl af) aG (mM hl (Nat.le_of_lt hkl) (by decide)))
   (by rw [yK (de h)];exact tM (zR (pick:=pick) (Nat.lt_of_succ_lt_succ (Nat.lt_of_lt_of_le (Nat.add_lt_add_left (de h) a) han))))))) fun _=>rfl
 ·exact bT (lst dI) (zM (m:=noise / 11) (k:=k) (fi 11 (m:=noise) rfl (by decide) (by decide)) rfl) nK (fun _=>gL (aR (aC (aw nC hU) (bL 27 (aE (m:=noise) rfl (aX (m:=4) (n:=k) af rfl (by decide) (Nat.le_trans hk8 (by decide)))) (by decide)) (jL (l:=uN) (Nat.mod_lt _ (by decide)) (by decide))))) fun _=>rfl
 ·unfold chN
  rw [List.map_append,List.map_append,← List.append_assoc,← List.append_assoc];rfl
theorem pV:∀ (ks:List Nat) (xs:List D) (x7 x8 x9 x10:Option (D×Bool)),(∀ k∈ks,k<n)→xs.length+4 * ks.length≤10000 →
  ∃ y7 y8 y9 y10,loopL (bodyT G F [7] true oBdy) (stE (wdN a n) fs pick noise (.dmap (jnD pick)) xs x7 x8 x9 x10) (ks.map dI)=some (stE (wdN a n) fs pick noise (.dmap (jnD pick)) (xs++(ks.flatMap (chN a n fs pick noise)).map dI) y7 y8 y9 y10,.next)
 | [],xs,x7,x8,x9,x10,_,_=>⟨x7,x8,x9,x10,by rw [List.flatMap_nil,List.map_nil,List.append_nil];rfl⟩
 |k :: ks,xs,x7,x8,x9,x10,hk,hp=>by
  have hk0:=hk k List.mem_cons_self
  have hc4:((chN a n fs pick noise k).map dI).length≤4:=by
   have h2:fs.getD k 0≤2:=hf2 _ (getD_mem (by rw [hf];exact hk0))
   unfold chN sgN'
   rw [List.map_append,List.map_append,List.length_append,List.length_append,List.length_map,List.length_map,List.length_range]
   exact Nat.add_le_add (Nat.add_le_add h2 gC) gC
  rw [List.length_cons,Nat.mul_succ,Nat.add_comm (4 * _),← Nat.add_assoc] at hp
  obtain ⟨z8,z9,z10,e⟩:=xE (G:=G) (F:=F) han hf hf2 (pick:=pick) (noise:=noise) hU hk0 (xs:=xs) (x7:=x7) (x8:=x8) (x9:=x9) (x10:=x10) (Nat.le_trans (Nat.le_add_right _ _) hp)
  obtain ⟨y7,y8,y9,y10,ih⟩:=pV ks (xs++(chN a n fs pick noise k).map dI) (o (dI k)) z8 z9 z10 (fun t h=>hk t (List.mem_cons_of_mem _ h)) (by
   rw [List.length_append]
   exact Nat.le_trans (Nat.add_le_add_right (Nat.add_le_add_left hc4 _) _) hp)
  exact ⟨y7,y8,y9,y10,aU e (ih.trans (by rw [List.append_assoc,← List.map_append];rfl))⟩
theorem qy (hdd:G.dd=true):run G F 11 s2_law_stock [.str (mk (wdN a n)),dn fs,dI pick,dI noise]=some (dn (stkN a n fs pick noise)):=by
 have hn:n≤9:=Nat.le_trans (Nat.le_add_left n a) han
 have hl:(wdN a n).length≤1000:=by rw [ck han];exact Nat.le_trans hn (by decide)
 obtain ⟨y7,y8,y9,y10,h⟩:=pV (G:=G) (F:=F) han hf hf2 (pick:=pick) (noise:=noise) hU (List.range n) [] none none none none (fun k h=>List.mem_range.mp h) (by rw [List.length_range,List.length_nil,Nat.zero_add];exact Nat.le_trans (Nat.mul_le_mul_left 4 hn) (by decide))
 rw [sk]
 exact aD [o (.str (mk (wdN a n))),o (dn fs),o (dI pick),o (dI noise),none,none,none,none,none,none,none] rfl (aB (d:= .tup (greatN.map dI)) rfl (aB (pg hdd rfl) (dF (d:= .list []) rfl rfl
  (c9 rfl (fU (b:=true) (n:=n) ((dH rfl hl).trans (by rw [ck han];rfl)) (Nat.le_trans hn (by decide))) h rfl))))
end
section
variable {G:ag} {fns:List Fn}
theorem qz {sp:Str→List D→Option D} {k n m:Nat} {f:Str} {ds:List D} {cd:S} (h2:∃ x,fns.find? (fun x=>x.name==f)=some x∧x.ps.length=m∧x.tbl.length=n∧x.code=cd) (hl:ds.length=m) {r:Option D} (h:run G (FF G fns [] sp k) n cd ds=r):FF G fns [] sp (k+1) f ds=r:=by
 obtain ⟨x,e1,e2,rfl,rfl⟩:=h2
 rw [FF_s]
 exact ad e1 (ao (hl.trans e2.symm) h)
end
end Mine
set_option genSizeOf false
set_option genInjectivity false
namespace Mine
theorem uW {v:Int} {M:Nat} (h:0≤v) (hM:64 ^ M≤v):M≤lastN v:=Nat.le_of_not_lt fun q=>by
 have h1:=lO h
 have h2:(64:Int) ^ (lastN v+1)≤64 ^ M:=by
  have h3:=Int.ofNat_le.mpr (Nat.pow_le_pow_right (n:=64) (by decide) q)
  rw [Int.natCast_pow,Int.natCast_pow] at h3
  exact h3
 exact Int.not_lt.mpr (Int.le_trans h2 hM) h1
theorem gX {v:Int} {M:Nat} (h:0≤v) (h1:64 ^ M≤v) (h2:v<64 ^ (M+1)):lastN v=M:=Nat.le_antisymm (ic h h2) (uW h h1)
noncomputable def figN (v:Int) (L k:Nat):Int:=v / 64 ^ (L - k) % 64
noncomputable def figs (v:Int):List Int:=(List.range (lastN v+1)).map (figN v (lastN v))
noncomputable def keepB (v:Int) (k:Nat):Bool:= !(v / 64 ^ k==0)
theorem ie {v:Int} {k:Nat} (h:0≤v) (h1:v<64 ^ k):keepB v k=false:=by
 unfold keepB
 rw [Int.ediv_eq_zero_of_lt h h1];rfl
theorem fj {v:Int} {k:Nat} (h1:64 ^ k≤v):keepB v k=true:=by
 have h2:1≤v / 64 ^ k:=Int.le_ediv_of_mul_le (Int.pow_pos (by decide)) (by rw [Int.one_mul];exact h1)
 unfold keepB
 rw [beq_eq_false_iff_ne.mpr fun e=>by rw [e] at h2;exact absurd h2 (by decide)];rfl
theorem vt {v:Int} (h0:0<v) (h:v<64 ^ 3):([2,1,0].filter (keepB v)).map (fun k=>v / 64 ^ k % 64)=figs v:=by
 have hn:=Int.le_of_lt h0
 have k0:keepB v 0=true:=fj h0
 unfold figs
 by_cases h1:v<64 ^ 1
 ·rw [gX (M:=0) hn h0 h1,List.filter_cons_of_neg (by rw [ie hn (Int.lt_trans h1 (by decide))];decide),List.filter_cons_of_neg (by rw [ie hn h1];decide),List.filter_cons_of_pos k0];rfl
 ·have h1:=Int.not_lt.mp h1
  by_cases h2:v<64 ^ 2
  ·rw [gX (M:=1) hn h1 h2,List.filter_cons_of_neg (by rw [ie hn h2];decide),List.filter_cons_of_pos (fj h1),List.filter_cons_of_pos k0];rfl
  ·have h2:=Int.not_lt.mp h2
   rw [gX (M:=2) hn h2 h,List.filter_cons_of_pos (fj h2),List.filter_cons_of_pos (fj h1),List.filter_cons_of_pos k0];rfl
noncomputable def fgT:T:= .comp (.bin .BitAnd (.bin .RShift (.var 2) (.bin .Mult (.cst (.int 6)) (.var 5))) (.cst (.int 63))) [5] true .plain (.tup (.cons (.cst (.int 2)) (.cons (.cst (.int 1)) (.cons (.cst (.int 0)) .nil)))) .nil (.bin .RShift (.var 2) (.bin .Mult (.cst (.int 6)) (.var 5))) [5]
noncomputable def ocT:T:= .bin .Add (.bin .Add (.idx (.var 3) (.var 4)) (.ite (.cmp .Lt (.bin .Add (.var 4) (.cst (.int 1))) (.blt .len (.cons (.var 3) .nil))) (.cst (.int 64)) (.cst (.int 0)))) (.bin .Mult (.cst (.int 128)) (.bin .Mod (.blt .len (.cons (.var 1) .nil)) (.cst (.int 2))))
noncomputable def ocB:S:= .seq (.app 1 ocT) .skip
noncomputable def ocO:S:= .seq (.asg 3 false fgT) <| .seq (.fors [4] true .range1 (.blt .len (.cons (.var 3) .nil)) .nil ocB .skip) .skip
theorem pc:s2_law_octets = .seq (.asg 1 true (.list .nil)) (.seq (.fors [2] true .plain (.var 0) .nil ocO .skip) (.seq (.retv 1) .skip)):=rfl
section
variable {G:ag} {F:FEnv} {x0:Option (D×Bool)}
noncomputable def ocE (x0:Option (D×Bool)) (os:List Int) (x2 x3 x4 x5:Option (D×Bool)):MEnv:=[x0,some (dZ os,true),x2,x3,x4,x5]
theorem w7 {v:Int} {os:List Int} {x3 x4 x5:Option (D×Bool)} (h0:0<v) (h:v<64 ^ 3):ev G F (ocE x0 os (o (.int v)) x3 x4 x5) false fgT=some (dZ (figs v)):=by
 have hn:=Int.le_of_lt h0
 refine (iF (σ:=ocE x0 os (o (.int v)) x3 x4 x5) (l:=[2,1,0]) (c:=keepB v) (inj:=dI) (y:=fun k=> .int (v / 64 ^ k % 64)) rfl (bF (d:= .tup [dI 2,dI 1,dI 0]) rfl rfl) (by show 5<6;decide) fun k hk σ' h1 h2 h3=> ?_).trans ((congrArg (some ∘ D.list) (List.map_map (g:=D.int) (f:=fun k=>v / 64 ^ k % 64)).symm).trans (congrArg (some ∘ dZ) (vt h0 h)))
 have hk2:k≤2:=(by decide:∀ k∈[2,1,0],k≤2) k hk
 have s:∀ {b},ev G F σ' b (.bin .RShift (.var 2) (.bin .Mult (.cst (.int 6)) (.var 5)))=some (.int (v.fdiv (2 ^ ((6 * k:Nat):Int).toNat))):=ai (ab (h2 2 (by decide))) (aX (m:=6) af (ab h1) (by decide) (Nat.le_trans hk2 (by decide))) (uf (Int.natCast_nonneg _))
 refine ⟨⟨_,s,?_⟩,fun _=>ai s af (vm hn k)⟩
 rw [Int.toNat_natCast,jc,Int.fdiv_eq_ediv_of_nonneg _ (Int.le_of_lt (Int.pow_pos (by decide)))];rfl
theorem tD {v:Int} {n p:Nat} {os:List Int} {x2 x4 x5:Option (D×Bool)} (hp:p≤lastN v) (hL:lastN v≤2) (hl:os.length=n+p) (hz:os.length≤100000) :
  bodyT G F [4] true ocB (ocE x0 os x2 (o (dZ (figs v))) x4 x5) (dI p)=some (ocE x0 (os++[octN v (lastN v) (parN n) p]) x2 (o (dZ (figs v))) (o (dI p)) x5,.next):=by
 have fl:(figs v).length=lastN v+1:=by unfold figs;rw [List.length_map,List.length_range]
 have fz:(figs v).length≤100000:=by rw [fl];exact Nat.le_trans (Nat.succ_le_succ hL) (by decide)
 have fg:((figs v).map D.int)[p]? = some (.int (figN v (lastN v) p)):=by
  unfold figs
  rw [List.map_map,List.getElem?_map,List.getElem?_range (Nat.lt_succ_of_le hp)];rfl
 have e:ev G F (ocE x0 os x2 (o (dZ (figs v))) (o (dI p)) x5) false ocT=some (.int (octN v (lastN v) (parN n) p)):=by
  refine ai (ai (x:= .int (figN v (lastN v) p)) (aC (x:=dZ (figs v)) (y:=dI p) rfl rfl (dT fg (by rw [List.length_map];exact Nat.le_trans fz (by decide)))) (bT D.int (x:=64) (y:=0) (rH (m:=p+1) (n:=lastN v+1) (aE (m:=p) (n:=1) rfl af) (aS (aR rfl) ((kA fz).trans (by rw [fl];rfl)))) rfl (fun _=>rfl) fun _=>rfl) rfl)
   (aX (m:=128) af (bL 2 (aS (aR (kG rfl)) (kA hz)) (by decide)) (by decide) (Nat.le_of_lt (Nat.lt_of_lt_of_le (Nat.mod_lt _ (by decide)) (by decide)))) ?_
  rw [hl]
  unfold octN oct
  rw [show decide (p+1<lastN v+1)=decide (p<lastN v) from decide_eq_decide.mpr Nat.add_lt_add_iff_right];rfl
 refine ad (a:=ocE x0 os x2 (o (dZ (figs v))) (o (dI p)) x5) rfl (gJ (xs:=os.map .int) rfl (aj (by rw [List.length_map];exact Nat.le_trans hz (by decide))) e ?_)
 unfold ocE dZ lst
 rw [List.map_append];rfl
theorem jW {v:Int} {n:Nat} {x2 x5:Option (D×Bool)} (hL:lastN v≤2):∀ (m p:Nat) (os:List Int) (x4:Option (D×Bool)),p+m=lastN v+1→os.length=n+p→os.length+m≤100000 →
  ∃ y4,loopL (bodyT G F [4] true ocB) (ocE x0 os x2 (o (dZ (figs v))) x4 x5) ((List.range' p m).map dI)=some (ocE x0 (os++(List.range' p m).map (octN v (lastN v) (parN n))) x2 (o (dZ (figs v))) y4 x5,.next)
 |0,p,os,x4,_,_,_=>⟨x4,by rw [List.range'_zero,List.map_nil,List.map_nil,List.append_nil];rfl⟩
 |m+1,p,os,x4,he,hl,hz =>
  let ⟨y4,ih⟩:=jW (n:=n) hL m (p+1) (os++[octN v (lastN v) (parN n) p]) (o (dI p)) (by rw [Nat.succ_add_eq_add_succ];exact he) (by rw [List.length_append,hl];rfl) (by rw [List.length_append,Nat.add_assoc];exact Nat.le_trans (Nat.le_of_eq (congrArg (os.length + ·) (Nat.add_comm 1 m))) hz)
  ⟨y4,aU (tD (Nat.succ.inj he▸Nat.le_add_right p m) hL hl (Nat.le_trans (Nat.le_add_right _ _) hz)) (ih.trans (by rw [List.append_assoc];rfl))⟩
theorem tm {v:Int} {os:List Int} {x2 x3 x4 x5:Option (D×Bool)} (h0:0<v) (h:v<64 ^ 3) (hz:os.length+3≤100000) :
  ∃ y4,bodyT G F [2] true ocO (ocE x0 os x2 x3 x4 x5) (.int v)=some (ocE x0 (os++blkN v os.length) (o (.int v)) (o (dZ (figs v))) y4 x5,.next):=by
 have hL:lastN v≤2:=ic (Int.le_of_lt h0) h
 have fl:(figs v).length=lastN v+1:=by unfold figs;rw [List.length_map,List.length_range]
 obtain ⟨y4,e⟩:=jW (G:=G) (F:=F) (x0:=x0) (x2:=o (.int v)) (x5:=x5) (n:=os.length) hL (lastN v+1) 0 os x4 (Nat.zero_add _) rfl (Nat.le_trans (Nat.add_le_add_left (Nat.succ_le_succ hL) _) hz)
 rw [← List.range_eq_range'] at e
 exact ⟨y4,ad (a:=ocE x0 os (o (.int v)) x3 x4 x5) rfl (aB (w7 h0 h) (c9 rfl (fU (b:=true) (n:=lastN v+1) (aS (aR rfl) ((kA (by rw [fl];exact Nat.le_trans (Nat.succ_le_succ hL) (by decide))).trans (by rw [fl];rfl))) (Nat.le_trans (Nat.succ_le_succ hL) (by decide))) e rfl))⟩
theorem kL:∀ (vs os:List Int) (x2 x3 x4 x5:Option (D×Bool)),(∀ v∈vs,0<v∧v<64 ^ 3)→os.length+3 * vs.length≤100000 →
  ∃ y2 y3 y4,loopL (bodyT G F [2] true ocO) (ocE x0 os x2 x3 x4 x5) (vs.map .int)=some (ocE x0 (tapeN os vs) y2 y3 y4 x5,.next)
 | [],os,x2,x3,x4,x5,_,_=>⟨x2,x3,x4,rfl⟩
 |v :: vs,os,x2,x3,x4,x5,h,hz=>by
  obtain ⟨h0,h1⟩:=h v List.mem_cons_self
  have hb:=ju (M:=2) (Int.le_of_lt h0) h1 os.length
  obtain ⟨z4,e⟩:=tm (G:=G) (F:=F) (x0:=x0) (os:=os) (x2:=x2) (x3:=x3) (x4:=x4) (x5:=x5) h0 h1 (Nat.le_trans (Nat.add_le_add_left (Nat.le_mul_of_pos_right 3 (Nat.succ_pos _)) _) hz)
  obtain ⟨y2,y3,y4,ih⟩:=kL vs (os++blkN v os.length) (o (.int v)) (o (dZ (figs v))) z4 x5 (fun x hx=>h x (List.mem_cons_of_mem _ hx)) (by rw [List.length_append];exact ix hz hb)
  exact ⟨y2,y3,y4,aU e ih⟩
theorem lD {vs:List Int} (h:∀ v∈vs,0<v∧v<64 ^ 3) (hl:3 * vs.length≤100000):run G F 6 s2_law_octets [dZ vs]=some (dZ (tapeN [] vs)):=by
 obtain ⟨y2,y3,y4,q⟩:=kL (G:=G) (F:=F) (x0:=o (dZ vs)) vs [] none none none none h (by rw [List.length_nil,Nat.zero_add];exact hl)
 rw [pc]
 exact aD [o (dZ vs),none,none,none,none,none] rfl (dF (d:= .list []) rfl rfl (c9 rfl (kJ rfl (cj (by rw [List.length_map];exact Nat.le_trans (Nat.le_mul_of_pos_left _ (by decide)) (Nat.le_trans hl (by decide))))) q rfl))
end
end Mine
set_option genSizeOf false
set_option genInjectivity false
namespace Mine
theorem e9 (u w:List Nat):mk u++mk w=mk (u++w):=congrArg Str.mk (List.append_toArray u w)
theorem zQ (p x q:List Nat):Txt.join "..." [mk p,mk x,mk q]=mk (joinL [p,x,q]):=by
 refine (StrLaws.glued_eq_join _ _).trans ?_
 show mk p++("...":Str)++(mk x++("...":Str)++mk q)=mk (p++dots++(x++dots++q))
 rw [ea,e9,e9,e9,e9]
noncomputable def stPs (x w:List Nat) (a m:Nat):List (List Nat):=[[x],[x,[]],[[],x],[w.take a,x,w.drop (a+x.length)]].getD m []
noncomputable def stGt (x w:List Nat) (a m:Nat):List Nat:=[(w.drop a).take x.length,w.drop a,w.take (a+x.length),w].getD m []
noncomputable def wh3 (x w:List Nat) (a m:Nat):D:= .tup [.str (mk (joinL (stPs x w a m))),.str (mk (stGt x w a m))]
theorem Ae {d:Nat→D}:∀ {m:Nat},m<3→idxD (.tup [d 0,d 1,d 2]) (dI m)=some (d m)
 |0,_=>rfl
 |1,_=>rfl
 |2,_=>rfl
 |n+3,h=>absurd h (Nat.not_lt.mpr (Nat.le_add_left 3 n))
structure Shrt (x:List Nat):Prop where
 len:x.length≤20
 dot:46∉x
theorem Shrt.nil:Shrt []:=⟨Nat.zero_le _,fun h=>nomatch h⟩
theorem Shrt.take {x:List Nat} (h:Shrt x) (n:Nat):Shrt (x.take n):=⟨Nat.le_trans (by rw [List.length_take];exact Nat.min_le_right _ _) h.len,fun q=>h.dot (List.mem_of_mem_take q)⟩
theorem Shrt.drop {x:List Nat} (h:Shrt x) (n:Nat):Shrt (x.drop n):=⟨Nat.le_trans (by rw [List.length_drop];exact Nat.sub_le _ _) h.len,fun q=>h.dot (List.mem_of_mem_drop q)⟩
theorem Shrt.le {x:List Nat} (h:Shrt x):x.length≤1000:=Nat.le_trans h.len (by decide)
section
variable {x w:List Nat} (hx:Shrt x) (hw:Shrt w) {a:Nat}
include hx hw
theorem xV:∀ m,Shrt (stGt x w a m)
 |0=>(hw.drop a).take _
 |1=>hw.drop a
 |2=>hw.take _
 |3=>hw
 |_+4=> .nil
theorem xe:∀ m,m<4→stPs x w a m≠[]∧(∀ p∈stPs x w a m,Shrt p)∧(stPs x w a m).length≤100
 |0,_=>⟨List.cons_ne_nil _ _,fun p h=>List.mem_singleton.mp h▸hx,(by decide:1≤100)⟩
 |1,_=>⟨List.cons_ne_nil _ _,fun p h=>(List.mem_cons.mp h).elim (fun e=>e▸hx) fun h=>List.mem_singleton.mp h ▸ .nil,(by decide:2≤100)⟩
 |2,_=>⟨List.cons_ne_nil _ _,fun p h=>(List.mem_cons.mp h).elim (fun e=>e ▸ .nil) fun h=>List.mem_singleton.mp h▸hx,(by decide:2≤100)⟩
 |3,_=>⟨List.cons_ne_nil _ _,fun p h=>(List.mem_cons.mp h).elim (fun e=>e▸hw.take _) fun h=>(List.mem_cons.mp h).elim (fun e=>e▸hx) fun h=>List.mem_singleton.mp h▸hw.drop _,(by decide:3≤100)⟩
 |n+4,h=>absurd h (Nat.not_lt.mpr (Nat.le_add_left 4 n))
end
theorem is_true {b:Bool}:cmpD .Is (.bool b) (.bool true)=some b:=by
 cases b with
 |true=>rfl
 |false=>rfl
noncomputable def S.snd:S→S
 | .seq _ b=>b
 |s=>s
section
variable {G:ag} {F:FEnv} {σ:MEnv} {b:Bool} {e f:T}
theorem qv {u w:List Nat} (h1:ev G F σ true e=some (.str (mk u))) (h2:ev G F σ true f=some (.str (mk w))) (l1:u.length≤1000) (l2:w.length≤1000):ev G F σ b (.bin .Add e f)=some (.str (mk (u++w))) :=
 ai h1 h2 ((jK (by rw [au];exact Nat.le_trans l1 (by decide)) (by rw [au];exact Nat.le_trans l2 (by decide))).trans (by rw [e9]))
theorem oA:ev G F σ b (.cst (.str "..."))=some (.str (mk dots)):=congrArg (some ∘ D.str) ea
theorem n5 {t:List Nat} {n:Nat} (ht:t.length≤1000) (hn:n≤1000) (h1:ev G F σ true e=some (.str (mk t))) (h2:ev G F σ true f=some (dI n)):ev G F σ b (.sli e (.cst .none) f (.cst .none))=some (.str (mk (t.take n))) :=
 bV h1 aG h2 aG (rV ht (Nat.le_trans hn (by decide)))
theorem iw {t:List Nat} {n:Nat} (ht:t.length≤1000) (hn:n≤1000) (h1:ev G F σ true e=some (.str (mk t))) (h2:ev G F σ true f=some (dI n)):ev G F σ b (.sli e f (.cst .none) (.cst .none))=some (.str (mk (t.drop n))) :=
 bV h1 h2 aG aG (n9 (u':=none) (st':=none) (bM (Nat.le_trans hn (by decide))) rfl rfl Bool.false_ne_true ht (iL _ _))
variable (hE:∀ {ps:List (List Nat)} {t:List Nat},ps≠[]→(∀ p∈ps,46∉p)→(∀ p∈ps,p.length≤1000)→ps.length≤100→t.length≤1000→F "_ellipsis_match" [.str (mk (joinL ps)),.str (mk t)]=some (.bool (emL ps t)))
include hE
theorem nr {x w:List Nat} (hx:Shrt x) (hw:Shrt w) {a u:Nat} (ha:a≤w.length):run G F 7 s2_law_stands [.str (mk x),.str (mk w),dI a,dI u]=some (.bool (emL (stPs x w a (u % 4)) (stGt x w a (u % 4)))):=by
 have hm:u % 4<4:=Nat.mod_lt _ (by decide)
 have ha2:a≤20:=Nat.le_trans ha hw.len
 have hax:a+x.length≤1000:=Nat.le_trans (Nat.add_le_add ha2 hx.len) (by decide)
 have ha3:a≤1000:=Nat.le_trans ha2 (by decide)
 obtain ⟨p1,p2,p3⟩:=xe hx hw (a:=a) _ hm
 have em:=hE p1 (fun p h=>(p2 p h).dot) (fun p h=>(p2 p h).le) p3 (xV hx hw (a:=a) (u % 4)).le
 have go:∀ {r},ex G F [o (.str (mk x)),o (.str (mk w)),o (dI a),o (dI u),o (dI (a+x.length)),none,none] (s2_law_stands.snd)=r→ex G F [o (.str (mk x)),o (.str (mk w)),o (dI a),o (dI u),none,none,none] s2_law_stands=r:=fun h=>aB (aE (m:=a) (n:=x.length) rfl (dH rfl hx.le)) h
 have c:∀ {σ:MEnv},getE σ 3=o (dI u)→ev G F σ true (.cmp .Eq (.bin .Mod (.var 3) (.cst (.int 4))) (.cst (.int 3)))=some (.bool (decide (u % 4=3))):=fun h=>rX (m:=u % 4) (n:=3) (bL 4 (ab h) (by decide)) af
 by_cases h3:u % 4=3
 ·rw [h3] at em ⊢
  refine aD _ rfl (go (aA (aQ (c rfl) (by rw [decide_eq_true h3];rfl) (aH (am (aw (aY (bw ei (aR (gL (fG (n5 hw.le ha3 rfl rfl) rfl (iw hw.le hax rfl rfl)))) ?_) rfl) em) rfl is_true)))))
  refine (kR (x:="...") (ts:=[mk (w.take a),mk x,mk (w.drop (a+x.length))]) (aj ?_)).trans (by rw [zQ];rfl)
  show 3 * 3+((mk (w.take a)).length+((mk x).length+((mk (w.drop (a+x.length))).length+0)))≤_
  rw [au,au,au]
  exact Nat.le_trans (Nat.add_le_add_left (Nat.add_le_add (hw.take a).le (Nat.add_le_add hx.le (Nat.add_le_add_right (hw.drop _).le 0))) _) (by decide)
 ·have h2:u % 4<3:=Nat.lt_of_le_of_ne (Nat.le_of_lt_succ hm) h3
  refine aD _ rfl (go (cB (c rfl) (by rw [decide_eq_false h3];rfl) (bX (gy (x:= .str (mk (joinL (stPs x w a (u % 4))))) (y:= .str (mk (stGt x w a (u % 4)))) (aC (x:= .tup [wh3 x w a 0,wh3 x w a 1,wh3 x w a 2]) (ch (fG (ch (aY rfl ?_)) (ch (aY ?_ (iw hw.le ha3 rfl rfl))) (ch (aY (qv oA rfl (by decide) hx.le) (n5 hw.le hax rfl rfl))))) (bL 4 (m:=u) rfl (by decide)) (Ae h2)) (aH (am (aw (aY rfl rfl) em) rfl is_true))))))
  ·exact bV (x:= .str (mk w)) (l':=dI a) (u':=dI (a+x.length)) rfl rfl rfl aG (mM hw.le ha hx.le)
  ·exact (qv (u:=x) (w:=dots) rfl oA hx.le (by decide)).trans (by rw [show joinL (stPs x w a 1)=x++dots++[] from rfl,List.append_nil])
end
end Mine
set_option genSizeOf false
set_option genInjectivity false
namespace Mine
noncomputable def sS (x:List Nat):D:= .str (mk x)
noncomputable def unL (fo:List (List Nat)):List (List Nat):=((List.range fo.length).filter fun k=> !(fo.take k).contains (fo.getD k [])).map fun k=>fo.getD k []
noncomputable def stB (w x:List Nat) (a:Nat):Bool:=(w.drop a).take x.length==x
noncomputable def bkF (w:List Nat) (k:Nat) (x:List Nat):Bool:=decide (x.length≤k)&&stB w x (w.length - k)
noncomputable def frF (w:List Nat) (k:Nat) (x:List Nat):Bool:=decide (x.length≤k)&&stB w x (k - x.length)
noncomputable def bkY (fo:List (List Nat)) (b:List Nat) (x:List Nat):Nat:=fo.count x * b.getD (x.length - 1) 0
noncomputable def frY (fo:List (List Nat)) (b:List Nat) (x:List Nat):Nat:=fo.count x * b.getD (b.length - x.length) 0
noncomputable def bkS (w:List Nat) (fo:List (List Nat)) (k:Nat) (b:List Nat):Nat:=(((unL fo).filter (bkF w k)).map (bkY fo b)).sum
noncomputable def frS (w:List Nat) (fo:List (List Nat)) (k:Nat) (b:List Nat):Nat:=(((unL fo).filter (frF w k)).map (frY fo b)).sum
noncomputable def itN (w:List Nat) (fo:List (List Nat)):Nat→List Nat×List Nat
 |0=>([1],[1])
 |k+1=>(bkS w fo (k+1) (itN w fo k).1 :: (itN w fo k).1,(itN w fo k).2++[frS w fo (k+1) (itN w fo k).2])
theorem fx (w:List Nat) (fo:List (List Nat)):∀ k,(itN w fo k).1.length=k+1∧(itN w fo k).2.length=k+1
 |0=>⟨rfl,rfl⟩
 |k+1=>⟨congrArg (· + 1) (fx w fo k).1,(List.length_append).trans (congrArg (· + 1) (fx w fo k).2)⟩
theorem uB (x y:List Nat):eqD (sS x) (sS y)=some (x==y):=oY x y
theorem pL (d:List Nat):∀ xs:List (List Nat),memD (sS d) (xs.map sS)=some (xs.contains d)
 | []=>rfl
 |x :: xs=>ad (uB x d) (aJ (pL d xs) (by rw [List.contains_cons,show (d==x)=(x==d) from BEq.comm]))
theorem oS (d:List Nat):∀ xs:List (List Nat),cntD (sS d) (xs.map sS)=some (xs.count d)
 | []=>rfl
 |x :: xs=>ad (uB x d) (aJ (oS d xs) (by rw [List.count_cons]))
theorem vw {fo:List (List Nat)} {x:List Nat} (h:fo.length≤1048576):methD .count (lst sS fo) [sS x]=some (dI (fo.count x)) :=
 show (if sizeOk (fo.map sS).length then (cntD (sS x) (fo.map sS)).map (fun n:Nat=>D.int (n:Int)) else none)=_ from ao (aj (by rw [List.length_map];exact h)) (aJ (oS x fo) rfl)
theorem ur {n:Nat} (hn:n≤1000):rngD 1 ((n+1:Nat):Int)=some ((List.range' 1 n).map dI):=by
 have e:(((n+1:Nat):Int) - 1).toNat=n:=by rw [Int.natCast_succ,Int.add_sub_cancel];rfl
 unfold rngD
 rw [e]
 exact ao (c:=(sizeOk n&&idxOk _&&idxOk 1)=true) (by rw [aj (Nat.le_trans hn (by decide)),eI (Nat.le_trans (Nat.succ_le_succ hn) (by decide))];rfl) (congrArg some (dg n 1))
theorem ra {G:ag} {F:FEnv} {σ:MEnv} {e it2:T} {n:Nat} (h1:ev G F σ true e=some (.int 1)) (h2:ev G F σ true it2=some (dI (n+1))) (hn:n≤1000):evI G F σ false .range2 e it2=some ((List.range' 1 n).map dI):=by
 show ((ev G F σ true e).bind fun d=>d.int?.bind fun m=>(ev G F σ true it2).bind fun e=>e.int?.bind (rngD m))=_
 rw [h1,h2]
 exact ur hn
theorem kY {l:List Nat} {m:Nat} (h1:1≤m) (h2:m≤l.length) (hz:l.length≤1000):idxD (dn l) (.int (-(m:Int)))=some (dI (l.getD (l.length - m) 0)):=by
 have h3:((-(m:Int))+(l.length:Nat)).toNat=l.length - m:=by
  rw [Int.add_comm,← Int.sub_eq_add_neg,← Int.ofNat_sub h2];rfl
 refine ao (c:=idxOk _=true) (decide_eq_true (by rw [Int.natAbs_neg];exact Nat.lt_of_le_of_lt (Nat.le_trans h2 hz) (by decide))) ((if_neg (Int.not_le.mpr (Int.neg_neg_of_pos (Int.natCast_pos.mpr h1)))).trans ?_)
 rw [List.length_map,h3]
 refine ao (c:=0≤_) (by rw [Int.add_comm,← Int.sub_eq_add_neg];exact Int.sub_nonneg.mpr (Int.ofNat_le.mpr h2)) (lR 0 (Nat.sub_lt (Nat.lt_of_lt_of_le h1 h2) h1))
theorem ut (a b:Nat):cmpD .LtE (.int (a:Int)) (.int (b:Int))=some (decide (a≤b)):=congrArg some (decide_eq_decide.mpr Int.ofNat_le)
theorem zF {d:List Nat} {xs:List (List Nat)}:cmpD .NotIn (sS d) (lst sS xs)=some (!xs.contains d):=aJ (pL d xs) rfl
theorem eO {fo:List (List Nat)} {x:List Nat} (h:x∈unL fo):x∈fo:=by
 obtain ⟨k,h1,rfl⟩:=List.mem_map.mp h
 have h2:=List.mem_range.mp (List.mem_filter.mp h1).1
 rw [List.getD_eq_getElem?_getD,List.getElem?_eq_getElem h2]
 exact List.getElem_mem h2
noncomputable def uTm:T:= .comp (.idx (.var 1) (.var 5)) [5] true .range1 (.blt .len (.cons (.var 1) .nil)) .nil (.cmp .NotIn (.idx (.var 1) (.var 5)) (.sli (.var 1) (.cst .none) (.var 5) (.cst .none))) [5]
noncomputable def b1T:T:= .comp (.var 8) [8] true .plain (.var 2) .nil (.bop .And (.cmp .LtE (.blt .len (.cons (.var 8) .nil)) (.var 5)) (.call "_law_stands" (.cons (.var 8) (.cons (.var 0) (.cons (.var 6) (.cons (.var 6) .nil)))))) [8]
noncomputable def b2T:T:= .bin .Add (.list (.cons (.blt .sum (.cons (.comp (.bin .Mult (.meth .count (.var 1) (.cons (.var 8) .nil)) (.idx (.var 3) (.bin .Sub (.blt .len (.cons (.var 8) .nil)) (.cst (.int 1))))) [8] true .plain (.var 7) .nil (.cst (.bool true)) [8]) .nil)) .nil)) (.var 3)
noncomputable def f1T:T:= .comp (.var 8) [8] true .plain (.var 2) .nil (.bop .And (.cmp .LtE (.blt .len (.cons (.var 8) .nil)) (.var 5)) (.call "_law_stands" (.cons (.var 8) (.cons (.var 0) (.cons (.bin .Sub (.var 5) (.blt .len (.cons (.var 8) .nil))) (.cons (.var 5) .nil)))))) [8]
noncomputable def f2T:T:= .bin .Add (.var 4) (.list (.cons (.blt .sum (.cons (.comp (.bin .Mult (.meth .count (.var 1) (.cons (.var 8) .nil)) (.idx (.var 4) (.un .USub (.blt .len (.cons (.var 8) .nil))))) [8] true .plain (.var 7) .nil (.cst (.bool true)) [8]) .nil)) .nil))
noncomputable def wBody:S:= .seq (.asg 6 false (.bin .Sub (.blt .len (.cons (.var 0) .nil)) (.var 5))) <| .seq (.asg 7 false b1T) <| .seq (.asg 3 false b2T) <| .seq (.asg 7 false f1T) <| .seq (.asg 4 false f2T) .skip
theorem wO:s2_law_ways = .seq (.asg 2 false uTm) (.seq (.multi [(3,false),(4,false)] (.cons (.list (.cons (.cst (.int 1)) .nil)) (.cons (.list (.cons (.cst (.int 1)) .nil)) .nil))) (.seq (.fors [5] true .range2 (.cst (.int 1)) (.bin .Add (.blt .len (.cons (.var 0) .nil)) (.cst (.int 1))) wBody .skip) (.seq (.ret (.tup (.cons (.var 3) (.cons (.var 4) .nil)))) .skip))):=rfl
structure Wd2 (w:List Nat) (fo:List (List Nat)):Prop where
 lw:w.length≤20
 lf:fo.length≤100
 lx:∀ x∈fo,1≤x.length∧x.length≤20
 lb:∀ k≤w.length,(∀ y∈(itN w fo k).1,y≤1000000)∧∀ y∈(itN w fo k).2,y≤1000000
section
variable {G:ag} {F:FEnv} {σ:MEnv} {w:List Nat} {fo:List (List Nat)} (W:Wd2 w fo)
include W
theorem Wd2.w1:w.length≤1000:=Nat.le_trans W.lw (by decide)
theorem Wd2.f1:fo.length≤1048576:=Nat.le_trans W.lf (by decide)
theorem Wd2.ul {c:List Nat→Bool}:((unL fo).filter c).length≤1048576:=by
 refine Nat.le_trans (List.length_filter_le _ _) ?_
 unfold unL
 rw [List.length_map]
 exact Nat.le_trans (List.length_filter_le _ _) (by rw [List.length_range];exact W.f1)
theorem Wd2.cnt {x:List Nat}:fo.count x≤1000000:=Nat.le_trans List.count_le_length (Nat.le_trans W.lf (by decide))
theorem zv {x2 x3 x4 x5 x6 x7 x8:Option (D×Bool)}:ev G F [o (sS w),o (lst sS fo),x2,x3,x4,x5,x6,x7,x8] false uTm=some (lst sS (unL fo)):=by
 refine (cb (σ:=[o (sS w),o (lst sS fo),x2,x3,x4,x5,x6,x7,x8]) (l:=List.range fo.length) (c:=fun k=> !(fo.take k).contains (fo.getD k [])) (inj:=dI) (y:=fun k=>sS (fo.getD k [])) rfl (dy (n:=fo.length) (aS (aR rfl) ((nE (by rw [List.length_map];exact W.f1)).trans (by rw [List.length_map]))) W.f1) (by show 5<9;decide) fun k hk σ' h1 h2 _=> ?_).trans (congrArg (some ∘ D.list) (List.map_map (g:=sS) (f:=fun k=>fo.getD k [])).symm)
 have hk:=List.mem_range.mp hk
 have e:∀ {b},ev G F σ' b (.idx (.var 1) (.var 5))=some (sS (fo.getD k [])):=aC (x:=lst sS fo) (y:=dI k) (ab (h2 1 (by decide))) (ab h1) (j8 (f:=sS) [] hk W.f1)
 exact ⟨am e (bV (x:=lst sS fo) (u':=dI k) (ab (h2 1 (by decide))) aG (ab h1) aG ((iE (by rw [List.length_map];exact W.f1) (Nat.le_trans (Nat.le_of_lt hk) W.f1)).trans (congrArg (some ∘ D.list) List.map_take.symm))) zF,fun _=>e⟩
theorem pt {c:List Nat→Bool} {tc:T} {x2:Option (D×Bool)} (h8:8<σ.length) (h2:getE σ 2=o (lst sS (unL fo))) (hc:∀ x∈unL fo,∀ σ',getE σ' 8=o (sS x)→(∀ j,j≠8→getE σ' j=getE σ j)→ev G F σ' true tc=some (.bool (c x))) :
  ev G F σ false (.comp (.var 8) [8] true .plain (.var 2) .nil tc [8])=some (lst sS ((unL fo).filter c)) :=
 cb (l:=unL fo) (c:=c) (inj:=sS) (y:=sS) rfl (bF (ab h2) (cj (by rw [List.length_map];exact Nat.le_trans (Nat.le_of_eq (congrArg List.length (fY _).symm)) W.ul))) h8 fun x hx σ' h1 h3 _=>⟨hc x hx σ' h1 h3,fun _=>ab h1⟩
theorem qS {l:List (List Nat)} {y:List Nat→Nat} {ti:T} (h8:8<σ.length) (hl:l.length≤1048576) (h7:getE σ 7=o (lst sS l)) (h1:getE σ 1=o (lst sS fo)) (hy:∀ x∈l,y x≤1000000∧∀ σ',getE σ' 8=o (sS x)→(∀ j,j≠8→getE σ' j=getE σ j)→ev G F σ' true ti=some (dI (y x))) :
  ev G F σ false (.list (.cons (.blt .sum (.cons (.comp (.bin .Mult (.meth .count (.var 1) (.cons (.var 8) .nil)) ti) [8] true .plain (.var 7) .nil (.cst (.bool true)) [8]) .nil)) .nil))=some (dn [(l.map fun x=>fo.count x * y x).sum]):=by
 refine gL (aR (aS (aR ((aZ (l:=l) (inj:=sS) (y:=fun x=>dI (fo.count x * y x)) rfl (bF (ab h7) (cj (by rw [List.length_map];exact hl))) h8 fun x hx σ' g1 g2 _=> ?_).trans (congrArg (some ∘ D.list) (List.map_map (g:=dI) (f:=fun x=>fo.count x * y x)).symm))) (n7 (by rw [List.length_map];exact hl))))
 exact aX (bw (ab ((g2 1 (by decide)).trans h1)) (aR (ab g1)) (vw W.f1)) ((hy x hx).2 σ' g1 g2) W.cnt (hy x hx).1
end
noncomputable def wE (w:List Nat) (fo:List (List Nat)) (p:List Nat×List Nat) (x5 x6 x7 x8:Option (D×Bool)):MEnv:=[o (sS w),o (lst sS fo),o (lst sS (unL fo)),o (dn p.1),o (dn p.2),x5,x6,x7,x8]
theorem mq {l:List Nat} (h:∀ y∈l,y≤1000000) (k:Nat):l.getD k 0≤1000000:=by
 rw [List.getD_eq_getElem?_getD]
 cases e:l[k]? with
 |none=>exact Nat.zero_le _
 |some y=>exact h y (List.mem_of_getElem? e)
section
variable {G:ag} {F:FEnv} {w:List Nat} {fo:List (List Nat)} (W:Wd2 w fo) (hS:∀ x∈fo,∀ a u:Nat,a+x.length≤w.length→(u=a∨u=a+x.length)→F "_law_stands" [sS x,sS w,dI a,dI u]=some (.bool (stB w x a)))
include W hS
theorem yW {k:Nat} (hk:k<w.length) {x5 x6 x7 x8:Option (D×Bool)}:∃ y6 y7 y8,bodyT G F [5] true wBody (wE w fo (itN w fo k) x5 x6 x7 x8) (dI (k+1))=some (wE w fo (itN w fo (k+1)) (o (dI (k+1))) y6 y7 y8,.next):=by
 obtain ⟨b1,b2⟩:=W.lb k (Nat.le_of_lt hk)
 obtain ⟨l1,l2⟩:=fx w fo k
 have hk2:k+1≤20:=Nat.le_trans hk W.lw
 have z:∀ {l:List Nat},l.length=k+1→l.length≤1000:=fun e=>Nat.le_trans (Nat.le_of_eq e) (Nat.le_trans hk2 (by decide))
 have xl:∀ {x:List Nat},x∈unL fo→x.length≤1000:=fun h=>Nat.le_trans (W.lx _ (eO h)).2 (by decide)
 have lx:∀ {σ:MEnv} {b:Bool} {x:List Nat},x∈unL fo→getE σ 8=o (sS x)→ev G F σ b (.blt .len (.cons (.var 8) .nil))=some (dI x.length):=fun h e=>dH (ab e) (xl h)
 let σ1:MEnv:=wE w fo (itN w fo k) (o (dI (k+1))) (o (dI (w.length - (k+1)))) x7 x8
 have e1:ev G F σ1 false b1T=some (lst sS ((unL fo).filter (bkF w (k+1)))):=pt W (x2:=none) (by show 8<9;decide) rfl fun x hx σ' g1 g2 =>
  tZ (am (lx hx g1) (ab (d:=dI (k+1)) (g2 5 (by decide))) (ut _ _)) fun q=>aw (ay (ab g1) (fG (ab (g2 0 (by decide))) (ab (g2 6 (by decide))) (ab (g2 6 (by decide))))) (hS x (eO hx) _ _ (Nat.le_trans (Nat.add_le_add_left (de q) _) (Nat.le_of_eq (Nat.sub_add_cancel hk))) (.inl rfl))
 let σ2:MEnv:=wE w fo (itN w fo k) (o (dI (k+1))) (o (dI (w.length - (k+1)))) (o (lst sS ((unL fo).filter (bkF w (k+1))))) x8
 have e2:ev G F σ2 false b2T=some (dn (itN w fo (k+1)).1):=by
  refine ai (qS W (y:=fun x=>(itN w fo k).1.getD (x.length - 1) 0) (by show 8<9;decide) W.ul rfl rfl fun x hx=> ?_) rfl (qU pw (Nat.le_trans (z l1) (by decide)))
  obtain ⟨h1,h2⟩:=List.mem_filter.mp hx
  have h3:=(W.lx _ (eO h1)).1
  refine ⟨mq b1 _,fun σ' g1 g2=>aC (ab (g2 3 (by decide))) (bD (n:=1) (lx h1 g1) af h3) (jL (aa h2 fun h2 _=> ?_) (Nat.le_trans (z l1) (by decide)))⟩
  rw [l1]
  exact Nat.lt_of_lt_of_le (Nat.sub_lt h3 (by decide)) (de h2)
 let σ3:MEnv:=wE w fo ((itN w fo (k+1)).1,(itN w fo k).2) (o (dI (k+1))) (o (dI (w.length - (k+1)))) (o (lst sS ((unL fo).filter (bkF w (k+1))))) x8
 have e3:ev G F σ3 false f1T=some (lst sS ((unL fo).filter (frF w (k+1)))):=pt W (x2:=none) (by show 8<9;decide) rfl fun x hx σ' g1 g2 =>
  tZ (am (lx hx g1) (ab (d:=dI (k+1)) (g2 5 (by decide))) (ut _ _)) fun q=>aw (ay (ab g1) (fG (ab (g2 0 (by decide))) (bD (ab (d:=dI (k+1)) (g2 5 (by decide))) (lx hx g1) (de q)) (ab (g2 5 (by decide))))) (hS x (eO hx) _ _ (Nat.le_trans (Nat.le_of_eq (Nat.sub_add_cancel (de q))) hk) (.inr (Nat.sub_add_cancel (de q)).symm))
 let σ4:MEnv:=wE w fo ((itN w fo (k+1)).1,(itN w fo k).2) (o (dI (k+1))) (o (dI (w.length - (k+1)))) (o (lst sS ((unL fo).filter (frF w (k+1))))) x8
 have e4:ev G F σ4 false f2T=some (dn (itN w fo (k+1)).2):=by
  refine ai rfl (qS W (y:=fun x=>(itN w fo k).2.getD ((itN w fo k).2.length - x.length) 0) (by show 8<9;decide) W.ul rfl rfl fun x hx=> ?_) (qU (Nat.le_trans (z l2) (by decide)) pw)
  obtain ⟨h1,h2⟩:=List.mem_filter.mp hx
  have h3:=(W.lx _ (eO h1)).1
  exact ⟨mq b2 _,fun σ' g1 g2=>aC (ab (g2 4 (by decide))) (gk (lx h1 g1) rfl) (kY h3 (aa h2 fun h2 _=>by rw [l2];exact de h2) (z l2))⟩
 exact ⟨_,_,_,ad (a:=wE w fo (itN w fo k) (o (dI (k+1))) x6 x7 x8) rfl (aB (bD (dH rfl W.w1) rfl hk) (aB e1 (aB e2 (aB e3 (aB e4 rfl)))))⟩
theorem oM:∀ (m k:Nat) (x5 x6 x7 x8:Option (D×Bool)),k+m=w.length→∃ y5 y6 y7 y8,loopL (bodyT G F [5] true wBody) (wE w fo (itN w fo k) x5 x6 x7 x8) ((List.range' (k+1) m).map dI)=some (wE w fo (itN w fo w.length) y5 y6 y7 y8,.next)
 |0,k,x5,x6,x7,x8,h=>⟨x5,x6,x7,x8,by rw [← h];rfl⟩
 |m+1,k,x5,x6,x7,x8,h=>by
  obtain ⟨z6,z7,z8,e⟩:=yW (G:=G) W hS (k:=k) (by rw [← h];exact Nat.lt_add_of_pos_right (Nat.succ_pos m)) (x5:=x5) (x6:=x6) (x7:=x7) (x8:=x8)
  obtain ⟨y5,y6,y7,y8,ih⟩:=oM m (k+1) (o (dI (k+1))) z6 z7 z8 (by rw [Nat.succ_add_eq_add_succ];exact h)
  exact ⟨y5,y6,y7,y8,aU e ih⟩
theorem so:run G F 9 s2_law_ways [sS w,lst sS fo]=some (.tup [dn (itN w fo w.length).1,dn (itN w fo w.length).2]):=by
 obtain ⟨y5,y6,y7,y8,h⟩:=oM (G:=G) W hS w.length 0 none none none none (Nat.zero_add _)
 rw [wO]
 exact aD [o (sS w),o (lst sS fo),none,none,none,none,none,none,none] rfl (aB (zv W) (fM (x:=dn [1]) (y:=dn [1]) (aY rfl rfl) rfl (c9 rfl (ra rfl (aE (n:=1) (dH rfl W.w1) af) W.w1) h (aH (ch (aY rfl rfl))))))
end
end Mine
set_option genSizeOf false
set_option genInjectivity false
namespace Mine
noncomputable def prN:List (Nat×Nat):=[(1,1),(2,1),(1,2),(3,1),(1,3),(3,2),(2,3),(4,1),(1,4)]
noncomputable def onN (p:Nat):Nat:=(prN.getD p (0,0)).1
noncomputable def upN (p:Nat):Nat:=(prN.getD p (0,0)).2
noncomputable def szN (p:Nat):Nat:=onN p+upN p
noncomputable def ctN (p:Nat):List Nat:=(List.range (szN p)).filter fun k=>decide (k * upN p % szN p=1)
noncomputable def riN (p:Nat):List Nat:=(List.range (szN p)).filter fun k=>decide ((k+1) * upN p / szN p=k * upN p / szN p+1)
noncomputable def lnN (p:Nat):Nat:=2 * szN p - 1
noncomputable def fsN (p:Nat):List Nat:=(List.range (lnN p)).map fun k=>cond ((riN p).contains (k / 2)) 2 1
noncomputable def cuN (p:Nat):Nat:=(ctN p).getD 0 0
noncomputable def foK (a n:Nat) (fs:List Nat) (k:Nat):List (List Nat):=List.replicate (fs.getD k 0) [(wdN a n).getD k 0]++cond (decide (k+1<n)) [(LN.drop (a+k)).take 2] []
noncomputable def foN (a p:Nat):List (List Nat):=(List.range (lnN p)).flatMap (foK a (lnN p) (fsN p))
noncomputable def shB (x:List Nat):Bool:=decide (x.length≤20) && !x.contains 46
noncomputable def bkN (a p:Nat):List Nat:=(itN (wdN a (lnN p)) (foN a p) (lnN p)).1
noncomputable def frN (a p:Nat):List Nat:=(itN (wdN a (lnN p)) (foN a p) (lnN p)).2
noncomputable def whN (a p:Nat):Nat:=(bkN a p).getD 0 0
noncomputable def f1N (a p:Nat):Nat:=(frN a p).getD (2 * cuN p - 1) 0
noncomputable def s1N (a p:Nat):Nat:=(bkN a p).getD (2 * cuN p) 0
noncomputable def thN (a p:Nat):Nat:=cond (decide (2 * cuN p<szN p)) ((bkN a p).getD (4 * cuN p) 0) (cond (decide (szN p<2 * cuN p)) ((frN a p).getD (2 * (2 * cuN p - szN p) - 1) 0) 1)
noncomputable def z1N (a p:Nat):Nat:=(frN a p).getD (2 * szN p - 2) 0
noncomputable def y1N (a p:Nat):Nat:=(bkN a p).getD 1 0
noncomputable def inN (a p:Nat):Nat:=z1N a p * y1N a p / whN a p
noncomputable def pairB (p:Nat):Bool:=decide (1≤onN p)&&decide (1≤upN p)&&decide (szN p≤5)&&decide ((ctN p).length=1)&&decide (1≤cuN p)&&decide (cuN p<szN p) &&
 decide ((List.range' 1 (upN p)).map (fun j:Nat=>Builtin.bitNot ((-(j:Int) * (szN p:Int)).fdiv (upN p:Int)))=(riN p).map fun k:Nat=>(k:Int)) && !(riN p).isEmpty
noncomputable def wordB (a p:Nat):Bool:=shB (wdN a (lnN p))&&decide ((foN a p).length≤100)&&(foN a p).all (fun x=>shB x&&decide (1≤x.length))&&(List.range (lnN p+1)).all (fun k=>(itN (wdN a (lnN p)) (foN a p) k).1.all (fun y=>decide (y≤1000000))&&(itN (wdN a (lnN p)) (foN a p) k).2.all fun y=>decide (y≤1000000))
noncomputable def markB (a p:Nat):Bool:=decide ((frN a p).getD (2 * szN p - 1) 0=whN a p)&&decide (z1N a p+y1N a p=whN a p)&&decide (thN a p+whN a p=3 * f1N a p * s1N a p)&&decide (f1N a p ^ 2+s1N a p ^ 2=thN a p * whN a p)&&decide (z1N a p * y1N a p=inN a p * whN a p+1)&&decide (y1N a p ^ 2+1+inN a p * whN a p=y1N a p * whN a p)&&decide (1<whN a p)&&(bkN a p).all (fun y=>decide (y≤whN a p))&&decide (whN a p≤1000)&&decide (f1N a p≤1000)&&decide (s1N a p≤1000)&&decide (thN a p≤1000)
noncomputable def standB (a p:Nat):Bool:=(foN a p).all fun x=>(List.range (lnN p+1)).all fun k=>decide (lnN p<k+x.length) || (List.range 4).all fun m=>emL (stPs x (wdN a (lnN p)) k m) (stGt x (wdN a (lnN p)) k m)==stB (wdN a (lnN p)) x k
theorem rn:(List.range 9).all pairB=true:=by decide +kernel
theorem tX:(List.range 9).all (fun p=>(List.range (11 - 2 * szN p)).all fun a=>wordB a p)=true:=by decide +kernel
theorem tF:(List.range 9).all (fun p=>(List.range (11 - 2 * szN p)).all fun a=>markB a p)=true:=by decide +kernel
theorem oE:(List.range 9).all (fun p=>(List.range (11 - 2 * szN p)).all fun a=>standB a p)=true:=by decide +kernel
end Mine
set_option genSizeOf false
set_option genInjectivity false
namespace Mine
structure Has (σ:MEnv) (l:List (Nat×D)):Prop where
 len:σ.length=34
 ge:∀ {i:Nat} {d:D},l.lookup i=some d→getE σ i=o d
theorem Has.set {σ:MEnv} {l:List (Nat×D)} (H:Has σ l) {i:Nat} {d:D} (hi:i<34):Has (setE σ i d false) ((i,d) :: l) :=
 ⟨setE_len.trans H.len,fun h=>eK h (fun e1 e2=>by rw [e1,← e2];exact fE (by rw [H.len];exact hi)) fun hn h=>(dM hn).trans (H.ge h)⟩
noncomputable def Sub (l:List (Nat×D)):List (Nat×D)→Prop
 | []=>True
 |p :: r=>l.lookup p.1=some p.2∧Sub l r
theorem Has.sub {σ:MEnv} {l:List (Nat×D)} (H:Has σ l):∀ {l':List (Nat×D)},Sub l l'→Has σ l'
 | [],_=>⟨H.len,fun h=>ah h⟩
 |(i,d) :: r,⟨h1,h2⟩=>⟨H.len,fun h=>eK h (fun e1 e2=>H.ge (e1▸e2▸h1)) fun _ h=>(H.sub h2).ge h⟩
noncomputable def Tells (r:Option (MEnv×Out)):Prop:=∃ σ,r=some (σ,.ret (.bool true))
theorem Tells.of {r r':Option (MEnv×Out)} (h:Tells r) (e:r'=r):Tells r':=e▸h
section
variable {G:ag} {F:FEnv} {σ:MEnv} {l:List (Nat×D)}
theorem bc {i:Nat} {e:T} {d:D} {rest:S} (H:Has σ l) (hi:i<34) (h:ev G F σ false e=some d) (k:∀ {σ':MEnv},Has σ' ((i,d) :: l)→Tells (ex G F σ' rest)):Tells (ex G F σ (.seq (.asg i false e) rest)):=(k (H.set hi)).of (aB h rfl)
theorem eA {c:T} {x:D} {a rest:S} (h:ev G F σ true c=some x) (ht:truthy x=some false) (k:Tells (ex G F σ rest)):Tells (ex G F σ (.seq (.ifs c a .skip) rest)):=k.of (cB h ht (bX rfl))
theorem t_for {σ':MEnv} {tg:List Nat} {one:Bool} {k:IK} {it it2:T} {body rest:S} {xs:List D} (he:enumOk one k=true) (hi:evI G F (freeze σ it) false k it it2=some xs) (hl:loopL (bodyT G F tg one body) (freeze σ it) xs=some (σ',.next)) (h:Tells (ex G F σ' rest)):Tells (ex G F σ (.seq (.fors tg one k it it2 body .skip) rest)):=h.of (c9 he hi hl rfl)
theorem zA {e:T} (h:ev G F σ false e=some (.bool true)):Tells (ex G F σ (.seq (.ret e) .skip)):=⟨σ,aH h⟩
theorem Has.inn (H:Has σ l) {σ':MEnv} {i j:Nat} {d:D} (h:∀ j,j≠i→getE σ' j=getE σ j) (hj:j≠i) (hl:l.lookup j=some d):getE σ' j=o d:=(h j hj).trans (H.ge hl)
end
section
variable {G:ag} {F:FEnv} {σ:MEnv} {l:List (Nat×D)} {x y z u:D}
theorem oO {i j:Nat} {e:T} {rest:S} (H:Has σ l) (hi:i<34) (hj:j<34) (h:ev G F σ false e=some (.tup [x,y])) (k:∀ {σ':MEnv},Has σ' ((j,y) :: (i,x) :: l)→Tells (ex G F σ' rest)):Tells (ex G F σ (.seq (.unp [i,j] e) rest)):=(k ((H.set hi).set hj)).of (gy h rfl)
theorem s9 {i j:Nat} {e:T} {rest:S} (H:Has σ l) (hi:i<34) (hj:j<34) (h:ev G F σ false e=some (.tup [x,y])) (hf:freshAll [(i,false),(j,false)] e [x,y]=true) (k:∀ {σ':MEnv},Has σ' ((j,y) :: (i,x) :: l)→Tells (ex G F σ' rest)):Tells (ex G F σ (.seq (.multi [(i,false),(j,false)] e) rest)):=(k ((H.set hi).set hj)).of (fM h hf rfl)
theorem s8 {i j m:Nat} {e:T} {rest:S} (H:Has σ l) (hi:i<34) (hj:j<34) (hm:m<34) (h:ev G F σ false e=some (.tup [x,y,z])) (hf:freshAll [(i,false),(j,false),(m,false)] e [x,y,z]=true) (k:∀ {σ':MEnv},Has σ' ((m,z) :: (j,y) :: (i,x) :: l)→Tells (ex G F σ' rest)):Tells (ex G F σ (.seq (.multi [(i,false),(j,false),(m,false)] e) rest)):=(k (((H.set hi).set hj).set hm)).of (rM h hf rfl)
theorem tA {i j m n:Nat} {e:T} {rest:S} (H:Has σ l) (hi:i<34) (hj:j<34) (hm:m<34) (hn:n<34) (h:ev G F σ false e=some (.tup [x,y,z,u])) (hf:freshAll [(i,false),(j,false),(m,false),(n,false)] e [x,y,z,u]=true) (k:∀ {σ':MEnv},Has σ' ((n,u) :: (m,z) :: (j,y) :: (i,x) :: l)→Tells (ex G F σ' rest)):Tells (ex G F σ (.seq (.multi [(i,false),(j,false),(m,false),(n,false)] e) rest)):=(k ((((H.set hi).set hj).set hm).set hn)).of (s5 h hf rfl)
theorem dY {b:Bool} {dr:D} {k:Int} (H:Has σ l) (h2:l.lookup 2=some dr) (i:idxD dr (.int k)=some x):ev G F σ b (.idx (.var 2) (.cst (.int k)))=some x:=aC (ab (H.ge h2)) af i
end
theorem oV:∀ n<61,∀ k<5,(sliceRange (sliceBounds (some ((k:Nat):Int)) none (some 5) n).1 (sliceBounds (some ((k:Nat):Int)) none (some 5) n).2.1 (sliceBounds (some ((k:Nat):Int)) none (some 5) n).2.2).length≤60:=by decide +kernel
theorem iX {α:Type} {xs:List α} (h:xs.length≤60) {k:Nat} (hk:k<5):(pickL xs (some (k:Int)) none (some 5)).length≤60 :=
 Nat.le_trans (List.length_filterMap_le _ _) (oV xs.length (Nat.lt_succ_of_le h) k hk)
theorem zw {xs:List Nat} {k:Nat} (h:xs.length≤60) (hk:k<5):sliD (dn xs) (.int (k:Int)) .none (.int 5)=some (dn (pickL xs (some (k:Int)) none (some 5))) :=
 gq (u':=none) (st':=some 5) (bM (Nat.le_trans (Nat.le_of_lt hk) (by decide))) rfl rfl (by decide) (by rw [List.length_map];exact Nat.le_trans h (by decide)) (jR _ _ _ _ _)
noncomputable def sumZ (ns:List Int) (k:Nat):Nat:=(pickL (drawZ ns) (some (k:Int)) none (some 5)).sum
theorem vO (ns:List Int) {k:Nat} (hk:k<5):sumZ ns k≤60000000000 :=
 Nat.le_trans (kU (B:=1000000000) fun x hx=>let ⟨y,_,e⟩:=List.mem_map.mp (s7 hx);e▸(yx y).2) (Nat.mul_le_mul_right 1000000000 (iX (eX ns) hk))
section
variable {G:ag} {F:FEnv} {σ:MEnv}
theorem zL {b:Bool} {ns:List Int} {l:List (Nat×D)} (hns:ns.length≤63) (H:Has σ l) (h0:l.lookup 0=some (dZ ns)) :
  ev G F σ b (.comp (.bin .Mod (.var 30) (.bin .Pow (.cst (.int 10)) (.cst (.int 9)))) [30] true .plain (.sli (.var 0) (.cst .none) (.cst (.int 60)) (.cst .none)) .nil (.cst (.bool true)) [30])=some (dn (drawZ ns)) :=
 (aZ (l:=ns.take 60) (inj:= .int) (y:=fun x=>dI (x.fmod 1000000000).toNat) rfl (bF (bV (x:=dZ ns) (ab (H.ge h0)) aG af aG (iE (n:=60) (by rw [List.length_map];exact Nat.le_trans hns (by decide)) (by decide))) (by rw [← List.map_take];exact cj (by rw [List.length_map,List.length_take];exact Nat.le_trans (Nat.min_le_left _ _) (by decide)))) (by rw [H.len];decide) fun x _ σ' h1 _ _ =>
  ai (y:= .int 1000000000) (ab h1) (by kernel_rfl!) ((nX (by decide)).trans (congrArg (some ∘ D.int) (yx x).1))).trans (congrArg (some ∘ D.list) (List.map_map (g:=dI) (f:=fun x:Int=>(x.fmod 1000000000).toNat)).symm)
theorem sE {b:Bool} {cs:List (Nat×Nat)} {ns:List Int} {tp:T} {l:List (Nat×D)} (H:Has σ l) (h1:l.lookup 1=some (dn (drawZ ns))) (hc:∀ p∈cs,p.1<5) (hf:feedD .enum (ev G F σ true tp) (ev G F σ true .nil)=some (cs.map iPair)) :
  ev G F σ b (.comp (.bin .Add (.var 32) (.blt .sum (.cons (.sli (.var 1) (.var 31) (.cst .none) (.cst (.int 5))) .nil))) [31,32] false .enum tp .nil (.cst (.bool true)) [31,32])=some (.list (cs.map fun p=>dI (p.2+sumZ ns p.1))) :=
 pa (f:=fun p:Nat×Nat=>dI p.1) (g:=fun p=>dI p.2) rfl hf (by rw [H.len];decide) (by rw [H.len];decide) (by decide) fun p hp σ' g1 g2 g3 =>
  aE (ab g2) (aS (aR (bV (ab ((g3 1 (by decide) (by decide)).trans (H.ge h1))) (ab g1) aG af (zw (eX ns) (hc p hp)))) (n7 (Nat.le_trans (iX (eX ns) (hc p hp)) (by decide))))
theorem nw {ns:List Int} (hns:ns.length≤63) (H:Has σ [(0,dZ ns)]) (k:∀ {σ':MEnv} {d0 d1 d2 d3 d4:Nat},d1≤60000000006→Has σ' [(2,dn [d0,d1,d2,d3,d4])]→Tells (ex G F σ' s2t2)):Tells (ex G F σ s2t0) :=
 bc H (by decide) (zL hns H rfl) fun H1=>bc H1 (by decide) (sE (cs:=[(0,11),(1,6),(2,27),(3,102),(4,941)]) (ns:=ns) H1 rfl (by decide) rfl) fun H2 =>
  k (d0:=11+sumZ ns 0) (d1:=6+sumZ ns 1) (d2:=27+sumZ ns 2) (d3:=102+sumZ ns 3) (d4:=941+sumZ ns 4) (Nat.le_trans (Nat.add_le_add_left (vO ns (by decide)) 6) (by decide)) (H2.sub ⟨rfl,trivial⟩)
end
end Mine
set_option genSizeOf false
set_option genInjectivity false
namespace Mine
noncomputable def sgN (d5:Nat):Int:=1 - ((2 * (d5 % 2):Nat):Int)
theorem gs (d5:Nat):sgN d5=1∨sgN d5 = -1:=by
 unfold sgN
 rcases Nat.mod_two_eq_zero_or_one d5 with h |h<;>rw [h]
 ·exact .inl rfl
 ·exact .inr rfl
theorem zE (d:Nat):sgN d≠0:=(gs d).elim (fun h=>by rw [h];decide) fun h=>by rw [h];decide
theorem dQ (d:Nat):small (sgN d)=true:=(gs d).elim (fun h=>by rw [h];exact bv (by decide)) fun h=>by rw [h];exact bv (by decide)
noncomputable def uZ (d0 d1:Nat):Int:=((1+d1:Nat):Int) * sgN (d0 / 9)
theorem uH (d0 d1:Nat):(uZ d0 d1).natAbs=1+d1:=by
 unfold uZ
 rw [Int.natAbs_mul]
 rcases gs (d0 / 9) with h |h<;>rw [h]<;>exact Nat.mul_one _
theorem Ap (d0 d1:Nat):uZ d0 d1≠0:=fun h=>by
 have:=uH d0 d1
 rw [h,Nat.add_comm] at this
 exact nomatch this
theorem pU {a b u:Int} (hu:u≠0):(a * u).fdiv (b * u)=a.fdiv b:=by
 rcases Int.lt_or_gt_of_ne hu with h |h
 ·have:=Int.mul_fdiv_mul_of_pos_left a b (Int.neg_pos_of_neg h)
  rw [Int.mul_neg,Int.mul_neg,Int.neg_fdiv_neg] at this
  exact this
 ·exact Int.mul_fdiv_mul_of_pos_left a b h
theorem yu {a b u:Int} (hu:u≠0):(a * u).fmod (b * u)=a.fmod b * u:=by
 rw [Int.fmod_def,pU hu,Int.fmod_def,Int.sub_mul,Int.mul_right_comm]
theorem yV {r:Nat} {u:Int} (hu:u≠0):cmpD .Eq (.int ((r:Int) * u)) (.int u)=some (decide (r=1)):=by
 refine congrArg some ?_
 by_cases h:r=1
 ·rw [decide_eq_true h,h];exact beq_iff_eq.mpr (Int.one_mul u)
 ·rw [decide_eq_false h]
  exact beq_eq_false_iff_ne.mpr fun e=>h (Int.ofNat.inj (Int.eq_of_mul_eq_mul_right hu (e.trans (Int.one_mul u).symm)))
theorem xu {q q':Nat}:cmpD .Eq (.int ((q':Int) - (q:Int))) (.int 1)=some (decide (q'=q+1)):=by
 refine congrArg some ?_
 by_cases h:q'=q+1
 ·rw [decide_eq_true h,h,Int.natCast_succ,Int.add_comm,Int.add_sub_cancel];rfl
 ·rw [decide_eq_false h]
  exact beq_eq_false_iff_ne.mpr fun e=>h (Int.ofNat.inj ((Int.sub_eq_iff_eq_add.mp e).trans (Int.add_comm _ _)))
noncomputable def paD (p:Nat) (u:Int) (k:Nat):D:= .tup [dI (k * upN p / szN p),.int (((k * upN p % szN p:Nat):Int) * u)]
theorem tw {G:ag} {F:FEnv} {σ:MEnv} {e it2:T} {n:Nat} (h1:ev G F σ true e=some (.int 1)) (h2:ev G F σ true it2=some (dI (n+1))) (hn:n≤1000):feedD .range2 (ev G F σ true e) (ev G F σ true it2)=some ((List.range' 1 n).map dI):=by
 rw [h1,h2]
 exact ur hn
theorem xc:("hprstmwbq":Str)=mk LN:=by decide
structure Pair (p:Nat):Prop where
 on:1≤onN p
 up:1≤upN p
 sz:szN p≤5
 ct:(ctN p).length=1
 cu:1≤cuN p
 cl:cuN p<szN p
 st:(List.range' 1 (upN p)).map (fun j:Nat=>Builtin.bitNot ((-(j:Int) * (szN p:Int)).fdiv (upN p:Int)))=iN (riN p)
theorem fw {p:Nat} (h:p<9):Pair p:=aa (List.all_eq_true.mp rn p (List.mem_range.mpr h)) fun a _=>aa a fun a a7=>aa a fun a a6=>aa a fun a a5=>aa a fun a a4=>aa a fun a a3=>aa a fun a1 a2=>⟨de a1,de a2,de a3,de a4,de a5,de a6,de a7⟩
section
variable {p:Nat} (P:Pair p)
include P
theorem Pair.up5:upN p≤5:=Nat.le_trans (Nat.le_add_left _ _) P.sz
theorem Pair.sz1:1≤szN p:=Nat.le_trans P.up (Nat.le_add_left _ _)
theorem Pair.ln:lnN p≤9:=Nat.sub_le_sub_right (Nat.mul_le_mul_left 2 P.sz) 1
end
theorem j4 {a b:Int} {m n:Nat} (h1:a.natAbs≤m) (h2:b.natAbs≤n):(a * b).natAbs≤m * n:=by
 rw [Int.natAbs_mul];exact Nat.mul_le_mul h1 h2
theorem aL {a:Int} {n:Nat} (h:a.natAbs≤n) (hn:n≤9223372036854775807):small a=true:=bv (Nat.lt_of_le_of_lt (Nat.le_trans h hn) (by decide))
section
variable {G:ag} {F:FEnv} {σ:MEnv} {b:Bool} {a c:T}
theorem uG {m:Nat} (h:ev G F σ true a=some (dI m)):ev G F σ b (.bin .Sub (.cst (.int 1)) (.bin .Mult (.cst (.int 2)) (.bin .Mod a (.cst (.int 2)))))=some (.int (sgN m)) :=
 ai af (aX (m:=2) af (bL 2 h (by decide)) (by decide) (Nat.le_trans (Nat.le_of_lt (Nat.mod_lt _ (by decide))) (by decide))) rfl
theorem y1 {m n:Nat} (h:ev G F σ true a=some (dI m)) (h2:ev G F σ true c=some (dI n)) (hn:n≠0):ev G F σ b (.bin .Mod a c)=some (dI (m % n)):=ai h h2 ((nX fun e=>hn (Int.ofNat.inj e)).trans (congrArg (some ∘ D.int) (ug m n)))
variable {l:List (Nat×D)} {p:Nat} (P:Pair p) {u:Int} (hu:u≠0) (hu2:u.natAbs≤60000000007) (hDM:∀ a b:Int,small a=true→b≠0→small b=true→F "int_divmod" [.int a,.int b]=some (.tup [.int (a.fdiv b),.int (a.fmod b)]))
include P
theorem gS {e:T} {k:Nat} (hk:k<szN p+1) (h8:getE σ 8=o (lst (paD p u) (List.range (szN p+1)))) (he:ev G F σ true e=some (dI k)):ev G F σ b (.idx (.var 8) e)=some (paD p u k) :=
 aC (ab h8) he (dT (by rw [List.getElem?_map,List.getElem?_range hk];rfl) (by rw [List.length_map,List.length_range];exact Nat.le_trans (Nat.succ_le_succ P.sz) (by decide)))
theorem sH (H:Has σ l) (h5:l.lookup 5=some (dI (szN p))) (h8:l.lookup 8=some (lst (paD p u) (List.range (szN p+1)))):ev G F σ b (.comp (.var 31) [31] true .range1 (.var 5) .nil (.cmp .Eq (.bin .Sub (.idx (.idx (.var 8) (.bin .Add (.var 31) (.cst (.int 1)))) (.cst (.int 0))) (.idx (.idx (.var 8) (.var 31)) (.cst (.int 0)))) (.cst (.int 1))) [31])=some (dn (riN p)) :=
 cb (l:=List.range (szN p)) (inj:=dI) (c:=fun k=>decide ((k+1) * upN p / szN p=k * upN p / szN p+1)) (y:=dI) rfl (dy (ab (H.ge h5)) (Nat.le_trans P.sz (by decide))) (by rw [H.len];decide) fun k hk σ' g1 g2 _ =>
  have hk:=List.mem_range.mp hk
  have e8:=H.inn g2 (by decide) h8
  ⟨am (x:= .int ((((k+1) * upN p / szN p:Nat):Int) - ((k * upN p / szN p:Nat):Int))) (ai (aC (x:=paD p u (k+1)) (gS P (Nat.succ_lt_succ hk) e8 (aE (n:=1) (ab g1) af)) af rfl) (aC (x:=paD p u k) (gS P (Nat.lt_succ_of_lt hk) e8 (ab g1)) af rfl) rfl) af xu,fun _=>ab g1⟩
theorem tI (H:Has σ l) (h5:l.lookup 5=some (dI (szN p))) (h10:l.lookup 10=some (dn (riN p))):ev G F σ b (.comp (.ite (.cmp .In (.bin .FloorDiv (.var 31) (.cst (.int 2))) (.var 10)) (.cst (.int 2)) (.cst (.int 1))) [31] true .range1 (.bin .Sub (.bin .Mult (.cst (.int 2)) (.var 5)) (.cst (.int 1))) .nil (.cst (.bool true)) [31])=some (dn (fsN p)) :=
 (aZ (l:=List.range (lnN p)) (inj:=dI) (y:=fun k=>dI (cond ((riN p).contains (k / 2)) 2 1)) rfl (dy (bD (m:=2 * szN p) (n:=1) (aX (m:=2) af (ab (H.ge h5)) (by decide) (Nat.le_trans P.sz (by decide))) af (Nat.le_trans P.sz1 (Nat.le_mul_of_pos_left _ (by decide)))) (Nat.le_trans P.ln (by decide))) (by rw [H.len];decide) fun k hk σ' g1 g2 _ =>
  bT dI (am (op:= .In) (x:=dI (k / 2)) (y:=dn (riN p)) (r:=(riN p).contains (k / 2)) (fi 2 (ab g1) (by decide) (by decide)) (ab (H.inn g2 (by decide) h10)) (jF _ _)) rfl (fun _=>af) fun _=>af).trans (congrArg (some ∘ D.list) (List.map_map (g:=dI) (f:=fun k=>cond ((riN p).contains (k / 2)) 2 1)).symm)
include hu
theorem wC (H:Has σ l) (h5:l.lookup 5=some (dI (szN p))) (h6:l.lookup 6=some (.int u)) (h8:l.lookup 8=some (lst (paD p u) (List.range (szN p+1)))):ev G F σ b (.comp (.var 31) [31] true .range1 (.var 5) .nil (.cmp .Eq (.idx (.idx (.var 8) (.var 31)) (.cst (.int 1))) (.var 6)) [31])=some (dn (ctN p)) :=
 cb (l:=List.range (szN p)) (inj:=dI) (c:=fun k=>decide (k * upN p % szN p=1)) (y:=dI) rfl (dy (ab (H.ge h5)) (Nat.le_trans P.sz (by decide))) (by rw [H.len];decide) fun k hk σ' g1 g2 _ =>
  ⟨am (aC (x:=paD p u k) (gS P (Nat.lt_succ_of_lt (List.mem_range.mp hk)) (H.inn g2 (by decide) h8) (ab g1)) af rfl) (ab (H.inn g2 (by decide) h6)) (yV hu),fun _=>ab g1⟩
include hu2 hDM
theorem lI {x:Int} {n:Nat} (hx:x.natAbs≤25) (hn:n≤5) (h1:1≤n):F "int_divmod" [.int (x * u),.int ((n:Int) * u)]=some (.tup [.int (x.fdiv n),.int (x.fmod n * u)]):=by
 rw [hDM _ _ (aL (j4 hx hu2) (by decide)) (fun e=>(Int.mul_eq_zero.mp e).elim (fun e=>by rw [Int.ofNat.inj e] at h1;exact nomatch h1) hu) (aL (j4 (a:=(n:Int)) (m:=5) hn hu2) (by decide)),pU hu,yu hu]
theorem tW (H:Has σ l) (h4:l.lookup 4=some (dI (upN p))) (h5:l.lookup 5=some (dI (szN p))) (h6:l.lookup 6=some (.int u)):ev G F σ b (.comp (.call "int_divmod" (.cons (.bin .Mult (.bin .Mult (.var 31) (.var 4)) (.var 6)) (.cons (.bin .Mult (.var 5) (.var 6)) .nil))) [31] true .range1 (.bin .Add (.var 5) (.cst (.int 1))) .nil (.cst (.bool true)) [31])=some (lst (paD p u) (List.range (szN p+1))) :=
 aZ (l:=List.range (szN p+1)) (inj:=dI) (y:=paD p u) rfl (dy (aE (n:=1) (ab (H.ge h5)) af) (Nat.le_trans (Nat.succ_le_succ P.sz) (by decide))) (by rw [H.len];decide) fun k hk σ' g1 g2 _=>by
  have hk:k≤5:=Nat.le_trans (Nat.le_of_lt_succ (List.mem_range.mp hk)) P.sz
  have hx:k * upN p≤25:=Nat.mul_le_mul hk P.up5
  have e:=lI P hu hu2 hDM (x:=((k * upN p:Nat):Int)) hx P.sz P.sz1
  rw [ui,ug] at e
  have e6:=H.inn g2 (by decide) h6
  exact aw (aY (ai (aX (ab g1) (ab (H.inn g2 (by decide) h4)) (Nat.le_trans hk (by decide)) (Nat.le_trans P.up5 (by decide))) (ab e6) (bW (aP (Nat.le_trans hx (by decide))) (aL hu2 (by decide)))) (ai (ab (H.inn g2 (by decide) h5)) (ab e6) (bW (aP (Nat.le_trans P.sz (by decide))) (aL hu2 (by decide))))) e
theorem rT (H:Has σ l) (h4:l.lookup 4=some (dI (upN p))) (h5:l.lookup 5=some (dI (szN p))) (h6:l.lookup 6=some (.int u)):ev G F σ b (.comp (.un .Invert (.idx (.call "int_divmod" (.cons (.bin .Mult (.bin .Mult (.un .USub (.var 33)) (.var 5)) (.var 6)) (.cons (.bin .Mult (.var 4) (.var 6)) .nil))) (.cst (.int 0)))) [33] true .range2 (.cst (.int 1)) (.bin .Add (.var 4) (.cst (.int 1))) (.cst (.bool true)) [33])=some (dZ (iN (riN p))) :=
 (aZ (l:=List.range' 1 (upN p)) (inj:=dI) (y:=fun j=> .int (Builtin.bitNot ((-(j:Int) * (szN p:Int)).fdiv (upN p:Int)))) rfl (tw af (aE (n:=1) (ab (H.ge h4)) af) (Nat.le_trans P.up5 (by decide))) (by rw [H.len];decide) fun j hj σ' g1 g2 _=>by
  have hj:j≤5:=Nat.le_trans (Nat.le_of_lt_succ (by rw [← Nat.add_one,Nat.add_comm];exact (List.mem_range'_1.mp hj).2)) P.up5
  have ha:(-(j:Int)).natAbs≤5:=by rw [Int.natAbs_neg];exact hj
  have hx:(-(j:Int) * (szN p:Int)).natAbs≤25:=j4 (m:=5) (n:=5) ha P.sz
  have e:=lI P hu hu2 hDM hx P.up5 P.up
  have e6:=H.inn g2 (by decide) h6
  exact gk (aC (aw (aY (ai (ai (x:= .int (-(j:Int))) (gk (ab g1) rfl) (ab (H.inn g2 (by decide) h5)) (bW (aL ha (by decide)) (aP (Nat.le_trans P.sz (by decide))))) (ab e6) (bW (aL hx (by decide)) (aL hu2 (by decide)))) (ai (ab (H.inn g2 (by decide) h4)) (ab e6) (bW (aP (Nat.le_trans P.up5 (by decide))) (aL hu2 (by decide))))) e) af rfl) rfl).trans
  (congrArg (some ∘ D.list) ((List.map_map (g:=D.int) (f:=fun j:Nat=>Builtin.bitNot ((-(j:Int) * (szN p:Int)).fdiv (upN p:Int)))).symm.trans (congrArg (List.map D.int) P.st)))
end
end Mine
set_option genSizeOf false
set_option genInjectivity false
namespace Mine
theorem zD (l:List Nat):cmpD .NotEq (dZ (iN l)) (dn l)=some false:=by rw [fy];exact gU _
theorem q8 (l:List Nat):cmpD .NotEq (dn l) (dn l)=some false:=by rw [fy];exact gU _
noncomputable def aW (d0 d2:Nat):Nat:=d2 % (11 - 2 * szN (d0 % 9))
theorem xQ (d0:Nat):d0 % 9<9:=Nat.mod_lt _ (by decide)
section
variable {p:Nat} (P:Pair p)
include P
theorem Pair.m1:2 * szN p≤10:=Nat.mul_le_mul_left 2 P.sz
theorem Pair.m2:11 - 2 * szN p≠0:=Nat.ne_of_gt (Nat.sub_pos_of_lt (Nat.lt_of_le_of_lt P.m1 (by decide)))
theorem Pair.an {a:Nat} (h:a<11 - 2 * szN p):a+lnN p≤9:=by
 have h1:a+1≤11 - 2 * szN p:=h
 have h2:=Nat.add_le_add_right h1 (2 * szN p)
 rw [Nat.sub_add_cancel (Nat.le_trans P.m1 (by decide))] at h2
 have h3:1≤2 * szN p:=Nat.le_trans P.sz1 (Nat.le_mul_of_pos_left _ (by decide))
 have h4:a+lnN p+2≤11:=by
  unfold lnN
  have e:a+(2 * szN p - 1)+2=a+1+2 * szN p:=by
   rw [← Nat.add_sub_assoc h3,Nat.add_right_comm,show 2=1+1 from rfl,← Nat.add_assoc,Nat.sub_add_cancel (Nat.le_trans h3 (Nat.le_add_left _ _)),Nat.add_right_comm]
  exact Nat.le_trans (Nat.le_of_eq e) h2
 exact Nat.le_of_add_le_add_right h4
end
section
variable {G:ag} {F:FEnv} {σ:MEnv}
theorem oa (hDM:∀ a b:Int,small a=true→b≠0→small b=true→F "int_divmod" [.int a,.int b]=some (.tup [.int (a.fdiv b),.int (a.fmod b)])) {d0 d1 d2 d4:Nat} (h1:d1≤60000000006) {dr:D} (i0:idxD dr (.int 0)=some (dI d0)) (i1:idxD dr (.int 1)=some (dI d1)) (i2:idxD dr (.int 2)=some (dI d2)) (i4:idxD dr (.int 4)=some (dI d4))
  (H:Has σ [(2,dr)]) (k:∀ {σ':MEnv},Has σ' [(2,dr),(5,dI (szN (d0 % 9))),(7,.int (sgN d4)),(9,dn (ctN (d0 % 9))),(10,dn (riN (d0 % 9))),(11,dn (fsN (d0 % 9))),(12,.str (mk (wdN (aW d0 d2) (lnN (d0 % 9)))))]→Tells (ex G F σ' s2t10)):Tells (ex G F σ s2t2):=by
 have P:=fw (xQ d0)
 have hu:=Ap d0 d1
 have ha:1+d1≤60000000007:=by rw [Nat.add_comm];exact Nat.succ_le_succ h1
 have hu2:(uZ d0 d1).natAbs≤60000000007:=by rw [uH];exact ha
 have s1:small ((1+d1:Nat):Int)=true:=aL (n:=60000000007) ha (by decide)
 exact oO (x:=dI (onN (d0 % 9))) (y:=dI (upN (d0 % 9))) H (by decide) (by decide) (aC (x:= .tup (prN.map iPair)) rfl (bL 9 (dY H rfl i0) (by decide)) (j8 (f:=iPair) (0,0) (xQ d0) (by decide))) fun H =>
  s8 (x:=dI (szN (d0 % 9))) (y:= .int (uZ d0 d1)) (z:= .int (sgN d4)) H (by decide) (by decide) (by decide) (fG (aE (m:=onN (d0 % 9)) (n:=upN (d0 % 9)) (ab (H.ge rfl)) (ab (H.ge rfl))) (ai (aE (m:=1) (n:=d1) af (dY H rfl i1)) (uG (fi 9 (dY H rfl i0) (by decide) (by decide))) (bW s1 (dQ _))) (uG (dY H rfl i4))) rfl fun H =>
  bc H (by decide) (tW P hu hu2 hDM H rfl rfl rfl) fun H=>bc H (by decide) (wC P hu H rfl rfl rfl) fun H=>bc H (by decide) (sH P (u:=uZ d0 d1) H rfl rfl) fun H =>
  eA (x:= .bool false) (ji (r:=false) (s:=false) (am (x:=dI 1) (y:=dI 1) (aS (aR (ab (H.ge rfl))) ((nE (xs:=(ctN (d0 % 9)).map dI) (by rw [List.length_map,P.ct];decide)).trans (by rw [List.length_map,P.ct];rfl))) af (eW 1)) fun _=>am (rT P hu hu2 hDM H rfl rfl rfl) (ab (d:=dn (riN (d0 % 9))) (H.ge rfl)) (zD _)) rfl
  (bc H (by decide) (tI P H rfl rfl) fun H =>
  bc (d:= .str (mk (wdN (aW d0 d2) (lnN (d0 % 9))))) H (by decide) (n5 (t:=LN.drop (aW d0 d2)) (n:=lnN (d0 % 9)) (by rw [List.length_drop];exact Nat.le_trans (Nat.sub_le _ _) (by decide)) (Nat.le_trans P.ln (by decide)) (iw (t:=LN) (n:=aW d0 d2) (by decide) (Nat.le_trans (Nat.le_of_lt (Nat.mod_lt _ (Nat.pos_of_ne_zero P.m2))) (Nat.le_trans (Nat.sub_le _ _) (by decide))) (congrArg (some ∘ D.str) xc)
   (y1 (dY H rfl i2) (bD (m:=11) af (aX (m:=2) (n:=szN (d0 % 9)) af (ab (H.ge rfl)) (by decide) (Nat.le_trans P.sz (by decide))) (Nat.le_trans P.m1 (by decide))) P.m2)) (bD (n:=1) (aX (m:=2) (n:=szN (d0 % 9)) af (ab (H.ge rfl)) (by decide) (Nat.le_trans P.sz (by decide))) af (Nat.le_trans P.sz1 (Nat.le_mul_of_pos_left _ (by decide))))) fun H =>
  k (H.sub ⟨rfl,rfl,rfl,rfl,rfl,rfl,rfl,trivial⟩))
end
end Mine
set_option genSizeOf false
set_option genInjectivity false
namespace Mine
structure jO (b1L:List Int) (b3L:List (Int×Str)):Prop where
 j:((List.range 2).all fun q=>(List.range 8).all fun j=> !b1L.contains (((jnL q).getD j 0:Nat):Int)&&(b3v b3L ((jnL q).getD j 0)==mk ((LN.drop j).take 2)) && !uN.contains ((jnL q).getD j 0)&&decide (0<(jnL q).getD j 0)&&decide ((jnL q).getD j 0<262144))=true
theorem wb (pick:Nat):jnL (pick % 2)=jnL pick:=by
 unfold jnL
 rw [Nat.mod_mod]
theorem zV:∀ u∈uN,0<u:=by decide
structure jP (b1L:List Int) (x:Nat):Prop where
 u:b1L.contains (x:Int)=uN.contains x
 pos:0<x
 lt:x<262144
section
variable {b1L:List Int} {b3L:List (Int×Str)} (P:ij b1L b3L) (J:jO b1L b3L) {a n pick noise k:Nat} {fs:List Nat}
include P in
theorem yd:∀ x∈mkN noise k,jP b1L x∧b1L.contains (x:Int)=true:=fun x hx=>by
 unfold mkN at hx
 revert hx
 cases decide (noise / 11 / 2 ^ k % 2=1) with
 |false=>exact fun hx=>nomatch hx
 |true =>
  intro hx
  have hm:x∈uN:=List.mem_singleton.mp hx▸getD_mem (Nat.mod_lt _ (by decide))
  exact aa (List.all_eq_true.mp P.u x hm) fun h1 h2=>⟨⟨h1.trans (List.contains_iff_mem.mpr hm).symm,zV x hm,Nat.lt_trans (de h2) (by decide)⟩,h1⟩
include J in
theorem zS {j:Nat} (hj:j<8):b1L.contains (((jnL pick).getD j 0:Nat):Int)=false∧b3v b3L ((jnL pick).getD j 0)=mk ((LN.drop j).take 2)∧jP b1L ((jnL pick).getD j 0):=by
 rw [← wb]
 exact aa (List.all_eq_true.mp (List.all_eq_true.mp J.j _ (List.mem_range.mpr (Nat.mod_lt pick (by decide)))) j (List.mem_range.mpr hj)) fun h h5=>aa h fun h h4=>aa h fun h h3=>aa h fun h1 h2=>⟨nt h1,eq_of_beq h2,(nt h1).trans (nt h3).symm,de h4,de h5⟩
theorem td {c:Nat} (h:c∈wdN a n):isLt c:=by
 obtain ⟨h1,h2⟩:=uA a n c h
 exact ⟨c - 97,Nat.sub_lt_left_of_lt_add h1 h2,(Nat.add_sub_cancel' h1).symm⟩
include P in
theorem zB {c m:Nat} (hc:isLt c):∀ x∈sgN' pick noise c k m,jP b1L x∧b1L.contains (x:Int)=false∧b3v b3L x=mk [c]:=fun x hx=>by
 obtain ⟨t,_,rfl⟩:=List.mem_map.mp hx
 have q:=zZ P (f:=fmN' pick noise k t) (Nat.mod_lt _ (by decide)) hc
 exact ⟨⟨q.b1.trans q.u.symm,q.pos,Nat.lt_trans q.lt (by decide)⟩,q.b1,q.b3⟩
variable (han:a+n≤9) (hk:k<n)
include P J han hk
theorem uC:(∀ x∈chN a n fs pick noise k,jP b1L x)∧((chN a n fs pick noise k).filter fun x:Nat=> !b1L.contains (x:Int)).map (b3v b3L)=(foK a n fs k).map mk:=by
 have hc:isLt ((wdN a n).getD k 0):=td (a:=a) (n:=n) (getD_mem (by rw [ck han];exact hk))
 have s:=zB P (pick:=pick) (noise:=noise) (k:=k) (m:=fs.getD k 0) hc
 have m:=yd P (noise:=noise) (k:=k)
 have j:(∀ x∈jnN pick a n k,jP b1L x)∧((jnN pick a n k).filter fun x:Nat=> !b1L.contains (x:Int)).map (b3v b3L)=(cond (decide (k+1<n)) [(LN.drop (a+k)).take 2] []).map mk:=by
  unfold jnN
  by_cases h:k+1<n
  ·have h8:a+k<8:=Nat.lt_of_succ_lt_succ (Nat.lt_of_lt_of_le (Nat.add_lt_add_left h a) han)
   obtain ⟨j1,j2,j3⟩:=zS J (pick:=pick) h8
   rw [decide_eq_true h]
   refine ⟨fun x hx=>List.mem_singleton.mp hx▸j3,?_⟩
   show (([(jnL pick).getD (a+k) 0]:List Nat).filter _).map _=[mk _]
   rw [List.filter_cons_of_pos (by rw [j1];rfl),← j2];rfl
  ·rw [decide_eq_false h]
   exact ⟨fun x hx=>(nomatch hx),rfl⟩
 unfold chN foK
 refine ⟨fun x hx=>(List.mem_append.mp hx).elim (fun hx=>(List.mem_append.mp hx).elim (fun h=>(s x h).1) fun h=>j.1 x h) fun h=>(m x h).1,?_⟩
 rw [List.filter_append,List.filter_append,List.map_append,List.map_append,List.map_append,j.2,List.filter_eq_self.mpr fun x hx=>by rw [(s x hx).2.1];rfl,List.filter_eq_nil_iff.mpr fun x hx=>by rw [(m x hx).2];decide,List.map_nil,List.append_nil,List.map_replicate]
 refine congrArg (· ++ _) ?_
 rw [List.map_congr_left fun x hx=>(s x hx).2.2,List.map_const',sgN',List.length_map,List.length_range]
end
section
variable {b1L:List Int} {b3L:List (Int×Str)} (P:ij b1L b3L) (J:jO b1L b3L) {a n pick noise:Nat} {fs:List Nat} (han:a+n≤9)
include P J han
theorem uO:∀ x∈stkN a n fs pick noise,jP b1L x:=fun x hx=>by
 obtain ⟨k,hk,hx⟩:=List.mem_flatMap.mp hx
 exact (uC P J (pick:=pick) (noise:=noise) (fs:=fs) han (List.mem_range.mp hk)).1 x hx
theorem pO:((stkN a n fs pick noise).filter fun x:Nat=> !b1L.contains (x:Int)).map (b3v b3L)=((List.range n).flatMap (foK a n fs)).map mk:=by
 unfold stkN
 rw [List.filter_flatMap,List.map_flatMap,List.map_flatMap]
 rw [List.flatMap_def,List.flatMap_def]
 exact congrArg List.flatten (List.map_congr_left fun k hk=>(uC P J (pick:=pick) (noise:=noise) (fs:=fs) han (List.mem_range.mp hk)).2)
omit P J han in
theorem w0 (h:∀ f∈fs,f≤2):(stkN a n fs pick noise).length≤4 * n:=by
 unfold stkN
 rw [List.length_flatMap]
 refine Nat.le_trans (kU (B:=4) fun y hy=> ?_) (by rw [List.length_map,List.length_range,Nat.mul_comm];exact Nat.le_refl _)
 obtain ⟨k,_,rfl⟩:=List.mem_map.mp hy
 have h2:fs.getD k 0≤2:=by
  rw [List.getD_eq_getElem?_getD]
  cases e:fs[k]? with
  |none=>exact Nat.zero_le _
  |some f=>exact h f (List.mem_of_getElem? e)
 unfold chN sgN' jnN mkN
 rw [List.length_append,List.length_append,List.length_map,List.length_range]
 have l1:∀ {b:Bool} {x:Nat},(cond b [x] []).length≤1:=fun {b x}=>by
  cases b with
  |true=>exact Nat.le_refl 1
  |false=>exact Nat.zero_le 1
 exact Nat.add_le_add (Nat.add_le_add h2 l1) l1
end
end Mine
set_option genSizeOf false
set_option genInjectivity false
namespace Mine
theorem rz {b:Bool}:cmpD .Is (.bool b) (.bool false)=some (!b):=by
 cases b with
 |true=>rfl
 |false=>rfl
noncomputable def hasD (hs:List Bool):D:= .list (hs.map .bool)
theorem sZ (l:List Bool):cmpD .NotEq (hasD l) (hasD l)=some false:=dB ((pI l l).trans (congrArg some (beq_self_eq_true _)))
theorem mT {l:List Nat} (h:l.length≤1048576):sliD (dn l) .none (.int (-1)) .none=some (dn l.dropLast):=(gm (by rw [List.length_map];exact h)).trans (congrArg (some ∘ D.list) (List.map_dropLast).symm)
theorem zt {n:Nat} (h:n≤1114111):bltD .chr [dI n]=some (.str (mk [n])):=ao (c:=(decide (0≤(n:Int))&&decide ((n:Int).toNat≤1114111))=true) (by rw [decide_eq_true (Int.natCast_nonneg n),decide_eq_true (show (n:Int).toNat≤1114111 from h)];rfl) rfl
noncomputable abbrev chS (p:Nat):D:= .str ⟨#[p]⟩
section
variable {G:ag} {F:FEnv} {σ:MEnv} {l:List (Nat×D)} {b:Bool}
theorem kc {α:Type} {i:Nat} {elt it:T} {inj:α→D} {ps:List α} {g:α→Bool} (hf:ev G F σ true it=some (lst inj ps)) (hz:ps.length≤1000) (hi:i<σ.length) (hy:∀ a∈ps,∀ {σ':MEnv},getE σ' i=o (inj a)→(∀ j,j≠i→getE σ' j=getE σ j)→ev G F σ' false elt=some (.bool (g a))) :
  ev G F σ b (.comp elt [i] true .plain it .nil (.cst (.bool true)) [i])=some (hasD (ps.map g)) :=
 (aZ (l:=ps) (inj:=inj) rfl (bF hf (cj (by rw [List.length_map];exact Nat.le_trans hz (by decide)))) hi fun a ha σ' h1 h2 _=>hy a ha h1 h2).trans (congrArg (some ∘ D.list) (List.map_map (g:=D.bool) (f:=g)).symm)
theorem kT {p:Nat} {σ:MEnv} (h:p<262144) (h1:getE σ 30=o (dI p)):ev G F σ b (.cons (.blt .chr (.cons (.var 30) .nil)) .nil)=some (.tup [chS p]):=aR (aS (aR (ab h1)) (zt (Nat.le_trans (Nat.le_of_lt h) (by decide))))
variable {b1L:List Int} {b3L:List (Int×Str)} (hB1:∀ p:Nat,F "in_table_b1" [chS p]=some (.bool (b1L.contains (p:Int)))) (hB3:∀ p:Nat,F "map_table_b3" [chS p]=some (.str (b3v b3L p)))
  (hU:F "_law_unseen" []=some (.list (unseen.map .int))) {pts:List Nat} (hs:∀ x∈pts,jP b1L x) (hz:pts.length≤1000)
include hB1 hs hz in
theorem zu (H:Has σ l) (h:l.lookup 15=some (dn pts)):ev G F σ b (.comp (.cmp .Is (.call "in_table_b1" (.cons (.blt .chr (.cons (.var 30) .nil)) .nil)) (.cst (.bool true))) [30] true .plain (.var 15) .nil (.cst (.bool true)) [30])=some (hasD (pts.map fun p=>uN.contains p)) :=
 kc (inj:=dI) (ab (H.ge h)) hz (by rw [H.len];decide) fun p hp {σ'} h1 _=>am (aw (kT (hs p hp).lt h1) (hB1 p)) (uJ rfl) (is_true.trans (congrArg some (hs p hp).u))
include hU hz in
theorem yk (H:Has σ l) (h:l.lookup 13=some (dn pts)):ev G F σ b (.comp (.cmp .In (.var 30) (.call "_law_unseen" .nil)) [30] true .plain (.var 13) .nil (.cst (.bool true)) [30])=some (hasD (pts.map fun p=>uN.contains p)) :=
 kc (inj:=dI) (ab (H.ge h)) hz (by rw [H.len];decide) fun p _ {σ'} h1 _=>am (ab h1) (aw nC hU) (jF p uN)
include hB1 hB3 hs hz in
theorem rL {fo:List (List Nat)} (hm:(pts.filter fun x:Nat=> !b1L.contains (x:Int)).map (b3v b3L)=fo.map mk) (H:Has σ l) (h:l.lookup 15=some (dn pts)) :
  ev G F σ b (.comp (.call "map_table_b3" (.cons (.blt .chr (.cons (.var 30) .nil)) .nil)) [30] true .plain (.var 15) .nil (.cmp .Is (.call "in_table_b1" (.cons (.blt .chr (.cons (.var 30) .nil)) .nil)) (.cst (.bool false))) [30])=some (lst sS fo):=by
 have e:=congrArg (List.map D.str) hm
 rw [List.map_map,List.map_map] at e
 exact (cb (l:=pts) (inj:=dI) (c:=fun p=> !b1L.contains (p:Int)) (y:=fun p=> .str (b3v b3L p)) rfl (bF (d:=dn pts) (ab (H.ge h)) (cj (by rw [List.length_map];exact Nat.le_trans hz (by decide)))) (by rw [H.len];decide) fun p hp σ' h1 _ _ =>
  ⟨am (aw (kT (hs p hp).lt h1) (hB1 p)) (uJ rfl) rz,fun _=>aw (kT (hs p hp).lt h1) (hB3 p)⟩).trans (congrArg (some ∘ D.list) e)
variable (hOc:∀ vs:List Int,(∀ v∈vs,0<v∧v<64 ^ 3)→3 * vs.length≤100000→F "_law_octets" [dZ vs]=some (dZ (tapeN [] vs))) (hRd:∀ ds,F "_law_read" ds=readSpec ds)
include hOc hRd hs in
theorem wW (hz:pts.length≤36):∃ os:List Int,os.length≤108∧F "_law_octets" [dn pts]=some (dZ os)∧F "_law_read" [dZ os]=some (dn pts)∧F "_law_read" [dZ os.dropLast]=some (dn pts.dropLast):=by
 have hv:∀ v∈iN pts,0<v∧v<64 ^ 3:=fun v hv=>by
  obtain ⟨x,hx,rfl⟩:=List.mem_map.mp hv
  exact ⟨Int.natCast_pos.mpr (hs x hx).pos,Int.ofNat_lt.mpr (hs x hx).lt⟩
 have hl:3 * (iN pts).length≤108:=by rw [jn];exact Nat.mul_le_mul_left 3 hz
 have T:Tape (tapeN [] (iN pts)) (iN pts):=j0 (iN pts) [] [] .nil fun v h=>Int.le_of_lt (hv v h).1
 have h1:(tapeN [] (iN pts)).length≤108:=iz (M:=2) (iN pts) [] (fun v h=>⟨Int.le_of_lt (hv v h).1,(hv v h).2⟩) (by rw [List.length_nil,Nat.zero_add];exact hl)
 have hd:(tapeN [] (iN pts)).dropLast.length≤600:=by rw [List.length_dropLast];exact Nat.le_trans (Nat.sub_le _ _) (Nat.le_trans h1 (by decide))
 refine ⟨_,h1,by rw [fy];exact hOc _ hv (Nat.le_trans hl (by decide)),?_,?_⟩
 ·rw [hRd,ma (Nat.le_trans h1 (by decide)),T.rd (Nat.le_succ_of_le T.len),fy]
 ·rw [hRd,ma hd,T.rd_cut (by rw [List.length_dropLast];exact Nat.le_trans T.len (Nat.le_add_of_sub_le (Nat.le_refl _))),fy]
  exact congrArg (some ∘ dZ) List.map_dropLast.symm
include hB1 hB3 hU hOc hRd
theorem qC {p a d2 d3:Nat} (P:Pair p) (ha:a+lnN p≤9) (T:ij b1L b3L) (J:jO b1L b3L) {dr sz sg ct ri:D} (i2:idxD dr (.int 2)=some (dI d2)) (i3:idxD dr (.int 3)=some (dI d3))
  (hSt:F "_law_stock" [.str (mk (wdN a (lnN p))),dn (fsN p),dI d2,dI d3]=some (dn (stkN a (lnN p) (fsN p) d2 d3))) (hf2:∀ f∈fsN p,f≤2) (hWy:F "_law_ways" [sS (wdN a (lnN p)),lst sS (foN a p)]=some (.tup [dn (bkN a p),dn (frN a p)]))
  (H:Has σ [(2,dr),(5,sz),(7,sg),(9,ct),(10,ri),(11,dn (fsN p)),(12,.str (mk (wdN a (lnN p))))]) (k:∀ {σ':MEnv},Has σ' [(2,dr),(5,sz),(7,sg),(9,ct),(10,ri),(17,dn (bkN a p)),(18,dn (frN a p))]→Tells (ex G F σ' s2t17)):Tells (ex G F σ s2t10):=by
 have hl:=w0 (a:=a) (n:=lnN p) (pick:=d2) (noise:=d3) hf2
 have hl36:(stkN a (lnN p) (fsN p) d2 d3).length≤36:=Nat.le_trans hl (Nat.mul_le_mul_left 4 P.ln)
 have hs:=uO T J (pick:=d2) (noise:=d3) (fs:=fsN p) ha
 have hm:=pO T J (pick:=d2) (noise:=d3) (fs:=fsN p) ha
 generalize stkN a (lnN p) (fsN p) d2 d3=pts at *
 obtain ⟨os,hz,f1,f2,f3⟩:=wW (pts:=pts) hs hOc hRd hl36
 have hz':os.length≤1048576:=Nat.le_trans hz (by decide)
 have hp:pts.length≤1000:=Nat.le_trans hl36 (by decide)
 exact bc H (by decide) (aw (ay (ab (H.ge rfl)) (fG (ab (H.ge rfl)) (dY H rfl i2) (dY H rfl i3))) hSt) fun H=>bc H (by decide) (aw (aR (ab (H.ge rfl))) f1) fun H=>bc H (by decide) (aw (aR (ab (H.ge rfl))) f2) fun H =>
  eA (x:= .bool false) (ji (r:=false) (s:=false) (am (x:=dn pts) (y:=dn pts) (ab (H.ge rfl)) (ab (H.ge rfl)) (q8 _)) fun _ =>
   am (x:=dn pts.dropLast) (y:=dn pts.dropLast) (aw (aR (bV (x:=dZ os) (u':= .int (-1)) (ab (H.ge rfl)) aG rfl aG (vC hz'))) f3) (bV (x:=dn pts) (u':= .int (-1)) (ab (H.ge rfl)) aG rfl aG (mT (Nat.le_trans hp (by decide)))) (q8 _)) rfl
  (eA (am (zu hB1 hs hp H rfl) (yk hU hp H rfl) (sZ _)) rfl (bc H (by decide) (rL hB1 hB3 hs hp hm H rfl) fun H =>
  oO H (by decide) (by decide) (aw (aY (ab (d:=sS (wdN a (lnN p))) (H.ge rfl)) (ab (d:=lst sS (foN a p)) (H.ge rfl))) hWy) fun H=>k (H.sub ⟨rfl,rfl,rfl,rfl,rfl,rfl,rfl,trivial⟩)))
end
end Mine
set_option genSizeOf false
set_option genInjectivity false
namespace Mine
structure Mark (a p:Nat):Prop where
 f:(frN a p).getD (2 * szN p - 1) 0=whN a p
 zy:z1N a p+y1N a p=whN a p
 th:thN a p+whN a p=3 * f1N a p * s1N a p
 sq:f1N a p ^ 2+s1N a p ^ 2=thN a p * whN a p
 inn:z1N a p * y1N a p=inN a p * whN a p+1
 y2:y1N a p ^ 2+1+inN a p * whN a p=y1N a p * whN a p
 w1:1<whN a p
 bl:∀ y∈bkN a p,y≤whN a p
 wl:whN a p≤1000
 fl:f1N a p≤1000
 sl:s1N a p≤1000
 tl:thN a p≤1000
theorem w8 {a p:Nat} (hp:p<9) (hw:a<11 - 2 * szN p):Mark a p :=
 aa (List.all_eq_true.mp (List.all_eq_true.mp tF p (List.mem_range.mpr hp)) a (List.mem_range.mpr hw)) fun h hc=>aa h fun h hb=>aa h fun h ha=>aa h fun h h9=>aa h fun h h8=>aa h fun h h7=>aa h fun h h6=>aa h fun h h5=>aa h fun h h4=>aa h fun h h3=>aa h fun h1 h2 =>
  ⟨de h1,de h2,de h3,de h4,de h5,de h6,de h7,fun y hy=>de (List.all_eq_true.mp h8 y hy),de h9,de ha,de hb,de hc⟩
theorem uy {p:Nat} (P:Pair p):lnN p+1=2 * szN p:=Nat.sub_add_cancel (Nat.le_trans P.sz1 (Nat.le_mul_of_pos_left _ (by decide)))
theorem gH {a p:Nat} (P:Pair p):(bkN a p).length=2 * szN p∧(frN a p).length=2 * szN p :=
 let ⟨h1,h2⟩:=fx (wdN a (lnN p)) (foN a p) (lnN p)
 ⟨h1.trans (uy P),h2.trans (uy P)⟩
theorem mH (a b:Int):eqD (.tup [.int a,.int b]) (.tup [.int a,.int b])=some true:=by
 show (if 2=2 then (some (a==a)).bind fun x=>((some (b==b)).bind fun y=>(some true).map fun z=>y&&z).map fun z=>x&&z else none)=_
 rw [beq_self_eq_true,beq_self_eq_true];rfl
section
variable {G:ag} {F:FEnv} {σ:MEnv} {b:Bool} {e f:T} {l:List (Nat×D)}
theorem jg {m k:Nat} (h:ev G F σ true e=some (dI m)) (h2:ev G F σ true f=some (dI k)) (hm:m≤1000000) (hk:k≤1000):ev G F σ b (.bin .Pow e f)=some (dI (m ^ k)) :=
 ai h h2 ((zj (Int.natCast_nonneg k) (Nat.le_trans hk (by decide)) (Nat.lt_of_le_of_lt hm (by decide))).trans (congrArg (some ∘ D.int) (Int.natCast_pow m k).symm))
theorem hV {x:List Nat} {i m:Nat} (H:Has σ l) (h:l.lookup i=some (dn x)) (h1:1≤m) (h2:m≤x.length) (hz:x.length≤1000):ev G F σ b (.idx (.var i) (.un .USub (.cst (dI m))))=some (dI (x.getD (x.length - m) 0)) :=
 aC (ab (H.ge h)) (gk af rfl) (kY h1 h2 hz)
theorem bZ {x:List Nat} {i k:Nat} (H:Has σ l) (h:l.lookup i=some (dn x)) (he:ev G F σ true e=some (dI k)) (h2:k<x.length) (hz:x.length≤1000):ev G F σ b (.idx (.var i) e)=some (dI (x.getD k 0)) :=
 aC (ab (H.ge h)) he (jL h2 (Nat.le_trans hz (by decide)))
end
theorem Ad {x y:Nat}:cmpD .Lt (.int ((x:Int) - (y:Int))) (.int 0)=some (decide (x<y)):=congrArg some (decide_eq_decide.mpr ⟨fun h=>Int.ofNat_lt.mp (Int.lt_of_sub_neg h),fun h=>Int.sub_neg_of_lt (Int.ofNat_lt.mpr h)⟩)
theorem Ah {x y:Nat}:cmpD .Gt (.int ((x:Int) - (y:Int))) (.int 0)=some (decide (y<x)):=congrArg some (decide_eq_decide.mpr ⟨fun h=>Int.ofNat_lt.mp (Int.sub_pos.mp h),fun h=>Int.sub_pos.mpr (Int.ofNat_lt.mpr h)⟩)
theorem pj {x u w:Int} (hu:u≠0) (hw:w≠0):(u * (x * w)).fdiv (u * w)=x∧(u * (x * w)).fmod (u * w)=0:=by
 have e:u * (x * w)=x * (u * w):=Int.mul_left_comm u x w
 have hz:u * w≠0:=Int.mul_ne_zero hu hw
 rw [e]
 exact ⟨Int.mul_fdiv_cancel _ hz,Int.mul_fmod_left _ _⟩
theorem Mark.zl {a p:Nat} (M:Mark a p):z1N a p≤1000:=Nat.le_trans (Nat.le_add_right _ _) (M.zy▸M.wl)
theorem Mark.yl {a p:Nat} (M:Mark a p):y1N a p≤1000:=Nat.le_trans (Nat.le_add_left _ _) (M.zy▸M.wl)
theorem Mark.wz {a p:Nat} (M:Mark a p):((whN a p:Nat):Int)≠0:=Int.ne_of_gt (Int.natCast_pos.mpr (Nat.lt_trans Nat.zero_lt_one M.w1))
theorem k_lt {k m n:Nat} (h:k≤m) (hn:m≤n):k≤n:=Nat.le_trans h hn
theorem uo {p:Nat} (P:Pair p):idxD (dn (ctN p)) (.int 0)=some (dI (cuN p)):=jL (l:=ctN p) (k:=0) (by rw [P.ct];decide) (by rw [P.ct];decide)
section
variable {G:ag} {F:FEnv} {σ:MEnv} {a p d4:Nat} (P:Pair p) (M:Mark a p) {dr ri:D}
include P M
theorem pN (H:Has σ [(2,dr),(5,dI (szN p)),(7,.int (sgN d4)),(9,dn (ctN p)),(10,ri),(17,dn (bkN a p)),(18,dn (frN a p))])
  (k:∀ {σ':MEnv},Has σ' [(2,dr),(5,dI (szN p)),(7,.int (sgN d4)),(10,ri),(17,dn (bkN a p)),(18,dn (frN a p)),(19,dI (whN a p)),(20,dI (f1N a p)),(21,dI (s1N a p)),(23,dI (thN a p))]→Tells (ex G F σ' s2t20)):Tells (ex G F σ s2t17):=by
 obtain ⟨lb,lf⟩:=gH (a:=a) P
 have hcl:=P.cl
 have hc1:=P.cu
 have hs5:=P.sz
 have c5:cuN p≤5:=Nat.le_trans (Nat.le_of_lt hcl) hs5
 have z10:2 * szN p≤1000:=Nat.le_trans P.m1 (by decide)
 have lb':(bkN a p).length≤1000:=by rw [lb];exact z10
 have lf':(frN a p).length≤1000:=by rw [lf];exact z10
 have q2:2 * cuN p<2 * szN p:=Nat.mul_lt_mul_of_pos_left hcl (by decide)
 have q1:2 * cuN p - 1<2 * szN p:=Nat.lt_of_le_of_lt (Nat.sub_le _ _) q2
 have two:∀ {σ:MEnv} {l:List (Nat×D)} {b:Bool} (H:Has σ l) (h9:l.lookup 9=some (dn (ctN p))),ev G F σ b (.bin .Mult (.cst (.int 2)) (.idx (.var 9) (.cst (.int 0))))=some (dI (2 * cuN p)):=fun H h9=>aX (m:=2) af (aC (ab (H.ge h9)) af (uo P)) (by decide) (Nat.le_trans c5 (by decide))
 refine tA (x:=dI (whN a p)) (y:=dI (f1N a p)) (z:=dI (s1N a p)) (u:= .int (((2 * cuN p:Nat):Int) - ((szN p:Nat):Int))) H (by decide) (by decide) (by decide) (by decide) (ay (bZ (k:=0) H rfl af (by rw [lb];exact Nat.lt_of_le_of_lt (Nat.zero_le _) q2) lb') (fG (bZ H rfl (bD (n:=1) (two H rfl) af (Nat.le_trans hc1 (Nat.le_mul_of_pos_left _ (by decide)))) (by rw [lf];exact q1) lf')
  (bZ H rfl (two H rfl) (by rw [lb];exact q2) lb') (ai (two H rfl) (ab (H.ge rfl)) rfl))) rfl fun H=> ?_
 have e22:∀ {b:Bool},_:=fun {b}=>ab (G:=G) (F:=F) (b:=b) (H.ge (i:=22) rfl)
 refine bc (d:=dI (thN a p)) H (by decide) (bT dI (am e22 af Ad) rfl (fun h=> ?_) fun h=>bT dI (am e22 af Ah) rfl (fun h2=> ?_) fun h2=>af) fun H=> ?_
 ·have h:=of_decide_eq_true h
  exact bZ H rfl (aX (m:=4) (n:=cuN p) af (aC (ab (H.ge rfl)) af (uo P)) (by decide) (Nat.le_trans c5 (by decide))) (by rw [lb,show 4 * cuN p=2 * (2 * cuN p) from Nat.mul_assoc 2 2 _];exact Nat.mul_lt_mul_of_pos_left h (by decide)) lb'
 ·have h2:=of_decide_eq_true h2
  have e:((2 * cuN p:Nat):Int) - ((szN p:Nat):Int)=((2 * cuN p - szN p:Nat):Int):=(Int.ofNat_sub (Nat.le_of_lt h2)).symm
  have hd:2 * cuN p - szN p<szN p:=Nat.sub_lt_left_of_lt_add (Nat.le_of_lt h2) (by rw [← Nat.two_mul];exact q2)
  exact bZ H rfl (bD (n:=1) (aX (m:=2) (n:=2 * cuN p - szN p) af (e22.trans (by rw [e])) (by decide) (Nat.le_trans (Nat.le_of_lt hd) (Nat.le_trans hs5 (by decide)))) af (Nat.le_trans (Nat.sub_pos_of_lt h2) (Nat.le_mul_of_pos_left _ (by decide)))) (by rw [lf];exact Nat.lt_of_le_of_lt (Nat.sub_le _ _) (Nat.mul_lt_mul_of_pos_left hd (by decide))) lf'
 ·have h1:1≤2 * szN p:=Nat.le_trans P.sz1 (Nat.le_mul_of_pos_left _ (by decide))
  have b2:2≤2 * szN p:=Nat.le_mul_of_pos_right 2 P.sz1
  exact eA (x:= .bool false) (ji (r:=false) (s:=false) (am (x:=dI (whN a p)) (y:=dI (whN a p)) ((hV (m:=1) H rfl (by decide) (by rw [lf];exact h1) lf').trans (by rw [lf,M.f])) (ab (H.ge rfl)) (eW _)) fun _=>ji (r:=false) (s:=false)
   (am (x:=dI (whN a p)) (y:=dI (whN a p)) ((aE (m:=z1N a p) (n:=y1N a p) ((hV (m:=2) H rfl (by decide) (by rw [lf];exact b2) lf').trans (by rw [lf];rfl)) (bZ (k:=1) H rfl af (by rw [lb];exact b2) lb')).trans (by rw [M.zy];rfl)) (ab (H.ge rfl)) (eW _)) fun _ =>
   am (x:=dI (3 * f1N a p * s1N a p)) (y:=dI (3 * f1N a p * s1N a p)) ((aE (m:=thN a p) (n:=whN a p) (ab (H.ge rfl)) (ab (H.ge rfl))).trans (by rw [M.th];rfl)) (aX (aX (m:=3) af (ab (H.ge rfl)) (by decide) (Nat.le_trans M.fl (by decide))) (ab (H.ge rfl)) (Nat.le_trans (Nat.mul_le_mul_left 3 M.fl) (by decide)) (Nat.le_trans M.sl (by decide))) (eW _)) rfl
   (k (H.sub ⟨rfl,rfl,rfl,rfl,rfl,rfl,rfl,rfl,rfl,rfl,trivial⟩))
end
end Mine
set_option genSizeOf false
set_option genInjectivity false
namespace Mine
noncomputable def revB (a p:Nat):Bool:=pickL (bkN a p) none none (some (-1))==(bkN a p).reverse
theorem wG:(List.range 9).all (fun p=>(List.range (11 - 2 * szN p)).all fun a=>revB a p)=true:=by decide +kernel
theorem xU {a p:Nat} (hp:p<9) (hw:a<11 - 2 * szN p):pickL (bkN a p) none none (some (-1))=(bkN a p).reverse:=eq_of_beq (List.all_eq_true.mp (List.all_eq_true.mp wG p (List.mem_range.mpr hp)) a (List.mem_range.mpr hw))
section
variable {G:ag} {F:FEnv} {σ:MEnv} {a p d4:Nat} (P:Pair p) (M:Mark a p) {dr ri:D}
theorem mZ {x:Nat} (h:x≤1000):x ^ 2≤1000000:=Nat.pow_le_pow_left h 2
theorem jv {n:Nat} (h:n≤2000000):small (n:Int)=true:=aL (a:=(n:Int)) h (by decide)
theorem gQ {x:Int} {n d:Nat} (h:x.natAbs≤n) (hn:n≤9223372036854775807):small (sgN d * x)=true:=by
 refine aL (n:=n) ?_ hn
 rw [Int.natAbs_mul]
 rcases gs d with e |e<;>rw [e]<;>exact Nat.le_trans (Nat.le_of_eq (Nat.one_mul _)) h
variable (hDM:∀ a b:Int,small a=true→b≠0→small b=true→F "int_divmod" [.int a,.int b]=some (.tup [.int (a.fdiv b),.int (a.fmod b)]))
include hDM in
theorem xr {x u w:Int} (hu:u≠0) (hw:w≠0) (h1:small (u * (x * w))=true) (h2:small (u * w)=true):F "int_divmod" [.int (u * (x * w)),.int (u * w)]=some (.tup [.int x,.int 0]):=by
 rw [hDM _ _ h1 (Int.mul_ne_zero hu hw) h2,(pj hu hw).1,(pj hu hw).2]
include P M hDM
theorem qW (H:Has σ [(2,dr),(5,dI (szN p)),(7,.int (sgN d4)),(10,ri),(17,dn (bkN a p)),(18,dn (frN a p)),(19,dI (whN a p)),(20,dI (f1N a p)),(21,dI (s1N a p)),(23,dI (thN a p))])
  (k:∀ {σ':MEnv},Has σ' [(2,dr),(5,dI (szN p)),(10,ri),(17,dn (bkN a p)),(19,dI (whN a p))]→Tells (ex G F σ' s2t23)):Tells (ex G F σ s2t20):=by
 obtain ⟨lb,lf⟩:=gH (a:=a) P
 have z10:2 * szN p≤1000:=Nat.le_trans P.m1 (by decide)
 have b2:2≤2 * szN p:=Nat.le_mul_of_pos_right 2 P.sz1
 have lb':(bkN a p).length≤1000:=by rw [lb];exact z10
 have lf':(frN a p).length≤1000:=by rw [lf];exact z10
 have hs:=zE d4
 have ww:small (sgN d4 * (whN a p:Int))=true:=gQ (n:=1000) M.wl (by decide)
 have wws:small ((whN a p:Nat):Int)=true:=aP (Nat.le_trans M.wl (by decide))
 have q:((f1N a p ^ 2+s1N a p ^ 2:Nat):Int)=(thN a p:Int) * (whN a p:Int):=by rw [M.sq,Int.natCast_mul]
 have hq:f1N a p ^ 2+s1N a p ^ 2≤2000000:=Nat.add_le_add (b:=1000000) (d:=1000000) (mZ M.fl) (mZ M.sl)
 have e1:=xr hDM (x:=(thN a p:Int)) (u:=sgN d4) hs M.wz (by rw [← q];exact gQ (n:=2000000) hq (by decide)) ww
 have e2:F "int_divmod" [dI (z1N a p * y1N a p),dI (whN a p)]=some (.tup [dI (inN a p),dI 1]):=by
  refine (hDM _ _ (aP (Nat.le_trans (Nat.mul_le_mul M.zl M.yl) (by decide))) M.wz wws).trans ?_
  rw [ui,ug]
  have:z1N a p * y1N a p % whN a p=1:=by rw [M.inn,Nat.add_comm,Nat.add_mul_mod_self_right];exact Nat.mod_eq_of_lt M.w1
  rw [this];rfl
 have q3:sgN d4 * ((y1N a p ^ 2+1:Nat):Int) = -sgN d4 * (((inN a p:Int) - (y1N a p:Int)) * (whN a p:Int)):=by
  have h:((y1N a p ^ 2+1+inN a p * whN a p:Nat):Int)=((y1N a p * whN a p:Nat):Int):=congrArg Int.ofNat M.y2
  rw [Int.natCast_add,Int.natCast_mul,Int.natCast_mul] at h
  rw [show ((y1N a p ^ 2+1:Nat):Int)=(y1N a p:Int) * (whN a p:Int) - (inN a p:Int) * (whN a p:Int) by rw [← h,Int.add_sub_cancel],← Int.sub_mul,Int.neg_mul,← Int.mul_neg,← Int.neg_mul,Int.neg_sub]
 have hy:y1N a p ^ 2+1≤2000000:=Nat.add_le_add (b:=1000000) (d:=1000000) (mZ M.yl) (by decide)
 have ah:small (-sgN d4 * (whN a p:Int))=true:=by rw [Int.neg_mul,← Int.mul_neg];exact gQ (n:=1000) (by rw [Int.natAbs_neg];exact M.wl) (by decide)
 have e3:=xr hDM (x:=(inN a p:Int) - (y1N a p:Int)) (u:= -sgN d4) (fun e=>hs (Int.neg_eq_zero.mp e)) M.wz (by rw [← q3];exact gQ (n:=2000000) hy (by decide)) ah
 have ngs:small (-sgN d4)=true:=(gs d4).elim (fun h=>by rw [h];exact bv (by decide)) fun h=>by rw [h];exact bv (by decide)
 exact eA (x:= .bool false) (am (x:= .tup [dI (thN a p),.int 0]) (y:= .tup [dI (thN a p),.int 0]) (aw (aY ((ai (ab (H.ge rfl)) (aE (jg (m:=f1N a p) (k:=2) (ab (H.ge rfl)) af (Nat.le_trans M.fl (by decide)) (by decide)) (jg (m:=s1N a p) (k:=2) (ab (H.ge rfl)) af (Nat.le_trans M.sl (by decide)) (by decide))) (bW (dQ d4) (jv hq))).trans (by rw [q])) (ai (ab (H.ge rfl)) (ab (H.ge rfl)) (bW (dQ d4) wws))) e1) (ch (aY (ab (H.ge rfl)) af)) (dB (mH _ _))) rfl
  (bc H (by decide) (aw (aY (aX (m:=z1N a p) (n:=y1N a p) ((hV (m:=2) H rfl (by decide) (by rw [lf];exact b2) lf').trans (by rw [lf];rfl)) (bZ (k:=1) H rfl af (by rw [lb];exact b2) lb') (Nat.le_trans M.zl (by decide)) (Nat.le_trans M.yl (by decide))) (ab (H.ge rfl))) e2) fun H =>
  eA (x:= .bool false) (ji (r:=false) (s:=false) (am (x:=dI 1) (y:=dI 1) (aC (x:= .tup [dI (inN a p),dI 1]) (ab (H.ge rfl)) af rfl) af (eW 1)) fun _ =>
   am (x:= .tup [.int ((inN a p:Int) - (y1N a p:Int)),.int 0]) (y:= .tup [.int ((inN a p:Int) - (y1N a p:Int)),.int 0]) (aw (aY ((ai (ab (H.ge rfl)) (aE (n:=1) (jg (m:=y1N a p) (k:=2) (bZ (k:=1) H rfl af (by rw [lb];exact b2) lb') af (Nat.le_trans M.yl (by decide)) (by decide)) af) (bW (dQ d4) (jv hy))).trans (by rw [q3])) (ai (gk (x:= .int (sgN d4)) (ab (H.ge rfl)) rfl) (ab (H.ge rfl)) (bW ngs wws))) e3)
    (ch (aY (ai (aC (x:= .tup [dI (inN a p),dI 1]) (ab (H.ge rfl)) af rfl) (bZ (k:=1) H rfl af (by rw [lb];exact b2) lb') rfl) af)) (dB (mH _ _))) rfl
  (k (H.sub ⟨rfl,rfl,rfl,rfl,rfl,trivial⟩)))
end
end Mine
set_option genSizeOf false
set_option genInjectivity false
namespace Mine
theorem vW {m n:Nat} (h:m≤n):(2:Int) ^ m≤2 ^ n:=by
 have:=Int.ofNat_le.mpr (Nat.pow_le_pow_right (n:=2) (by decide) h)
 rw [Int.natCast_pow,Int.natCast_pow] at this
 exact this
section
variable {a p e:Nat} (P:Pair p) (M:Mark a p) (he:e<50)
include M
theorem mK:(whN a p:Int)<2 ^ Builtin.Int.intBits (whN a p)∧1≤Builtin.Int.intBits (whN a p)∧Builtin.Int.intBits (whN a p)≤10:=by
 have h0:(0:Int)≤(whN a p:Int):=Int.natCast_nonneg _
 refine ⟨(bi _ h0 _).mp (Nat.le_refl _),Nat.lt_of_not_le fun h=> ?_,(bi _ h0 10).mpr (Int.ofNat_lt.mpr (Nat.lt_of_le_of_lt M.wl (by decide)))⟩
 exact Int.not_lt.mpr (Int.ofNat_le.mpr (Nat.le_of_lt M.w1)) ((bi _ h0 0).mp h)
include P he
theorem rB:small (und (Builtin.Int.intBits (whN a p)+e) (iN (bkN a p).reverse))=true∧i2d (und (Builtin.Int.intBits (whN a p)+e) (iN (bkN a p).reverse)) (Builtin.Int.intBits (whN a p)+e)=iN (bkN a p).reverse:=by
 obtain ⟨h1,h2,h3⟩:=mK M
 obtain ⟨lb,_⟩:=gH (a:=a) P
 have hw:Builtin.Int.intBits (whN a p)+e≤60:=Nat.add_le_add (b:=10) (d:=50) h3 (Nat.le_of_lt he)
 generalize hW:Builtin.Int.intBits (whN a p)+e=W at *
 have hW1:1≤W:=hW▸Nat.le_trans h2 (Nat.le_add_right _ _)
 have hd:∀ d∈iN (bkN a p).reverse,0≤d∧d<2 ^ W:=fun d hd=>by
  obtain ⟨x,hx,rfl⟩:=List.mem_map.mp hd
  exact ⟨Int.natCast_nonneg x,Int.lt_of_le_of_lt (Int.ofNat_le.mpr (M.bl x (List.mem_reverse.mp hx))) (Int.lt_of_lt_of_le h1 (vW (hW▸Nat.le_add_right _ _)))⟩
 have hs:small (und W (iN (bkN a p).reverse))=true:=pT (k:=W * (iN (bkN a p).reverse).length) (bI W _ fun x hx=>(hd x hx).1) (kN W _ hd) (by
  rw [jn,List.length_reverse,lb]
  exact Nat.le_trans (Nat.mul_le_mul hw P.m1) (by decide))
 refine ⟨hs,?_⟩
 have hb:∃ t,bkN a p=whN a p :: t:=by
  have hl:0<(bkN a p).length:=by rw [lb];exact Nat.lt_of_lt_of_le Nat.zero_lt_one (Nat.le_trans P.sz1 (Nat.le_mul_of_pos_left _ (by decide)))
  unfold whN
  cases h:bkN a p with
  |nil=>rw [h] at hl;exact absurd hl (Nat.lt_irrefl 0)
  |cons x t=>exact ⟨t,rfl⟩
 obtain ⟨t,ht⟩:=hb
 have e:iN (bkN a p).reverse=iN t.reverse++[(whN a p:Int)]:=by
  rw [ht,List.reverse_cons]
  exact List.map_append
 rw [e] at hd hs ⊢
 exact lr hW1 (Nat.le_trans hw (by decide)) hd M.wz hs
end
section
variable {G:ag} {F:FEnv} {σ:MEnv} {a p d4:Nat} (P:Pair p) (M:Mark a p) (hr:pickL (bkN a p) none none (some (-1))=(bkN a p).reverse) {dr ri:D} (hD2:∀ ds,F "_digits2int" ds=d2iSpec ds) (hI:∀ ds,F "_int2digits" ds=i2dSpec ds)
include P M hr hD2 hI
theorem lB (i4:idxD dr (.int 4)=some (dI d4)) (H:Has σ [(2,dr),(5,dI (szN p)),(10,ri),(17,dn (bkN a p)),(19,dI (whN a p))])
  (k:∀ {σ':MEnv} {b:Nat},b<28→Has σ' [(5,dI (szN p)),(10,ri),(26,dI b)]→Tells (ex G F σ' s2t25)):Tells (ex G F σ s2t23):=by
 have he:d4 / 2 % 50<50:=Nat.mod_lt _ (by decide)
 obtain ⟨hs,hb⟩:=rB P M he
 obtain ⟨h1,h2,h3⟩:=mK M
 obtain ⟨lb,_⟩:=gH (a:=a) P
 have l10:(bkN a p).length≤10:=by rw [lb];exact P.m1
 have hw:Builtin.Int.intBits (whN a p)+d4 / 2 % 50≤60:=Nat.add_le_add (b:=10) (d:=50) h3 (Nat.le_of_lt he)
 have nn:∀ d∈iN (bkN a p).reverse,0≤d:=fun d hd=>by
  obtain ⟨x,_,rfl⟩:=List.mem_map.mp hd
  exact Int.natCast_nonneg x
 have hln:(iN (bkN a p).reverse).length≤10:=by rw [jn,List.length_reverse];exact l10
 have f1:=(hD2 [dZ (iN (bkN a p).reverse),dI (Builtin.Int.intBits (whN a p)+d4 / 2 % 50)]).trans (ku nn (Nat.le_trans hw (by decide)) (Nat.le_trans hln (by decide)) hs (Nat.le_trans (Nat.mul_le_mul hln hw) (by decide)))
 have f2:=(hI [.int _,dI (Builtin.Int.intBits (whN a p)+d4 / 2 % 50)]).trans (jT (bI _ _ nn) hs (Nat.le_trans h2 (Nat.le_add_right _ _)) (Nat.le_trans hw (by decide)))
 rw [hb] at f2
 have rv:∀ {σ:MEnv} {l:List (Nat×D)} {b:Bool} (H:Has σ l) (h:l.lookup 17=some (dn (bkN a p))),ev G F σ b (.sli (.var 17) (.cst .none) (.cst .none) (.un .USub (.cst (.int 1))))=some (dZ (iN (bkN a p).reverse)):=fun H h =>
  (bV (x:=dn (bkN a p)) (s':= .int (-1)) (ab (H.ge h)) aG aG rfl (gq (l':=none) (u':=none) (st':=some (-1)) rfl rfl rfl (by decide) (by rw [List.length_map];exact Nat.le_trans l10 (by decide)) (jR _ _ _ _ _))).trans (by rw [hr,← fy];rfl)
 exact s9 (x:=dI (Builtin.Int.intBits (whN a p)+d4 / 2 % 50)) (y:=dI (d4 / 100 % 28)) H (by decide) (by decide) (aY (aE (bw (x:=dI (whN a p)) (ab (H.ge rfl)) nC rfl) (bL 50 (fi 2 (dY H rfl i4) (by decide) (by decide)) (by decide))) (bL 28 (fi 100 (dY H rfl i4) (by decide) (by decide)) (by decide))) rfl fun H =>
  eA (am (aw (aY (aw (aY (rv H rfl) (ab (H.ge rfl))) f1) (ab (H.ge rfl))) f2) (rv H rfl) (gU _)) rfl (k (Nat.mod_lt _ (by decide)) (H.sub ⟨rfl,rfl,rfl,trivial⟩))
end
noncomputable def rsN (p:Nat):List Nat:=(riN p).dropLast
noncomputable def smN (p b:Nat):Nat:=((rsN p).map fun k=>2 ^ (b+szN p - 1 - k)).sum
noncomputable def pfB (h:Nat):Bool:=decide ((pfl 32 0 h).2.1.natAbs<18446744073709551616)&&sizeOk (2 * (pf h).length+((pf h).map (·.length)).sum)
noncomputable def flB (p b:Nat):Bool:=pfB (smN p b)&&((rsN p).isEmpty || decide (pf (smN p b)=(rsN p).map fun k=>wordN (b+k)))&&(rsN p).all fun k=>decide (k<szN p)
theorem qB:(List.range 9).all (fun p=>(List.range 28).all fun b=>flB p b)=true:=by decide +kernel
theorem vQ:Txt.join ", " (pf 0)=("0x0":Str):=by decide +kernel
section
variable {G:ag} {F:FEnv} {σ:MEnv}
theorem wY {k:Nat} (hk:k<32) (h34:getE σ 27=o (.str flagsS)) (h39:getE σ 31=o (dI k)) :
  ev G F σ false (.ite (.cmp .Lt (.var 31) (.cst (.int 10))) (.idx (.meth .split (.var 27) (.cons (.cst (.str " ")) .nil)) (.var 31)) (.bin .Add (.bin .Add (.cst (.str "0x")) (.idx (.cst (.str "1248")) (.bin .Mod (.var 31) (.cst (.int 4))))) (.bin .Mult (.cst (.str "0")) (.bin .FloorDiv (.var 31) (.cst (.int 4))))))=some (.str (wordN k)) :=
 bT D.str (rH (n:=10) (ab h39) af) rfl (fun h=>aC (bw (ab h34) (aR ei) vU) (ab h39) (j8 (f:=D.str) "" (de h:k<wordsL.length) (by decide))) fun _ =>
  have hm:=Nat.mod_lt k (show 0<4 by decide)
  have hd:k / 4<8:=Nat.div_lt_of_lt_mul hk
  ai (ai ei (aC ei (bL 4 (ab h39) (by decide)) (wc hm)) (jK (by decide) (mR _ hm).2)) (ai ei (fi 4 (ab h39) (by decide) (by decide)) (zp hd)) (jK (mR _ hm).1 (vE _ hd))
variable (hPf:∀ {h:Nat},(pfl 32 0 h).2.1.natAbs<18446744073709551616→sizeOk (2 * (pf h).length+((pf h).map (·.length)).sum)=true→F "pretty_flags" [dI h]=some (.str (Txt.join ", " (pf h)))) {p b:Nat} (P:Pair p) (hp:p<9) (hb:b<28)
include hPf P hp hb
theorem o7:∃ nm:Str,F "pretty_flags" [dI (smN p b)]=some (.str nm) ∧
  ∀ {σ:MEnv},getE σ 29=o (lst D.str ((rsN p).map fun k=>wordN (b+k)))→ev G F σ true (.ite (.var 29) (.meth .join (.cst (.str ", ")) (.cons (.var 29) .nil)) (.cst (.str "0x0")))=some (.str nm):=by
 have hl:(rsN p).length≤5:=by
  unfold rsN riN
  rw [List.length_dropLast]
  exact Nat.le_trans (Nat.sub_le _ _) (Nat.le_trans (List.length_filter_le _ _) (by rw [List.length_range];exact P.sz))
 have hz:((rsN p).map fun k=>wordN (b+k)).length≤1048576:=by rw [List.length_map];exact Nat.le_trans hl (by decide)
 refine aa (List.all_eq_true.mp (List.all_eq_true.mp qB p (List.mem_range.mpr hp)) b (List.mem_range.mpr hb)) fun h _=>aa h fun h h2=>aa h fun h3 h4=>⟨_,hPf (de h3) h4,fun {σ} h=> ?_⟩
 have tr:truthy (lst D.str ((rsN p).map fun k=>wordN (b+k)))=some (!(rsN p).isEmpty):=ao (aj (by rw [List.length_map];exact hz)) (by rw [List.isEmpty_map,List.isEmpty_map])
 cases he:(rsN p).isEmpty with
 |true =>
  have e0:rsN p=[]:=List.isEmpty_iff.mp he
  have s0:smN p b=0:=by unfold smN;rw [e0];rfl
  rw [he] at tr
  rw [s0,vQ]
  exact nj (r:=false) (ab h) tr (fun e=>nomatch e) fun _=>ei
 |false =>
  rw [he] at tr h2
  have e1:=of_decide_eq_true (h2:decide (pf (smN p b)=(rsN p).map fun k=>wordN (b+k))=true)
  rw [e1] at h4 ⊢
  exact nj (r:=true) (ab h) tr (fun _=>bw ei (aR (ab h)) (kR h4)) fun e=>nomatch e
theorem nT (H:Has σ [(5,dI (szN p)),(10,dn (riN p)),(26,dI b)]):Tells (ex G F σ s2t25):=by
 obtain ⟨nm,hnm,hj⟩:=o7 (G:=G) hPf P hp hb
 have hl:(riN p).length≤5:=Nat.le_trans (List.length_filter_le _ _) (by rw [List.length_range];exact P.sz)
 have hl2:(rsN p).length≤5:=by unfold rsN;rw [List.length_dropLast];exact Nat.le_trans (Nat.sub_le _ _) hl
 have hs:∀ k∈rsN p,k<szN p:=fun k hk=>aa (List.all_eq_true.mp (List.all_eq_true.mp qB p (List.mem_range.mpr hp)) b (List.mem_range.mpr hb)) fun _ h=>de (List.all_eq_true.mp h k hk)
 have cut:∀ {σ:MEnv} {l:List (Nat×D)} (H:Has σ l) (h:l.lookup 10=some (dn (riN p))),ev G F σ true (.sli (.var 10) (.cst .none) (.un .USub (.cst (.int 1))) (.cst .none))=some (dn (rsN p)):=fun H h=>bV (x:=dn (riN p)) (u':= .int (-1)) (ab (H.ge h)) aG rfl aG (mT (Nat.le_trans hl (by decide)))
 have il:iterD (dn (rsN p))=some ((rsN p).map dI):=cj (by rw [List.length_map];exact Nat.le_trans hl2 (by decide))
 exact bc (d:= .str flagsS) H (by decide) rfl fun H =>
  bc (d:=dn ((rsN p).map fun k=>b+k)) H (by decide) ((aZ (l:=rsN p) (inj:=dI) (y:=fun k=>dI (b+k)) rfl (bF (cut H rfl) il) (by rw [H.len];decide) fun k hk σ' h1 h2 _=>aE (ab (H.inn (j:=26) h2 (by decide) rfl)) (ab h1)).trans (congrArg (some ∘ D.list) (List.map_map (g:=dI) (f:=fun k=>b+k)).symm)) fun H =>
  bc (d:=lst D.str ((rsN p).map fun k=>wordN (b+k))) H (by decide) ((aZ (l:=(rsN p).map fun k=>b+k) (inj:=dI) (y:=fun k=> .str (wordN k)) rfl (bF (ab (H.ge rfl)) (cj (by rw [List.length_map,List.length_map];exact Nat.le_trans hl2 (by decide)))) (by rw [H.len];decide) fun k hk σ' h1 h2 _=>by
   obtain ⟨j,hj,rfl⟩:=List.mem_map.mp hk
   exact wY (Nat.lt_succ_of_le (Nat.add_le_add (b:=27) (d:=4) (Nat.le_of_lt_succ hb) (Nat.le_of_lt_succ (Nat.lt_of_lt_of_le (hs j hj) P.sz)))) (H.inn (j:=27) h2 (by decide) rfl) h1).trans (by unfold lst;rw [List.map_map,List.map_map];rfl)) fun H =>
  zA (am (x:= .str nm) (y:= .str nm) (aw (aR (aS (aR ((aZ (l:=rsN p) (inj:=dI) (y:=fun k=>dI (2 ^ (b+szN p - 1 - k))) rfl (bF (cut H rfl) il) (by rw [H.len];decide) fun k hk σ' h1 h2 _ =>
   jg (m:=2) af (bD (bD (n:=1) (aE (ab (H.inn (j:=26) h2 (by decide) rfl)) (ab (H.inn (j:=5) h2 (by decide) rfl))) af (Nat.le_trans P.sz1 (Nat.le_add_left _ _))) (ab h1) (Nat.le_sub_one_of_lt (Nat.lt_of_lt_of_le (hs k hk) (Nat.le_add_left _ _)))) (by decide) (Nat.le_trans (Nat.sub_le _ _) (Nat.le_trans (Nat.sub_le _ _) (Nat.le_trans (Nat.add_le_add (Nat.le_of_lt hb) P.sz) (by decide))))).trans (congrArg (some ∘ D.list) (List.map_map (g:=dI) (f:=fun k=>2 ^ (b+szN p - 1 - k))).symm)))
   (n7 (by rw [List.length_map];exact Nat.le_trans hl2 (by decide))))) hnm) (hj (H.ge rfl)) (yN nm))
end
end Mine
set_option genSizeOf false
set_option genInjectivity false
namespace Mine
theorem xF (p:Nat):∀ f∈fsN p,f≤2:=fun f hf=>by
 obtain ⟨k,_,rfl⟩:=List.mem_map.mp hf
 cases (riN p).contains (k / 2) with
 |true=>exact Nat.le_refl 2
 |false=>exact (by decide:1≤2)
theorem yR (p:Nat):(fsN p).length=lnN p:=(List.length_map _).trans List.length_range
theorem jf {x:List Nat} (h:shB x=true):Shrt x:=aa h fun h1 h2=>⟨de h1,fun q=>by rw [List.contains_iff_mem.mpr q] at h2;exact nomatch h2⟩
section
variable {a p:Nat} (hp:p<9) (hw:a<11 - 2 * szN p)
include hp hw
theorem uP:Shrt (wdN a (lnN p))∧(∀ x∈foN a p,Shrt x)∧Wd2 (wdN a (lnN p)) (foN a p):=by
 have hl:=ck ((fw hp).an hw)
 refine aa (List.all_eq_true.mp (List.all_eq_true.mp tX p (List.mem_range.mpr hp)) a (List.mem_range.mpr hw)) fun h h4=>aa h fun h h3=>aa h fun h1 h2=>⟨jf h1,fun x hx=>aa (List.all_eq_true.mp h3 x hx) fun h _=>jf h,?_⟩
 refine ⟨(jf h1).len,de h2,fun x hx=>aa (List.all_eq_true.mp h3 x hx) fun h5 h6=>⟨de h6,(jf h5).len⟩,fun k hk=> ?_⟩
 rw [hl] at hk
 exact aa (List.all_eq_true.mp h4 k (List.mem_range.mpr (Nat.lt_succ_of_le hk))) fun h5 h6=>⟨fun y hy=>de (List.all_eq_true.mp h5 y hy),fun y hy=>de (List.all_eq_true.mp h6 y hy)⟩
theorem sO {x:List Nat} (hx:x∈foN a p) {k m:Nat} (hk:k+x.length≤lnN p) (hm:m<4):emL (stPs x (wdN a (lnN p)) k m) (stGt x (wdN a (lnN p)) k m)=stB (wdN a (lnN p)) x k:=by
 have h:=List.all_eq_true.mp (List.all_eq_true.mp (List.all_eq_true.mp (List.all_eq_true.mp oE p (List.mem_range.mpr hp)) a (List.mem_range.mpr hw)) x hx) k (List.mem_range.mpr (Nat.lt_succ_of_le (Nat.le_trans (Nat.le_add_right _ _) hk)))
 rw [decide_eq_false (Nat.not_lt.mpr hk)] at h
 exact eq_of_beq (List.all_eq_true.mp h m (List.mem_range.mpr hm))
end
section
variable {G GS:ag} {fns fnS:List Fn} {b1L:List Int} {b3L:List (Int×Str)}
noncomputable def F2L (G GS:ag) (fns fnS:List Fn):FEnv:=fun f ds=>cond (f==nS) (FF GS fnS [] (fun _ _=>none) 300 f ds) (FL G fns 300 f ds)
theorem qd {α:Type} {b:Bool} {x y r:α} (h:b=true) (e:x=r):cond b x y=r:=by subst h;exact e
theorem jQ {α:Type} {b:Bool} {x y r:α} (h:b=false) (e:y=r):cond b x y=r:=by subst h;exact e
theorem cz {f:Str} {ds:List D} {r:Option D} (h:(f==nS)=false) (h2:(f==nR)=false) (e:FF G fns spn2 sp2 300 f ds=r):F2L G GS fns fnS f ds=r:=by
 unfold F2L FL;exact jQ h (jQ h2 e)
theorem zK {ds:List D}:F2L G GS fns fnS "_law_read" ds=readSpec ds:=by
 unfold F2L FL;exact jQ rfl (qd rfl rfl)
theorem zU {ds:List D} {r:Option D} (e:FF GS fnS [] (fun _ _=>none) 300 "_law_stock" ds=r):F2L G GS fns fnS "_law_stock" ds=r:=by
 unfold F2L;exact qd rfl e
theorem zG {a n pick noise:Nat} {fs:List Nat} (han:a+n≤9) (hf:fs.length=n) (hf2:∀ f∈fs,f≤2) (hdd:GS.dd=true) (hS1:∃ x,fnS.find? (fun x=>x.name==("_law_stock":Str))=some x∧x.ps.length=4∧x.tbl.length=11∧x.code=s2_law_stock) (hS2:∃ x,fnS.find? (fun x=>x.name==("_law_unseen":Str))=some x∧x.ps.length=0∧x.tbl.length=0∧x.code=s_law_unseen) :
  FF GS fnS [] (fun _ _=>none) 300 "_law_stock" [.str (mk (wdN a n)),dn fs,dI pick,dI noise]=some (dn (stkN a n fs pick noise)):=qz (k:=299) hS1 rfl (qy han hf hf2 (qz (k:=298) hS2 rfl rfl) hdd)
variable (C:xR G fns b1L b3L)
include C
theorem wd {a p:Nat} (hp:p<9) (hw:a<11 - 2 * szN p):FF G fns spn2 sp2 300 "_law_ways" [sS (wdN a (lnN p)),lst sS (foN a p)]=some (.tup [dn (bkN a p),dn (frN a p)]):=by
 obtain ⟨h1,h2,W⟩:=uP hp hw
 have hl:=ck ((fw hp).an hw)
 refine bB (k:=299) rfl C.ways rfl ((so W fun x hx k u hk _=> ?_).trans (by rw [hl];rfl))
 rw [hl] at hk
 refine (bB (k:=298) rfl C.stands rfl (nr (fun h1 h2 h3 h4 h5=>zk C.com (k:=297) h1 h2 h3 h4 h5) (h2 x hx) h1 (a:=k) (u:=u) (by rw [hl];exact Nat.le_trans (Nat.le_add_right _ _) hk))).trans ?_
 rw [sO hp hw hx hk (Nat.mod_lt _ (by decide))]
variable (T:ij b1L b3L) (J:jO b1L b3L) (hdd:GS.dd=true) (hS1:∃ x,fnS.find? (fun x=>x.name==("_law_stock":Str))=some x∧x.ps.length=4∧x.tbl.length=11∧x.code=s2_law_stock) (hS2:∃ x,fnS.find? (fun x=>x.name==("_law_unseen":Str))=some x∧x.ps.length=0∧x.tbl.length=0∧x.code=s_law_unseen)
include T J hdd hS1 hS2
theorem ng {ns:List Int} (hns:ns.length≤63):run G (F2L G GS fns fnS) 34 s2t0 [.list (ns.map .int)]=some (.bool true):=by
 have hDM:∀ a b:Int,small a=true→b≠0→small b=true→F2L G GS fns fnS "int_divmod" [.int a,.int b]=some (.tup [.int (a.fdiv b),.int (a.fmod b)]):=fun a b h1 h2 h3=>cz rfl rfl (xi C.com (by decide) h1 h2 h3)
 have hI:∀ ds,F2L G GS fns fnS "_int2digits" ds=i2dSpec ds:=fun ds=>cz rfl rfl (om (k:=299) (by decide))
 have hD2:∀ ds,F2L G GS fns fnS "_digits2int" ds=d2iSpec ds:=fun ds=>cz rfl rfl (oD (k:=299) (by decide))
 have t:Tells (ex G (F2L G GS fns fnS) (o (dZ ns) :: List.replicate 33 none) s2t0) :=
  nw hns ⟨rfl,fun h=>eK h (fun e1 e2=>by rw [e1,← e2];rfl) fun _ h=>ah h⟩ fun {_ d0 d1 d2 d3 d4} h1 H =>
  oa hDM (d0:=d0) (d1:=d1) (d2:=d2) (d4:=d4) h1 rfl rfl rfl rfl H fun H=>by
   have hp:=xQ d0
   have P:=fw hp
   have hw:aW d0 d2<11 - 2 * szN (d0 % 9):=Nat.mod_lt _ (Nat.pos_of_ne_zero P.m2)
   have han:=P.an hw
   have M:=w8 hp hw
   have hSt:F2L G GS fns fnS "_law_stock" [.str (mk (wdN (aW d0 d2) (lnN (d0 % 9)))),dn (fsN (d0 % 9)),dI d2,dI d3]=some (dn (stkN (aW d0 d2) (lnN (d0 % 9)) (fsN (d0 % 9)) d2 d3)) :=
    zU (zG han (yR _) (xF _) hdd hS1 hS2)
   exact qC (fun p=>cz rfl rfl (zc C.com (k:=299))) (fun p=>cz rfl rfl (zI C.com (k:=299))) (cz rfl rfl (o9 C.com (k:=299))) (fun vs h1 h2=>cz rfl rfl (bB (k:=299) rfl C.octets rfl (lD h1 h2))) (fun ds=>zK) P han T J (d2:=d2) (d3:=d3) rfl rfl hSt (xF _) (cz rfl rfl (wd C hp hw)) H fun H =>
    pN P M H fun H=>qW P M hDM H fun H=>lB P M (xU hp hw) hD2 hI (d4:=d4) rfl H fun hb H =>
    nT (fun h1 h2=>cz rfl rfl (bB (k:=299) rfl C.com.f1 rfl (yh C.com.nm h1 h2))) P hp hb H
 obtain ⟨σ',h⟩:=t
 exact aD _ rfl h
end
end Mine
set_option genSizeOf false
set_option genInjectivity false
namespace Mine
noncomputable def g2:ag:=gOf T2
noncomputable def fns2:List Fn:=sigs2.map (mkFn T2)
noncomputable def b1L2:List Int:=(g2.iset "b1_set").getD []
noncomputable def b3L2:List (Int×Str):=(g2.idict "b3_exceptions").getD []
theorem Af:uF g2 fns2 b1L2 b3L2 where
 lim:=by kernel_rfl
 mark:=by kernel_rfl
 b1:=by kernel_rfl
 b3:=by kernel_rfl
 nm:=by kernel_rfl
 f1:=⟨mkFn T2 (sigs2.getD 0 lsig2),by kernel_rfl,by kernel_rfl,by kernel_rfl,by kernel_rfl⟩
 f2:=⟨mkFn T2 (sigs2.getD 1 lsig2),by kernel_rfl,by kernel_rfl,by kernel_rfl,by kernel_rfl⟩
 f3:=⟨mkFn T2 (sigs2.getD 2 lsig2),by kernel_rfl,by kernel_rfl,by kernel_rfl,by kernel_rfl⟩
 f4:=⟨mkFn T2 (sigs2.getD 3 lsig2),by kernel_rfl,by kernel_rfl,by kernel_rfl,by kernel_rfl⟩
 f5:=⟨mkFn T2 (sigs2.getD 4 lsig2),by kernel_rfl,by kernel_rfl,by kernel_rfl,by kernel_rfl⟩
 f6:=⟨mkFn T2 (sigs2.getD 5 lsig2),by kernel_rfl,by kernel_rfl,by kernel_rfl,by kernel_rfl⟩
 f7:=⟨mkFn T2 (sigs2.getD 6 lsig2),by kernel_rfl,by kernel_rfl,by kernel_rfl,by kernel_rfl⟩
 f8:=⟨mkFn T2 (sigs2.getD 7 lsig2),by kernel_rfl,by kernel_rfl,by kernel_rfl,by kernel_rfl⟩
theorem zr:xR g2 fns2 b1L2 b3L2 where
 com:=Af
 octets:=⟨mkFn T2 (sigs2.getD 8 lsig2),by kernel_rfl,by kernel_rfl,by kernel_rfl,by kernel_rfl⟩
 stands:=⟨mkFn T2 (sigs2.getD 9 lsig2),by kernel_rfl,by kernel_rfl,by kernel_rfl,by kernel_rfl⟩
 ways:=⟨mkFn T2 (sigs2.getD 10 lsig2),by kernel_rfl,by kernel_rfl,by kernel_rfl,by kernel_rfl⟩
noncomputable def fnS2:List Fn:=sgS2.map (mkFn T2)
theorem kB:∃ x,fnS2.find? (fun x=>x.name==("_law_stock":Str))=some x∧x.ps.length=4∧x.tbl.length=11∧x.code=s2_law_stock:=⟨mkFn T2 (sgS2.getD 1 lsig2),by kernel_rfl,by kernel_rfl,by kernel_rfl,by kernel_rfl⟩
theorem lZ:∃ x,fnS2.find? (fun x=>x.name==("_law_unseen":Str))=some x∧x.ps.length=0∧x.tbl.length=0∧x.code=s_law_unseen:=⟨mkFn T2 (sgS2.getD 0 lsig2),by kernel_rfl,by kernel_rfl,by kernel_rfl,by kernel_rfl⟩
theorem Aw:ij b1L2 b3L2:=⟨by decide +kernel,by decide +kernel⟩
theorem As:jO b1L2 b3L2:=⟨by decide +kernel⟩
end Mine
namespace Mine
theorem law2_holds (said:l2.row.wellSaid=true):l2.row.Holds:=nF said fun ns hns=>ng (GS:=gD T2) (fnS:=fnS2) zr Aw As rfl kB lZ hns
end Mine
set_option maxRecDepth 100000 in
set_option maxHeartbeats 8000000 in
theorem PySem.Challenge.cw_ta0109_02_holds : PySem.Challenge.rw_ta0109_02.Holds := by
 exact holds_law (by decide +kernel) Mine.law2_holds
