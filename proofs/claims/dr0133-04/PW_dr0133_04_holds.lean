import PyProof.Rows.All
import Wide.All
import OpenK.AllK
import Wide.FinOn
import KE.KPar
import PySem.Challenge.RW_dr0133_04
set_option genInjectivity false
set_option genSizeOf false
set_option Elab.async false
set_option maxRecDepth 100000
set_option linter.unusedVariables false
set_option linter.unusedSimpArgs false
set_option hygiene false in
local macro_rules
  | `(tactic| rcases _ : $e with $p) => `(tactic| (refine Classical.byContradiction fun kk0 => ?_; rcases $e:term with $p <;> (refine kk0 ?_; clear kk0)))
  | `(tactic| decreasing_trivial) => `(tactic| solve_by_elim (maxDepth := 5) only [Nat.le_trans, Nat.lt_of_lt_of_le, Nat.lt_of_le_of_lt, Nat.le_of_lt, Nat.le_of_eq, Eq.symm, Nat.le_succ, Nat.le_add_right, Nat.le_add_left, Nat.lt_succ_self, Nat.succ_le_succ, *])
open PySem PySem.W PyProof.Rows
section
set_option maxHeartbeats 8000000
theorem Mine.said : OpenLaw.wellSaid PySem.Challenge.rw_dr0133_04 = true := by kernel_rfl
open_top hd for (PySem.Challenge.rw_dr0133_04.row)
end
section
set_option tactic.hygienic false
set_option backward.match.sparseCases false
namespace Mine
theorem jA {a b c:Nat}(h:a<=b)(k:b<=c):a<=c:=Nat.le_trans h k
theorem jB {a b c:Nat}(h:a<=b)(k:b<c):a<c:=Nat.lt_of_le_of_lt h k
theorem jC {a b c:Nat}(h:a<b)(k:b<=c):a<c:=Nat.lt_of_lt_of_le h k
theorem jD (n:Nat):n<=n:=Nat.le_refl n
theorem jE {a b:Nat}(h:a=b):a<=b:=Nat.le_of_eq h
theorem jF {a b:Nat}(h:a<b):a<=b:=Nat.le_of_lt h
theorem jG (a b:Nat):a<=a+b:=Nat.le_add_right a b
theorem jH {a b c d:Nat}(h:a<=b)(k:c<=d):a+c<=b+d:=Nat.add_le_add h k
theorem jI {α:Type}{a b:α}(h:some a=some b):a=b:=Option.some.inj h
theorem jJ {α:Type}{a b:α}(h:a∈[b]):a=b:=List.mem_singleton.mp h
theorem jK {α:Type}(y:α){a:α}{l:List α}(h:a∈l):a∈y::l:=List.mem_cons_of_mem y h
theorem jL {α:Type}{a:α}{l:List α}:a∈a::l:=List.mem_cons_self
inductive BI where
 | len|chr|sum|range|list|set|sorted|str|dict
 | lAppend|lPop|lExtend|lIndex|lSort
 | sJoin|sRsplit|sSplit
 | dItems|dGet|eAdd
 deriving DecidableEq,Inhabited
noncomputable def BI.val:BI->Value
 | .len=>.builtin "len" | .chr=>.builtin "chr" | .sum=>.builtin "sum" | .sorted=>.builtin "sorted"
 | .range=>.type "range" | .list=>.type "list" | .set=>.type "set" | .str=>.type "str" | .dict=>.type "dict"
 | .lAppend=>.builtin "list.append" | .lPop=>.builtin "list.pop" | .lExtend=>.builtin "list.extend" | .lIndex=>.builtin "list.index" | .lSort=>.builtin "list.sort"
 | .sJoin=>.builtin "str.join" | .sRsplit=>.builtin "str.rsplit" | .sSplit=>.builtin "str.split"
 | .dItems=>.builtin "dict.items" | .dGet=>.builtin "dict.get" | .eAdd=>.builtin "set.add"
inductive AV where
 | none
 | bool (b:Bool)
 | int (i:Int)
 | str (s:Str)
 | lit (s:Str)
 | tup (xs:List AV)
 | fl (xs:List AV)
 | fd (ks:List Str) (xs:List AV)
 | ws (ks:List Str)
 | loc (l:Nat)
 | obj (d:Nat)
 | fn (a:Addr)
 | bf (b:BI)
 | bm (b:BI) (x:AV)
 | mt (f:Addr) (x:AV)
 | rng (a b:Int)
 | iv (x:AV)
 deriving Inhabited
inductive AObj where
 | list (xs:List AV)
 | dict (kvs:List (Str×AV))
 | set (ks:List Str)
 | attrs (fs:List (Option AV))
 | code
 deriving Inhabited
noncomputable abbrev Store:=List AObj
noncomputable abbrev Vs:=List (Option AV)
structure Fn where
 qual:Str
 pars:List Str
 body:List Stmt
 scope:Scope
 dfl:List AV
 kwd:List (Str×AV)
 kws:List Str
structure Tab where
 gl:List (Str×AV)
 fn:List (Addr×Fn)
 C:Addr
 ini:Addr
 an:List Str
 ms:List (Str×Addr)
 mu:Nat->Bool
 lits:Nat->Bool
 lam:Pos
noncomputable def norm (v:AV):AV:=match v with
 | .lit s=>.str s
 | v=>v
noncomputable def q5r (ns:List Str) (vs:Vs) (x:Str):Option AV:=match vs[ns.idxOf x]? with|some (some v)=>some v|_=>none
noncomputable def putV (ns:List Str) (vs:Vs) (x:Str) (v:AV):Vs:=vs.set (ns.idxOf x) (some v)
noncomputable def locV:AV->Option Nat | .loc l=>some l|_=>none
noncomputable def strV:AV->Option Str | .str s=>some s|_=>none
noncomputable def intV:AV->Option Int | .int i=>some i|_=>none
noncomputable def q0r (σ:Store):AV->Option (List AV)
 | .fl xs=>some xs
 | .loc l=>match σ[l]? with|some (.list xs)=>some xs|_=>none
 | _=>none
noncomputable def w0c (σ:Store) (l:Nat):Option (List (Str×AV)):=match σ[l]? with|some (.dict kvs)=>some kvs|_=>none
noncomputable def q0k (σ:Store):AV->Option (List (Str×AV))
 | .fd ks xs=>some (ks.zip xs)
 | .loc l=>w0c σ l
 | _=>none
noncomputable def z9l (σ:Store):AV->Option (List Str)
 | .loc l=>match σ[l]? with|some (.set ks)=>some ks|_=>none
 | _=>none
noncomputable def q1f:List AV->Option (List Str)
 | []=>some []
 | .str s::r=>(q1f r).map (s :: ·)
 | .lit s::r=>(q1f r).map (s :: ·)
 | _::_=>none
noncomputable def w0r:List AV->Option (List Int)
 | []=>some []
 | .int s::r=>(w0r r).map (s :: ·)
 | _::_=>none
noncomputable def q3g (σ:Store):AV->Option Bool
 | .none=>some false
 | .bool b=>some b
 | .int i=>some (i !=0)
 | .str s=>some (s.length !=0)
 | .fl xs=>some (!xs.isEmpty)
 | .fd ks _=>some (!ks.isEmpty)
 | .loc l=>match σ[l]? with
  | some (.list xs)=>some (!xs.isEmpty)
  | some (.dict kvs)=>some (!kvs.isEmpty)
  | _=>none
 | _=>none
noncomputable def catA (a b:Str):Option Str:=if a.length+b.length<=sizeLine then some (a++b)else none
noncomputable def k8b (xs:List AV):Option (List AV):=if xs.length<=sizeLine then some xs else none
noncomputable def q3w (xs:List AV):Nat->List AV
 | 0=>[]
 | n+1=>xs++q3w xs n
noncomputable def addA (σ:Store) (a b:AV):Option AV:=match a with
 | .int i=>(intV b).map λ j=>.int (i+j)
 | .str x=>(strV b).bind λ y=>(catA x y).map .str
 | a=>(q0r σ a).bind λ xs=>(q0r σ b).bind λ ys=>(k8b (xs++ys)).map .fl
noncomputable def mulA (σ:Store) (a b:AV):Option AV:=(intV b).bind λ j=>match a with
 | .int i=>if j.natAbs<2 ^ 30 then some (.int (i * j))else none
 | a=>(q0r σ a).bind λ xs=>if xs.length * j.toNat<=sizeLine/\j.natAbs<2 ^ 30 then some (.fl (q3w xs j.toNat))else none
noncomputable def modA (a b:AV):Option AV:=(intV a).bind λ i=>(intV b).bind λ j=>if j=0 then none else some (.int (i.fmod j))
noncomputable def v0t (a b:AV):Option AV:=(intV a).bind λ i=>(intV b).bind λ j=>if j=0\/j.natAbs≥2 ^ 30 then none else some (.int (i.fdiv j))
noncomputable def binA (σ:Store) (op:Operator) (a b:AV):Option AV:=match op with
 | .Add=>addA σ a b
 | .Mult=>mulA σ a b
 | .Mod=>modA a b
 | .FloorDiv=>v0t a b
 | _=>none
noncomputable def optC {α β:Type} (o:Option α) (f:α->β) (x:β):β:=match o with|some a=>f a|none=>x
noncomputable def q0t (k:Str):List (Str×AV)->Option AV
 | []=>none
 | (x,v)::r=>if x=k then some v else q0t k r
noncomputable def z7u (a b:AV):Option Bool:=match a with
 | .int i=>(intV b).map λ j=>decide (i=j)
 | .str x=>(strV b).map λ y=>decide (x=y)
 | _=>none
noncomputable def eqDs (kb:List (Str×AV)):List (Str×AV)->Option Bool
 | []=>some true
 | kv::r=>optC (q0t kv.1 kb) (λ y=>(z7u kv.2 y).bind λ a=>(eqDs kb r).map λ b=>a&&b) (some false)
noncomputable def eqA (σ:Store) (a b:AV):Option Bool:=(z7u a b).orElse λ _=>(q0k σ a).bind λ ka=>(q0k σ b).bind λ kb=>if ka.length=kb.length then eqDs kb ka else some false
noncomputable def inA (σ:Store) (a b:AV):Option Bool:=(strV a).bind λ x=>match b with
 | .str y=>some (PySem.Txt.contains y x)
 | b=>((q0r σ b).bind λ ys=>(q1f ys).map (·.contains x)).orElse λ _=>((z9l σ b).map λ ks=>ks.contains x).orElse λ _=>(q0k σ b).map λ kvs=>(kvs.map (·.1)).contains x
noncomputable def isA (a b:AV):Option Bool:=match b with
 | .none=>match a with
  | .none=>some true
  | _=>none
 | _=>none
noncomputable def ltA (f:Int->Int->Bool) (a b:AV):Option Bool:=(intV a).bind λ i=>(intV b).map λ j=>f i j
noncomputable def cmpA (σ:Store) (op:CmpOp) (a b:AV):Option Bool:=match op with
 | .Eq=>eqA σ a b
 | .NotEq=>(eqA σ a b).map (!·)
 | .Lt=>ltA (λ i j=>decide (i<j)) a b
 | .Gt=>ltA (λ i j=>decide (i > j)) a b
 | .In=>inA σ a b
 | .NotIn=>(inA σ a b).map (!·)
 | .Is=>isA a b
 | .IsNot=>(isA a b).map (!·)
 | _=>none
noncomputable abbrev Res:=Option (AV×Store)
noncomputable def z7q:Const->Option AV
 | .none=>some .none
 | .bool b=>some (.bool b)
 | .int i=>some (.int i)
 | .str s=>if s.length<=sizeLine then some (.str s)else Option.none
 | _=>Option.none
noncomputable def idxA (n:Nat) (i:Int):Option Nat:=if i.natAbs<2 ^ 30 then seqIndex? i n else none
noncomputable def q1a (k:Str) (v:AV) (kvs:List (Str×AV)):List (Str×AV):=
 if kvs.any (λ kv=>kv.1=k)then kvs.map (λ kv=>if kv.1=k then(kv.1,v)else kv)else kvs++[(k,v)]
noncomputable def q1y (n:Nat):Str:=⟨#[n]⟩
noncomputable def getA (σ:Store) (o i:AV):Option AV:=match i with
 | .int i=>match o with
  | .tup xs=>(idxA xs.length i).bind (xs[·]?)
  | .str s=>(idxA s.length i).bind λ k=>s.cps[k]?.map λ c=>.str (q1y c)
  | o=>(q0r σ o).bind λ xs=>(idxA xs.length i).bind (xs[·]?)
 | .str k=>(q0k σ o).bind (q0t k)
 | _=>none
noncomputable def k6f (xs:List AV) (lo hi:Option Int):List AV:=(xs.take (hi.elim xs.length (clipAt xs.length))).drop (lo.elim 0 (clipAt xs.length))
noncomputable def k5e:AV->Option (Option Int)
 | .none=>some Option.none
 | .int i=>some (some i)
 | _=>Option.none
noncomputable def j9i (σ:Store) (o:AV) (lo hi:Option Int):Option AV:=match o with
 | .str s=>some (.str (PySem.Txt.slice s lo hi))
 | o=>(q0r σ o).map λ xs=>.fl (k6f xs lo hi)
noncomputable def k6d (σ:Store) (o lo hi st:AV):Option AV:=(k5e lo).bind λ lo=>(k5e hi).bind λ hi=>match st with
 | .none=>j9i σ o lo hi
 | .int i=>if i = -1/\lo.isNone=true/\hi.isNone=true then(q0r σ o).map λ xs=>.fl xs.reverse else none
 | _=>none
noncomputable def q8c (T:Tab) (x:Str):Nat:=T.an.idxOf x
noncomputable def w8r (σ:Store) (d:Nat):Option (List (Option AV)):=match σ[d]? with|some (.attrs fs)=>some fs|_=>none
noncomputable def w1p (T:Tab) (σ:Store) (o:AV) (x:Str):Option AV:=match o with
 | .obj d=>(w8r σ d).bind λ fs=>optC fs[q8c T x]? id ((T.ms.lookup x).map λ f=>.mt f (.obj d))
 | .loc l=>match σ[l]? with
  | some (.list _)=>if x=("append" : Str)then some (.bm .lAppend (.loc l))else none
  | _=>none
 | _=>none
noncomputable def q0q (T:Tab) (σ:Store) (o:AV) (x:Str) (v:AV):Option Store:=match o with
 | .obj d=>(w8r σ d).bind λ fs=>if q8c T x<fs.length then some (σ.set d (.attrs (fs.set (q8c T x) (some v))))else none
 | _=>none
inductive Callee where
 | val (f:AV)
 | fn (f:Addr) (self:AV)
 | bi (b:BI) (self:AV)
noncomputable def q1j (σ:Store) (l:Nat):Option (List AV):=match σ[l]? with|some (.list xs)=>some xs|_=>none
noncomputable def setC (σ:Store) (l:Nat):Option (List Str):=match σ[l]? with|some (.set ks)=>some ks|_=>none
noncomputable def j4u:AV->Option (Str×Str)
 | .tup [.str a,.str b]=>some (a,b)
 | _=>none
noncomputable def q1e (i:Int):Str:=Str.ofString (toString i)
noncomputable def z2e:List (Str×BI):=[("append",.lAppend),("pop",.lPop),("extend",.lExtend),("index",.lIndex),("sort",.lSort)]
noncomputable def z0s:List (Str×BI):=[("join",.sJoin),("rsplit",.sRsplit),("split",.sSplit)]
noncomputable def w2m:List (Str×BI):=[("items",.dItems),("get",.dGet)]
noncomputable def z8y:List (Str×BI):=[("add",.eAdd)]
noncomputable def q0l (T:Tab) (σ:Store) (o:AV) (x:Str):Option Callee:=match o with
 | .obj d=>(w8r σ d).bind λ fs=>optC fs[q8c T x]? (Option.map .val) ((T.ms.lookup x).map λ f=>.fn f (.obj d))
 | .str s=>(z0s.lookup x).map (.bi · (.str s))
 | .fd ks xs=>(w2m.lookup x).map (.bi · (.fd ks xs))
 | .loc l=>optC (q1j σ l) (λ _=>(z2e.lookup x).map (.bi · (.loc l))) (optC (setC σ l) (λ _=>(z8y.lookup x).map (.bi · (.loc l))) ((w0c σ l).bind λ _=>(w2m.lookup x).map (.bi · (.loc l))))
 | _=>none
noncomputable def addK (k:Str) (ks:List Str):List Str:=if ks.contains k then ks else ks++[k]
noncomputable def q1i (ks:List Str):List Str->List Str:=List.foldl (λ a k=>addK k a) ks
noncomputable def z2u (a b:Int):List AV:=(List.range (b - a).toNat).map λ(k:Nat)=>.int (a+(k:Int))
noncomputable def q8r (s:Str):List AV:=s.cps.toList.map λ c=>.str (q1y c)
noncomputable def q2g (_:Store):AV->Option (List AV)
 | .fl xs=>some xs
 | .rng a b=>if a.natAbs<2 ^ 30/\b.natAbs<2 ^ 30 then some (z2u a b)else none
 | .str s=>some (q8r s)
 | _=>none
noncomputable def popA (xs:List AV):Option (List AV×AV):=match xs.getLast? with
 | some v=>some (xs.dropLast,v)
 | .none=>.none
noncomputable def ivV:AV->Option AV | .iv d=>some d|_=>none
noncomputable def one:List AV->Option AV | [x]=>some x|_=>none
noncomputable def two:List AV->Option (AV×AV) | [x,y]=>some (x,y)|_=>none
noncomputable def three:List AV->Option (AV×AV×AV) | [x,y,z]=>some (x,y,z)|_=>none
noncomputable def getP:List AV->Option (AV×AV×AV) | [x,y]=>some (x,y,.none) | [x,y,z]=>some (x,y,z)|_=>none
noncomputable def rngP:List AV->Option (AV×AV) | [y]=>some (.int 0,y) | [x,y]=>some (x,y)|_=>none
noncomputable def lenA (v:AV) (σ:Store):Option Nat:=(q0r σ v).elim ((q0k σ v).map (·.length)) λ xs=>some xs.length
noncomputable def v1c (v:AV) (σ:Store):Res:=(q0k σ v).bind λ kvs=>some (.fl (kvs.map λ kv=>.str kv.1),σ)
noncomputable def w9r:List AV->Option (List (Str×Str))
 | []=>some []
 | x::r=>(j4u x).bind λ p=>(w9r r).map (p :: ·)
noncomputable def q0c (p:Str×Str):AV:=.tup [.str p.1,.str p.2]
noncomputable def w0v (a b:Str×Str):Bool:=if a.1=b.1 then decide (a.2.cps.toList<=b.2.cps.toList)else decide (a.1.cps.toList<=b.1.cps.toList)
noncomputable def q5k (xs:List Str):List Str:=xs.mergeSort λ a b=>decide (a.cps.toList<=b.cps.toList)
noncomputable def q0u (xs:List (Str×Str)):List (Str×Str):=xs.mergeSort w0v
noncomputable def z1y (kvs:List (Str×AV)):Option (List (Str×Str)):=(q1f (kvs.map (·.2))).map λ vs=>(kvs.map (·.1)).zip vs
noncomputable def z6x (v:AV) (σ:Store):Res:=optC (ivV v) (λ d=>(q0k σ d).bind λ kvs=>(z1y kvs).bind λ ps=>if ps.length<5 then some (.fl ((q0u ps).map q0c),σ)else none)
 (optC (q0k σ v) (λ kvs=>if(kvs.map (·.1)).length<64 then some (.fl ((q5k (kvs.map (·.1))).map .str),σ)else none)
  ((q0r σ v).bind λ xs=>optC (q1f xs) (λ ts=>if ts.length<64 then some (.fl ((q5k ts).map .str),σ)else none) ((w9r xs).bind λ ps=>if ps.length<5 then some (.fl ((q0u ps).map q0c),σ)else none)))
noncomputable def j7s (x y:AV) (v:AV) (σ:Store):Res:=(strV y).bind λ k=>(q0k σ x).map λ kvs=>((q0t k kvs).getD v,σ)
noncomputable def biA (b:BI) (args:List AV) (σ:Store):Res:=match b with
 | .lAppend=>(two args).bind λ(x,v)=>(locV x).bind λ l=>(q1j σ l).bind λ xs=>if xs.length<sizeLine then some (.none,σ.set l (.list (xs++[v])))else none
 | .lPop=>(one args).bind λ x=>(locV x).bind λ l=>(q1j σ l).bind λ xs=>(popA xs).map λ(r,v)=>(v,σ.set l (.list r))
 | .sJoin=>(two args).bind λ(x,v)=>(strV x).bind λ s=>(q0r σ v).bind λ xs=>(q1f xs).bind λ ts=>if(ts.map (·.length)).sum+ts.length * s.length<=sizeLine then some (.str (PySem.Txt.join s ts),σ)else none
 | .lExtend=>(two args).bind λ(x,v)=>(locV x).bind λ l=>(q1j σ l).bind λ xs=>(q0r σ v).bind λ ys=>if xs.length+ys.length<=sizeLine then some (.none,σ.set l (.list (xs++ys)))else none
 | .lIndex=>(two args).bind λ(x,v)=>(locV x).bind λ l=>(q1j σ l).bind λ xs=>(strV v).bind λ s=>(q1f xs).bind λ ts=>if ts.contains s then some (.int (ts.idxOf s:Nat),σ)else none
 | .lSort=>(one args).bind λ x=>(locV x).bind λ l=>(q1j σ l).bind λ xs=>(w9r xs).bind λ ps=>if ps.length<5 then some (.none,σ.set l (.list ((q0u ps).map q0c)))else none
 | .sSplit=>(two args).bind λ(x,y)=>(strV x).bind λ s=>(strV y).bind λ c=>if c.length≠0/\(PySem.Txt.split s c).length<=sizeLine then some (.fl ((PySem.Txt.split s c).map .str),σ)else none
 | .str=>(one args).bind λ x=>(intV x).bind λ i=>if i.natAbs<10 ^ 6 then some (.str (q1e i),σ)else none
 | .dict=>(one args).bind λ x=>(q0k σ x).bind λ kvs=>if kvs.length<=15 then some (.loc σ.length,σ++[.dict kvs])else none
 | .sRsplit=>(three args).bind λ(x,y,z)=>(strV x).bind λ s=>(strV y).bind λ c=>(intV z).bind λ k=>if c.length≠0/\k.natAbs<2 ^ 30/\(PySem.Txt.rsplitMax s c k).length<=sizeLine then some (.fl ((PySem.Txt.rsplitMax s c k).map .str),σ)else none
 | .dItems=>(one args).bind λ d=>(q0k σ d).map λ _=>(.iv d,σ)
 | .dGet=>(getP args).bind λ(x,y,z)=>j7s x y z σ
 | .eAdd=>(two args).bind λ(x,y)=>(locV x).bind λ l=>(strV y).bind λ k=>(setC σ l).bind λ ks=>if ks.length+1<scanBound then some (.none,σ.set l (.set (addK k ks)))else none
 | .len=>(one args).bind λ v=>(lenA v σ).map λ(n:Nat)=>(AV.int (n:Int),σ)
 | .chr=>(one args).bind λ x=>(intV x).bind λ i=>if 0<=i/\i<1114112 then some (.str (q1y i.toNat),σ)else none
 | .sum=>(one args).bind λ v=>(q0r σ v).bind λ xs=>(w0r xs).bind λ is=>some (.int is.sum,σ)
 | .range=>(rngP args).bind λ(x,y)=>(intV x).bind λ a=>(intV y).bind λ b=>some (.rng a b,σ)
 | .list=>(one args).bind λ v=>v1c v σ
 | .sorted=>(one args).bind λ x=>z6x x σ
 | .set=>if args.isEmpty then some (.loc σ.length,σ++[.set []])else none
inductive q0b where
 | next
 | ret (v:AV)
noncomputable abbrev Kinds:=List (Str×NameKind)
noncomputable abbrev ResS:=Option (q0b×Vs×Store)
structure Ev where
 e:Kinds->List Str->Expr->Vs->Store->Res
 t:Kinds->List Str->Expr->Vs->Store->Option (Bool×Store)
 a:Kinds->List Str->Expr->AV->Vs->Store->Option (Vs×Store)
 s:Kinds->List Str->Stmt->Vs->Store->ResS
noncomputable def q9c:Expr->Bool
 | .Starred _ _=>true
 | _=>false
noncomputable def j6v:Expr->Option (Expr×List Expr×List Keyword×Pos) | .Call f a k p=>some (f,a,k,p)|_=>none
noncomputable def j2j:Expr->Option (Expr×Str×Pos) | .Attribute o x p=>some (o,x,p)|_=>none
noncomputable def k0g:Expr->Option Str | .Name x _=>some x|_=>none
noncomputable def z1l:Expr->Option Const | .Constant c _ _=>some c|_=>none
noncomputable def j0n:Expr->Option (Const×Nat) | .Constant c _ p=>some (c,p.line)|_=>none
noncomputable def litV:AV->Option Str | .lit s=>some s|_=>none
noncomputable def intC:Const->Option Int | .int i=>some i|_=>none
noncomputable def subP:Expr->Option (Expr×Expr) | .Subscript o i _=>some (o,i)|_=>none
noncomputable def j4c:Option NameKind->Bool
 | some .local=>true
 | some .cell=>true
 | some .free=>true
 | _=>false
noncomputable def j4b (ks:Kinds) (x:Str):Bool:=!(x==("__debug__" : Str)||x==("__classdict__" : Str))&&j4c (ks.lookup x)
noncomputable def strC:Const->Option Str | .str s=>some s|_=>none
noncomputable def j9o:Expr->Option Expr | .Starred e _=>some e|_=>none
noncomputable def k5h:Expr->Option (Option Expr×Option Expr×Option Expr) | .Slice lo hi st _=>some (lo,hi,st)|_=>none
noncomputable def oneP {α:Type}:List α->Option α | [x]=>some x|_=>none
noncomputable def kwP:Keyword->Option (Str×Arguments×Expr×Scope×Pos)|⟨some kw,.Lambda la lb sc p,_⟩=>some (kw,la,lb,sc,p)|_=>none
noncomputable def twoP:List Expr->Option (Expr×Expr) | [a,b]=>some (a,b)|_=>none
noncomputable abbrev q0a:=Addr->List AV->List (Str×AV)->Store->Res
section
variable (T:Tab) (C:q0a) (r:Ev) (ks:Kinds) (ns:List Str)
noncomputable def z1r (ev:Expr->Vs->Store->Res):List Expr->Vs->Store->Option (List AV×Store)
 | [],_,σ=>some ([],σ)
 | e::es,vs,σ=>if q9c e then none else do
  let (v,σ) <-ev e vs σ
  let (xs,σ) <-z1r ev es vs σ
  some (v::xs,σ)
noncomputable abbrev evals:List Expr->Vs->Store->Option (List AV×Store):=z1r (r.e ks ns)
noncomputable def rawC (ex:Expr):Option Str:=(j0n ex).bind λ q=>(strC q.1).bind λ s=>if T.lits q.2/\s.length<=sizeLine then some s else none
noncomputable def rawE (ex:Expr) (vs:Vs) (σ:Store):Res:=optC (rawC T ex) (λ s=>some (.lit s,σ)) (r.e ks ns ex vs σ)
noncomputable def litN (ex:Expr) (vs:Vs):Option AV:=(k0g ex).bind λ x=>if j4b ks x then q5r ns vs x else none
noncomputable def litA (ex:Expr) (vs:Vs) (σ:Store):Option Str:=optC (z1l ex) (λ c=>(strC c).bind λ s=>if s.length<=sizeLine then some s else none)
 (optC (k0g ex) (λ _=>(litN ks ns ex vs).bind litV) ((subP ex).bind λ q=>(litN ks ns q.1 vs).bind λ v=>(z1l q.2).bind λ c=>(intC c).bind λ i=>(getA σ v (.int i)).bind litV))
noncomputable def q8d:List Keyword->Vs->Store->Option (List (Str×AV)×Store)
 | [],_,σ=>some ([],σ)
 | k::es,vs,σ=>k.arg.bind λ n=>do
  let (v,σ) <-r.e ks ns k.value vs σ
  let (xs,σ) <-q8d es vs σ
  some ((n,v)::xs,σ)
noncomputable def z6d (args:List AV) (kws:List (Str×AV)) (σ:Store):Res:=do
 let (v,σ') <-C T.ini (.obj σ.length::args) kws (σ++[.attrs (T.an.map λ _=>.none)])
 match v with
 | .none=>some (.obj σ.length,σ')
 | _=>none
noncomputable def k3v (b:BI):Bool:=b==.lAppend||b==.sJoin
noncomputable def q0i (f:AV) (args:List AV) (kws:List (Str×AV)) (σ:Store):Res:=match f with
 | .fn a=>if a=T.C then z6d T C args kws σ else C a args kws σ
 | .bf b=>if kws.isEmpty then biA b args σ else none
 | .bm b x=>if(kws.isEmpty&&k3v b)=true then biA b (x::args) σ else none
 | .mt a x=>C a (x::args) kws σ
 | _=>none
noncomputable def q0g (f:Callee) (args:List AV) (kws:List (Str×AV)) (σ:Store):Res:=match f with
 | .val f=>q0i T C f args kws σ
 | .fn a x=>C a (x::args) kws σ
 | .bi b x=>if kws.isEmpty then biA b (x::args) σ else none
noncomputable def w4x:List Expr->Vs->Store->Option (Bool×Store)
 | [],_,σ=>some (true,σ)
 | c::cs,vs,σ=>do
  let (b,σ) <-r.t ks ns c vs σ
  if b then w4x cs vs σ else some (false,σ)
noncomputable def j3a (op:BoolOp):List Expr->Vs->Store->Res
 | [],_,_=>none
 | [e],vs,σ=>r.e ks ns e vs σ
 | e::es,vs,σ=>do
  let (v,σ) <-r.e ks ns e vs σ
  let b <-q3g σ v
  match op,b with
  | .And,false=>some (v,σ)
  | .Or,true=>some (v,σ)
  | _,_=>j3a op es vs σ
noncomputable def allA (op:BoolOp):List Expr->Vs->Store->Option (Bool×Store)
 | [],_,σ=>some (decide (op = .And),σ)
 | e::es,vs,σ=>do
  let (b,σ) <-r.t ks ns e vs σ
  match op,b with
  | .And,false=>some (false,σ)
  | .Or,true=>some (true,σ)
  | _,_=>allA op es vs σ
noncomputable def fmtV:AV->Option Str
 | .str s=>some s
 | .int i=>if i.natAbs<10 ^ 10 then some (q1e i)else none
 | _=>none
noncomputable def v0z (vs:Vs) (x:Expr) (k:Str->Store->Option (Str×Store)) (acc:Str) (σ:Store):Option (Str×Store):=match x with
 | .Constant c _ _=>(strC c).bind λ s=>(catA acc s).bind λ a=>k a σ
 | .FormattedValue e cv sp _=>if cv = -1/\sp.isNone=true then do
  let (v,σ) <-r.e ks ns e vs σ
  (fmtV v).bind λ s=>(catA acc s).bind λ a=>k a σ
  else none
 | _=>none
noncomputable def w9c (vs:Vs):List Expr->Str->Store->Option (Str×Store)
 | []=>λ acc σ=>if acc.length<=sizeLine then some (acc,σ)else none
 | x::es=>λ acc σ=>v0z r ks ns vs x (w9c vs es) acc σ
end
noncomputable def z5y {β:Type} (f:AV->β->Store->Option (β×Store)):List AV->β->Store->Option (β×Store)
 | [],b,σ=>some (b,σ)
 | x::xs,b,σ=>(f x b σ).bind λ p=>z5y f xs p.1 p.2
noncomputable def k4h {β:Type} (l n:Nat) (f:AV->β->Store->Option (β×Store)):Nat->β->Store->Option (β×Store)
 | 0,b,σ=>(q1j σ l).bind λ xs=>if xs.length=n then some (b,σ)else none
 | j+1,b,σ=>(q1j σ l).bind λ xs=>if xs.length=n then xs[n - (j+1)]?.bind λ x=>(f x b σ).bind λ p=>k4h l n f j p.1 p.2 else none
noncomputable def q1h {β:Type} (v:AV) (f:AV->β->Store->Option (β×Store)) (b:β) (σ:Store):Option (β×Store):=match v with
 | .loc l=>(q1j σ l).bind λ xs=>k4h l xs.length f xs.length b σ
 | v=>(q2g σ v).bind λ xs=>z5y f xs b σ
noncomputable def q1r:Expr->Bool
 | .Set _ _ _=>false
 | _=>true
noncomputable def goOk:AV->Expr->Bool
 | .iv _,.Tuple _ _ _=>true
 | .iv _,_=>false
 | _,_=>true
section
variable (T:Tab) (C:q0a) (r:Ev)
noncomputable def z1i {β:Type} (ks:Kinds) (ns:List Str) (emit:Vs->β->Store->Option (β×Store)):List Comprehension->Expr->List Expr->AV->Vs×β->Store->Option ((Vs×β)×Store)
 | [],target,ifs,src,b,σ=>if !goOk src target then none else q1h src (λ x (b:Vs×β) σ=>do
   let (vs,σ) <-r.a ks ns target x b.1 σ
   let (ok,σ) <-w4x r ks ns ifs vs σ
   if ok then do
    let (acc,σ) <-emit vs b.2 σ
    some ((vs,acc),σ)
   else some ((vs,b.2),σ)) b σ
 | g::gs,target,ifs,src,b,σ=>if !goOk src target then none else q1h src (λ x (b:Vs×β) σ=>do
   let (vs,σ) <-r.a ks ns target x b.1 σ
   let (ok,σ) <-w4x r ks ns ifs vs σ
   if ok then do
    let (v,σ) <-r.e ks ns g.iter vs σ
    if q1r g.iter then z1i ks ns emit gs g.target g.ifs v (vs,b.2) σ else none
   else some ((vs,b.2),σ)) b σ
noncomputable def q0z (names:Kinds):List Str:=(names.filter λ(_,k)=>k==.local).map (·.1)
noncomputable def k2m (ks:Kinds) (sc:Scope):Bool:=
 (sc.kind==.function)&&(sc.names.lookup ("resolved_names" : Str)).isNone&&(sc.names.map (·.1)).Nodup&&sc.names.all λ(n,k)=>k==.local||k==.globalImplicit||(k==.free&&(ks.lookup n==some .cell||ks.lookup n==some .free))
noncomputable def k2l {β:Type} (ks:Kinds) (ns:List Str) (b0:β) (emit:Kinds->List Str->Vs->β->Store->Option (β×Store)) (gens:List Comprehension) (sc:Scope) (vs:Vs) (σ:Store):Option (β×Store):=match gens with
 | []=>none
 | g::gs=>do
  let (v,σ) <-r.e ks ns g.iter vs σ
  if q1r g.iter&&k2m ks sc&&(g::gs).all (λ g=>g.is_async==0)then do
   let cn:=q0z sc.names
   let ((_,acc),σ) <-z1i r sc.names (cn++ns) (emit sc.names (cn++ns)) gs g.target g.ifs v (cn.map (λ _=>none)++vs,b0) σ
   some (acc,σ)
  else none
noncomputable def q1z (mu:Bool) (kvs:List (Str×AV)) (σ:Store):Res:=if mu then some (.loc σ.length,σ++[.dict kvs])else some (.fd (kvs.map (·.1)) (kvs.map (·.2)),σ)
noncomputable def k9h (mu:Bool) (ks:List Str) (σ:Store):Res:=if ks.length<scanBound then(if mu then none else some (.ws ks,σ))else none
noncomputable def z1n (ks:Kinds) (ns:List Str):List (Option Expr)->List Expr->Vs->Store->Option (List (Str×AV)×Store)
 | [],[],_,σ=>some ([],σ)
 | some k::kk,v::vv,vs,σ=>do
  let (x,σ) <-r.e ks ns k vs σ
  let (y,σ) <-r.e ks ns v vs σ
  match x with
  | .str s=>do
   let (rest,σ) <-z1n ks ns kk vv vs σ
   some ((s,y)::rest,σ)
  | _=>none
 | _,_,_,_=>none
noncomputable def q2n (kvs:List (Str×AV)):List (Str×AV):=kvs.foldl (λ a kv=>q1a kv.1 kv.2 a) []
noncomputable def w5e (s:Str):List Nat×Option (List Nat):=
 (s.cps.toList.takeWhile (· !=125),if s.cps.toList.contains 125 then some ((s.cps.toList.dropWhile (· !=125)).drop 1)else none)
noncomputable def k3w (a b:Str):Bool:=
 let (x,u):=w5e a
 let (y,v):=w5e b
 if x=y then(match u,v with
  | none,_=>true
  | some _,none=>false
  | some p,some q=>decide (p<=q))
 else decide (x<=y)
noncomputable def q4b (xs:List Str):List Str:=xs.mergeSort k3w
noncomputable def w2q (σ:Store):Bool:=match σ[(0:Nat)]? with|some AObj.code=>true|_=>false
noncomputable def argP (la:Arguments):Option Str:=if la.posonlyargs.isEmpty&&la.vararg.isNone&&la.kwonlyargs.isEmpty&&la.kw_defaults.isEmpty&&la.kwarg.isNone&&la.defaults.isEmpty then(match la.args with
 | [a]=>if a.annotation.isNone then some a.arg else none
 | _=>none)else none
noncomputable def j4f (n:Str) (lb:Expr):Bool:=(j6v lb).any λ(f,as,kws,cp)=>kws.isEmpty&&((twoP as).any λ(a,b)=>z1l a==some (.str "}")&&z1l b==some (.int 1))&&
 (j2j f).any λ(o,sp,ap)=>sp==("split" : Str)&&ap.endLine==cp.line&&k0g o==some n
noncomputable def w2t (la:Arguments) (lb:Expr) (sc:Scope):Bool:=(argP la).any λ n=>j4f n lb&&(sc.kind==.function&&!sc.isGenerator&&!sc.isCoroutine&&sc.names.lookup n==some .local&&(sc.names.lookup ("resolved_names" : Str)).isNone&&
 sc.names.all (λ p=>p.2==.local||p.2==.globalImplicit)&&!(n==("__debug__" : Str))&&!(n==("__classdict__" : Str))&&n==("n" : Str))
noncomputable def z8g:Option AV->Bool|some (.bf b)=>b==.sorted|_=>false
noncomputable def k1a (x:AV) (σ:Store):Res:=match x with
 | .ws xs=>if xs.length<5/\w2q σ then some (.fl ((q4b xs).map .str),σ)else none
 | _=>none
noncomputable def q5t:Expr->Bool
 | .Call (.Name id _) [] [] _=>id !=("super" : Str)
 | _=>true
noncomputable def q0j (mu:Bool) (xs:List AV) (σ:Store):Res:=if mu then some (.loc σ.length,σ++[.list xs])else some (.fl xs,σ)
noncomputable def j8o (ks:Kinds) (ns:List Str) (x:Str) (vs:Vs) (σ:Store):Res:=if x==("__debug__" : Str)||x==("__classdict__" : Str)then none else
 if j4c (ks.lookup x)then(q5r ns vs x).map (λ v=>(norm v,σ))else if ks.lookup x==some .globalImplicit then(T.gl.lookup x).map (·,σ)else none
noncomputable def unE (ks:Kinds) (ns:List Str) (op:UnaryOp) (e:Expr) (vs:Vs) (σ:Store):Res:=match op with
 | .Not=>do
  let (x,σ) <-r.e ks ns e vs σ
  let b <-q3g σ x
  some (.bool (!b),σ)
 | .USub=>do
  let (x,σ) <-r.e ks ns e vs σ
  (intV x).bind λ i=>some (.int (-i),σ)
 | _=>none
noncomputable def j9e (ks:Kinds) (ns:List Str) (e d:Expr) (p:Pos) (vs:Vs) (σ:Store):Res:=if q9c e then none else do
  let (x,σ) <-r.e ks ns e vs σ
  let (y,σ) <-r.e ks ns d vs σ
  (strV x).bind λ s=>(q0k σ y).bind λ kvs=>if kvs.length<=3 then k9h (T.mu p.line) (q1i [s] (kvs.map (·.1))) σ else none
noncomputable def setE (ks:Kinds) (ns:List Str) (es:List Expr) (k:Nat) (p:Pos) (vs:Vs) (σ:Store):Res:=if k=0 then(match es with
 | [e,d]=>(j9o d).bind λ d=>j9e T r ks ns e d p vs σ
 | _=>none)else none
noncomputable def k9p (ks:Kinds) (ns:List Str) (vs:Vs) (o:Option Expr) (σ:Store):Res:=match o with|some e=>r.e ks ns e vs σ|none=>some (.none,σ)
noncomputable def j1n (ks:Kinds) (ns:List Str) (o:Expr) (lo hi st:Option Expr) (vs:Vs) (σ:Store):Res:=do
  let (x,σ) <-r.e ks ns o vs σ
  let (l,σ) <-k9p r ks ns vs lo σ
  let (h,σ) <-k9p r ks ns vs hi σ
  let (s,σ) <-k9p r ks ns vs st σ
  let v <-k6d σ x l h s
  some (v,σ)
noncomputable def subE (ks:Kinds) (ns:List Str) (o i:Expr) (vs:Vs) (σ:Store):Res:=optC (k5h i) (λ p=>j1n r ks ns o p.1 p.2.1 p.2.2 vs σ) (do
  let (x,σ) <-r.e ks ns o vs σ
  let (y,σ) <-r.e ks ns i vs σ
  let v <-getA σ x y
  some (norm v,σ))
noncomputable def cmpE (ks:Kinds) (ns:List Str) (a:Expr) (op:CmpOp) (b:Expr) (vs:Vs) (σ:Store):Option (Bool×Store):=if behindInMarks op b then none else do
  let (x,σ) <-r.e ks ns a vs σ
  let (y,σ) <-r.e ks ns b vs σ
  let v <-cmpA σ op x y
  some (v,σ)
noncomputable def j9c (ks:Kinds) (ns:List Str) (o:Expr) (args:List Expr) (kws:List Keyword) (vs:Vs) (σ:Store):Res:=do
   let (v,σ) <-r.e ks ns o vs σ
   (strV v).bind λ s=>(twoP args).bind λ(a,b)=>if kws.isEmpty then(litA ks ns a vs σ).bind λ p=>(litA ks ns b vs σ).bind λ q=>
    if p≠q/\s.length+(s.length+1) * q.length<=sizeLine then some (.str (PySem.Txt.replace s p q),σ)else none else none
noncomputable def j8k (ks:Kinds) (ns:List Str) (o:Expr) (x:Str) (args:List Expr) (kws:List Keyword) (vs:Vs) (σ:Store):Res:=do
  let (v,σ) <-r.e ks ns o vs σ
  let f <-q0l T σ v x
  let (xs,σ) <-evals r ks ns args vs σ
  let (kvs,σ) <-q8d r ks ns kws vs σ
  q0g T C f xs kvs σ
noncomputable def j6u (ks:Kinds) (ns:List Str) (f:Expr) (args:List Expr) (kws:List Keyword) (vs:Vs) (σ:Store):Res:=do
  let (v,σ) <-r.e ks ns f vs σ
  let (xs,σ) <-evals r ks ns args vs σ
  let (kvs,σ) <-q8d r ks ns kws vs σ
  q0i T C v xs kvs σ
noncomputable def v1t (ks:Kinds) (ns:List Str) (f:Expr) (args:List Expr) (l:Str×Arguments×Expr×Scope×Pos) (vs:Vs) (σ:Store):Res:=(k0g f).bind λ f=>(oneP args).bind λ e=>
  if z8g (T.gl.lookup f)&&!q9c e&&ks.lookup f==some .globalImplicit&&l.1==("key" : Str)&&w2t l.2.1 l.2.2.1 l.2.2.2.1&&l.2.2.2.2==T.lam&&(ks.lookup ("resolved_names" : Str)).isSome&&!(f==("__debug__" : Str))then do
   let (x,σ) <-r.e ks ns e vs σ
   k1a x σ
  else none
noncomputable def j6d (ks:Kinds) (ns:List Str) (f:Expr) (args:List Expr) (kws:List Keyword) (cp:Pos) (vs:Vs) (σ:Store):Res:=optC (j2j f) (λ q=>if !q5t q.1||q.2.2.endLine !=cp.line||28<=args.length+kws.length then none else if q.2.1==("replace" : Str)then j9c r ks ns q.1 args kws vs σ else j8k T C r ks ns q.1 q.2.1 args kws vs σ)
  (optC ((oneP kws).bind kwP) (λ l=>v1t T r ks ns f args l vs σ) (j6u T C r ks ns f args kws vs σ))
noncomputable def k3a (elt:Expr) (ks:Kinds) (ns:List Str) (vs:Vs) (acc:List AV) (σ:Store):Option (List AV×Store):=do
 let (v,σ) <-r.e ks ns elt vs σ
 if acc.length<sizeLine then some (acc++[v],σ)else none
noncomputable def k2z (k e:Expr) (ks:Kinds) (ns:List Str) (vs:Vs) (acc:List (Str×AV)) (σ:Store):Option (List (Str×AV)×Store):=do
 let (x,σ) <-r.e ks ns k vs σ
 let (y,σ) <-r.e ks ns e vs σ
 (strV x).bind λ s=>if acc.length<sizeLine then some (q1a s y acc,σ)else none
noncomputable def evE (ks:Kinds) (ns:List Str) (ex:Expr) (vs:Vs) (σ:Store):Res:=match ex with
 | .Constant c _ _=>(z7q c).map (·,σ)
 | .Name x _=>j8o T ks ns x vs σ
 | .BoolOp op es _=>j3a r ks ns op es vs σ
 | .BinOp a op b _=>do
  let (x,σ) <-r.e ks ns a vs σ
  let (y,σ) <-r.e ks ns b vs σ
  let v <-binA σ op x y
  some (v,σ)
 | .UnaryOp op e _=>unE r ks ns op e vs σ
 | .IfExp t a b _=>do
  let (c,σ) <-r.t ks ns t vs σ
  if c then r.e ks ns a vs σ else r.e ks ns b vs σ
 | .Compare a ops bs _=>(oneP ops).bind λ op=>(oneP bs).bind λ b=>if behindInMarks op b then none else do
  let (x,σ) <-r.e ks ns a vs σ
  let (y,σ) <-r.e ks ns b vs σ
  let v <-cmpA σ op x y
  some (.bool v,σ)
 | .List es p=>do
  let (xs,σ) <-z1r (rawE T r ks ns) es vs σ
  if xs.length<=sizeLine then q0j (T.mu p.line) xs σ else none
 | .Tuple es _ _=>do
  let (xs,σ) <-evals r ks ns es vs σ
  if xs.length<=sizeLine then some (.tup xs,σ)else none
 | .ListComp elt gens sc p=>do
  let (acc,σ) <-k2l r ks ns [] (k3a r elt) gens sc vs σ
  q0j (T.mu p.line) acc σ
 | .DictComp k e gens sc p=>do
  let (acc,σ) <-k2l r ks ns [] (k2z r k e) gens sc vs σ
  q1z (T.mu p.line) acc σ
 | .Dict kk vv p=>do
  let (kvs,σ) <-z1n r ks ns kk vv vs σ
  if kk.length<=15 then q1z (T.mu p.line) (q2n kvs) σ else none
 | .Set es k p=>setE T r ks ns es k p vs σ
 | .Subscript o i _=>subE r ks ns o i vs σ
 | .Attribute o x _=>if !q5t o then none else do
  let (v,σ) <-r.e ks ns o vs σ
  let u <-w1p T σ v x
  some (norm u,σ)
 | .JoinedStr es _=>do
  let (s,σ) <-w9c r ks ns vs es Str.empty σ
  some (.str s,σ)
 | .Call f args kws cp=>j6d T C r ks ns f args kws cp vs σ
 | _=>none
noncomputable def evT (ks:Kinds) (ns:List Str) (ex:Expr) (vs:Vs) (σ:Store):Option (Bool×Store):=match ex with
 | .UnaryOp op e p=>(match op with
  | .Not=>do
   let (b,σ) <-r.t ks ns e vs σ
   some (!b,σ)
  | _=>do
   let (x,σ) <-r.e ks ns (.UnaryOp op e p) vs σ
   let b <-q3g σ x
   some (b,σ))
 | .BoolOp op es _=>allA r ks ns op es vs σ
 | .IfExp _ _ _ _=>none
 | .Compare a ops bs _=>(oneP ops).bind λ op=>(oneP bs).bind λ b=>cmpE r ks ns a op b vs σ
 | e=>do
  let (x,σ) <-r.e ks ns e vs σ
  let b <-q3g σ x
  some (b,σ)
noncomputable def q1v (ks:Kinds) (x:Str):Bool:=ks.lookup x==some .local||ks.lookup x==some .cell
noncomputable def asC {α:Type} (xs:List AV) (k:AV->List AV->Option α):Option α:=match xs with|x::r=>k x r|_=>none
noncomputable def asE (xs:List AV) (vs:Vs) (σ:Store):Option (Vs×Store):=match xs with | []=>some (vs,σ)|_=>none
noncomputable def putE (xs:List AV) (vs:Vs):Option Vs:=match xs with | []=>some vs|_=>none
noncomputable def assigns (ks:Kinds) (ns:List Str):List Expr->List AV->Vs->Store->Option (Vs×Store)
 | []=>λ xs vs σ=>asE xs vs σ
 | t::ts=>λ xs vs σ=>if q9c t then none else asC xs λ x xs=>do
  let (vs,σ) <-r.a ks ns t x vs σ
  assigns ks ns ts xs vs σ
noncomputable def q1n (σ:Store):AV->Option (List AV)
 | .tup xs=>some xs
 | v=>q0r σ v
noncomputable def evA (ks:Kinds) (ns:List Str) (t:Expr) (v:AV) (vs:Vs) (σ:Store):Option (Vs×Store):=match t with
 | .Name x _=>if q1v ks x then some (putV ns vs x v,σ)else none
 | .Tuple ts _ _=>do
  let xs <-q1n σ v
  assigns r ks ns ts xs vs σ
 | .Attribute o x _=>do
  let (u,σ) <-r.e ks ns o vs σ
  let σ <-q0q T σ u x v
  some (vs,σ)
 | .Subscript o i _=>do
  let (u,σ) <-r.e ks ns o vs σ
  let (y,σ) <-r.e ks ns i vs σ
  (locV u).bind λ l=>(strV y).bind λ k=>(w0c σ l).bind λ kvs=>if kvs.length<sizeLine then some (vs,σ.set l (.dict (q1a k v kvs)))else none
 | _=>none
set_option tactic.hygienic true in noncomputable def q0w (ks:Kinds) (ns:List Str):List Stmt->Vs->Store->ResS
 | [],vs,σ=>some (.next,vs,σ)
 | s::ss,vs,σ=>do
  let (f,vs,σ) <-r.s ks ns s vs σ
  match f with
  | .next=>q0w ks ns ss vs σ
  | .ret v=>some (.ret v,vs,σ)
set_option tactic.hygienic true in noncomputable def forA (f:AV->Vs->Store->ResS):List AV->Vs->Store->ResS
 | [],vs,σ=>some (.next,vs,σ)
 | x::xs,vs,σ=>(f x vs σ).bind λ p=>match p.1 with
  | .next=>forA f xs p.2.1 p.2.2
  | .ret v=>some (.ret v,p.2.1,p.2.2)
noncomputable def frozen:AV->Bool
 | .loc _=>false
 | .iv _=>false
 | _=>true
noncomputable def q7l (ks:Kinds) (ns:List Str) (v:AV):List Expr->Vs->Store->Option (Vs×Store)
 | [],vs,σ=>some (vs,σ)
 | t::ts,vs,σ=>do
  let (vs,σ) <-r.a ks ns t v vs σ
  q7l ks ns v ts vs σ
noncomputable def augA (op:Operator) (old v:AV):Option AV:=match op with
 | .Add=>(strV old).bind λ x=>(strV v).bind λ y=>(catA x y).map .str
 | _=>none
set_option backward.match.sparseCases true in
noncomputable def j5k (ks:Kinds) (targets:List Expr) (value:Expr):Option (Option (List Str)):=match targets,value with
 | [.Tuple ts _ _],.Tuple vs _ _=>
  if !(ts.length==2||ts.length==3)||vs.length !=ts.length then some none
  else if vs.any (λ | .Starred ..=>true|_=>false)then some none
  else
   let line:=(ts.head?.map (·.pos.line)).getD 0
   let names:=ts.filterMap fun
    | .Name id pos=>if ks.lookup id==some .local&&pos.line==line then some id else none
    | _=>none
   if names.length !=ts.length||names.eraseDups.length !=names.length then some none
   else if vs.all (foldedForSure 8)then some none
   else if vs.all (constantsAlone 8)then none
   else some (some names)
 | [.List _ _],.Tuple _ _ _=>none
 | _,_=>some none
noncomputable def z8x (ns:List Str) (ks:Kinds):List Str->List AV->Vs->Option Vs
 | []=>λ us vs=>putE us vs
 | x::xs=>λ us vs=>asC us λ v us=>if q1v ks x then z8x ns ks xs us (putV ns vs x v)else none
noncomputable def w8q (ks:Kinds) (ns:List Str) (ts:List Expr) (ex:Expr) (v:AV) (vs:Vs) (σ:Store):Option (Vs×Store):=(j5k ks ts ex).bind λ o=>
 optC o (λ names=>(q1n σ v).bind λ xs=>(z8x ns ks names.reverse xs.reverse vs).map (·,σ)) (q7l r ks ns v ts vs σ)
noncomputable def w0s:Expr->Bool
 | .ListComp ..=>true
 | .SetComp ..=>true
 | .DictComp ..=>true
 | _=>false
noncomputable def augN (ks:Kinds) (ns:List Str) (x:Str) (op:Operator) (e:Expr) (vs:Vs) (σ:Store):ResS:=if q1v ks x&&!(x==("__classdict__" : Str))then do
   let old <-q5r ns vs x
   let (v,σ) <-r.e ks ns e vs σ
   let new <-augA op (norm old) v
   some (.next,putV ns vs x new,σ)
  else none
noncomputable def delP (ts:List Expr):Option Expr:=(oneP ts).bind λ t=>(subP t).bind λ q=>(k5h q.2).bind λ z=>if z.1.isNone=true/\z.2.1.isNone=true/\z.2.2.isNone=true then some q.1 else none
noncomputable def evS (ks:Kinds) (ns:List Str) (st:Stmt) (vs:Vs) (σ:Store):ResS:=match st with
 | .Expr e _=>if w0s e then none else do
  let (_,σ) <-r.e ks ns e vs σ
  some (.next,vs,σ)
 | .Return o _=>optC o (λ e=>do
  let (v,σ) <-r.e ks ns e vs σ
  some (.ret v,vs,σ)) (some (.ret .none,vs,σ))
 | .Assign ts e _=>if ts.any q9c then none else do
  let (v,σ) <-rawE T r ks ns e vs σ
  let (vs,σ) <-w8q r ks ns ts e v vs σ
  some (.next,vs,σ)
 | .AugAssign t op e _=>(k0g t).bind λ x=>augN r ks ns x op e vs σ
 | .If t a b _=>do
  let (c,σ) <-r.t ks ns t vs σ
  if c then q0w r ks ns a vs σ else q0w r ks ns b vs σ
 | .For t it body orelse _=>if orelse.isEmpty=true then if q1r it then do
   let (v,σ) <-r.e ks ns it vs σ
   if frozen v then do
    let xs <-q2g σ v
    forA (λ x vs σ=>do
     let (vs,σ) <-r.a ks ns t x vs σ
     q0w r ks ns body vs σ) xs vs σ
   else none
  else none else none
 | .Try body hs orelse fin _=>if hs.isEmpty=false/\orelse.isEmpty=true/\fin.isEmpty=true then q0w r ks ns body vs σ else none
 | .Delete ts _=>(delP ts).bind λ o=>do
  let (v,σ) <-r.e ks ns o vs σ
  (locV v).bind λ l=>(q1j σ l).bind λ _=>some (.next,vs,σ.set l (.list []))
 | _=>none
noncomputable def j7n:Ev:=⟨λ _ _ _ _ _=>none,λ _ _ _ _ _=>none,λ _ _ _ _ _ _=>none,λ _ _ _ _ _=>none⟩
noncomputable def j7p:Ev:=⟨evE T C r,evT r,evA T r,evS T r⟩
end
noncomputable def evN (T:Tab) (C:q0a):Nat->Ev
 | 0=>j7n
 | n+1=>j7p T C (evN T C n)
noncomputable def z5a:List Str->List AV->Option (List (Str×AV))
 | [],[]=>some []
 | p::ps,x::xs=>(z5a ps xs).map ((p,x) :: ·)
 | _,_=>none
noncomputable def q0f (sc:Scope):List Str:=(sc.names.filter λ(_,k)=>k==.local||k==.cell).map (·.1)
theorem bind_some {α β:Type} {o:Option α} {f:α->Option β} {b:β} (h:(o >>= f)=some b):∃a,o=some a/\f a=some b:=Option.bind_eq_some_iff.mp h
theorem nope {α:Type} {a:α} {P:Prop} (h:(none:Option α)=some a):P:=nomatch h
theorem ifNo {c:Prop} [Decidable c] {α:Type} {x:Option α} {a:α} {P:Prop} (h:(if c then none else x)=some a) (k:¬ c->x=some a->P):P:=
 if q:c then nope ((if_pos q).symm.trans h)else k q ((if_neg q).symm.trans h)
theorem q0o {c:Prop} [Decidable c] {α:Type} {x:Option α} {a:α} {P:Prop} (h:(if c then x else none)=some a) (k:c->x=some a->P):P:=
 if q:c then k q ((if_pos q).symm.trans h)else nope ((if_neg q).symm.trans h)
theorem ifE {c:Prop} [Decidable c] {α:Type} {x y:Option α} {a:α} {P:Prop} (h:(if c then x else y)=some a) (k:c->x=some a->P) (l:¬ c->y=some a->P):P:=
 if q:c then k q ((if_pos q).symm.trans h)else l q ((if_neg q).symm.trans h)
theorem mapE {α β:Type} {o:Option α} {f:α->β} {b:β} {P:β->Prop} (h:o.map f=some b) (k:∀a,o=some a->P (f a)):P b:=by
 induction o with
 | none=>exact nope h
 | some a=>obtain rfl:=jI h;exact k a rfl
theorem k4d {σ:Store} {l:Nat} {α:Type} {f:List AV->Option α} {a:α} {P:Prop} (h:(match σ[l]? with|some (.list xs)=>f xs|_=>none)=some a) (k:∀xs,σ[l]? = some (.list xs)->f xs=some a->P):P:=by
 revert h k
 cases σ[l]? with
 | none=>exact λ h _=>nope h
 | some o=>induction o with
  | list xs=>exact λ h k=>k xs rfl h
  | _=>exact λ h _=>nope h
theorem j2k {σ:Store} {l:Nat} {α:Type} {f:List (Option AV)->Option α} {a:α} {P:Prop} (h:(match σ[l]? with|some (.attrs xs)=>f xs|_=>none)=some a) (k:∀xs,σ[l]? = some (.attrs xs)->f xs=some a->P):P:=by
 revert h k
 cases σ[l]? with
 | none=>exact λ h _=>nope h
 | some o=>induction o with
  | attrs xs=>exact λ h k=>k xs rfl h
  | _=>exact λ h _=>nope h
theorem w2z {σ:Store} {l:Nat} {xs:List AV} (h:q1j σ l=some xs):σ[l]? = some (.list xs):=by
 unfold q1j at h
 revert h
 cases σ[l]? with
 | none=>exact λ h=>nope h
 | some o=>induction o with
  | list xs=>exact λ h=>congrArg (λ x=>some (AObj.list x)) (jI h)
  | _=>exact λ h=>nope h
theorem j1m {σ:Store} {l:Nat} {xs:List Str} (h:setC σ l=some xs):σ[l]? = some (.set xs):=by
 unfold setC at h
 revert h
 cases σ[l]? with
 | none=>exact λ h=>nope h
 | some o=>induction o with
  | set xs=>exact λ h=>congrArg (λ x=>some (AObj.set x)) (jI h)
  | _=>exact λ h=>nope h
theorem v1e {σ:Store} {l:Nat} {α:Type} {f:List AV->Option α} {f':List (Str×AV)->Option α} {a:α} {P:Prop} (h:(match σ[l]? with|some (.list xs)=>f xs|some (.dict xs)=>f' xs|_=>none)=some a)
  (k:∀xs,σ[l]? = some (.list xs)->f xs=some a->P) (k':∀xs,σ[l]? = some (.dict xs)->f' xs=some a->P):P:=by
 revert h k k'
 cases σ[l]? with
 | none=>exact λ h _ _=>nope h
 | some o=>induction o with
  | list xs=>exact λ h k _=>k xs rfl h
  | dict xs=>exact λ h _ k=>k xs rfl h
  | _=>exact λ h _ _=>nope h
theorem v1q {σ:Store} {l:Nat} {α:Type} {f:List Str->Option α} {a:α} {P:Prop} (h:(match σ[l]? with|some (.set xs)=>f xs|_=>none)=some a) (k:∀xs,σ[l]? = some (.set xs)->f xs=some a->P):P:=by
 revert h k
 cases σ[l]? with
 | none=>exact λ h _=>nope h
 | some o=>induction o with
  | set xs=>exact λ h k=>k xs rfl h
  | _=>exact λ h _=>nope h
theorem mapQ {α β:Type} {o:Option α} {f:α->β} {b:β} {P:Prop} (h:o.map f=some b) (k:∀a,o=some a->f a=b->P):P:=match o,h with
 | some a,h=>k a rfl (jI h)
theorem optE {α β:Type} {o:Option α} {f:α->Option β} {b:β} {P:Prop} (h:o.bind f=some b) (k:∀a,o=some a->f a=some b->P):P:=match o,h with
 | some a,h=>k a rfl h
theorem orE' {α:Type} {o:Option α} {f:Unit->Option α} {b:α} {P:Prop} (h:o.orElse f=some b) (k:o=some b->P) (l:f ()=some b->P):P:=match o,h with
 | some _,h=>k h
 | none,h=>l h
theorem j7x {x:AV} {i:Int} (h:intV x=some i):x = .int i:=by rcases x<;>first|exact nope h|exact congrArg _ (jI h)
theorem k6r {x:AV} {i:Str} (h:strV x=some i):x = .str i:=by rcases x<;>first|exact nope h|exact congrArg _ (jI h)
theorem j0x {x:AV} {i:Nat} (h:locV x=some i):x = .loc i:=by rcases x<;>first|exact nope h|exact congrArg _ (jI h)
theorem optM {α β:Type} {o:Option α} {f:α->Option β} {x:Option β} {b:β} {P:Prop} (h:optC o f x=some b) (k:∀a,o=some a->f a=some b->P) (l:o=none->x=some b->P):P:=match o,h with
 | some a,h=>k a rfl h
 | none,h=>l rfl h
theorem w3b {α:Type} {xs:List α} {x:α} (h:oneP xs=some x):xs=[x]:=match xs,h with
 | [_],h=>congrArg (λ x=>[x]) (jI h)
theorem k7n {e f:Expr} {a:List Expr} {kw:List Keyword} {p:Pos} (h:j6v e=some (f,a,kw,p)):e = .Call f a kw p:=by
 induction e using Expr.casesOn with
 | Call=>rcases h;rfl
 | _=>exact nope h
theorem z7j {e o:Expr} {x:Str} {p:Pos} (h:j2j e=some (o,x,p)):e = .Attribute o x p:=by
 induction e using Expr.casesOn with
 | Attribute=>rcases h;rfl
 | _=>exact nope h
theorem w1s {e:Expr} {x:Str} (h:k0g e=some x):∃p,e = .Name x p:=by
 induction e using Expr.casesOn with
 | Name=>obtain rfl:=jI h;exact⟨_,rfl⟩
 | _=>exact nope h
theorem k6s {e o i:Expr} (h:subP e=some (o,i)):∃p,e = .Subscript o i p:=by
 induction e using Expr.casesOn with
 | Subscript=>rcases h;exact⟨_,rfl⟩
 | _=>exact nope h
theorem k9z {e x:Expr} (h:j9o e=some x):∃p,e = .Starred x p:=by
 induction e using Expr.casesOn with
 | Starred=>obtain rfl:=jI h;exact⟨_,rfl⟩
 | _=>exact nope h
theorem z2q {e:Expr} {lo hi st:Option Expr} (h:k5h e=some (lo,hi,st)):∃p,e = .Slice lo hi st p:=by
 induction e using Expr.casesOn with
 | Slice=>rcases h;exact⟨_,rfl⟩
 | _=>exact nope h
theorem q8z {e:Expr} {c:Const} (h:z1l e=some c):∃k p,e = .Constant c k p:=by
 induction e using Expr.casesOn with
 | Constant=>obtain rfl:=jI h;exact⟨_,_,rfl⟩
 | _=>exact nope h
theorem z7b {c:Const} {s:Str} (h:strC c=some s):c = .str s:=by
 induction c with
 | str=>exact congrArg _ (jI h)
 | _=>exact nope h
theorem k6w {es:List Expr} {a b:Expr} (h:twoP es=some (a,b)):es=[a,b]:=match es,h with
 | [_,_],h=>by obtain⟨rfl,rfl⟩:=Prod.mk.inj (jI h);rfl
theorem q7i {e:Expr} (h:¬ q9c e=true):∀x p,e≠.Starred x p:=λ x p q=>h (q▸rfl)
theorem k2p {e:Expr} {c:Const} {l:Nat} (h:j0n e=some (c,l)):∃k p,e = .Constant c k p:=by
 induction e using Expr.casesOn with
 | Constant=>rcases h;exact⟨_,_,rfl⟩
 | _=>exact nope h
theorem j0v {x:AV} {i:Str} (h:litV x=some i):x = .lit i:=by rcases x<;>first|exact nope h|exact congrArg _ (jI h)
theorem j4a {c:Const} {i:Int} (h:intC c=some i):c = .int i:=by
 induction c with
 | int=>exact congrArg _ (jI h)
 | _=>exact nope h
theorem k9n {x:AV} {p:Str×Str} (h:j4u x=some p):x=q0c p:=by
 unfold j4u at h
 split at h
 ·obtain rfl:=jI h;rfl
 ·exact nope h
theorem z5j {σ:Store} {l:Nat} {xs:List (Str×AV)} (h:w0c σ l=some xs):σ[l]? = some (.dict xs):=by
 unfold w0c at h
 revert h
 cases σ[l]? with
 | none=>exact λ h=>nope h
 | some o=>induction o with
  | dict xs=>exact λ h=>congrArg (λ x=>some (AObj.dict x)) (jI h)
  | _=>exact λ h=>nope h
theorem delE {ts:List Expr} {o:Expr} {P:Prop} (h:delP ts=some o) (k:∀p q,ts=[.Subscript o (.Slice none none none p) q]->P):P:=by
 refine optE h λ t h1 h=>optE h λ q h2 h=>optE h λ z h3 h=>q0o h λ hz h9=>?_
 obtain⟨q1,q2⟩:=q
 obtain⟨z1,z2,z3⟩:=z
 obtain⟨p,e0⟩:=k6s h2
 obtain⟨p',e⟩:=z2q h3
 obtain rfl:q1=o:=jI h9
 obtain⟨e1,e2,e3⟩:=hz
 exact k p' p (by rw[w3b h1,e0,show q2=_ from e,show z1=none from Option.isNone_iff_eq_none.mp e1,show z2=none from Option.isNone_iff_eq_none.mp e2,show z3=none from Option.isNone_iff_eq_none.mp e3])
theorem q5f {σ:Store} {α:Type} {a:α} {P:Prop} {l:Nat} {f:List AV->Option α} (h:(q1j σ l).bind f=some a) (k:∀xs,σ[l]? = some (.list xs)->f xs=some a->P):P:=optE h λ xs e h=>k xs (w2z e) h
theorem v1r {σ:Store} {α:Type} {a:α} {P:Prop} {l:Nat} {f:List Str->Option α} (h:(setC σ l).bind f=some a) (k:∀xs,σ[l]? = some (.set xs)->f xs=some a->P):P:=optE h λ xs e h=>k xs (j1m e) h
theorem q6k {α β:Type} {o:Option α} {f:α->Option β} {b:β} {P:Prop} (h:(o >>= f)=some b) (k:∀a,o=some a->f a=some b->P):P:=(bind_some h).elim λ a x=>k a x.1 x.2
theorem q0h {α γ β:Type} {o:Option (α×γ)} {f:α×γ->Option β} {b:β} {P:Prop} (h:(o >>= f)=some b) (k:∀a c,o=some (a,c)->f (a,c)=some b->P):P:=(bind_some h).elim λ a x=>k a.1 a.2 x.1 x.2
theorem nob {P:Prop} (h:false=true):P:=nomatch h
end Mine
end
section
set_option tactic.hygienic false
namespace Mine
structure Cx where
 prog:Program
 w:World
 K:Frag
 C:Addr
 an:List Str
 h₀:Heap
 gA:Addr
 bA:Addr
 mg:Str->Option Value
 mb:Str->Option Value
 lc:Addr
 lP:Addr
 lp:Pos
 lq:Str
noncomputable abbrev Cx.M (cx:Cx):Model:=model cx.prog cx.w
noncomputable abbrev Cx.sk (cx:Cx):KeyKind cx.prog cx.w Str:=strKind cx.prog cx.w
structure G where
 I:Addr->Option Obj
 ρ:List Addr
 τ:Tok->Option Str
noncomputable abbrev v1d (items:Array Value) (o:Obj):Prop:=∃n,o={ cls:=.type "list",data:=.seq items n }
noncomputable abbrev tupO (items:Array Value) (o:Obj):Prop:=∃n,o={ cls:=.type "tuple",data:=.seq items n }
noncomputable abbrev z1f (v u:Value):Obj:={ cls:=.type "builtin_function_or_method",data:=.fields #[v,u] }
noncomputable abbrev j9d (a b c:Value):Obj:={ cls:=.type "range",data:=.fields #[a,b,c] }
inductive z7g (cx:Cx) (o:Obj):Prop
 | mk (es:Array (Int×Value)) (ep:Nat) (t:SetTable) (d:o.data = .set es ep t) (l:cx.w.params.followText "set-order" = false->t.led=true) (p:1<=es.size->t.plain=false) (q:es.size=1->t.mask=7/\t.dummies = #[])
section
variable (cx:Cx) (g:G) (n:Nat) (ks:List Str) (P:List Value->Prop) (R:Value->Prop) (v:Value)
inductive RStr (s:Str):Prop|mk (t:Tok) (e:v = .str s t) (z:s.length<=sizeLine)
inductive RLit (s:Str):Prop|mk (t:Tok) (e:v = .str s t) (z:s.length<=sizeLine) (i:g.τ t=some s) (n:t≠0)
inductive RTup:Prop|mk (a:Addr) (o:Obj) (vs:List Value) (e:v = .ref a) (i:g.I a=some o) (t:tupO vs.toArray o) (r:P vs) (z:n<=sizeLine)
inductive RFl:Prop|mk (a:Addr) (o:Obj) (vs:List Value) (e:v = .ref a) (i:g.I a=some o) (t:v1d vs.toArray o) (r:P vs) (z:n<=sizeLine)
inductive RFd:Prop|mk (a:Addr) (o:Obj) (vs:List Value) (e:v = .ref a) (i:g.I a=some o) (d:o.IsDictOf cx.sk (ks.zip vs)) (l:ks.length=n) (r:P vs) (q:(a==sysModules)=false) (z:ks.length<=sizeLine) (y:∀k∈ks,k.length<=sizeLine)
inductive RWs:Prop|mk (a:Addr) (o:Obj) (e:v = .ref a) (i:g.I a=some o) (d:o.SetObjOf cx.sk (λ k=>ks.contains k) ks.length) (z:ks.length<scanBound) (n:ks.Nodup) (y:∀k∈ks,k.length<=sizeLine) (l:z7g cx o)
inductive ROb:Prop|mk (x a:Addr) (e:v = .ref x) (i:g.I x=some (instObj cx.C a)) (l:g.ρ[n]? = some a)
inductive RBm (b:Value):Prop|mk (a:Addr) (u:Value) (e:v = .ref a) (i:g.I a=some (z1f b u)) (r:R u)
inductive RMt (f:Addr):Prop|mk (a:Addr) (u:Value) (e:v = .ref a) (i:g.I a=some (methodObj (.ref f) u)) (r:R u)
inductive RRng (x y:Int):Prop|mk (p:Addr) (o:Obj) (e:v = .ref p) (i:g.I p=some o) (r:∃t u w',o=j9d (.int x t) (.int y u) (.int 1 w'))
inductive RIv:Prop|mk (a:Addr) (o:Obj) (d:Addr) (e:v = .ref a) (i:g.I a=some o) (c:o.cls = .type "dict_items") (f:o.data = .fields #[.ref d]) (r:R (.ref d))
end
mutual
noncomputable def VR (cx:Cx) (g:G):AV->Value->Prop
 | .none,v=>v = .none
 | .bool b,v=>v = .bool b
 | .int i,v=>∃t,v = .int i t
 | .str s,v=>RStr v s
 | .lit s,v=>RLit g v s
 | .tup xs,v=>RTup g xs.length (VRs cx g xs) v
 | .fl xs,v=>RFl g xs.length (VRs cx g xs) v
 | .fd ks xs,v=>RFd cx g xs.length ks (VRs cx g xs) v
 | .ws ks,v=>RWs cx g ks v
 | .loc l,v=>∃a,v = .ref a/\g.ρ[l]? = some a
 | .obj d,v=>ROb cx g d v
 | .fn a,v=>v = .ref a
 | .bf b,v=>v=b.val
 | .bm b x,v=>RBm g (VR cx g x) v b.val
 | .mt f x,v=>RMt g (VR cx g x) v f
 | .rng a b,v=>RRng g v a b
 | .iv x,v=>RIv g (VR cx g x) v
noncomputable def VRs (cx:Cx) (g:G):List AV->List Value->Prop
 | [],vs=>vs=[]
 | x::xs,vs=>∃v r,vs=v::r/\VR cx g x v/\VRs cx g xs r
end
structure G.le (g g':G):Prop where
 I:∀a o,g.I a=some o->g'.I a=some o
 ρ:∃r,g'.ρ=g.ρ++r
 τ:∀t x,g.τ t=some x->g'.τ t=some x
theorem G.le.refl (g:G):g.le g:=⟨λ _ _ e=>e,⟨[],by simp⟩,λ _ _ e=>e⟩
theorem G.le.trans {g g' g'':G} (a:g.le g') (b:g'.le g''):g.le g'':=by
 obtain⟨r,hr⟩:=a.ρ
 obtain⟨q,hq⟩:=b.ρ
 exact⟨λ x o e=>b.I x o (a.I x o e),⟨r++q,by rw[hq,hr,List.append_assoc]⟩,λ t x e=>b.τ t x (a.τ t x e)⟩
theorem G.le.at {g g':G} (a:g.le g') {l:Nat} {x:Addr} (e:g.ρ[l]? = some x):g'.ρ[l]? = some x:=by
 obtain⟨r,hr⟩:=a.ρ
 rw[hr,List.getElem?_append_left (List.getElem?_eq_some_iff.mp e).1];exact e
section
variable {cx:Cx} {g g':G} (le:g.le g') {n:Nat} {ks:List Str} {P P':List Value->Prop} {R R':Value->Prop} {v b:Value} {x y:Int} {s:Str} {f:Addr}
include le
theorem RTup.mono (k:∀vs,P vs->P' vs) (h:RTup g n P v):RTup g' n P' v:=by cases h with|mk a o vs e i t r z=>exact⟨a,o,vs,e,le.I _ _ i,t,k _ r,z⟩
theorem RFl.mono (k:∀vs,P vs->P' vs) (h:RFl g n P v):RFl g' n P' v:=by cases h with|mk a o vs e i t r z=>exact⟨a,o,vs,e,le.I _ _ i,t,k _ r,z⟩
theorem RFd.mono (k:∀vs,P vs->P' vs) (h:RFd cx g n ks P v):RFd cx g' n ks P' v:=by cases h with|mk a o vs e i d l r q z y=>exact⟨a,o,vs,e,le.I _ _ i,d,l,k _ r,q,z,y⟩
theorem RLit.mono (h:RLit g v s):RLit g' v s:=by cases h with|mk t e z i j=>exact⟨t,e,z,le.τ _ _ i,j⟩
theorem RWs.mono (h:RWs cx g ks v):RWs cx g' ks v:=by cases h with|mk a o e i d z n y l=>exact⟨a,o,e,le.I _ _ i,d,z,n,y,l⟩
theorem ROb.mono (h:ROb cx g n v):ROb cx g' n v:=by cases h with|mk x a e i j=>exact⟨x,a,e,le.I _ _ i,le.at j⟩
theorem RBm.mono (k:∀u,R u->R' u) (h:RBm g R v b):RBm g' R' v b:=by cases h with|mk a u e i r=>exact⟨a,u,e,le.I _ _ i,k _ r⟩
theorem RMt.mono (k:∀u,R u->R' u) (h:RMt g R v f):RMt g' R' v f:=by cases h with|mk a u e i r=>exact⟨a,u,e,le.I _ _ i,k _ r⟩
theorem RRng.mono (h:RRng g v x y):RRng g' v x y:=by cases h with|mk p o e i r=>exact⟨p,o,e,le.I _ _ i,r⟩
theorem RIv.mono (k:∀u,R u->R' u) (h:RIv g R v):RIv g' R' v:=by cases h with|mk a o d e i c f r=>exact⟨a,o,d,e,le.I _ _ i,c,f,k _ r⟩
end
mutual
theorem VR.mono {cx:Cx} {g g':G} (le:g.le g'):∀{x:AV} {v:Value},VR cx g x v->VR cx g' x v
 | .none,_,h=>h
 | .bool _,_,h=>h
 | .int _,_,h=>h
 | .str _,_,h=>h
 | .tup _,_,h=>RTup.mono le (λ _ r=>VRs.mono le r) h
 | .fl _,_,h=>RFl.mono le (λ _ r=>VRs.mono le r) h
 | .fd _ _,_,h=>RFd.mono le (λ _ r=>VRs.mono le r) h
 | .lit _,_,h=>RLit.mono le h
 | .ws _,_,h=>RWs.mono le h
 | .loc _,_,h=>let ⟨a,e,i⟩:=h;⟨a,e,le.at i⟩
 | .obj _,_,h=>ROb.mono le h
 | .fn _,_,h=>h
 | .bf _,_,h=>h
 | .bm _ _,_,h=>RBm.mono le (λ _ r=>VR.mono le r) h
 | .mt _ _,_,h=>RMt.mono le (λ _ r=>VR.mono le r) h
 | .rng _ _,_,h=>RRng.mono le h
 | .iv _,_,h=>RIv.mono le (λ _ r=>VR.mono le r) h
theorem VRs.mono {cx:Cx} {g g':G} (le:g.le g'):∀{xs:List AV} {vs:List Value},VRs cx g xs vs->VRs cx g' xs vs
 | [],_,h=>h
 | _::_,_,h=>let ⟨v,r,e,h,t⟩:=h;⟨v,r,e,VR.mono le h,VRs.mono le t⟩
end
section
variable {cx:Cx} {g:G}
theorem VRs.nil:VRs cx g [] []:=by rfl
theorem VRs.cons {x:AV} {xs:List AV} {v:Value} {vs:List Value} (h:VR cx g x v) (t:VRs cx g xs vs):VRs cx g (x::xs) (v::vs):=by
 skip;exact⟨v,vs,rfl,h,t⟩
theorem VRs.uncons {x:AV} {xs:List AV} {vs:List Value} (h:VRs cx g (x::xs) vs):∃v r,vs=v::r/\VR cx g x v/\VRs cx g xs r:=by
 exact h
theorem VRs.of_nil {vs:List Value} (h:VRs cx g [] vs):vs=[]:=h
theorem VRs.length:∀{xs:List AV} {vs:List Value},VRs cx g xs vs->xs.length=vs.length
 | [],_,h=>by rw[h.of_nil];rfl
 | _::_,_,h=>by obtain⟨v,r,rfl,_,t⟩:=h.uncons;simp[t.length]
theorem VRs.append:∀{xs ys:List AV} {vs us:List Value},VRs cx g xs vs->VRs cx g ys us->VRs cx g (xs++ys) (vs++us)
 | [],_,_,_,h,k=>by rw[h.of_nil];exact k
 | _::_,_,_,_,h,k=>by obtain⟨v,r,rfl,a,t⟩:=h.uncons;exact .cons a (t.append k)
theorem VRs.get:∀{xs:List AV} {vs:List Value} {i:Nat} {x:AV},VRs cx g xs vs->xs[i]? = some x->∃v,vs[i]? = some v/\VR cx g x v
 | [],_,_,_,_,e=>by trivial
 | y::ys,_,0,x,h,e=>by rcases _:h.uncons with⟨v,r,rfl,a,t⟩;simp at e;subst e;exact⟨v,rfl,a⟩
 | y::ys,_,i+1,x,h,e=>by obtain⟨v,r,rfl,a,t⟩:=h.uncons;simp at e;obtain⟨u,p,q⟩:=t.get e;exact⟨u,by exact p,q⟩
theorem VRs.take:∀{xs:List AV} {vs:List Value} (n:Nat),VRs cx g xs vs->VRs cx g (xs.take n) (vs.take n)
 | _,_,0,_=>by exact VRs.nil
 | [],_,_+1,h=>by simp only[h.of_nil];exact VRs.nil
 | _::_,_,n+1,h=>by rcases _:h.uncons with⟨v,r,rfl,a,t⟩;exact VRs.cons a (t.take n)
theorem VRs.drop:∀{xs:List AV} {vs:List Value} (n:Nat),VRs cx g xs vs->VRs cx g (xs.drop n) (vs.drop n)
 | _,_,0,h=>by exact h
 | [],_,_+1,h=>by simp only[h.of_nil];exact VRs.nil
 | _::_,_,n+1,h=>by rcases _:h.uncons with⟨v,r,rfl,a,t⟩;exact t.drop n
theorem VRs.reverse:∀{xs:List AV} {vs:List Value},VRs cx g xs vs->VRs cx g xs.reverse vs.reverse
 | [],_,h=>by rw[h.of_nil];simpa using VRs.nil
 | _::_,_,h=>by obtain⟨v,r,rfl,a,t⟩:=h.uncons;simpa using t.reverse.append (.cons a .nil)
end
inductive NsN (h:Heap) (a:Addr) (m:Str->Option Value) (k:Nat):Prop
 | mk (o:Obj) (es:Array DictEntry) (ep:Nat) (e:h.get? a=some o) (d:o.data = .dict es ep) (s:StrKeys es) (f:∀name,nsFind es name=m name) (z:es.size<=k)
theorem NsN.ns {h:Heap} {a:Addr} {m:Str->Option Value} {k:Nat} (x:NsN h a m k):h.Ns a m:=let ⟨o,es,ep,a,b,c,d,_⟩:=x;⟨o,es,ep,a,b,c,d⟩
section
variable (cx:Cx) (g:G) (h:Heap) (a:Addr)
inductive v0i (xs:List AV):Prop|mk (vs:List Value) (p:h.PlainList a vs.toArray) (r:VRs cx g xs vs) (z:xs.length<=sizeLine)
inductive v0h (kvs:List (Str×AV)):Prop
 | mk (vs:List Value) (p:h.DictOf cx.sk a ((kvs.map (·.1)).zip vs)) (r:VRs cx g (kvs.map (·.2)) vs) (q:(a==sysModules)=false) (z:kvs.length<=sizeLine) (y:∀kv∈kvs,kv.1.length<=sizeLine)
noncomputable def j1w (fs:List (Option AV)) (m:Str->Option Value):Prop:=∀x v,x∈cx.an->fs[cx.an.idxOf x]? = some (some v)->∃u,m x=some u/\VR cx g v u
noncomputable def j1v (fs:List (Option AV)) (m:Str->Option Value):Prop:=∀x,(x∈cx.an->fs[cx.an.idxOf x]? = some none)->m x=none
inductive j5x (fs:List (Option AV)):Prop
 | mk (m:Str->Option Value) (n:NsN h a m (fs.countP (·.isSome))) (l:fs.length=cx.an.length) (k:cx.an.length<=100) (i:j1w cx g fs m) (o:j1v cx fs m)
noncomputable def j5v (ps:Array Value):Prop:=codeAmong cx.lp ps.toList=none\/∃c' oc fs t,codeAmong cx.lp ps.toList=some (.ref c')/\g.I c'=some oc/\oc.data = .fields fs/\fs[1]? = some (.str (cx.lq++"<lambda>") t)
inductive v0g:Prop|mk (e:a=cx.lP) (ps:Array Value) (o:h.get? a=some (tabObj ps)) (t:TriplesOk ps.toList) (c:j5v cx g ps)
end
noncomputable def OR (cx:Cx) (g:G) (h:Heap) (a:Addr):AObj->Prop
 | .list xs=>v0i cx g h a xs
 | .dict kvs=>v0h cx g h a kvs
 | .set ks=>h.SetOf cx.sk a (λ k=>ks.contains k) ks.length/\ks.Nodup
 | .attrs fs=>j5x cx g h a fs
 | .code=>v0g cx g h a
theorem OR.mono {cx:Cx} {g g':G} {h h':Heap} {a:Addr} {o:AObj} (le:g.le g') (k:∀ob,h.get? a=some ob->h'.get? a=some ob) (x:OR cx g h a o):OR cx g' h' a o:=by
 induction o with
 | list xs=>obtain⟨vs,⟨n,e⟩,q,z⟩:=x;exact⟨vs,⟨n,k _ e⟩,q.mono le,z⟩
 | dict kvs=>rcases _:x with⟨vs,⟨ob,es,ep,e,r⟩,q,z,y,w⟩;exact⟨vs,⟨ob,es,ep,k _ e,r⟩,q.mono le,z,y,w⟩
 | set ks=>rcases _:x with⟨⟨ob,es,ep,t,e,r⟩,q⟩;exact⟨⟨ob,es,ep,t,k _ e,r⟩,q⟩
 | attrs fs=>obtain⟨m,⟨ob,es,ep,e,r,q,w,z⟩,r4,r6,r5,r7⟩:=x;exact⟨m,⟨ob,es,ep,k _ e,r,q,w,z⟩,r4,r6,λ y v hy e=>let ⟨u,a,b⟩:=r5 y v hy e;⟨u,a,b.mono le⟩,r7⟩
 | code=>obtain⟨e0,ps,e,t,r⟩:=x;exact⟨e0,ps,k _ e,t,r.imp id λ⟨c',oc,fs,t,a,b,r⟩=>⟨c',oc,fs,t,a,le.I _ _ b,r⟩⟩
theorem OR.there {cx:Cx} {g:G} {h:Heap} {a:Addr} {o:AObj} (x:OR cx g h a o):∃ob,h.get? a=some ob:=by
 induction o with
 | list xs=>rcases _:x with⟨vs,⟨n,e⟩,_,_⟩;exact⟨_,e⟩
 | dict kvs=>rcases _:x with⟨vs,⟨ob,es,ep,e,r⟩,_,_,_,_⟩;exact⟨ob,e⟩
 | set ks=>rcases _:x with⟨⟨ob,es,ep,t,e,r⟩,q⟩;exact⟨ob,e⟩
 | attrs fs=>obtain⟨m,⟨ob,_,_,e,_,_,_,_⟩,_,_,_,_⟩:=x;exact⟨ob,e⟩
 | code=>obtain⟨_,ps,e,_,_⟩:=x;exact⟨_,e⟩
structure Inv (cx:Cx) (g:G) (σ:Store) (s:Shared):Prop where
 sub:∀a o,g.I a=some o->s.heap.get? a=some o
 base:∀a o,cx.h₀.get? a=some o->g.I a=some o
 len:g.ρ.length=σ.length
 nodup:g.ρ.Nodup
 apart:∀a∈g.ρ,g.I a=none
 cells:∀(l:Nat) (o:AObj) (a:Addr),σ[l]? = some o->g.ρ[l]? = some a->OR cx g s.heap a o
 one:1<=s.toks
 tok:∀t x,g.τ t=some x->t<s.toks
structure Stp (own:List Addr) (g:G) (s:Shared) (g':G) (s':Shared):Prop where
 le:g.le g'
 toks:s.toks<=s'.toks
 keep:∀b o,s.heap.get? b=some o->b∉g.ρ->b∉own->s'.heap.get? b=some o
 new:∀b o,s.heap.get? b=some o->b∉g.ρ->b∉g'.ρ
 newI:∀b o,s.heap.get? b=some o->g.I b=none->g'.I b=none
 stay:∀b o,s.heap.get? b=some o->∃o',s'.heap.get? b=some o'
 gens:s'.gens=s.gens
 os:s'.os=s.os
theorem Stp.refl (own:List Addr) (g:G) (s:Shared):Stp own g s g s:=⟨.refl g,jD _,λ _ _ e _ _=>e,λ _ _ _ h=>h,λ _ _ _ h=>h,λ _ o e=>⟨o,e⟩,rfl,rfl⟩
theorem Stp.trans {own:List Addr} {g g' g'':G} {s s' s'':Shared} (a:Stp own g s g' s') (b:Stp own g' s' g'' s''):Stp own g s g'' s'':=
 ⟨a.le.trans b.le,jA a.toks b.toks,λ x o e h q=>b.keep x o (a.keep x o e h q) (a.new x o e h) q,
  λ x o e h=>let ⟨o',e'⟩:=a.stay x o e;b.new x o' e' (a.new x o e h),
  λ x o e h=>let ⟨o',e'⟩:=a.stay x o e;b.newI x o' e' (a.newI x o e h),
  λ x o e=>let ⟨o',e'⟩:=a.stay x o e;b.stay x o' e',b.gens.trans a.gens,b.os.trans a.os⟩
theorem Stp.wider {own own':List Addr} {g g':G} {s s':Shared} (a:Stp own g s g' s') (h:∀b∈own,b∈own'):Stp own' g s g' s':=
 ⟨a.le,a.toks,λ x o e q z=>a.keep x o e q λ y=>z (h x y),a.new,a.newI,a.stay,a.gens,a.os⟩
theorem Stp.tks {own:List Addr} {g:G} {s:Shared} {t:Nat} (h:s.toks<=t):Stp own g s g { s with toks:=t }:=⟨.refl g,h,λ _ _ e _ _=>e,λ _ _ _ h=>h,λ _ _ _ h=>h,λ _ o e=>⟨o,e⟩,rfl,rfl⟩
theorem Inv.toks {cx:Cx} {g:G} {σ:Store} {s:Shared} (h:Inv cx g σ s) {t:Nat} (ht:s.toks<=t):Inv cx g σ { s with toks:=t }:=
 ⟨h.sub,h.base,h.len,h.nodup,h.apart,h.cells,jA h.one ht,λ x y e=>jC (h.tok x y e) ht⟩
theorem Inv.cell {cx:Cx} {g:G} {σ:Store} {s:Shared} (h:Inv cx g σ s) {l:Nat} {o:AObj} (e:σ[l]? = some o):∃a,g.ρ[l]? = some a/\OR cx g s.heap a o:=by
 have hl:l<g.ρ.length:=by rw[h.len];exact(List.getElem?_eq_some_iff.mp e).1
 exact⟨g.ρ[l],by simp[hl],h.cells l o _ e (by simp[hl])⟩
theorem Inv.notCell {cx:Cx} {g:G} {σ:Store} {s:Shared} (h:Inv cx g σ s) {a:Addr} {o:Obj} (e:g.I a=some o):a∉g.ρ:=λ q=>by rw[h.apart a q]at e;cases e
theorem Inv.keep {cx:Cx} {g:G} {σ:Store} {s:Shared} (h:Inv cx g σ s) {h':Heap} {t:Nat} (ht:s.toks<=t) (k:∀b o,s.heap.get? b=some o->h'.get? b=some o):Inv cx g σ { s with heap:=h',toks:=t }:=
 ⟨λ a o e=>k _ _ (h.sub a o e),h.base,h.len,h.nodup,h.apart,λ l o a e q=>(h.cells l o a e q).mono (.refl g) λ _ e=>k _ _ e,jA h.one ht,λ x y e=>jC (h.tok x y e) ht⟩
theorem Stp.keeps {own:List Addr} {g:G} {s:Shared} {h':Heap} {t:Nat} (ht:s.toks<=t) (k:∀b o,s.heap.get? b=some o->h'.get? b=some o):Stp own g s g { s with heap:=h',toks:=t }:=
 ⟨.refl g,ht,λ b o e _ _=>k b o e,λ _ _ _ h=>h,λ _ _ _ h=>h,λ b o e=>⟨o,k b o e⟩,rfl,rfl⟩
noncomputable def G.freeze (g:G) (a:Addr) (o:Obj):G:=⟨λ b=>if b=a then some o else g.I b,g.ρ,g.τ⟩
theorem G.freeze_self (g:G) (a:Addr) (o:Obj):(g.freeze a o).I a=some o:=by simp[G.freeze]
theorem G.freeze_le {g:G} {a:Addr} {o:Obj} (h:g.I a=none):g.le (g.freeze a o):=
 ⟨λ b x e=>by
  show(if b=a then some o else g.I b)=some x
  by_cases q:b=a
  ·subst q;rw[h]at e;cases e
  ·rw[if_neg q];exact e,⟨[],by simp[G.freeze]⟩,λ _ _ e=>e⟩
theorem Inv.fresh {cx:Cx} {g:G} {σ:Store} {s:Shared} (h:Inv cx g σ s) {a:Addr} (e:s.heap.get? a=none):g.I a=none/\a∉g.ρ:=by
 constructor
 ·generalize q:g.I a=zzy
  induction zzy with
  | none=>rfl
  | some o=>rw[h.sub a o q]at e;contradiction
 ·intro q
  obtain⟨l,hl,rfl⟩:=List.getElem_of_mem q
  have hs:l<σ.length:=by simp only[<-h.len];exact hl
  obtain⟨ob,hob⟩:=(h.cells l σ[l] g.ρ[l] (by simp[hs]) (by simp[hl])).there
  rw[hob]at e;contradiction
theorem Inv.freeze {cx:Cx} {g:G} {σ:Store} {s:Shared} (h:Inv cx g σ s) {h':Heap} {t:Nat} {a:Addr} {o:Obj} (ht:s.toks<=t) (hn:s.heap.get? a=none) (hn':h'.get? a=some o)
  (k:∀b o,s.heap.get? b=some o->h'.get? b=some o):Inv cx (g.freeze a o) σ { s with heap:=h',toks:=t }:=by
 obtain⟨f1,f2⟩:=h.fresh hn
 refine⟨λ b x e=>?_,λ b x e=>?_,h.len,h.nodup,λ b q=>?_,λ l x b e q=>(h.cells l x b e q).mono (G.freeze_le f1) λ _ e=>k _ _ e,jA h.one ht,λ x y e=>jC (h.tok x y e) ht⟩
 ·have e:(if b=a then some o else g.I b)=some x:=e
  by_cases q:b=a
  ·subst q;rw[if_pos rfl]at e;obtain rfl:=jI e;exact hn'
  ·rw[if_neg q]at e;exact k _ _ (h.sub b x e)
 ·exact(G.freeze_le f1).I _ _ (h.base b x e)
 ·show(if b=a then some o else g.I b)=none
  have hb:b≠a:=λ e=>by simp only[e]at q;exact f2 q
  rw[if_neg hb];exact h.apart b q
theorem Stp.freeze {own:List Addr} {cx:Cx} {g:G} {σ:Store} {s:Shared} (h:Inv cx g σ s) {h':Heap} {t:Nat} {a:Addr} {o:Obj} (ht:s.toks<=t) (hn:s.heap.get? a=none)
  (k:∀b o,s.heap.get? b=some o->h'.get? b=some o):Stp own g s (g.freeze a o) { s with heap:=h',toks:=t }:=
 ⟨G.freeze_le (h.fresh hn).1,ht,λ b o e _ _=>k b o e,λ _ _ _ h=>h,λ b x e q=>by
  show(if b=a then some o else g.I b)=none
  rw[if_neg λ z=>by simp only[z,hn]at e;contradiction];exact q,λ b o e=>⟨o,k b o e⟩,rfl,rfl⟩
noncomputable def G.cell (g:G) (a:Addr):G:=⟨g.I,g.ρ++[a],g.τ⟩
theorem G.cell_le (g:G) (a:Addr):g.le (g.cell a):=⟨λ _ _ e=>e,⟨[a],rfl⟩,λ _ _ e=>e⟩
theorem Inv.newCell {cx:Cx} {g:G} {σ:Store} {s:Shared} (h:Inv cx g σ s) {h':Heap} {t:Nat} {a:Addr} {o:AObj} (ht:s.toks<=t) (hn:s.heap.get? a=none) (ho:OR cx (g.cell a) h' a o)
  (k:∀b o,s.heap.get? b=some o->h'.get? b=some o):Inv cx (g.cell a) (σ++[o]) { s with heap:=h',toks:=t }:=by
 obtain⟨f1,f2⟩:=h.fresh hn
 refine⟨λ b x e=>k _ _ (h.sub b x e),h.base,by simp[G.cell,h.len],?_,λ b q=>?_,λ l x b e q=>?_,jA h.one ht,λ x y e=>jC (h.tok x y e) ht⟩
 ·show(g.ρ++[a]).Nodup
  rw[List.nodup_append]
  exact⟨h.nodup,by simp,λ x hx y hy=>by simp at hy;subst hy;exact λ e=>f2 (e▸hx)⟩
 ·rcases _:List.mem_append.mp q with q|q
  ·exact h.apart b q
  ·simp at q;subst q;exact f1
 ·have hl:=h.len
  by_cases hlt:l<σ.length
  ·rw[List.getElem?_append_left hlt]at e
   have q:(g.ρ++[a])[l]? = some b:=q
   rw[List.getElem?_append_left (by simp +arith [*])]at q
   exact(h.cells l x b e q).mono (g.cell_le a) λ _ e=>k _ _ e
  ·have:l=σ.length:=by
    have:=(List.getElem?_eq_some_iff.mp e).1
    rw[List.length_append]at this
    exact Nat.le_antisymm (Nat.le_of_lt_succ this) (Nat.le_of_not_lt hlt)
   subst this
   simp at e;subst e
   have q:(g.ρ++[a])[σ.length]? = some b:=q
   rw[<-hl]at q;simp at q;subst q
   exact ho
theorem Stp.newCell {own:List Addr} {g:G} {s:Shared} {h':Heap} {t:Nat} {a:Addr} (ht:s.toks<=t) (hn:s.heap.get? a=none)
  (k:∀b o,s.heap.get? b=some o->h'.get? b=some o):Stp own g s (g.cell a) { s with heap:=h',toks:=t }:=
 ⟨g.cell_le a,ht,λ b o e _ _=>k b o e,λ b o e q z=>by
  rcases List.mem_append.mp z with z|z
  ·exact q z
  ·have z:b=a:=by simpa using z
   rw[z,hn]at e;exact absurd e (by simp),λ _ _ _ q=>q,λ b o e=>⟨o,k b o e⟩,rfl,rfl⟩
theorem Inv.setCellK {cx:Cx} {g:G} {σ:Store} {s:Shared} (h:Inv cx g σ s) {h':Heap} {t:Nat} {l:Nat} {a:Addr} {o:AObj} (ht:s.toks<=t) (hl:g.ρ[l]? = some a) (ho:OR cx g h' a o) (hs:∀b o,b≠a->s.heap.get? b=some o->h'.get? b=some o) :
  Inv cx g (σ.set l o) { s with heap:=h',toks:=t }:=by
 refine⟨λ b x e=>?_,h.base,by simp[h.len],h.nodup,h.apart,λ m x b e q=>?_,jA h.one ht,λ x y e=>jC (h.tok x y e) ht⟩
 ·exact hs b x (λ z=>h.notCell e (z▸List.mem_of_getElem? hl)) (h.sub b x e)
 ·by_cases hm:l=m
  ·subst hm
   rw[hl]at q;obtain rfl:=jI q
   rw[List.getElem?_set]at e
   simp only[if_true]at e
   split at e
   ·obtain rfl:=jI e;exact ho
   ·contradiction
  ·rw[List.getElem?_set_ne hm]at e
   have hab:b≠a:=λ z=>hm (by
    subst z
    exact(List.getElem?_inj (List.getElem?_eq_some_iff.mp hl).1 h.nodup).mp (hl.trans q.symm))
   exact(h.cells m x b e q).mono (.refl g) λ _ e=>hs b _ hab e
theorem Inv.setCell {cx:Cx} {g:G} {σ:Store} {s:Shared} (h:Inv cx g σ s) {h':Heap} {t:Nat} {l:Nat} {a:Addr} {o:AObj} (ht:s.toks<=t) (hl:g.ρ[l]? = some a) (ho:OR cx g h' a o) (hs:Heap.SameBut a s.heap h') :
  Inv cx g (σ.set l o) { s with heap:=h',toks:=t }:=h.setCellK ht hl ho λ b _ hb e=>(hs.2 b hb).trans e
theorem Stp.setCellK {own:List Addr} {g:G} {s:Shared} {h':Heap} {t:Nat} {l:Nat} {a:Addr} (hk:s.toks<=t) (hl:g.ρ[l]? = some a) (hs:∀b o,b≠a->s.heap.get? b=some o->h'.get? b=some o) (ht:∃o,h'.get? a=some o):Stp own g s g { s with heap:=h',toks:=t }:=
 ⟨.refl g,hk,λ b o e q _=>hs b o (λ z=>q (z▸List.mem_of_getElem? hl)) e,λ _ _ _ h=>h,λ _ _ _ h=>h,λ b o e=>by
  by_cases hb:b=a
  ·subst hb;exact ht
  ·exact⟨o,hs b o hb e⟩,rfl,rfl⟩
theorem Stp.setCell {own:List Addr} {g:G} {s:Shared} {h':Heap} {t:Nat} {l:Nat} {a:Addr} (hk:s.toks<=t) (hl:g.ρ[l]? = some a) (hs:Heap.SameBut a s.heap h') (ht:∃o,h'.get? a=some o):Stp own g s g { s with heap:=h',toks:=t }:=
 .setCellK hk hl (λ b _ hb e=>(hs.2 b hb).trans e) ht
noncomputable abbrev NoE:Value->Shared->Prop:=λ _ _=>False
inductive PX (cx:Cx) (g:G) (s:Shared) (σ':Store) (v:AV) (u:Value) (s':Shared):Prop
 | mk (g':G) (a:Stp [] g s g' s') (i:Inv cx g' σ' s') (r:VR cx g' v u)
noncomputable def PE (cx:Cx) (g:G) (s:Shared) (σ':Store) (v:AV) (u:Value) (s':Shared):Prop:=s.toks<=s'.toks->PX cx g s σ' v u s'
theorem q4y {α:Type} {cx:Cx} {A:Around} {t:Sem α} {s:Shared} {Q:α->Shared->Prop} (h:wpAny cx.M A t (λ a s'=>s.toks<=s'.toks->Q a s') NoE s):wpAny cx.M A t Q NoE s:=
 wpAny_mono (wpAny_toks_of (n:=s.toks) (jD _) h) (λ _ _ x=>x.2 x.1) λ _ _ x=>x.2.elim
section
variable {cx:Cx} {g:G} {σ σ':Store} {s s':Shared} {A:Around} {v:AV} {u:Value}
theorem PX.up {g1:G} {s₁:Shared} (a:Stp [] g s g1 s₁) (h:PX cx g1 s₁ σ' v u s'):PX cx g s σ' v u s':=let ⟨g',b,i,r⟩:=h;⟨g',a.trans b,i,r⟩
theorem PE.now (i:Inv cx g σ s) (r:VR cx g v u):PE cx g s σ v u s:=λ _=>⟨g,.refl _ _ _,i,r⟩
theorem PE.tok (i:Inv cx g σ s) (r:VR cx g v u) (t:Nat):PE cx g s σ v u { s with toks:=t }:=λ h=>⟨g,.tks h,i.toks h,r⟩
theorem PE.x {t:Sem Value} (h:wpAny cx.M A t (PE cx g s σ' v) NoE s):wpAny cx.M A t (PX cx g s σ' v) NoE s:=q4y h
theorem PX.then {t:Sem Value} {P:Value->Shared->Prop} (h:wpAny cx.M A t (PX cx g s σ' v) NoE s) (k:∀g1 s₁ u1,Stp [] g s g1 s₁->Inv cx g1 σ' s₁->VR cx g1 v u1->P u1 s₁):wpAny cx.M A t P NoE s:=
 wpAny_mono h (λ u1 s₁ ⟨g1,a,b,c⟩=>k g1 s₁ u1 a b c) λ _ _ x=>x
theorem PX.lift {t:Sem Value} {g1:G} {s₁:Shared} (a:Stp [] g s g1 s₁) (h:wpAny cx.M A t (PX cx g1 s₁ σ' v) NoE s₁):wpAny cx.M A t (PX cx g s σ' v) NoE s₁:=
 wpAny_mono h (λ _ _ x=>x.up a) λ _ _ x=>x
theorem q0m (s:Shared):s.heap.get? s.heap.objs.size=none:=by
 cases q:s.heap.get? s.heap.objs.size with
 | none=>rfl
 | some o=>exact absurd (Heap.lt_size q) (Nat.lt_irrefl _)
theorem PE.alloc {o:Obj} (i:Inv cx g σ s) (hf:o.isFreed=false) (h:∀g',g.le g'->g'.I s.heap.objs.size=some o->VR cx g' v (.ref s.heap.objs.size)) (t:Nat) :
  PE cx g s σ v (.ref s.heap.objs.size) { s with heap:=s.heap.push o,toks:=t }:=λ ht=>by
 have hn:=q0m s
 have k:∀b o',s.heap.get? b=some o'->(s.heap.push o).get? b=some o':=λ b o' e=>Heap.get?_push_of_some o e
 exact⟨g.freeze s.heap.objs.size o,.freeze i ht hn k,i.freeze ht hn (Heap.get?_push_size _ hf) k,h _ (G.freeze_le (i.fresh hn).1) (G.freeze_self _ _ _)⟩
theorem PE.held {o:Obj} {h':Heap} {p:Addr} (i:Inv cx g σ s) (hn:s.heap.get? p=none) (hp:h'.get? p=some o) (k:∀b o',s.heap.get? b=some o'->h'.get? b=some o') (h:∀g',g.le g'->g'.I p=some o->VR cx g' v (.ref p)) (t:Nat) :
  PE cx g s σ v (.ref p) { s with heap:=h',toks:=t }:=λ ht=>
 ⟨g.freeze p o,.freeze i ht hn k,i.freeze ht hn hp k,h _ (G.freeze_le (i.fresh hn).1) (G.freeze_self _ _ _)⟩
theorem PE.set {h':Heap} {l:Nat} {a:Addr} {o:AObj} (i:Inv cx g σ s) (hl:g.ρ[l]? = some a) (ho:OR cx g h' a o) (hs:Heap.SameBut a s.heap h') (r:VR cx g v u) (t:Nat) :
  PE cx g s (σ.set l o) v u { s with heap:=h',toks:=t }:=λ ht=>⟨g,.setCell ht hl hs ho.there,i.setCell ht hl ho hs,r⟩
theorem PE.cell {h':Heap} {a:Addr} {o:AObj} (i:Inv cx g σ s) (hn:s.heap.get? a=none) (ho:OR cx (g.cell a) h' a o) (k:∀b o,s.heap.get? b=some o->h'.get? b=some o) (t:Nat) :
  PE cx g s (σ++[o]) (.loc σ.length) (.ref a) { s with heap:=h',toks:=t }:=λ ht=>
 ⟨g.cell a,.newCell ht hn k,i.newCell ht hn ho k,by exact⟨a,rfl,by simp[G.cell,<-i.len]⟩⟩
theorem VR.norm (r:VR cx g v u):VR cx g (norm v) u:=by
 induction v using AV.casesOn with
 | lit x=>obtain⟨t,e,z,_⟩:=r;exact⟨t,e,z⟩
 | _=>exact r
inductive AsL (cx:Cx) (g:G) (s:Shared) (xs:List AV) (u:Value):Prop
 | mk (a:Addr) (vs:List Value) (e:u = .ref a) (h:s.heap.PlainList a vs.toArray) (r:VRs cx g xs vs) (z:xs.length<=sizeLine)
theorem q0x {xs:List AV} (i:Inv cx g σ s) (e:q0r σ v=some xs) (r:VR cx g v u):AsL cx g s xs u:=by
 induction v using AV.casesOn with
 | fl xs'=>
  obtain rfl:=jI e
  obtain⟨a,o,vs,rfl,h,⟨n,rfl⟩,q,z⟩:=r
  exact⟨a,vs,rfl,⟨n,i.sub _ _ h⟩,q,z⟩
 | loc l=>
  refine k4d e λ xs' hl e=>?_
  obtain rfl:=jI e
  obtain⟨a,rfl,h⟩:=r
  obtain⟨vs,hv,q,z⟩:=i.cells _ _ _ hl h
  exact⟨a,vs,rfl,hv,q,z⟩
 | _=>exact nope e
inductive AsD (cx:Cx) (g:G) (s:Shared) (kvs:List (Str×AV)) (u:Value):Prop
 | mk (a:Addr) (vs:List Value) (e:u = .ref a) (h:s.heap.DictOf cx.sk a ((kvs.map (·.1)).zip vs)) (r:VRs cx g (kvs.map (·.2)) vs) (q:(a==sysModules)=false) (z:kvs.length<=sizeLine) (y:∀kv∈kvs,kv.1.length<=sizeLine)
theorem q1g {kvs:List (Str×AV)} (i:Inv cx g σ s) (e:q0k σ v=some kvs) (r:VR cx g v u):AsD cx g s kvs u:=by
 induction v using AV.casesOn with
 | fd ks xs=>
  obtain rfl:=jI e
  obtain⟨a,o,vs,rfl,h,d,l,q,z,y,kz⟩:=r
  have e1:(ks.zip xs).map (·.1)=ks:=by rw[<-List.unzip_fst,List.unzip_zip l]
  have e2:(ks.zip xs).map (·.2)=xs:=by rw[<-List.unzip_snd,List.unzip_zip l]
  exact⟨a,vs,rfl,by rw[e1];exact Heap.dictOf_iff.mpr ⟨o,i.sub _ _ h,d⟩,by rw[e2];exact q,z,by(simp_all +arith),λ kv hk=>kz _ (List.of_mem_zip hk).1⟩
 | loc l=>
  obtain⟨a,rfl,h⟩:=r
  obtain⟨vs,hv,q,z,y,w⟩:=i.cells _ _ _ (z5j e) h
  exact⟨a,vs,rfl,hv,q,z,y,w⟩
 | _=>exact nope e
inductive AsS (cx:Cx) (s:Shared) (ks:List Str) (u:Value):Prop
 | mk (a:Addr) (e:u = .ref a) (h:s.heap.SetOf cx.sk a (λ k=>ks.contains k) ks.length/\ks.Nodup)
theorem z7i {ks:List Str} (i:Inv cx g σ s) (e:z9l σ v=some ks) (r:VR cx g v u):AsS cx s ks u:=by
 induction v using AV.casesOn with
 | loc l=>
  refine v1q e λ xs' hl e=>?_
  obtain rfl:=jI e
  obtain⟨a,rfl,h⟩:=r
  exact⟨a,rfl,i.cells _ _ _ hl h⟩
 | _=>exact nope e
end
theorem w0h {n:Nat} (h:n<=sizeLine):(n:Int)<2 ^ 63:=Int.lt_of_le_of_lt (Int.ofNat_le.mpr h) (by rw[sizeLine_eq];decide)
theorem z1w {k:Int} {n:Nat} (h:k.natAbs<=n) : -(n:Int)<=k/\k<=n:=by
 have e:(k.natAbs:Int)<=n:=Int.ofNat_le.mpr h
 exact⟨Int.neg_le_of_neg_le (Int.le_trans (by rw[<-Int.natAbs_neg];exact Int.le_natAbs) e),Int.le_trans Int.le_natAbs e⟩
theorem q4z {k:Int} (h:k.natAbs<2 ^ 30) : -(2 ^ 63:Int)<=k/\k<2 ^ 63:=
 ⟨Int.le_trans (by decide) (z1w (jF h)).1,Int.lt_of_le_of_lt (z1w (jF h)).2 (by decide)⟩
theorem w9b {k:Int} (h:k.natAbs<2 ^ 30):(decide (k < -(2 ^ 63:Int))||decide (k≥2 ^ 63))=false:=by
 rw[decide_eq_false (Int.not_lt.mpr (q4z h).1),decide_eq_false (Int.not_le.mpr (q4z h).2)];rfl
section
variable {cx:Cx} {g:G} {σ σ':Store} {s s':Shared} {A:Around} {E:Value->Shared->Prop} {v:AV} {u:Value}
theorem w7s {a:Addr} {vs:List Value} {xs:List AV} {Q:Bool->Shared->Prop} (hl:s.heap.IsList a vs.toArray) (r:VRs cx g xs vs) (z:xs.length<=sizeLine) (h:∀t,Q (!xs.isEmpty) { s with toks:=t }):wpAny cx.M A (truthy (.ref a)) Q E s:=by
 have hv:vs.length=xs.length:=r.length.symm
 refine wpAny_truthy_list hl (by rw[List.size_toArray,hv];exact w0h z) ?_
 have:(!vs.toArray.isEmpty) = !xs.isEmpty:=by
  rcases vs<;>rcases xs<;>trivial
 simp only[this];exact h _
theorem w7j {a:Addr} {ks:List Str} {vs:List Value} {Q:Bool->Shared->Prop} (hl:s.heap.DictOf cx.sk a (ks.zip vs)) (hd:(a==sysModules)=false) (r:ks.length=vs.length) (z:ks.length<=sizeLine) (h:∀t,Q (!ks.isEmpty) { s with toks:=t }):wpAny cx.M A (truthy (.ref a)) Q E s:=by
 refine wpAny_truthy_dict hd hl (by simp only[List.length_zip,<-r,Nat.min_self];exact w0h z) ?_
 have:(!(ks.zip vs).isEmpty) = !ks.isEmpty:=by rcases vs<;>rcases ks<;>trivial
 simp only[this];exact h _
theorem k1g {b:Bool} {Q:Bool->Shared->Prop} (i:Inv cx g σ s) (e:q3g σ v=some b) (r:VR cx g v u) (h:∀t,Q b { s with toks:=t }):wpAny cx.M A (truthy u) Q E s:=by
 have h0:Q b s:=h s.toks
 induction v using AV.casesOn with
 | none=>subst r;obtain rfl:=jI e;exact truthy_none h0
 | bool c=>subst r;obtain rfl:=jI e;exact wpAny_truthy_bool h0
 | int n=>obtain⟨t,rfl⟩:=r;obtain rfl:=jI e;exact PyProof.Rows.truthy_int h0
 | str x=>
  obtain⟨t,rfl,z⟩:=r;obtain rfl:=jI e
  refine PySem.P.truthy_str (Int.not_le.mpr (w0h z)) ?_
  have:((x.length:Int) !=0)=(x.length !=0):=by rcases x.length<;>rfl<;>lia
  simp only[this];exact h _
 | fl xs=>
  obtain⟨a,o,vs,rfl,hi,⟨n,rfl⟩,q,z⟩:=r;obtain rfl:=jI e
  exact w7s ⟨_,i.sub _ _ hi,rfl,n,rfl⟩ q z h
 | fd ks xs=>
  obtain⟨a,o,vs,rfl,hi,d,l,q,y,z,_⟩:=r;obtain rfl:=jI e
  exact w7j (Heap.dictOf_iff.mpr ⟨o,i.sub _ _ hi,d⟩) y (l.trans q.length) z h
 | loc l=>
  obtain⟨a,rfl,hl⟩:=r
  refine v1e e (λ xs hx e=>?_) λ kvs hx e=>?_<;>obtain rfl:=jI e
  ·obtain⟨vs,hv,q,z⟩:=i.cells _ _ _ hx hl
   exact w7s hv.isList q z h
  ·obtain⟨vs,hv,q,y,z,_⟩:=i.cells _ _ _ hx hl
   have e':kvs.isEmpty=(kvs.map (·.1)).isEmpty:=by rcases kvs<;>rfl
   rw[e']at h
   exact w7j hv y (by simp only[List.length_map,<-q.length,List.length_map]) (by simpa using z) h
 | _=>exact nope e
end
section
variable {cx:Cx} {g:G} {σ σ':Store} {s s':Shared} {A:Around} {v x y:AV} {u a b:Value}
theorem VR.int_ {i:Int} (t:Tok):VR cx g (.int i) (.int i t):=Exists.intro t rfl
theorem VR.str_ {x:Str} (t:Tok) (h:x.length<=sizeLine):VR cx g (.str x) (.str x t):=RStr.mk t rfl h
theorem VR.bool_ {b:Bool}:VR cx g (.bool b) (.bool b):=(rfl:Value.bool b = .bool b)
theorem VR.of_int {i:Int} (h:VR cx g (.int i) u):∃t,u = .int i t:=h
theorem VR.of_str {x:Str} (h:VR cx g (.str x) u):RStr u x:=h
theorem VR.intV {i:Int} (e:intV x=some i) (h:VR cx g x u):∃t,u = .int i t:=by rw[j7x e]at h;exact h
theorem VR.strV {i:Str} (e:strV x=some i) (h:VR cx g x u):RStr u i:=by rw[k6r e]at h;exact h
theorem VR.of_none (h:VR cx g .none u):u = .none:=h
theorem PE.list {xs:List AV} {vs:List Value} {s₁:Shared} {n t:Nat} (i:Inv cx g σ s) (r:VRs cx g xs vs) (z:xs.length<=sizeLine)
  (e:s₁={ s with heap:=s.heap.push { cls:=.type "list",data:=.seq vs.toArray n },toks:=t }):PE cx g s σ (.fl xs) (.ref s.heap.objs.size) s₁:=by
 subst e
 exact .alloc i rfl (λ g' le hi=>show VR cx g' (.fl xs) (.ref s.heap.objs.size)from RFl.mk _ _ vs rfl hi ⟨n,rfl⟩ (r.mono le) z) t
theorem PE.tuple {xs:List AV} {vs:List Value} {s₁:Shared} {n t:Nat} (i:Inv cx g σ s) (r:VRs cx g xs vs) (z:xs.length<=sizeLine)
  (e:s₁={ s with heap:=s.heap.push { cls:=.type "tuple",data:=.seq vs.toArray n },toks:=t }):PE cx g s σ (.tup xs) (.ref s.heap.objs.size) s₁:=by
 subst e
 exact .alloc i rfl (λ g' le hi=>show VR cx g' (.tup xs) (.ref s.heap.objs.size)from RTup.mk _ _ vs rfl hi ⟨n,rfl⟩ (r.mono le) z) t
theorem VRs.rep {xs:List AV} {vs:List Value} (r:VRs cx g xs vs):∀n,VRs cx g (q3w xs n) ((List.replicate n vs).flatten)
 | 0=>by simpa [q3w]using VRs.nil
 | n+1=>by simpa [q3w,List.replicate_succ]using r.append (r.rep n)
theorem k3m (l:List (List Value)) (acc:Array Value):(l.map List.toArray).foldl (λ x1 x2=>x1++x2) acc=(acc.toList++l.flatten).toArray:=by
 induction l generalizing acc with
 | nil=>simp
 | cons x l ih=>simp[ih]
theorem k0c (xs:List AV) (n:Nat):(q3w xs n).length=xs.length * n:=by
 induction n with
 | zero=>rfl
 | succ n ih=>rw[q3w,List.length_append,ih,Nat.mul_succ,Nat.add_comm]
theorem k4s {l:Addr} {items:Array Value} {k:Nat} {x:Int} {u:Tok} {E:Value->Shared->Prop} {Q:Value->Shared->Prop}
  (hl:s.heap.get? l=some { cls:=.type "list",dict:=none,data:=.seq items k,slots:=#[] }) (hlo : -(2 ^ 63:Int)<=x) (hhi:x<2 ^ 63) (hsz:items.size * x.toNat<=2 ^ 24)
  (h:Q (.ref s.heap.objs.size) { s with heap:=s.heap.push { cls:=.type "list",data:=.seq (List.foldl (λ x1 x2=>x1++x2) #[] (List.replicate (if items.isEmpty=true then 0 else x.toNat) items)) } }) :
  wpAny cx.M A (binaryOp .Mult (.ref l) (.int x u)) Q E s:=
 wpAny_binaryOp_repeat_ref (T:="list") (U:="int") (by decide) ⟨_,hl,rfl⟩ (λ s'=>typeIs_int s' x u) noFill_list_mul F.fills_int_mul F.slot_int_rmul repeat_list F.slot_int_index.lookup
  (call_meets F.slot_int_rmul (typeIs_int s x u) F.entry_int_rmul (F.args_int_rmul_2 _ _) (int___rmul___int_list x u l items k)
   ⟨hl,rfl,⟨_,hl,rfl⟩,call_meets F.slot_list_mul ⟨_,hl,rfl⟩ F.entry_list_mul (F.args_list_mul_2 _ _)
    (AutoListH.list___mul___list_int_3 l items k x u (by dsimp[Builtin.List.listFitsIndex];lia) (by lia) (by simp[Builtin.List.listTooLong,sizeLine];omega))
    ⟨hl,h⟩⟩)
theorem z1c (x:AV) (i:Inv cx g σ s) (e:((q0r σ x).bind λ xs=>(q0r σ y).bind λ ys=>(k8b (xs++ys)).map AV.fl)=some v) (ra:VR cx g x a) (rb:VR cx g y b):wpAny cx.M A (binaryOp .Add a b) (PE cx g s σ v) NoE s:=by
 refine optE e λ xs h1 e=>optE e λ ys h2 e=>mapQ e λ zs h3 e=>q0o h3 λ hz h3=>?_
 subst e
 obtain rfl:=jI h3
 rcases _:q0x i h1 ra with⟨p,vs,rfl,⟨n,hp⟩,rp,zp⟩
 rcases _:q0x i h2 rb with⟨q,us,rfl,⟨m,hq⟩,rq,zq⟩
 refine P.add_list hp hq ?_ (by simp only[List.size_toArray,List.size_toArray,<-rp.length,<-rq.length];simpa using hz)
 exact .list (n:=0) (t:=s.toks) i (rp.append rq) hz (by simp)
theorem j2b (i:Inv cx g σ s) (e:addA σ x y=some v) (ra:VR cx g x a) (rb:VR cx g y b):wpAny cx.M A (binaryOp .Add a b) (PE cx g s σ v) NoE s:=by
 induction x using AV.casesOn with
 | int p=>
  refine mapQ e λ q h e=>?_;subst e
  obtain⟨t,rfl⟩:=ra.of_int
  obtain⟨t',rfl⟩:=rb.intV h
  exact add_int (.tok i (.int_ _) _)
 | str p=>
  refine optE e λ q h e=>mapQ e λ w hw e=>q0o hw λ hz hw=>?_;subst e
  obtain rfl:=jI hw
  obtain⟨t,rfl,z⟩:=ra.of_str
  obtain⟨t',rfl,z'⟩:=rb.strV h
  exact add_str (λ t' tk=>.tok i (.str_ _ (by rw[strLen_append];exact hz)) _) hz
 | fl xs=>exact z1c (.fl xs) i e ra rb
 | loc l=>exact z1c (.loc l) i e ra rb
 | _=>exact nope e
theorem z2l {j:Int} {t:Tok} (x:AV) (i:Inv cx g σ s) (e:((q0r σ x).bind λ xs=>if xs.length * j.toNat<=sizeLine/\j.natAbs<2 ^ 30 then some (.fl (q3w xs j.toNat))else none)=some v) (ra:VR cx g x a):wpAny cx.M A (binaryOp .Mult a (.int j t)) (PE cx g s σ v) NoE s:=by
 refine optE e λ xs h1 e=>q0o e λ hz e=>?_
 obtain rfl:=jI e
 have hs:=sizeLine_eq
 rcases _:q0x i h1 ra with⟨p,vs,rfl,⟨n,hp⟩,rp,zp⟩
 refine k4s hp (q4z hz.2).1 (q4z hz.2).2 (by rw[List.size_toArray,<-rp.length];exact jA hz.1 (by rw[hs];decide)) ?_
 have e1:(List.foldl (λ x1 x2=>x1++x2) #[] (List.replicate (if vs.toArray.isEmpty=true then 0 else j.toNat) vs.toArray))=((List.replicate j.toNat vs).flatten).toArray:=by
  rw[<-List.map_replicate,k3m]
  cases vs with
  | nil=>simp
  | cons _ _=>dsimp
 rw[e1]
 exact .list (n:=0) (t:=s.toks) i (rp.rep _) (by rw[k0c];exact hz.1) rfl
theorem j4q (i:Inv cx g σ s) (e:mulA σ x y=some v) (ra:VR cx g x a) (rb:VR cx g y b):wpAny cx.M A (binaryOp .Mult a b) (PE cx g s σ v) NoE s:=by
 refine optE e λ j h e=>?_
 obtain⟨t',rfl⟩:=rb.intV h
 induction x using AV.casesOn with
 | int p=>
  refine q0o e λ hz e=>?_
  obtain rfl:=jI e
  obtain⟨t,rfl⟩:=ra.of_int
  exact PyProof.Rows.mul_int (.tok i (.int_ _) _) (IntMulOk.of_right (intBits_le_64 (Int.lt_of_lt_of_le (by decide) (q4z hz).1) (Int.lt_trans (q4z hz).2 (by decide))))
 | fl xs=>exact z2l (.fl xs) i e ra
 | loc l=>exact z2l (.loc l) i e ra
 | _=>exact nope e
theorem j2x {op:Operator} (i:Inv cx g σ s) (e:binA σ op x y=some v) (ra:VR cx g x a) (rb:VR cx g y b):wpAny cx.M A (binaryOp op a b) (PE cx g s σ v) NoE s:=by
 induction op with
 | Add=>exact j2b i e ra rb
 | Mult=>exact j4q i e ra rb
 | Mod=>
  refine optE e λ p h1 e=>optE e λ q h2 e=>ifNo e λ hz e=>?_
  obtain rfl:=jI e
  obtain⟨t,rfl⟩:=ra.intV h1
  obtain⟨t',rfl⟩:=rb.intV h2
  exact mod_int' hz (.tok i (.int_ _) _)
 | FloorDiv=>
  refine optE e λ p h1 e=>optE e λ q h2 e=>ifNo e λ hz e=>?_
  obtain rfl:=jI e
  obtain⟨t,rfl⟩:=ra.intV h1
  obtain⟨t',rfl⟩:=rb.intV h2
  exact floordiv_int (λ h=>hz (.inl h)) (.tok i (.int_ _) _) (.inl (PyProof.noPylong_small (Nat.lt_of_not_le λ h=>hz (.inr h))))
 | _=>exact nope e
end
end Mine
end
section
set_option tactic.hygienic false
open PySem.SeqAt
namespace Mine
structure AOk (n:Nat) (A:Around):Prop where
 handled:A.handled=none
 depth:A.depth+4 * n+8<recursionLimit
 units:A.units+60 * n+100<cLine
theorem AOk.room {n:Nat} {A:Around} (h:AOk n A):A.units<cLine:=jB (jA (jG _ _) (jG _ _)) h.units
section
variable {cx:Cx} {g:G} {σ σ':Store} {s s':Shared} {A:Around} {v x y:AV} {u a b:Value} {n:Nat}
noncomputable def k1k (M:Model) (A:Around) (s:Shared) (a b:Value) (r:Bool):Prop:=(∀{E Q},Q (.bool r) s->wpAny M A (compareOp .Eq a b) Q E s)/\(∀{E Q},Q (.bool (!r)) s->wpAny M A (compareOp .NotEq a b) Q E s)
theorem k1k.of {prog:Program} {w:World} {r:Bool} (h:RcAt A s a b r) (k:RcNeAt A s a b (!r)):k1k (model prog w) A s a b r:=⟨λ q=>h _ _ _ _ q,λ q=>k _ _ _ _ q⟩
inductive EqL (M:Model) (A:Around) (s:Shared) (a b:Value) (r:Bool):Prop
 | mk (e:EqAt A s a b r) (p:k1k M A s a b r)
theorem EqL.c {r:Bool} (h:EqL cx.M A s a b r):k1k cx.M A s a b r:=let ⟨_,x⟩:=h;x
theorem EqL.at_ {r:Bool} (h:EqL cx.M A s a b r):EqAt A s a b r:=let ⟨x,_⟩:=h;x
theorem z1p {r:Bool} (e:z7u x y=some r) (ra:VR cx g x a) (rb:VR cx g y b):EqL cx.M A s a b r:=by
 induction x using AV.casesOn with
 | int i=>refine mapQ e λ j h e=>?_;subst e;obtain⟨t,rfl⟩:=ra.of_int;obtain⟨t',rfl⟩:=rb.intV h;exact⟨EqAt.int_int _ _ _ _,.of (RcAt.int_int _ _ _ _) (RcNeAt.int_int _ _ _ _)⟩
 | str i=>refine mapQ e λ j h e=>?_;subst e;obtain⟨t,rfl,_⟩:=ra.of_str;obtain⟨t',rfl,_⟩:=rb.strV h;exact⟨EqAt.str_str _ _ _ _,.of (RcAt.str_str _ _ _ _) (RcNeAt.str_str _ _ _ _)⟩
 | _=>exact nope e
theorem q4x {kvs:List (Str×AV)} {vs:List Value} (r:VRs cx g (kvs.map (·.2)) vs) (k:Str) :
  (q0t k kvs=none->valueAt ((kvs.map (·.1)).zip vs) k=none)/\∀x,q0t k kvs=some x->∃u,valueAt ((kvs.map (·.1)).zip vs) k=some u/\VR cx g x u:=by
 induction kvs generalizing vs with
 | nil=>simp only[List.map_nil]at r;skip;exact⟨λ _=>rfl,λ x e=>by contradiction⟩
 | cons kv kvs ih=>
  obtain⟨k',y⟩:=kv
  rcases _:r.uncons with⟨u,us,rfl,hu,q⟩
  obtain⟨i1,i2⟩:=ih q
  simp only[q0t,List.map_cons,List.zip_cons_cons,valueAt,List.find?_cons]
  by_cases hk:k'=k
  ·simp only[hk,if_true,decide_true]
   refine⟨λ e=>absurd e (by trivial),λ x e=>?_⟩
   obtain rfl:=jI e
   exact⟨u,rfl,hu⟩
  ·simp only[hk,if_false,decide_false]
   exact⟨i1,i2⟩
theorem k3f {kb:List (Str×AV)} {us:List Value} (rb:VRs cx g (kb.map (·.2)) us):∀{ka:List (Str×AV)} {vs:List Value} {r:Bool},eqDs kb ka=some r->VRs cx g (ka.map (·.2)) vs->
  KeqHits A s ((kb.map (·.1)).zip us) ((ka.map (·.1)).zip vs) r
 | [],vs,_,h,p=>by obtain rfl:=jI h;exact .nil
 | (k,x)::ka,vs,_,h,p=>by
  obtain⟨v,vs,rfl,hv,p'⟩:=VRs.uncons (show VRs cx g (x::ka.map (·.2)) vs from p)
  obtain⟨f1,f2⟩:=q4x rb k
  refine optM h (λ y hy h=>optE h λ c hc h=>mapQ h λ d hd h=>?_) λ hn h=>?_
  ·subst h
   obtain⟨u,hu,ru⟩:=f2 y hy
   exact .hit hu (z1p hc hv ru).at_ (k3f rb hd p')
  ·obtain rfl:=jI h;exact .miss (f1 hn)
theorem z7f {ka:List (Str×AV)} {vs:List Value} (rp:VRs cx g (ka.map (·.2)) vs):((ka.map (·.1)).zip vs).length=ka.length:=by rw[List.length_zip,List.length_map,<-rp.length,List.length_map,Nat.min_self]
theorem j0p {r:Bool} (hA:A.units<cLine) (i:Inv cx g σ s) (e:eqA σ x y=some r) (ra:VR cx g x a) (rb:VR cx g y b):k1k cx.M A s a b r:=by
 refine orE' e (λ e=>(z1p e ra rb).c) λ e=>optE e λ ka h1 e=>optE e λ kb h2 e=>?_
 rcases _:q1g i h1 ra with⟨p,vs,rfl,hp,rp,zp,_⟩
 rcases _:q1g i h2 rb with⟨q,us,rfl,hq,rq,zq,_⟩
 have la:=z7f rp
 have lb:=z7f rq
 refine ifE e (λ hl e=>?_) λ hl e=>?_
 ·have hits:=k3f (A:=A.in1) (s:=s) rq e rp
  have e1:(((ka.map (·.1)).zip vs).length==((kb.map (·.1)).zip us).length&&r)=r:=by simp only[la,lb,hl,beq_self_eq_true,Bool.true_and]
  exact⟨λ h=>keq_eq zp zq hp hq hA (λ _=>hits) (by rw[e1];exact h),λ h=>keq_ne zp zq hp hq hA (λ _=>hits) (by rw[e1];exact h)⟩
 ·obtain rfl:=jI e
  have e1:∀r,(((ka.map (·.1)).zip vs).length==((kb.map (·.1)).zip us).length&&r)=false:=λ r=>by simp only[la,lb,beq_false_of_ne hl,Bool.false_and]
  exact⟨λ h=>keq_eq (r:=true) zp zq hp hq hA (λ q=>absurd (by rw[la,lb]at q;exact q) hl) (by rw[e1];exact h),λ h=>keq_ne (r:=true) zp zq hp hq hA (λ q=>absurd (by rw[la,lb]at q;exact q) hl) (by rw[e1];exact h)⟩
end
section
variable {cx:Cx} {g:G} {σ σ':Store} {s s':Shared} {A:Around} {v x y:AV} {u a b:Value} {n:Nat}
theorem q3e:∀{xs:List AV} {ts:List Str} {vs:List Value},q1f xs=some ts->VRs cx g xs vs->(∀t∈ts,t.length<=sizeLine)/\StrsAre vs ts
 | [],_,_,e,r=>by obtain rfl:=jI e;rw[r.of_nil];exact⟨by trivial,.nil⟩
 | x::xs,_,_,e,r=>by
  obtain⟨v,vs,rfl,hv,q⟩:=r.uncons
  induction x using AV.casesOn with
  | str t=>
   obtain⟨ts,he,rfl⟩:=Option.map_eq_some_iff.mp (show(q1f xs).map (t :: ·)=some _ from e)
   obtain⟨h1,h2⟩:=q3e he q
   obtain⟨tk,rfl,z⟩:=hv.of_str
   exact⟨by intro y hy;cases hy with|head=>exact z|tail _ hy=>exact h1 y hy,.cons _ _ h2⟩
  | lit t=>
   obtain⟨ts,he,rfl⟩:=Option.map_eq_some_iff.mp (show(q1f xs).map (t :: ·)=some _ from e)
   obtain⟨h1,h2⟩:=q3e he q
   obtain⟨tk,rfl,z⟩:=VR.of_str hv.norm
   exact⟨by intro y hy;cases hy with|head=>exact z|tail _ hy=>exact h1 y hy,.cons _ _ h2⟩
  | _=>exact nope e
theorem j0b {vs:List Value} {ts:List Str} (h:StrsAre vs ts) (x:Str):vs.any (λ v=>v.isStr x)=ts.contains x:=by
 induction h with
 | nil=>rfl
 | cons y t h ih=>
  rw[List.any_cons,ih,List.contains_cons]
  show(y==x||_)=_
  rw[BEq.comm]
theorem j0c {vs:List Value} {ts:List Str} (h:StrsAre vs ts):∀v∈vs,∃y t,v = .str y t:=by
 induction h with
 | nil=>intro v hv;rcases hv
 | cons y t h ih=>
  intro v hv
  cases hv with
  | head=>exact⟨y,t,rfl⟩
  | tail _ hv=>exact ih v hv
noncomputable def InAt (A:Around) (s:Shared) (M:Model) (a b:Value) (r:Bool):Prop:=
 (∀{E Q},(∀t,Q (.bool r) { s with toks:=t })->wpAny M A (compareOp .In a b) Q E s)/\(∀{E Q},(∀t,Q (.bool (!r)) { s with toks:=t })->wpAny M A (compareOp .NotIn a b) Q E s)
theorem w7d {kvs:List (Str×AV)} {vs:List Value} (r:VRs cx g (kvs.map (·.2)) vs) (k:Str):(valueAt ((kvs.map (·.1)).zip vs) k).isSome=(kvs.map (·.1)).contains k:=by
 induction kvs generalizing vs with
 | nil=>rfl
 | cons kv kvs ih=>
  obtain⟨k',y⟩:=kv
  rcases _:VRs.uncons (show VRs cx g (y::kvs.map (·.2)) vs from r)with⟨u,us,rfl,hu,q⟩
  have:=ih q
  simp only[List.map_cons,List.zip_cons_cons,valueAt,List.find?_cons,List.contains_cons]at this ⊢
  by_cases hk:k'=k
  ·simp[hk]
  ·have hk':(k==k')=false:=by simpa using λ e:k=k'=>hk e.symm
   simp only[hk,decide_false,hk',Bool.false_or]
   exact this
theorem w2s {r:Bool} {p:Str} {tk:Tok} (y:AV) (i:Inv cx g σ s) (e:((q0r σ y).bind λ ys=>(q1f ys).map (·.contains p)).orElse (λ _=>((z9l σ y).map λ ks=>ks.contains p).orElse λ _=>(q0k σ y).map λ kvs=>(kvs.map (·.1)).contains p)=some r) (rb:VR cx g y b):InAt A s cx.M (.str p tk) b r:=by
 refine orE' e (λ e=>optE e λ ys h1 e=>mapQ e λ ts hts e=>?_) λ e=>orE' e (λ e=>mapQ e λ ks h2 e=>?_) λ e=>mapQ e λ kvs hk e=>?_<;>subst e
 ·rcases _:q0x i h1 rb with⟨q,vs,rfl,hp,rp,zp⟩
  obtain⟨_,hS⟩:=q3e hts rp
  have he:∀v,v∈vs.toArray->EqAt A.in1 s v (.str p tk) (v.isStr p):=λ v hv=>by
   obtain⟨y,t,rfl⟩:=j0c hS v (by simpa using hv)
   exact EqAt.str_str _ _ _ _
  have ea:vs.toArray.any (λ v=>v.isStr p)=ts.contains p:=by simp only[<-j0b hS p];simp
  exact⟨λ h=>in_listAt (λ v=>v.isStr p) hp.isList he (by rw[ea];exact h s.toks),λ h=>notIn_listAt (λ v=>v.isStr p) hp.isList he (by rw[ea];exact h s.toks)⟩
 ·rcases _:z7i i h2 rb with⟨q,rfl,hS,_⟩
  exact⟨λ h=>wpAny_inSet_of (strKind_is _ _ p tk) rfl hS (h _),λ h=>wpAny_notInSet_of (strKind_is _ _ p tk) rfl hS (h _)⟩
 ·rcases _:q1g i hk rb with⟨q,vs,rfl,hp,rp,zp,_⟩
  have:=w7d rp p
  exact⟨λ h=>wpAny_in_of (strKind_is _ _ p tk) zp hp.mapOf (by rw[this];exact h _),λ h=>wpAny_notIn_of (strKind_is _ _ p tk) zp hp.mapOf (by rw[this];exact h _)⟩
theorem j0s {r:Bool} (i:Inv cx g σ s) (e:inA σ x y=some r) (ra:VR cx g x a) (rb:VR cx g y b):InAt A s cx.M a b r:=by
 refine optE e λ p h e=>?_
 obtain⟨tk,rfl,_⟩:=ra.strV h
 induction y using AV.casesOn with
 | str q=>
  obtain rfl:=jI e
  obtain⟨tk',rfl,_⟩:=rb.of_str
  exact⟨λ h=>in_str (h s.toks),λ h=>notIn_str (h s.toks)⟩
 | fl xs=>exact w2s (.fl xs) i e rb
 | loc l=>exact w2s (.loc l) i e rb
 | fd ks xs=>exact w2s (.fd ks xs) i e rb
 | _=>exact nope e
theorem j0u {r:Bool} (e:isA x y=some r) (ra:VR cx g x a) (rb:VR cx g y b):b = .none/\(a==.none)=r:=by
 induction y using AV.casesOn with
 | none=>
  refine⟨rb.of_none,?_⟩
  induction x using AV.casesOn with
  | none=>obtain rfl:=jI e;rw[ra.of_none];rfl
  | _=>exact nope e
 | _=>exact nope e
theorem z9d {f:Int->Int->Bool} {r:Bool} {P:Prop} (e:ltA f x y=some r) (ra:VR cx g x a) (rb:VR cx g y b) (k:∀i j t t',a = .int i t->b = .int j t'->f i j=r->P):P:=
 optE e λ i h1 e=>mapQ e λ j h2 e=>(ra.intV h1).elim λ t h3=>(rb.intV h2).elim λ t' h4=>k i j t t' h3 h4 e
theorem j3d {op:CmpOp} {r:Bool} (hA:AOk n A) (i:Inv cx g σ s) (e:cmpA σ op x y=some r) (ra:VR cx g x a) (rb:VR cx g y b):wpAny cx.M A (compareOp op a b) (PE cx g s σ (.bool r)) NoE s:=by
 induction op with
 | Eq=>exact(j0p hA.room i e ra rb).1 (.now i .bool_)
 | NotEq=>exact mapQ e λ r' h e=>e▸(j0p hA.room i h ra rb).2 (.now i .bool_)
 | Lt=>exact z9d e ra rb λ p q t t' h1 h2 h3=>h1▸h2▸h3▸lt_int (.now i .bool_)
 | Gt=>exact z9d e ra rb λ p q t t' h1 h2 h3=>h1▸h2▸h3▸gt_int (.now i .bool_)
 | In=>exact(j0s i e ra rb).1 λ t=>.tok i .bool_ t
 | NotIn=>exact mapQ e λ r' h e=>e▸(j0s i h ra rb).2 λ t=>.tok i .bool_ t
 | Is=>obtain⟨rfl,h⟩:=j0u e ra rb;exact is_none_gen (by rw[h];exact .now i .bool_)
 | IsNot=>obtain⟨r',h',rfl⟩:=Option.map_eq_some_iff.mp e;obtain⟨rfl,h⟩:=j0u h' ra rb;exact isnot_none_gen (by rw[h];exact .now i .bool_)
 | _=>exact nope e
set_option tactic.hygienic true in theorem z5n {m j:Nat} {k:Int} (e:idxA m k=some j):k.natAbs<2 ^ 30/\seqIndex? k m=some j:=by
 unfold idxA at e
 split at e
 ·rename_i h;exact⟨h,e⟩
 ·contradiction
set_option tactic.hygienic true in theorem z6j {m j:Nat} {k:Int} (e:seqIndex? k m=some j):j<m/\(0<=k->k.toNat=j)/\(k<0->-(m:Int)<=k/\(k+m).toNat=j):=by
 unfold seqIndex? at e
 by_cases hk:k<0
 ·simp only[hk,if_true]at e
  split at e
  ·rename_i h
   simp only[Bool.and_eq_true,decide_eq_true_eq]at h
   obtain rfl:=jI e
   exact⟨(Int.toNat_lt h.1).mpr h.2,λ h0=>absurd hk (Int.not_lt.mpr h0),λ _=>⟨Int.sub_nonneg.mp (by rw[Int.sub_neg];exact h.1),rfl⟩⟩
  ·contradiction
 ·simp only[hk,if_false]at e
  split at e
  ·rename_i h
   simp only[Bool.and_eq_true,decide_eq_true_eq]at h
   obtain rfl:=jI e;simp +arith [*]
  ·contradiction
inductive ItAt (cx:Cx) (g:G) (σ:Store) (s:Shared) (A:Around) (v:AV) (a b:Value):Prop
 | mk (T id:String) (h1:s.TypeIs a T) (h2:typeLookup (.type T) "__getitem__" = pure (some (.builtin id))) (h3:wpAny cx.M A (getItem a b) (PE cx g s σ v) NoE s)
theorem k3r (i:Inv cx g σ s) (e:getA σ x y=some v) (ra:VR cx g x a) (rb:VR cx g y b) :
  ItAt cx g σ s A v a b:=by
 have lists:∀{k:Int} {o:AV},((q0r σ o).bind λ xs=>(idxA xs.length k).bind (xs[·]?))=some v->VR cx g o a->VR cx g (.int k) b->
   ItAt cx g σ s A v a b:=by
  intro k o e ra rb
  obtain⟨xs,h1,e⟩:=Option.bind_eq_some_iff.mp e
  obtain⟨j,hj,e⟩:=Option.bind_eq_some_iff.mp e
  rcases _:z5n hj with⟨hk,hj⟩
  obtain⟨t,rfl⟩:=rb.of_int
  rcases _:q0x i h1 ra with⟨p,vs,rfl,hp,rp,zp⟩
  obtain⟨u,hu,ru⟩:=rp.get e
  obtain⟨j1,j2,j3⟩:=z6j hj
  refine⟨"list",_,hp.isList.typeIs,slot_list_getitem.lookup,?_⟩
  by_cases h0:0<=k
  ·exact wpAny_getItem_list hp.isList h0 (q4z hk).2 (by rw[j2 h0];simpa using hu) (.now i ru)
  ·have:=j3 (Int.not_le.mp h0)
   have hl:=rp.length
   exact wpAny_getItem_list_neg hp.isList (Int.not_le.mp h0) (by rw[List.size_toArray,<-hl];exact this.1) (q4z hk).1 (by simp only[List.size_toArray,<-hl,this.2];simpa using hu) (.now i ru)
 have dicts:∀{k:Str} {o:AV},(q0k σ o).bind (q0t k)=some v->VR cx g o a->VR cx g (.str k) b->
   ItAt cx g σ s A v a b:=by
  intro k o e ra rb
  rcases _:Option.bind_eq_some_iff.mp e with⟨kvs,h1,e⟩
  rcases _:rb.of_str with⟨t,rfl,_⟩
  rcases _:q1g i h1 ra with⟨p,vs,rfl,hp,rp,zp,_⟩
  obtain⟨u,hu,ru⟩:=(q4x rp k).2 _ e
  exact⟨"dict",_,hp.typeIs,slot_dict_getitem.lookup,wpAny_getItem_of (strKind_is _ _ k t) hp.mapOf hu (.tok i ru _)⟩
 induction y using AV.casesOn with
 | int k=>cases x with
  | tup xs=>
   obtain⟨j,hj,e⟩:=Option.bind_eq_some_iff.mp e
   obtain⟨hk,hj⟩:=z5n hj
   obtain⟨t,rfl⟩:=rb.of_int
   obtain⟨p,o,vs,rfl,hi,⟨m,rfl⟩,rp,z⟩:=ra
   rcases _:rp.get e with⟨u,hu,ru⟩
   have hT:IsTup s.heap p vs.toArray:=⟨_,i.sub _ _ hi,rfl,m,rfl⟩
   exact⟨"tuple",_,hT.typeIs,slot_tuple_getitem.lookup,getItem_tuple hT (q4z hk).1 (q4z hk).2 (by simp only[List.size_toArray,<-rp.length];exact hj) (by simpa using hu) (.now i ru)⟩
  | str p=>
   obtain⟨j,hj,e⟩:=Option.bind_eq_some_iff.mp e
   obtain⟨hk,hj⟩:=z5n hj
   obtain⟨c,hc,rfl⟩:=Option.map_eq_some_iff.mp e
   obtain⟨t,rfl⟩:=rb.of_int
   obtain⟨t',rfl,_⟩:=ra.of_str
   exact⟨"str",_,typeIs_str _ _ _,F.slot_str_getitem.lookup,P.getItem_str (w9b hk) (by rw[hj];exact hc) (.tok i (.str_ _ (by show 1<=sizeLine;decide)) _)⟩
  | _=>(refine lists ?_ ra rb;exact e)
 | str k=>exact dicts e ra rb
 | _=>exact nope e
theorem z0u {value slice:Expr} {T id:String} {E:Value->Shared->Prop} {Q:Value->Shared->Prop} (hT:s.TypeIs a T)
  (hl:typeLookup (.type T) "__getitem__" = pure (some (.builtin id))) (h:wpAny cx.M A (getItem a b) Q E s):wpAny cx.M A (subscriptTail value slice a b) Q E s:=by
 refine wpAny_bind ?_
 refine wpAny_bind (wpAny_specialOf hT hl ?_)
 have fin:wpAny cx.M A (subscripted slice false a b) (λ r s3=>wpAny cx.M A (letTemporaryGo value a r >>= λ _=>pure r) Q E s3) E s:=by
  have k:wpAny cx.M A (getItem a b) (λ r s3=>wpAny cx.M A (letTemporaryGo value a r >>= λ _=>pure r) Q E s3) E s:=
   wpAny_mono h (λ r s3 h3=>wpAny_bind (wpAny_letTemporaryGo (wpAny_pure h3))) λ _ _ x=>x
  induction slice using Expr.casesOn with
  | Slice l u st p=>rcases st with _|st<;>exact wpAny_operating k
  | _=>exact wpAny_operating k
 first
  | exact wpAny_pure (wpAny_bind fin)
  | exact wpAny_bind (wpAny_pure (wpAny_bind fin))
  | exact wpAny_bind fin
inductive j5z (a:Value) (k:Option Int):Prop
 | mk (h:IsPart a k) (l:Option (Int×Tok)) (e:a=partValue l) (q:l.map (·.1)=k)
theorem z2n {k:Option Int} (e:k5e x=some k) (ra:VR cx g x a):j5z a k:=by
 induction x using AV.casesOn with
 | none=>obtain rfl:=jI e;rw[ra.of_none];exact⟨.none,none,rfl,rfl⟩
 | int j=>obtain rfl:=jI e;obtain⟨t,rfl⟩:=ra.of_int;exact⟨.int _ _,some (_,t),rfl,rfl⟩
 | _=>exact nope e
theorem k0w {α:Type} (xs:List α) (p q:Nat):(xs.drop p).take (q - p)=(xs.take q).drop p:=by
 rw[List.drop_take]
theorem k6e {lo hi st:AV} {l h t:Value} {m:Addr} (i:Inv cx g σ s) (e:k6d σ x lo hi st=some v) (ra:VR cx g x a) (rl:VR cx g lo l) (rh:VR cx g hi h) (rt:VR cx g st t)
  (hs:g.I m=some { cls:=.type "slice",data:=.fields #[l,h,t] }) :
  ItAt cx g σ s A v a (.ref m):=by
 rcases _:Option.bind_eq_some_iff.mp e with⟨lo',h1,e⟩
 obtain⟨hi',h2,e⟩:=Option.bind_eq_some_iff.mp e
 rcases _:z2n h1 rl with⟨pl,l',rfl,hl'⟩
 rcases _:z2n h2 rh with⟨ph,h',rfl,hh'⟩
 have hm:s.heap.get? m=some { cls:=.type "slice",data:=.fields #[partValue l',partValue h',t] }:=i.sub _ _ hs
 have ls:∀x',((q0r σ x').map λ xs=>AV.fl (k6f xs lo' hi'))=some v->VR cx g x' a->t = .none->ItAt cx g σ s A v a (.ref m):=λ x' e ra ht=>by
  subst ht
  refine mapQ e λ xs hx e=>?_
  subst e
  obtain⟨p,vs,rfl,hp,rp,zp⟩:=q0x i hx ra
  have hz:vs.toArray.size<=sizeLine:=by simp only[List.size_toArray,<-rp.length];exact zp
  refine⟨"list",_,hp.isList.typeIs,slot_list_getitem.lookup,wpAny_getItem_list_slice (st:=none) hp.isList ⟨_,hm,rfl,rfl⟩ pl ph .none (by trivial) ?_ hz⟩
  rw[slicePick_plain,k0w]
  have hv:=rp.length
  simp only[List.size_toArray,<-hv]
  refine .list (n:=0) (t:=s.toks) i ((rp.take _).drop _) ?_ rfl
  exact jA (by rw[k6f,List.length_drop];exact Nat.sub_le _ _) (jA (by rw[List.length_take];exact Nat.min_le_right _ _) zp)
 induction st using AV.casesOn with
 | none=>
  have ht:=rt.of_none
  induction x using AV.casesOn with
  | str p=>
   subst ht
   obtain rfl:=jI e
   obtain⟨tk,rfl,z⟩:=ra.of_str
   refine⟨"str",_,typeIs_str _ _ _,F.slot_str_getitem.lookup,wpAny_getItem_str_slice (l:=l') (u:=h') (st:=none) ⟨_,hm,rfl,rfl⟩ rfl ?_⟩
   simp only[<-hl',<-hh']
   have zz:=jA (Txt.slice_le p (l'.map (·.1)) (h'.map (·.1))) z
   exact post_val_or_str ⟨zz,λ t' k=>.tok i (.str_ _ zz) _⟩
  | fl xs=>exact ls (.fl xs) e ra ht
  | loc xs=>exact ls (.loc xs) e ra ht
  | _=>exact nope e
 | int k=>
  refine q0o e λ hk e=>mapQ e λ xs hx e=>?_
  subst e
  rcases _:q0x i hx ra with⟨p,vs,rfl,hp,rp,zp⟩
  obtain⟨tk,rfl⟩:=rt.of_int
  obtain rfl:=hk.1
  obtain rfl:=Option.isNone_iff_eq_none.mp hk.2.1
  obtain rfl:=Option.isNone_iff_eq_none.mp hk.2.2
  have hz:vs.toArray.size<=sizeLine:=by simp only[List.size_toArray,<-rp.length];exact zp
  refine⟨"list",_,hp.isList.typeIs,slot_list_getitem.lookup,wpAny_getItem_list_slice (st:=some (-1)) hp.isList ⟨_,hm,rfl,rfl⟩ pl ph (.int _ _) (by trivial) ?_ hz⟩
  rw[krv_pick]
  exact .list (n:=0) (t:=s.toks) i rp.reverse (by simpa using zp) rfl
 | _=>exact nope e
end
section
variable {cx:Cx} {g:G} {σ σ':Store} {s s':Shared} {A:Around} {v x y:AV} {u a b:Value} {n:Nat}
theorem VR.of_loc {l:Nat} (h:VR cx g (.loc l) u):∃a,u = .ref a/\g.ρ[l]? = some a:=h
theorem VR.none_:VR cx g .none .none:=(rfl:Value.none = .none)
theorem w4v {vs:List Value} {ts:List Str} (h:StrsAre vs ts):∃l:List (Str×Tok),vs=strValues l/\l.map (·.1)=ts:=by
 induction h with
 | nil=>exact⟨[],rfl,rfl⟩
 | cons y t h ih=>obtain⟨l,rfl,rfl⟩:=ih;exact⟨(y,t)::l,rfl,rfl⟩
theorem k1t {l:Nat} {xs:List AV} (i:Inv cx g σ s) (e:σ[l]? = some (.list xs)) (hz:xs.length<sizeLine) (ra:VR cx g (.loc l) a) (rb:VR cx g v b) :
  wpAny cx.M A (call (.builtin "list.append") [a,b]) (PE cx g s (σ.set l (.list (xs++[v]))) .none) NoE s:=by
 obtain⟨p,rfl,hl⟩:=ra.of_loc
 obtain⟨vs,hv,q,z⟩:=i.cells _ _ _ e hl
 refine wpAny_list_append_plain hv (λ h' hp hs=>?_) (by simp only[List.size_toArray,<-q.length];exact z)
 exact PE.set (o:=.list (xs++[v])) (t:=s.toks) i hl ⟨vs++[b],by simpa using hp,q.append (.cons rb .nil),by simp;assumption⟩ hs .none_
theorem z9s (vs:List Value) (u:Value):((vs++[u]).toArray.eraseIdxIfInBounds ((vs++[u]).toArray.size - 1))=vs.toArray:=by
 simp[List.eraseIdx_append_of_length_le]
theorem w0u (f:Array Value->Array Value) (its:Array Value) (k:Nat):∃m,Obj.mapSeq f { cls:=.type "list",data:=.seq its k }={ cls:=.type "list",data:=.seq (f its) m }:=⟨_,rfl⟩
theorem VRs.snoc {xs:List AV} {x:AV} {vs:List Value} (h:VRs cx g (xs++[x]) vs):∃us u,vs=us++[u]/\VRs cx g xs us/\VR cx g x u:=by
 induction xs generalizing vs with
 | nil=>obtain⟨u,r,rfl,hu,hr⟩:=VRs.uncons h;rw[hr.of_nil];exact⟨[],u,rfl,.nil,hu⟩
 | cons y ys ih=>obtain⟨w,r,rfl,hw,hr⟩:=VRs.uncons h;obtain⟨us,u,rfl,h1,h2⟩:=ih hr;exact⟨w::us,u,rfl,.cons hw h1,h2⟩
set_option tactic.hygienic true in theorem j8x {l:Nat} {xs r:List AV} (i:Inv cx g σ s) (e:σ[l]? = some (.list xs)) (hp:popA xs=some (r,v)) (ra:VR cx g (.loc l) a) :
  wpAny cx.M A (call (.builtin "list.pop") [a]) (PE cx g s (σ.set l (.list r)) v) NoE s:=by
 rcases _:ra.of_loc with⟨p,rfl,hl⟩
 rcases _:i.cells _ _ _ e hl with⟨vs,⟨k,hv⟩,q,z⟩
 unfold popA at hp
 split at hp
 ·rename_i w' hw
  rcases hp
  have hx:xs=xs.dropLast++[v]:=by
   induction xs with
   | nil=>trivial
   | cons y ys=>rw[List.getLast?_eq_some_getLast (by simp),Option.some.injEq]at hw;rw[<-hw];exact(List.dropLast_concat_getLast (by simp)).symm
  rw[hx]at q
  rcases _:q.snoc with⟨us,u,rfl,h1,h2⟩
  refine call_meets F.slot_list_pop ⟨_,hv,rfl⟩ F.entry_list_pop (F.args_list_pop_1 _) (MeetsSeq.list_pop_last p _ k u (by simp) (by simp only[List.size_toArray,<-(h1.append (.cons h2 .nil)).length,<-hx];exact z)) ⟨hv,?_⟩
  rcases _:w0u (λ xs=>xs.eraseIdxIfInBounds ((us++[u]).toArray.size - 1)) (us++[u]).toArray k with⟨m,hm⟩
  rw[z9s]at hm
  have hget:=Heap.get?_update_self (h:=s.heap) (a:=p) (Obj.mapSeq λ xs=>xs.eraseIdxIfInBounds ((us++[u]).toArray.size - 1)) hv (by rfl)
  rw[hm]at hget
  refine PE.set (o:=.list xs.dropLast) (t:=s.toks) i hl ⟨us,⟨m,hget⟩,h1,by simp;exact Nat.le_succ_of_le ‹_›⟩ (Heap.SameBut.update ..) h2
 ·contradiction
theorem j4e {sep:Str} {xs:List AV} {ts:List Str} (i:Inv cx g σ s) (e:q0r σ v=some xs) (h:q1f xs=some ts) (hz:(ts.map (·.length)).sum+ts.length * sep.length<=sizeLine) (ra:VR cx g (.str sep) a) (rb:VR cx g v b) :
  wpAny cx.M A (call (.builtin "str.join") [a,b]) (PE cx g s σ (.str (Txt.join sep ts))) NoE s:=by
 obtain⟨t,rfl,_⟩:=ra.of_str
 rcases _:q0x i e rb with⟨p,vs,rfl,hp,rp,zp⟩
 rcases _:q3e h rp with⟨_,hS⟩
 rcases _:w4v hS with⟨l,rfl,rfl⟩
 have hok:JoinOk sep (l.map (·.1))=true:=joinOk_of (by exact hz)
 have hj:=hok
 unfold JoinOk at hj
 refine call_meets F.slot_str_join (typeIs_str _ _ _) F.entry_str_join (F.args_str_join_2 _ _) (meets_str_join_list sep t p l (by simpa using hj)) ⟨hp.isList,post_join l ⟨joinOk_length hok,λ t' k=>.tok i (.str_ _ (joinOk_length hok)) _⟩⟩
theorem v0a {p:Str} (i:Inv cx g σ s) (ra:VR cx g (.str p) a):wpAny cx.M A (call (.builtin "str.strip") [a]) (PE cx g s σ (.str (Txt.strip p))) NoE s:=by
 obtain⟨t,rfl,z⟩:=ra.of_str
 exact SC.strip (λ t' k=>.tok i (.str_ _ (jA (fact_strip p) z)) _) z
theorem VRs.strs {ts:List Str} {vs:List Value} (h:StrsAre vs ts) (z:∀t∈ts,t.length<=sizeLine):VRs cx g (ts.map .str) vs:=by
 induction h with
 | nil=>exact .nil
 | cons y t h ih=>exact .cons (.str_ _ (z _ (by simp))) (ih λ x hx=>z x (by simp[hx]))
theorem q7y:∀l:List (Str×Tok),StrsAre (strValues l) (l.map (·.1))
 | []=>.nil
 | (_,_)::l=>.cons _ _ (q7y l)
theorem PE.texts {ts:List Str} {l:List (Str×Tok)} {k t:Nat} (i:Inv cx g σ s) (e:l.map (·.1)=ts) (z:∀t∈ts,t.length<=sizeLine) (hz:ts.length<=sizeLine) :
  PE cx g s σ (.fl (ts.map .str)) (.ref s.heap.objs.size) { s with heap:=s.heap.push { cls:=.type "list",data:=.seq (strValues l).toArray k },toks:=t }:=
 .list (n:=k) (t:=t) i (VRs.strs (e▸q7y l) z) (by simpa using hz) rfl
theorem k5t {p c:Str} {k:Int} {d:Value} (i:Inv cx g σ s) (hc:c.length≠0) (hk:k.natAbs<2 ^ 30) (hz:(Txt.rsplitMax p c k).length<=sizeLine) (ra:VR cx g (.str p) a) (rb:VR cx g (.str c) b) (rd:VR cx g (.int k) d) :
  wpAny cx.M A (call (.builtin "str.rsplit") [a,b,d]) (PE cx g s σ (.fl ((Txt.rsplitMax p c k).map .str))) NoE s:=by
 obtain⟨t,rfl,z⟩:=ra.of_str
 obtain⟨u,rfl,_⟩:=rb.of_str
 obtain⟨w',rfl⟩:=rd.of_int
 have hy:(c.length==0)=false:=by simpa using hc
 have hk':(decide (k < -(2 ^ 63:Int))||decide (k≥2 ^ 63))=false:=w9b hk
 have zz:∀q∈Txt.rsplitMax p c k,q.length<=sizeLine:=λ q hq=>jA (rpartMax_short hq) z
 rcases h1:(decide (p.length<c.length)||decide (Builtin.Str.strKind p<Builtin.Str.strKind c))
 ·rcases hf:(Builtin.Str.occurrencesFromRight p c (limitOf p k)).isEmpty
  ·have e:Txt.rsplitMax p c k=Builtin.Str.partsBetween p (Builtin.Str.occurrencesFromRight p c (limitOf p k)) c.length:=by unfold Txt.rsplitMax;rw[if_neg (by rw[h1];simp),if_neg (by rw[hf];simp)]
   refine call_meets F.slot_str_rsplit (typeIs_str _ _ _) F.entry_str_rsplit (F.args_str_rsplit_3 _ _ _) (meets_str_rsplit_sep_max p c k t u w' hk' h1 hy hf z (by rw[<-e];exact hz)) ?_
   rw[strsFrom_eq]
   exact PE.texts i ((numbered_texts _ _).trans e.symm) zz hz
  ·have e:Txt.rsplitMax p c k=[p]:=by unfold Txt.rsplitMax;rw[if_neg (by rw[h1];simp),if_pos hf]
   exact call_meets F.slot_str_rsplit (typeIs_str _ _ _) F.entry_str_rsplit (F.args_str_rsplit_3 _ _ _) (meets_str_rsplit_max_not_found p c k t u w' hk' h1 hy hf) (PE.texts (l:=[(p,t)]) (t:=s.toks) i e.symm zz hz)
 ·have e:Txt.rsplitMax p c k=[p]:=by unfold Txt.rsplitMax;rw[if_pos h1]
  exact call_meets F.slot_str_rsplit (typeIs_str _ _ _) F.entry_str_rsplit (F.args_str_rsplit_3 _ _ _) (meets_str_rsplit_max_cannot_occur p c k t u w' hk' h1) (PE.texts (l:=[(p,t)]) (t:=s.toks) i e.symm zz hz)
theorem k8p {kvs:List (Str×AV)} (i:Inv cx g σ s) (e:q0k σ v=some kvs) (ra:VR cx g v a):wpAny cx.M A (call (.builtin "dict.items") [a]) (PE cx g s σ (.iv v)) NoE s:=by
 rcases _:q1g i e ra with⟨p,vs,rfl,hp,rp,zp,_⟩
 refine call_meetsIn F.slot_dict_items hp.typeIs F.entry_dict_items (F.args_dict_items_1 _) (meets_dict_items cx.sk p zp) ⟨⟨_,hp⟩,?_⟩
 exact PE.alloc (t:=s.toks) i rfl λ g' le hi=>by exact⟨_,_,p,rfl,hi,rfl,rfl,ra.mono le⟩
theorem j7t {k:Str} {kvs:List (Str×AV)} (i:Inv cx g σ s) (e:q0k σ v=some kvs) (ra:VR cx g v a) (rb:VR cx g (.str k) b) :
  wpAny cx.M A (call (.builtin "dict.get") [a,b]) (PE cx g s σ ((q0t k kvs).getD .none)) NoE s:=by
 rcases _:q1g i e ra with⟨p,vs,rfl,hp,rp,zp,_⟩
 obtain⟨t,rfl,_⟩:=rb.of_str
 refine call_meetsIn F.slot_dict_get hp.typeIs F.entry_dict_get (F.args_dict_get_2 _ _) (meets_dict_get cx.sk p (strKind_is _ _ k t) zp) ⟨_,hp.mapOf,?_⟩
 obtain⟨f1,f2⟩:=q4x rp k
 generalize hf:q0t k kvs=zzy
 induction zzy with
 | none=>rw[f1 hf];exact PE.tok i .none_ _
 | some x=>rcases _:f2 x hf with⟨u,hu,ru⟩;rw[hu];exact PE.tok i ru _
theorem j3v {k:Str} {kvs:List (Str×AV)} {d:Value} (i:Inv cx g σ s) (e:q0k σ v=some kvs) (ra:VR cx g v a) (rb:VR cx g (.str k) b) (rd:VR cx g y d) :
  wpAny cx.M A (call (.builtin "dict.get") [a,b,d]) (PE cx g s σ ((q0t k kvs).getD y)) NoE s:=by
 obtain⟨p,vs,rfl,hp,rp,zp,_⟩:=q1g i e ra
 obtain⟨t,rfl,_⟩:=rb.of_str
 refine call_meetsIn F.slot_dict_get hp.typeIs F.entry_dict_get (F.args_dict_get_3 _ _ _) (meets_dict_get_default cx.sk p (strKind_is _ _ k t) zp d) ⟨_,hp.mapOf,?_⟩
 obtain⟨f1,f2⟩:=q4x rp k
 generalize hf:q0t k kvs=zzy
 induction zzy with
 | none=>rw[f1 hf];exact PE.tok i rd _
 | some x=>rcases _:f2 x hf with⟨u,hu,ru⟩;rw[hu];exact PE.tok i ru _
set_option tactic.hygienic true in theorem q8x (k k':Str) (ks:List Str):(addK k ks).contains k'=(ks.contains k'||decide (k'=k)):=by
 unfold addK
 split
 ·rename_i h
  by_cases e:k'=k
  ·subst e;rw[h];rfl
  ·simp[e]
 ·rw[List.contains_append];simp
set_option tactic.hygienic true in theorem w7f {k:Str} {ks:List Str} (h:ks.Nodup):(addK k ks).Nodup:=by
 unfold addK
 split
 ·exact h
 ·rename_i q
  rw[List.nodup_append]
  exact⟨h,by simp,λ x hx y hy=>by simp at hy;subst hy;intro e;subst e;exact q (by simpa using hx)⟩
theorem q8b (k:Str) (ks:List Str):(addK k ks).length=if ks.contains k then ks.length else ks.length+1:=by
 unfold addK;split<;>simp
theorem j6c {l:Nat} {k:Str} {ks:List Str} (i:Inv cx g σ s) (e:σ[l]? = some (.set ks)) (hz:ks.length+1<scanBound) (ra:VR cx g (.loc l) a) (rb:VR cx g (.str k) b) :
  wpAny cx.M A (call (.builtin "set.add") [a,b]) (PE cx g s (σ.set l (.set (addK k ks))) .none) NoE s:=by
 obtain⟨p,rfl,hl⟩:=ra.of_loc
 obtain⟨t,rfl,_⟩:=rb.of_str
 obtain⟨hS,hn⟩:=i.cells _ _ _ e hl
 refine call_set_add (strKind_is _ _ k t) rfl hS hz λ h' hs hS'=>?_
 refine PE.set (o:=.set (addK k ks)) i hl ⟨?_,w7f hn⟩ hs .none_ _
 simp only[q8b]
 have:(λ k'=>(addK k ks).contains k')=λ k'=>ks.contains k'||decide (k'=k):=by funext k';exact q8x k k' ks
 simp only[this];exact hS'
theorem j5u {p:Str} (i:Inv cx g σ s) (ra:VR cx g (.str p) a):wpAny cx.M A (call (.builtin "len") [a]) (PE cx g s σ (.int p.length)) NoE s:=by
 obtain⟨t,rfl,z⟩:=ra.of_str
 exact P.len_str (Int.not_le.mpr (w0h z)) (PE.tok i (.int_ _) _)
theorem z5v {xs:List AV} (i:Inv cx g σ s) (e:q0r σ v=some xs) (ra:VR cx g v a):wpAny cx.M A (call (.builtin "len") [a]) (PE cx g s σ (.int xs.length)) NoE s:=by
 rcases _:q0x i e ra with⟨p,vs,rfl,hp,rp,zp⟩
 refine Calls.call_len_list hp.isList (by simp only[List.size_toArray,<-rp.length];exact w0h zp) ?_
 simp only[List.size_toArray,<-rp.length]
 exact PE.tok i (.int_ _) _
theorem j6w {k:Int} (i:Inv cx g σ s) (h:0<=k/\k<1114112) (ra:VR cx g (.int k) a):wpAny cx.M A (call (.builtin "chr") [a]) (PE cx g s σ (.str (q1y k.toNat))) NoE s:=by
 obtain⟨t,rfl⟩:=ra.of_int
 exact P.chr_of_int (by rw[decide_eq_false (Int.not_lt.mpr h.1),decide_eq_false (Int.not_lt.mpr (Int.le_of_lt_add_one (show k<1114111+1 from h.2)))];rfl) (PE.tok i (.str_ _ (by show 1<=sizeLine;decide)) _)
end
noncomputable def q6j (n:Nat) (p:Array Nat):Prop:=p.Perm (List.range n).toArray
theorem q6j.size {n:Nat} {p:Array Nat} (h:q6j n p):p.size=n:=by have:=h.size_eq;simpa using this
section
variable {O:KeyOrd} {key:Nat->O.α} {cmp:Nat->Nat->(Bool->Shared->Prop)->Shared->Prop} {I:Shared->Prop} {n:Nat}
noncomputable def Kp (key:Nat->O.α) (p:Array Nat) (i:Nat):O.α:=key (p.getD i 0)
noncomputable def Up (key:Nat->O.α) (p:Array Nat) (k:Nat):Prop:=∀i j,i<=j->j<k->O.kle (Kp key p i) (Kp key p j)
noncomputable def Asks (O:KeyOrd) (key:Nat->O.α) (cmp:Nat->Nat->(Bool->Shared->Prop)->Shared->Prop) (I:Shared->Prop) (n:Nat):Prop:=
 ∀i j C s,i<n->j<n->I s->(∀s',I s'->C (O.blt (key i) (key j)) s')->cmp i j C s
noncomputable def reach (fs:List (Nat×Nat×Bool)):Nat->Nat->Nat->Bool
 | 0,a,b=>a==b
 | k+1,a,b=>a==b||fs.any λ f=>(if f.2.2 then f.1==a&&reach fs k f.2.1 b else f.2.1==a&&reach fs k f.1 b)
noncomputable def j1d (fs:List (Nat×Nat×Bool)) (p:Array Nat) (k:Nat):Bool:=reach fs 3 (p.getD k 0) (p.getD (k+1) 0)
theorem w9s {fs:List (Nat×Nat×Bool)} (hf:∀f∈fs,O.blt (key f.1) (key f.2.1)=f.2.2):∀(k a b:Nat),reach fs k a b=true->O.kle (key a) (key b)
 | 0,a,b,h=>by rw[beq_iff_eq.mp h];exact KeyOrd.kle_refl _
 | k+1,a,b,h=>by
  rcases(Bool.or_eq_true ..).mp h with h|h
  ·rw[beq_iff_eq.mp h];exact KeyOrd.kle_refl _
  ·obtain⟨f,hm,h⟩:=List.any_eq_true.mp h
   have e:=hf f hm
   generalize hb:f.2.2=c at h e
   induction c with
   | true=>
    obtain⟨h1,h2⟩:=(Bool.and_eq_true ..).mp h
    exact KeyOrd.kle_trans (beq_iff_eq.mp h1▸KeyOrd.kle_of_klt e) (w9s hf k _ b h2)
   | false=>
    obtain⟨h1,h2⟩:=(Bool.and_eq_true ..).mp h
    exact KeyOrd.kle_trans (beq_iff_eq.mp h1▸e) (w9s hf k _ b h2)
noncomputable def okT (n:Nat):KasT (Array Nat)->List (Nat×Nat×Bool)->Bool
 | .ret p,fs=>p.toList.isPerm (List.range n)&&(List.range (n - 1)).all (j1d fs p)
 | .ask i j k,fs=>(decide (i<n)&&decide (j<n))&&(okT n (k true) ((i,j,true)::fs)&&okT n (k false) ((i,j,false)::fs))
theorem v2m {fs:List (Nat×Nat×Bool)} {p:Array Nat} (hf:∀f∈fs,O.blt (key f.1) (key f.2.1)=f.2.2) (h:∀k,k+1<n->j1d fs p k=true):Up key p n:=λ i j hij=>by
 induction j with
 | zero=>exact λ _=>Nat.le_zero.mp hij▸KeyOrd.kle_refl _
 | succ j ih=>
  intro hj
  rcases Nat.lt_or_ge i (j+1)with h1|h1
  ·refine KeyOrd.kle_trans (ih (Nat.le_of_lt_succ h1) (Nat.lt_of_succ_lt hj)) ?_
   exact w9s hf 3 _ _ (h j hj)
  ·rw[Nat.le_antisymm hij h1];exact KeyOrd.kle_refl _
theorem k5c (h:Asks O key cmp I n) {Q:Array Nat->Shared->Prop} (k:∀p s',I s'->q6j n p->Up key p n->Q p s'):∀(t:KasT (Array Nat)) (fs:List (Nat×Nat×Bool)) (s:Shared),okT n t fs=true->(∀f∈fs,O.blt (key f.1) (key f.2.1)=f.2.2)->I s->t.kasWp cmp Q s
 | .ret p,fs,s,ht,hf,is=>by
  obtain⟨h1,h2⟩:=(Bool.and_eq_true ..).mp ht
  exact k p s is (Array.perm_iff_toList_perm.mpr (List.isPerm_iff.mp h1)) (v2m hf λ j hj=>List.all_eq_true.mp h2 j (List.mem_range.mpr (Nat.lt_sub_of_add_lt hj)))
 | .ask i j t,fs,s,ht,hf,is=>by
  obtain⟨h1,h2⟩:=(Bool.and_eq_true ..).mp ht
  obtain⟨h3,h4⟩:=(Bool.and_eq_true ..).mp h1
  obtain⟨h5,h6⟩:=(Bool.and_eq_true ..).mp h2
  refine h i j _ s (of_decide_eq_true h3) (of_decide_eq_true h4) is λ s' is'=>?_
  generalize hb:O.blt (key i) (key j)=b
  induction b with
  | true=>exact k5c h k (t true) _ s' h5 (λ f hm=>(List.mem_cons.mp hm).elim (λ e=>e▸hb) (hf f)) is'
  | false=>exact k5c h k (t false) _ s' h6 (λ f hm=>(List.mem_cons.mp hm).elim (λ e=>e▸hb) (hf f)) is'
theorem j8w:∀n<5,2<=n->okT n (kas_sort n) []=true:=by decide +kernel
theorem z1z (h:Asks O key cmp I n) {s:Shared} {Q:Array Nat->Shared->Prop} (h2:2<=n) (h5:n<5) (is:I s) (k:∀p s',I s'->q6j n p->Up key p n->Q p s'):(kas_sort n).kasWp cmp Q s:=
 k5c h k _ [] s (j8w n h5 h2) (λ _ q=>nomatch q) is
end
theorem j1p (l:List Value):l=(List.range l.length).map (λ i=>l.getD i .none):=by
 refine List.ext_getElem (by rw[List.length_map,List.length_range]) λ i h _=>?_
 rw[List.getElem_map,List.getElem_range,List.getD,List.getElem?_eq_getElem h];rfl
theorem k6g {us kk:List Value} {n:Nat} (e:us.length=n) (e2:kk.length=n):(kk.toArray.zip us.toArray).map (·.2)=((List.range n).toArray.toList.map λ i=>us.getD i Value.none).toArray:=by
 subst e
 apply Array.toList_inj.mp
 simp only[Array.toList_map,Array.toList_zip,List.map_snd_zip (jE e2.symm)]
 exact j1p us
theorem z9e {O:KeyOrd} {key:Nat->O.α} {n:Nat} (h:n<2):Up key (List.range n).toArray n:=λ i j hij hj=>by
 obtain rfl:j=0:=Nat.lt_one_iff.mp (jC hj (Nat.le_of_lt_succ h))
 obtain rfl:i=0:=Nat.le_zero.mp hij
 exact KeyOrd.kle_refl _
section
variable {prog:Program} {w:World} {A:Around} {E:Value->Shared->Prop} {s:Shared} {O:KeyOrd} {key:Nat->O.α} {κ:SortKind} {vs:List Value}
noncomputable def q2t (a:Addr) (h h':Heap):Prop:=∀b o,b≠a->h.get? b=some o->h'.get? b=some o
theorem z2g {a:Addr} {n:Nat} {P:PySem.Fin->Shared->Prop} (ho:s.heap.get? a=some (seqObj "list" vs.toArray n)) (h5:vs.length<5)
  (hkind:2<=vs.length->∀(h':Heap) (Q:SortKind->Shared->Prop),q2t a s.heap h'->Q κ { s with heap:=h' }->wpAny (model prog w) A (keyKind' vs.toArray) Q NoE { s with heap:=h' })
  (hask:2<=vs.length->∀(h':Heap) (t i j:Nat) (C:Bool->Shared->Prop),i<vs.length->j<vs.length->q2t a s.heap h'->(∀t',C (O.blt (key i) (key j)) { s with heap:=h',toks:=t' })->
   wpAny (model prog w) A (keyLt' κ (vs.getD i Value.none) (vs.getD j Value.none)) C NoE { s with heap:=h',toks:=t })
  (h:∀(p:Array Nat) (h':Heap) (t c:Nat),q6j vs.length p->Up key p vs.length->q2t a s.heap h'->h'.get? a=some (seqObj "list" (p.toList.map λ i=>vs.getD i Value.none).toArray c)->P (.done (.ret .none)) { s with heap:=h',toks:=t }) :
  wpAny (model prog w) A (Builtin.«list.sort» ⟨[.ref a],[]⟩) P NoE s:=by
 rw[list_sort_plain]
 have ha:a<s.heap.objs.size:=Heap.lt_size ho
 obtain⟨e1,ho1⟩:∃e1,(s.heap.update a (Obj.mapSeq λ _=>(#[]:Array Value))).get? a=some (seqObj "list" #[] e1):=⟨_,get?_update_seq ho λ _=>#[]⟩
 refine wpAny_bind (listItems_at ho rfl ?_)
 refine wpAny_bind (listUpdate_at ho rfl ?_ (by rw[List.size_toArray,sizeLine_eq];decreasing_trivial) (Nat.zero_le _))
 refine wpAny_bind (seqEpoch_at ho1 rfl ?_)
 refine wpAny_bind (wpAny_newTuple ?_ (by show vs.length<=_;rw[sizeLine_eq];exact jA (jF h5) (by decide)))
 refine wpAny_bind (wpAny_newList ?_ (Nat.zero_le _))
 refine wpAny_holding ?_
 show wpAny (model prog w) A _ P NoE { s with heap:=((s.heap.update a (Obj.mapSeq λ _=>(#[]:Array Value))).push (seqObj "tuple" vs.toArray 0)).push (seqObj "list" #[] 0) }
 generalize hH:(((s.heap.update a (Obj.mapSeq λ _=>(#[]:Array Value))).push (seqObj "tuple" vs.toArray 0)).push (seqObj "list" #[] 0))=H
 have ho6:H.get? a=some (seqObj "list" #[] e1):=by rw[<-hH];exact Heap.get?_push_of_some _ (Heap.get?_push_of_some _ ho1)
 have kH:q2t a s.heap H:=λ b o hb e=>by
  rw[<-hH];exact Heap.get?_push_of_some _ (Heap.get?_push_of_some _ (by rw[Heap.get?_update_ne _ _ _ _ hb];exact e))
 dsimp only
 have fin:∀(t:Nat) (p:Array Nat),q6j vs.length p->Up key p vs.length->(Q:Unit->Shared->Prop)->(∀h' c,q2t a s.heap h'->h'.get? a=some (seqObj "list" (p.toList.map λ i=>vs.getD i Value.none).toArray c)->Q () { s with heap:=h',toks:=t })->
   wpAny (model prog w) A (Builtin.List.listUpdate (.ref a) λ _=>(p.toList.map λ i=>vs.getD i Value.none).toArray) Q NoE { s with heap:=H,toks:=t }:=by
  intro t p hp _ Q hQ
  refine listUpdate_at ho6 rfl ?_ (Nat.zero_le _) (by show(p.toList.map _).length<=_;simp only[List.length_map,Array.length_toList,hp.size,sizeLine_eq];decreasing_trivial)
  refine hQ _ (if((p.toList.map λ i=>vs.getD i Value.none).toArray).size==(#[]:Array Value).size then e1 else e1+1) (λ b o hb e=>?_) (get?_update_seq ho6 _)
  rw[Heap.get?_update_ne _ _ _ _ hb];exact kH b o hb e
 by_cases h2:vs.toArray.size<2
 ·rw[if_pos h2,if_pos h2]
  refine wpAny_bind (wpAny_pure ?_)
  rw[StateT.run_pure]
  refine wpAny_bind (wpAny_pure ?_)
  dsimp only
  refine wpAny_bind (seqEpoch_at ho6 rfl ?_)
  have hp0:q6j vs.length (List.range vs.length).toArray:=Array.Perm.refl _
  have hu0:Up key (List.range vs.length).toArray vs.length:=z9e h2
  have ex:((arrOf (SortSt.mk' general' (vs.toArray.zip vs.toArray) #[] 7 none)).map (·.2))=((List.range vs.length).toArray.toList.map λ i=>vs.getD i Value.none).toArray:=by
   exact k6g rfl rfl
  rw[ex]
  refine wpAny_bind (fin s.toks _ hp0 hu0 _ λ h' c k1 k2=>?_)
  simp only[bne_self_eq_false,Bool.false_eq_true,if_false]
  exact wpAny_pure (h _ h' s.toks c hp0 hu0 k1 k2)
 ·rw[if_neg h2,if_neg h2]
  have h2':2<=vs.length:=Nat.le_of_not_lt h2
  refine wpAny_bind (hkind h2' H _ kH ?_)
  refine wpAny_bind (wpAny_mono (kat_run (ks:=vs) (κ:=κ) (Q:=λ st' s'=>∃(p:Array Nat) (t:Nat),s'={ s with heap:=H,toks:=t }/\q6j vs.length p/\Up key p vs.length/\arrOf st'=p.map (kas_item (vs.toArray.zip vs.toArray))/\failedOf st'=none)
   (G:=λ p s'=>q6j vs.length p/\Up key p vs.length/\∃t,s'={ s with heap:=H,toks:=t }) rfl h2' (Nat.lt_trans h5 (by decide)) (λ p st' s' a1 a2 a3 a4=>⟨p,a4.2.2.choose,a4.2.2.choose_spec,a4.1,a4.2.1,a2,a3⟩)
   (z1z (O:=O) (key:=key) (I:=λ s'=>∃t,s'={ s with heap:=H,toks:=t }) ?asks h2' h5 ⟨s.toks,rfl⟩ λ p s' is hp hu=>⟨hp,hu,is⟩)) ?_ λ _ _ e=>e)
  case asks=>
   rintro i j C _ hi hj ⟨t,rfl⟩ hC
   exact wpAny_mono (hask h2' H t i j C hi hj kH λ t'=>hC _ ⟨t',rfl⟩) (λ _ _ x=>x) λ _ _ x=>x
  rintro⟨⟨⟩,st'⟩ s' ⟨p,t,rfl,hp,hu,har,hf⟩
  dsimp only
  refine wpAny_bind (seqEpoch_at ho6 rfl ?_)
  have hout:=kat_snds rfl har
  rw[hout]
  refine wpAny_bind (fin t p hp hu _ λ h' c k1 k2=>?_)
  rw[hf]
  simp only[bne_self_eq_false,Bool.false_eq_true,if_false]
  exact wpAny_pure (h p h' t c hp hu k1 k2)
theorem k6j {a:Addr} {n:Nat} {Q:Value->Shared->Prop} (ho:s.heap.get? a=some (seqObj "list" vs.toArray n)) (h5:vs.length<5)
  (hkind:2<=vs.length->∀(A:Around) (h':Heap) (Q:SortKind->Shared->Prop),q2t a s.heap h'->Q κ { s with heap:=h' }->wpAny (model prog w) A (keyKind' vs.toArray) Q NoE { s with heap:=h' })
  (hask:∀(A:Around) (h':Heap) (t i j:Nat) (C:Bool->Shared->Prop),i<vs.length->j<vs.length->q2t a s.heap h'->(∀t',C (O.blt (key i) (key j)) { s with heap:=h',toks:=t' })->
   wpAny (model prog w) A (keyLt' κ (vs.getD i Value.none) (vs.getD j Value.none)) C NoE { s with heap:=h',toks:=t })
  (h:∀(p:Array Nat) (h':Heap) (t c:Nat),q6j vs.length p->Up key p vs.length->q2t a s.heap h'->h'.get? a=some (seqObj "list" (p.toList.map λ i=>vs.getD i Value.none).toArray c)->Q .none { s with heap:=h',toks:=t }) :
  wpAny (model prog w) A (call (.builtin "list.sort") [.ref a]) Q NoE s:=
 wpAny_call_entry slot_list_sort ⟨_,ho,rfl⟩ entry_list_sort (z2g ho h5 (λ h2=>hkind h2 _) (λ _=>hask _) λ p h' t c a1 a2 a3 a4=>⟨_,rfl,h p h' t c a1 a2 a3 a4⟩) (args_list_sort _)
theorem k6m {x:Value} {Q:Value->Shared->Prop}
  (h:wpAny (model prog w) A.in1 (collect x) (λ vs s₁=>vs.length<=sizeLine/\∀A,wpAny (model prog w) A (call (.builtin "list.sort") [.ref s₁.heap.objs.size]) (λ _ s'=>Q (.ref s₁.heap.objs.size) s') NoE { s₁ with heap:=s₁.heap.push (seqObj "list" vs.toArray 0) }) NoE s) :
  wpAny (model prog w) A (call (.builtin "sorted") [x]) Q NoE s:=by
 refine Calls.call_function_entry kind_sorted plain_sorted entry_sorted (args_sorted1 _) ?_
 unfold Builtin.«sorted»
 refine wpAny_bind (m:=checkCount "sorted" 1 1 _) (wpAny_pure ?_)
 refine wpAny_bind (wpAny_mono h (λ vs s₁ x=>?_) λ _ _ x=>x.elim)
 refine wpAny_bind (wpAny_newList ?_ x.1)
 exact wpAny_bind (wpAny_holding (wpAny_mono (x.2 _) (λ _ _ q=>wpAny_pure ⟨_,rfl,q⟩) λ _ _ x=>x.elim))
end
noncomputable def KR (a b:Option NameKind):Prop:=a=b\/(a=some .free/\b=some .cell)
inductive w7e (g:G) (cd:Value):Prop
 | mk (c:Addr) (o:Obj) (fs:Array Value) (e:cd = .ref c) (i:g.I c=some o) (d:o.data = .fields fs)
theorem w7e.mono {g g':G} {cd:Value} (le:g.le g') (h:w7e g cd):w7e g' cd:=let ⟨c,o,fs,a,b,r⟩:=h;⟨c,o,fs,a,le.I _ _ b,r⟩
noncomputable def IsCF (ks:Kinds) (x:Str):Prop:=ks.lookup x=some .cell\/ks.lookup x=some .free
noncomputable def Holds (cx:Cx) (g:G) (o:Option Value) (v:AV):Prop:=∃u,o=some u/\VR cx g v u
inductive v0f (cx:Cx) (ks:Kinds) (ns:List Str) (l:Addr) (g:G) (vs:Vs) (h:Heap):Prop
 | mk (m:Str->Option Value) (n:h.Ns l m) (k:∀x v,ks.lookup x=some .local->q5r ns vs x=some v->Holds cx g (m x) v)
inductive v0c (cx:Cx) (ns:List Str) (env:Env) (g:G) (vs:Vs) (h:Heap) (x:Str):Prop
 | mk (c:Addr) (e:env.cells.lookup x=some c) (n:c∉g.ρ) (i:g.I c=none) (l:c≠env.locals) (o:Option Value) (d:h.IsCell c o) (k:∀v,q5r ns vs x=some v->Holds cx g o v)
structure ER (cx:Cx) (ks:Kinds) (ns:List Str) (env:Env) (g:G) (vs:Vs) (s:Shared):Prop where
 fn:env.scope.kind = .function
 gl:env.globals=cx.gA
 bl:env.builtins=cx.bA
 code:w7e g env.code/\((ks.lookup ("resolved_names" : Str)).isSome=true->env.code = .ref cx.lc/\env.qual=cx.lq)
 len:vs.length=ns.length
 kinds:∀x,KR (ks.lookup x) (env.kindOf x)
 mem:∀x,ks.lookup x=some .local\/ks.lookup x=some .cell->x∈ns
 loc:v0f cx ks ns env.locals g vs s.heap
 locA:env.locals∉g.ρ/\g.I env.locals=none
 cel:∀x,IsCF ks x->v0c cx ns env g vs s.heap x
 apart:∀x y c,env.cells.lookup x=some c->env.cells.lookup y=some c->x=y
noncomputable def ownK (ks:Kinds) (env:Env):List Addr:=env.locals::ks.filterMap λ p=>if ks.lookup p.1=some .cell then env.cells.lookup p.1 else none
section
variable {cx:Cx} {ks:Kinds} {ns:List Str} {env:Env} {g g':G} {vs:Vs} {σ σ':Store} {s s':Shared}
theorem q6e {h:Heap} {a:Addr} {m:Str->Option Value} (x:h.Ns a m):∃o,h.get? a=some o:=let ⟨o,_,_,e,_⟩:=x;⟨o,e⟩
theorem q2s {h:Heap} {a:Addr} {m:Option Value} (x:h.IsCell a m):∃o,h.get? a=some o:=let ⟨o,e,_⟩:=x;⟨o,e⟩
theorem k9l {h h':Heap} {a:Addr} {m:Str->Option Value} (x:h.Ns a m) (k:∀o,h.get? a=some o->h'.get? a=some o):h'.Ns a m:=x.at' k
theorem k2i {h h':Heap} {a:Addr} {m:Option Value} (x:h.IsCell a m) (k:∀o,h.get? a=some o->h'.get? a=some o):h'.IsCell a m:=let ⟨o,e,d⟩:=x;⟨o,k o e,d⟩
theorem ER.step {own:List Addr} (E:ER cx ks ns env g vs s) (a:Stp own g s g' s') (h1:env.locals∉own) (h2:∀x c,IsCF ks x->env.cells.lookup x=some c->c∉own):ER cx ks ns env g' vs s':=by
 obtain⟨m,hm,hv⟩:=E.loc
 obtain⟨lo,ho⟩:=q6e hm
 refine⟨E.fn,E.gl,E.bl,⟨E.code.1.mono a.le,E.code.2⟩,E.len,E.kinds,E.mem,⟨m,k9l hm λ o e=>a.keep _ _ e E.locA.1 h1,λ x v k e=>let ⟨u,p,q⟩:=hv x v k e;⟨u,p,q.mono a.le⟩⟩,⟨a.new _ _ ho E.locA.1,a.newI _ _ ho E.locA.2⟩,λ x k=>?_,E.apart⟩
 obtain⟨c,hc,c1,c2,c3,o,co,cv⟩:=E.cel x k
 obtain⟨oc,hoc⟩:=q2s co
 exact⟨c,hc,a.new _ _ hoc c1,a.newI _ _ hoc c2,c3,o,k2i co λ o e=>a.keep _ _ e c1 (h2 x c k hc),λ v e=>let ⟨u,p,q⟩:=cv v e;⟨u,p,q.mono a.le⟩⟩
theorem ER.go (E:ER cx ks ns env g vs s) (a:Stp [] g s g' s'):ER cx ks ns env g' vs s':=E.step a (by simp) (by simp)
theorem ER.toks (E:ER cx ks ns env g vs s) (t:Nat):ER cx ks ns env g vs { s with toks:=t }:=⟨E.fn,E.gl,E.bl,E.code,E.len,E.kinds,E.mem,E.loc,E.locA,E.cel,E.apart⟩
theorem w0g (E:ER cx ks ns env g vs s) {x:Str} (h:ks.lookup x=some .local):env.kindOf x=some .local:=by
 rcases E.kinds x with e|⟨e,_⟩
 ·rw[<-e];exact h
 ·rw[h]at e;cases e
theorem z2b (E:ER cx ks ns env g vs s) {x:Str} (h:ks.lookup x=some .cell):env.kindOf x=some .cell:=by
 rcases E.kinds x with e|⟨e,_⟩
 ·rw[<-e];exact h
 ·rw[h]at e;cases e
theorem k3x (E:ER cx ks ns env g vs s) {x:Str} (h:ks.lookup x=some .free):env.kindOf x=some .free\/env.kindOf x=some .cell:=by
 rcases E.kinds x with e|⟨_,e⟩
 ·rw[<-e];exact .inl h
 ·exact .inr e
theorem z5s (E:ER cx ks ns env g vs s) {x:Str} (h:ks.lookup x=some .globalImplicit):env.kindOf x=some .globalImplicit:=by
 rcases E.kinds x with e|⟨e,_⟩
 ·rw[<-e];exact h
 ·rw[h]at e;cases e
theorem k4u {x:Str} {v:AV} {A:Around} {E':Value->Shared->Prop} {Q:Value->Shared->Prop} (E:ER cx ks ns env g vs s) (hk:ks.lookup x=some .local\/ks.lookup x=some .cell\/ks.lookup x=some .free)
  (hd:(x==("__classdict__" : Str))=false) (hv:q5r ns vs x=some v) (h:∀u,VR cx g v u->Q u s):wpAny cx.M A (loadName env x) Q E' s:=by
 rcases _:hk with k|k|k
 ·obtain⟨m,hm,hx⟩:=E.loc
  rcases _:hx x v k hv with⟨u,e,r⟩
  exact wpAny_loadName_local E.fn (w0g E k) hm e (h u r)
 ·obtain⟨c,hc,_,_,_,o,co,cv⟩:=E.cel x (.inl k)
  obtain⟨u,rfl,r⟩:=cv v hv
  exact wpAny_loadName_cell E.fn (z2b E k) hc co (h u r)
 ·obtain⟨c,hc,_,_,_,o,co,cv⟩:=E.cel x (.inr k)
  obtain⟨u,rfl,r⟩:=cv v hv
  rcases k3x E k with q|q
  ·exact wpAny_loadName_free E.fn q hc co (h u r) hd
  ·exact wpAny_loadName_cell E.fn q hc co (h u r)
theorem w1q {x:Str} (h:x∈ns):ns.idxOf x<ns.length:=List.idxOf_lt_length_of_mem h
theorem w2r {x y:Str} (h:x∈ns) (e:ns.idxOf x=ns.idxOf y):x=y:=by
 have h1:=w1q h
 have h2:ns.idxOf y<ns.length:=by rw[<-e];exact h1
 have a1:ns[ns.idxOf x]=x:=List.getElem_idxOf h1
 have a2:ns[ns.idxOf y]=y:=List.getElem_idxOf h2
 rw[<-a1,<-a2];congr 1
theorem q2h {x:Str} {v:AV} (hl:vs.length=ns.length) (h:x∈ns):q5r ns (putV ns vs x v) x=some v:=by
 unfold q5r putV
 rw[List.getElem?_set_self (by rw[hl];exact w1q h)]
theorem q1x {x y:Str} {v:AV} (h:x∈ns) (hne:y≠x):q5r ns (putV ns vs x v) y=q5r ns vs y:=by
 unfold q5r putV
 rw[List.getElem?_set_ne (λ e=>hne (w2r h e).symm)]
theorem q8e {x:Str} {v:AV}:(putV ns vs x v).length=vs.length:=by simp[putV]
inductive PA (cx:Cx) (ks:Kinds) (ns:List Str) (env:Env) (g:G) (s:Shared) (vs':Vs) (σ':Store) (s':Shared):Prop
 | mk (g':G) (a:Stp (ownK ks env) g s g' s') (i:Inv cx g' σ' s') (e:ER cx ks ns env g' vs' s')
theorem w9j {x:Str} {c:Addr} (h:env.cells.lookup x=some c) (hk:ks.lookup x=some .cell):c∈ownK ks env:=by
 refine jK _ (List.mem_filterMap.mpr ⟨(x,.cell),mem_of_lookup hk,by simp[hk,h]⟩)
set_option tactic.hygienic true in theorem k5g (E:ER cx ks ns env g vs s) {b:Addr} (h:b∈ownK ks env):∃o,s.heap.get? b=some o:=by
 rcases List.mem_cons.mp h with rfl|h
 ·obtain⟨m,hm,_⟩:=E.loc;exact q6e hm
 ·rcases _:List.mem_filterMap.mp h with⟨⟨x,k⟩,_,e⟩
  split at e
  ·rename_i hk
   rcases _:E.cel x (.inl hk)with⟨c,hc,_,_,_,o,co,_⟩
   simp only[hc]at e;obtain rfl:=jI e
   exact q2s co
  ·contradiction
theorem k3e (E:ER cx ks ns env g vs s):(∃o,s.heap.get? env.locals=some o)/\∀x c,IsCF ks x->env.cells.lookup x=some c->∃o,s.heap.get? c=some o:=by
 refine⟨by rcases _:E.loc with⟨m,hm,_⟩;exact q6e hm,λ x c k h=>?_⟩
 obtain⟨c',hc,_,_,_,o,co,_⟩:=E.cel x k
 rw[hc]at h;obtain rfl:=jI h
 exact q2s co
theorem Stp.write {own:List Addr} {h':Heap} {a:Addr} {t:Nat} (ht:s.toks<=t) (ha:a∈own) (hs:Heap.SameBut a s.heap h') (hx:∃o,h'.get? a=some o):Stp own g s g { s with heap:=h',toks:=t }:=
 ⟨.refl g,ht,λ b o e _ q=>(hs.2 b λ z=>q (z▸ha)).trans e,λ _ _ _ h=>h,λ _ _ _ h=>h,λ b o e=>by
  by_cases z:b=a
  ·rw[z];exact hx
  ·exact⟨o,(hs.2 b z).trans e⟩,rfl,rfl⟩
theorem Inv.write (i:Inv cx g σ s) {h':Heap} {a:Addr} {t:Nat} (ht:s.toks<=t) (h1:a∉g.ρ) (h2:g.I a=none) (hs:Heap.SameBut a s.heap h'):Inv cx g σ { s with heap:=h',toks:=t }:=
 ⟨λ b o e=>(hs.2 b λ z=>by rw[z,h2]at e;contradiction).trans (i.sub b o e),i.base,i.len,i.nodup,i.apart,
  λ l o b e q=>(i.cells l o b e q).mono (.refl g) λ ob eo=>(hs.2 b λ z=>h1 (z▸List.mem_of_getElem? q)).trans eo,jA i.one ht,λ x y e=>jC (i.tok x y e) ht⟩
theorem w1v {x:Str} {v:AV} {u:Value} {A:Around} {E':Value->Shared->Prop} {Q:Unit->Shared->Prop} (i:Inv cx g σ s) (E:ER cx ks ns env g vs s) (hk:q1v ks x=true) (r:VR cx g v u)
  (h:∀s',PA cx ks ns env g s (putV ns vs x v) σ s'->Q () s'):wpAny cx.M A (storeName env x u) Q E' s:=by
 unfold q1v at hk
 simp only[Bool.or_eq_true,beq_iff_eq,beq_iff_eq]at hk
 have hx:x∈ns:=E.mem x hk
 have hp:(env.scope.kind==.class||(env.scope.kind==.module&&env.locals !=env.globals))=false:=by rw[E.fn];rfl
 rcases _:E.loc with⟨m,hm,hv⟩
 rcases _:hk with k|k
 ·refine wpAny_storeName_local (w0g E k) hm (λ h' hn hs=>h _ ⟨g,.write (Nat.le_succ _) (jL ..) hs (q6e hn),i.write (Nat.le_succ _) E.locA.1 E.locA.2 hs,?_⟩) hp
  refine⟨E.fn,E.gl,E.bl,E.code,by rw[q8e];exact E.len,E.kinds,E.mem,⟨_,hn,λ y w ky e=>?_⟩,E.locA,λ y ky=>?_,E.apart⟩
  ·by_cases q:y=x
   ·cases q;rw[q2h E.len hx]at e;obtain rfl:=jI e;exact⟨u,by simp,r⟩
   ·rw[q1x hx q]at e;rcases _:hv y w ky e with⟨u',p,q'⟩;exact⟨u',by simp[q,p],q'⟩
  ·obtain⟨c,hc,c1,c2,c3,o,co,cv⟩:=E.cel y ky
   have q:y≠x:=λ z=>by subst z;rcases ky with ky|ky<;>(rw[k]at ky;contradiction)
   exact⟨c,hc,c1,c2,c3,o,co.sameBut hs c3,λ w e=>by rw[q1x hx q]at e;exact cv w e⟩
 ·obtain⟨c,hc,c1,c2,c3,o,co,cv⟩:=E.cel x (.inl k)
  refine wpAny_storeName_cell E.fn (z2b E k) hc co λ h' hn hs=>h _ ⟨g,.write (jD _) (w9j hc k) hs (q2s hn),i.write (jD _) c1 c2 hs,?_⟩
  refine⟨E.fn,E.gl,E.bl,E.code,by rw[q8e];exact E.len,E.kinds,E.mem,⟨m,hm.sameBut hs c3.symm,λ y w ky e=>?_⟩,E.locA,λ y ky=>?_,E.apart⟩
  ·have q:y≠x:=λ z=>by cases z;rw[k]at ky;contradiction
   rw[q1x hx q]at e;exact hv y w ky e
  ·by_cases q:y=x
   ·subst q;exact⟨c,hc,c1,c2,c3,some u,hn,λ w e=>by rw[q2h E.len hx]at e;obtain rfl:=jI e;exact⟨u,rfl,r⟩⟩
   ·obtain⟨c',hc',d1,d2,d3,o',co',cv'⟩:=E.cel y ky
    exact⟨c',hc',d1,d2,d3,o',co'.sameBut hs (λ z=>q (E.apart y x c (z▸hc') hc)),λ w e=>by rw[q1x hx q]at e;exact cv' w e⟩
end
inductive PB (cx:Cx) (g:G) (s:Shared) (σ':Store) (b b':Bool) (s':Shared):Prop
 | mk (e:b'=b) (g':G) (a:Stp [] g s g' s') (i:Inv cx g' σ' s')
set_option tactic.hygienic true in noncomputable def FR (cx:Cx) (g:G):q0b->Flow->Prop
 | .next,f=>f = .next
 | .ret v,f=>∃u,f = .ret u/\VR cx g v u
inductive PS (cx:Cx) (ks:Kinds) (ns:List Str) (env:Env) (g:G) (s:Shared) (fl:q0b) (vs':Vs) (σ':Store) (f:Flow) (s':Shared):Prop
 | mk (g':G) (a:Stp (ownK ks env) g s g' s') (i:Inv cx g' σ' s') (e:ER cx ks ns env g' vs' s') (r:FR cx g' fl f)
noncomputable def EOk (cx:Cx) (n:Nat) (f:Kinds->List Str->Expr->Vs->Store->Res):Prop:=
 ∀{ks ns ex vs σ v σ'},f ks ns ex vs σ=some (v,σ')->∀{A env g s},AOk n A->Inv cx g σ s->ER cx ks ns env g vs s->wpAny cx.M A (eval ex env) (PX cx g s σ' v) NoE s
noncomputable def TOk (cx:Cx) (n:Nat) (f:Kinds->List Str->Expr->Vs->Store->Option (Bool×Store)):Prop:=
 ∀{ks ns ex vs σ b σ'},f ks ns ex vs σ=some (b,σ')->∀{A env g s},AOk n A->Inv cx g σ s->ER cx ks ns env g vs s->wpAny cx.M A (isTrue ex env (eval ex env)) (PB cx g s σ' b) NoE s
noncomputable def AsOk (cx:Cx) (n:Nat) (f:Kinds->List Str->Expr->AV->Vs->Store->Option (Vs×Store)):Prop:=
 ∀{ks ns t v vs σ vs' σ'},f ks ns t v vs σ=some (vs',σ')->∀{A env g s u},AOk n A->Inv cx g σ s->ER cx ks ns env g vs s->VR cx g v u->
  wpAny cx.M A (assign t env u) (λ _ s'=>PA cx ks ns env g s vs' σ' s') NoE s
noncomputable def SOk (cx:Cx) (n:Nat) (f:Kinds->List Str->Stmt->Vs->Store->ResS):Prop:=
 ∀{ks ns st vs σ fl vs' σ'},f ks ns st vs σ=some (fl,vs',σ')->∀{A env g s},AOk n A->Inv cx g σ s->ER cx ks ns env g vs s->wpAny cx.M A (exec st env) (PS cx ks ns env g s fl vs' σ') NoE s
noncomputable def COk (cx:Cx) (n:Nat) (f:Kinds->List Str->Expr->Vs->Store->Res):Prop:=
 ∀{ks ns ex vs σ v σ'},w0s ex=true->f ks ns ex vs σ=some (v,σ')->∀{A env g s} {use:Value->Sem Unit} {vs' σ''},AOk n A->Inv cx g σ s->ER cx ks ns env g vs s->
  (∀g1 s₁ u1,Stp [] g s g1 s₁->Inv cx g1 σ' s₁->ER cx ks ns env g1 vs s₁->VR cx g1 v u1->wpAny cx.M A (use u1) (λ _ s₂=>PA cx ks ns env g1 s₁ vs' σ'' s₂) NoE s₁)->
  wpAny cx.M A (evalThenUse ex env use) (λ _ s'=>PA cx ks ns env g s vs' σ'' s') NoE s
structure EvOk (cx:Cx) (n:Nat) (r:Ev):Prop where
 e:EOk cx n r.e
 c:COk cx n r.e
 t:TOk cx n r.t
 a:AsOk cx n r.a
 s:SOk cx n r.s
structure GlOk (cx:Cx) (T:Tab):Prop where
 mods:∃b o,sysModules<=b/\cx.h₀.get? b=some o
 gns:cx.h₀.Ns cx.gA cx.mg
 bns:cx.h₀.Ns cx.bA cx.mb
 names:∀x v,T.gl.lookup x=some v->∃u,(cx.mg x=some u\/(cx.mg x=none/\cx.mb x=some u))/\∀g,(∀a o,cx.h₀.get? a=some o->g.I a=some o)->VR cx g v u
section
variable {cx:Cx} {T:Tab} {n:Nat} {r:Ev} {ks:Kinds} {ns:List Str} {env:Env} {g g':G} {vs vs':Vs} {σ σ':Store} {s s':Shared} {A:Around} {v:AV} {u:Value} {ex:Expr}
theorem VRs.e1 {cx:Cx} {g:G} {x:AV} {us:List Value} {P:List Value->Prop} (R:VRs cx g [x] us) (k:∀u,VR cx g x u->P [u]):P us:=by
 obtain⟨u,r,rfl,h,R⟩:=R.uncons
 obtain rfl:=R.of_nil
 exact k u h
theorem VRs.e2 {cx:Cx} {g:G} {x y:AV} {us:List Value} {P:List Value->Prop} (R:VRs cx g [x,y] us) (k:∀u w,VR cx g x u->VR cx g y w->P [u,w]):P us:=by
 obtain⟨u,r,rfl,h,R⟩:=R.uncons
 exact R.e1 (P:=λ l=>P (u::l)) λ w h'=>k u w h h'
theorem VRs.e3 {cx:Cx} {g:G} {x y z:AV} {us:List Value} {P:List Value->Prop} (R:VRs cx g [x,y,z] us) (k:∀u w q,VR cx g x u->VR cx g y w->VR cx g z q->P [u,w,q]):P us:=by
 obtain⟨u,r,rfl,h,R⟩:=R.uncons
 exact R.e2 (P:=λ l=>P (u::l)) λ w q h' h''=>k u w q h h' h''
theorem Inv.nsAt (i:Inv cx g σ s) {a:Addr} {m:Str->Option Value} (h:cx.h₀.Ns a m):s.heap.Ns a m:=k9l h λ o e=>i.sub _ _ (i.base _ _ e)
set_option tactic.hygienic true in theorem w8x {c:Const} {k:Nat} {p:Pos} (e:z7q c=some v) (i:Inv cx g σ s):wpAny cx.M A (eval (.Constant c k p) env) (PX cx g s σ v) NoE s:=by
 refine PE.x ?_
 rcases c<;>dsimp only[z7q]at e
 case none=>obtain rfl:=jI e;exact wpAny_Constant_none (.now i .none_)
 case bool=>obtain rfl:=jI e;exact wpAny_Constant_bool (.now i .bool_)
 case int=>obtain rfl:=jI e;exact wpAny_Constant_int (.tok i (.int_ _) _)
 case str x=>split at e<;>rcases e;exact wpAny_Constant_str (.tok i (.str_ _ ‹_›) _)
 all_goals contradiction
theorem z5k {x:Str} {p:Pos} (E:ER cx ks ns env g vs s) (i:Inv cx g σ s) (hk:ks.lookup x=some .local\/ks.lookup x=some .cell\/ks.lookup x=some .free)
  (h1:(x==("__debug__" : Str))=false) (h2:(x==("__classdict__" : Str))=false) (e:q5r ns vs x=some v):wpAny cx.M A (eval (.Name x p) env) (PX cx g s σ v) NoE s:=
 PE.x (wpAny_Name (k4u E hk h2 e λ u r=>.now i r) h1)
theorem z7s (H:GlOk cx T) {x:Str} {p:Pos} (E:ER cx ks ns env g vs s) (i:Inv cx g σ s) (hk:ks.lookup x=some .globalImplicit)
  (h1:(x==("__debug__" : Str))=false) (e:T.gl.lookup x=some v):wpAny cx.M A (eval (.Name x p) env) (PX cx g s σ v) NoE s:=by
 rcases _:H.names x v e with⟨u,hu,hr⟩
 refine PE.x (Calls.Name_function_global E.fn (z5s E hk) ?_ h1)
 have hg:s.heap.Ns env.globals cx.mg:=by rw[E.gl];exact i.nsAt H.gns
 have hb:s.heap.Ns env.builtins cx.mb:=by rw[E.bl];exact i.nsAt H.bns
 rcases _:hu with hu|⟨h0,hu⟩
 ·exact Calls.loadGlobal_global hg hu (.now i (hr g i.base))
 ·exact Calls.loadGlobal_builtin hg h0 hb hu (.now i (hr g i.base))
theorem z8t {o:Option NameKind} (h:j4c o=true):o=some .local\/o=some .cell\/o=some .free:=by
 rcases o with _|o
 ·exact absurd h Bool.false_ne_true
 ·induction o with
  | «local»=>exact .inl rfl
  | cell=>exact .inr (.inl rfl)
  | free=>exact .inr (.inr rfl)
  | _=>exact absurd h Bool.false_ne_true
theorem j7f (H:GlOk cx T) {x:Str} {p:Pos} (E:ER cx ks ns env g vs s) (i:Inv cx g σ s)
  (e:j8o T ks ns x vs σ=some (v,σ')):wpAny cx.M A (eval (.Name x p) env) (PX cx g s σ' v) NoE s:=by
 refine ifNo e λ hd e=>ifE e (λ h1 e=>mapQ e λ w h e=>?_) λ _ e=>q0o e λ h1 e=>mapQ e λ w h e=>?_<;>(simp only[Bool.or_eq_true,not_or,Bool.not_eq_true]at hd;rcases e)
 ·exact wpAny_mono (z5k E i (z8t h1) hd.1 hd.2 h) (λ _ _ ⟨g',a,b,c⟩=>⟨g',a,b,c.norm⟩) λ _ _ x=>x
 ·exact z7s H E i (beq_iff_eq.mp h1) hd.1 h
theorem q0y (R:EOk cx n r.e) (hA:AOk n A) (i:Inv cx g σ s) (E:ER cx ks ns env g vs s) {x:AV} {σ1:Store} (e:r.e ks ns ex vs σ=some (x,σ1)) {P:Value->Shared->Prop}
  (k:∀g1 s₁ u1,Stp [] g s g1 s₁->Inv cx g1 σ1 s₁->ER cx ks ns env g1 vs s₁->VR cx g1 x u1->P u1 s₁):wpAny cx.M A (eval ex env) P NoE s:=
 PX.then (R e hA i E) λ g1 s₁ u1 a b c=>k g1 s₁ u1 a b (E.go a) c
theorem z4u (R:TOk cx n r.t) (hA:AOk n A) (i:Inv cx g σ s) (E:ER cx ks ns env g vs s) {b:Bool} {σ1:Store} (e:r.t ks ns ex vs σ=some (b,σ1)) {P:Bool->Shared->Prop}
  (k:∀g1 s₁,Stp [] g s g1 s₁->Inv cx g1 σ1 s₁->ER cx ks ns env g1 vs s₁->P b s₁):wpAny cx.M A (isTrue ex env (eval ex env)) P NoE s:=
 wpAny_mono (R e hA i E) (λ b' s₁ ⟨hb,g1,a,i1⟩=>by cases hb;exact k g1 s₁ a i1 (E.go a)) λ _ _ x=>x
theorem PE.up' {t:Sem Value} {g1:G} {s₁:Shared} (a:Stp [] g s g1 s₁) (h:wpAny cx.M A t (PE cx g1 s₁ σ' v) NoE s₁):wpAny cx.M A t (PX cx g s σ' v) NoE s₁:=PX.lift a (PE.x h)
theorem z0w {b:Bool} {g1:G} {s₁:Shared} (a:Stp [] g s g1 s₁) (i:Inv cx g1 σ s₁) (e:q3g σ v=some b) (c:VR cx g1 v u):wpAny cx.M A (truthy u) (PB cx g s σ b) NoE s₁:=by
 refine q4y (k1g i e c λ t ht=>⟨rfl,g1,a.trans (.tks ht),i.toks ht⟩)
theorem j3k (R:EOk cx n r.e) (hA:AOk n A) (i:Inv cx g σ s) (E:ER cx ks ns env g vs s) {l rr:Expr} {op:Operator} {p:Pos}
  (e:(do
   let (x,σ) <-r.e ks ns l vs σ
   let (y,σ) <-r.e ks ns rr vs σ
   let v <-binA σ op x y
   some (v,σ))=some (v,σ')):wpAny cx.M A (eval (.BinOp l op rr p) env) (PX cx g s σ' v) NoE s:=by
 refine q0h e λ x σ1 e1 e=>q0h e λ y σ2 e2 e=>q6k e λ w e3 e=>?_
 obtain⟨rfl,rfl⟩:=Prod.mk.inj (jI e)
 refine wpAny_BinOp (q0y R hA i E e1 λ g1 s₁ u1 a1 i1 E1 r1=>q0y R hA i1 E1 e2 λ g2 s₂ u2 a2 i2 E2 r2=>?_)
 exact PE.up' (a1.trans a2) (j2x i2 e3 (r1.mono a2.le) r2)
theorem k2j (R:EOk cx n r.e) (hA:AOk n A) (i:Inv cx g σ s) (E:ER cx ks ns env g vs s) {l rr:Expr} {op:CmpOp} {b:Bool} {P:Value->Shared->Prop} {x y:AV} {σ1:Store}
  (e1:r.e ks ns l vs σ=some (x,σ1)) (e2:r.e ks ns rr vs σ1=some (y,σ')) (e3:cmpA σ' op x y=some b) (k:∀g1 s₁,Stp [] g s g1 s₁->Inv cx g1 σ' s₁->P (.bool b) s₁) :
  wpAny cx.M A (eval l env) (λ a s₁=>wpAny cx.M A (eval rr env) (λ b s₂=>wpAny cx.M A (compareOp op a b) P NoE s₂) NoE s₁) NoE s:=by
 refine q0y R hA i E e1 λ g1 s₁ u1 a1 i1 E1 r1=>q0y R hA i1 E1 e2 λ g2 s₂ u2 a2 i2 E2 r2=>?_
 refine PX.then (PE.x (j3d hA i2 e3 (r1.mono a2.le) r2)) λ g3 s3 u3 a3 i3 r3=>?_
 subst r3
 exact k g3 s3 ((a1.trans a2).trans a3) i3
theorem k2u (R:EOk cx n r.e) (hA:AOk n A) (i:Inv cx g σ s) (E:ER cx ks ns env g vs s) {l rr:Expr} {op:CmpOp} {p:Pos}
  (e:(if behindInMarks op rr then none else do
   let (x,σ) <-r.e ks ns l vs σ
   let (y,σ) <-r.e ks ns rr vs σ
   let v <-cmpA σ op x y
   some (AV.bool v,σ))=some (v,σ')):wpAny cx.M A (eval (.Compare l [op] [rr] p) env) (PX cx g s σ' v) NoE s:=by
 refine ifNo e λ hm e=>q0h e λ x σ1 e1 e=>q0h e λ y σ2 e2 e=>q6k e λ w e3 e=>?_
 rcases e
 exact wpAny_Compare1 (k2j R hA i E e1 e2 e3 λ g1 s₁ a1 i1=>⟨g1,a1,i1,.bool_⟩) (Bool.not_eq_true _▸hm)
theorem j3l (R:EvOk cx n r) (hA:AOk n A) (i:Inv cx g σ s) (E:ER cx ks ns env g vs s) {t a b:Expr} {p:Pos}
  (e:(do
   let (c,σ) <-r.t ks ns t vs σ
   if c then r.e ks ns a vs σ else r.e ks ns b vs σ)=some (v,σ')):wpAny cx.M A (eval (.IfExp t a b p) env) (PX cx g s σ' v) NoE s:=by
 rcases _:bind_some e with⟨⟨c,σ1⟩,e1,e⟩
 refine wpAny_IfExp (z4u R.t hA i E e1 λ g1 s₁ a1 i1 E1=>?_)
 induction c with
 | true=>exact PX.lift a1 (R.e e hA i1 E1)
 | false=>exact PX.lift a1 (R.e e hA i1 E1)
theorem e_un (R:EOk cx n r.e) (hA:AOk n A) (i:Inv cx g σ s) (E:ER cx ks ns env g vs s) {a:Expr} {op:UnaryOp} {p:Pos}
  (e:unE r ks ns op a vs σ=some (v,σ')):wpAny cx.M A (eval (.UnaryOp op a p) env) (PX cx g s σ' v) NoE s:=by
 induction op with
 | Not=>
  refine q0h e λ x σ1 e1 e=>q6k e λ b e2 e=>?_
  obtain⟨rfl,rfl⟩:=Prod.mk.inj (jI e)
  refine wpAny_UnaryOp (q0y R hA i E e1 λ g1 s₁ u1 a1 i1 E1 r1=>PySem.not_value ?_)
  exact wpAny_mono (z0w a1 i1 e2 r1) (λ b' s₂ ⟨hb,g2,a2,i2⟩=>by subst hb;exact⟨g2,a2,i2,.bool_⟩) λ _ _ x=>x
 | USub=>
  refine q0h e λ x σ1 e1 e=>optE e λ j e2 e=>?_
  obtain⟨rfl,rfl⟩:=Prod.mk.inj (jI e)
  refine wpAny_UnaryOp (q0y R hA i E e1 λ g1 s₁ u1 a1 i1 E1 r1=>?_)
  obtain⟨t,rfl⟩:=r1.intV e2
  exact PE.up' a1 (PyProof.Rows.neg_int (.tok i1 (.int_ _) _))
 | _=>exact nope e
theorem k2t (R:EOk cx n r.e) (hA:AOk n A) {op:BoolOp} {p:Pos}:∀{es:List Expr} {g:G} {σ:Store} {s:Shared},Inv cx g σ s->ER cx ks ns env g vs s->
  j3a r ks ns op es vs σ=some (v,σ')->wpAny cx.M A (boolOp p op (evalEach es env)) (PX cx g s σ' v) NoE s
 | [],_,_,_,_,_,e=>by contradiction
 | [x],_,_,_,i,E,e=>R e hA i E
 | x::y::es,g,σ,s,i,E,e=>by
  rcases _:bind_some e with⟨⟨w,σ1⟩,e1,e⟩
  rcases _:bind_some e with⟨b,e2,e⟩
  refine wpAny_bind (q0y R hA i E e1 λ g1 s₁ u1 a1 i1 E1 r1=>wpAny_bind (wpAny_standAt (wpAny_bind (wpAny_holding ?_))))
  (refine wpAny_mono (z0w (.refl _ _ _) i1 e2 r1) (λ b' s₂ zz0=>?_) λ _ _ x=>x;obtain⟨hb,g2,a2,i2⟩:=zz0)
  subst hb
  have E2:=E1.go a2
  rcases op<;>rcases b'<;>simp only at e ⊢
  case And.true=>exact PX.lift (a1.trans a2) (k2t R hA i2 E2 e)
  case Or.false=>exact PX.lift (a1.trans a2) (k2t R hA i2 E2 e)
  all_goals (obtain⟨rfl,rfl⟩:=Prod.mk.inj (jI e);exact wpAny_pure ⟨g2,a1.trans a2,i2,r1.mono a2.le⟩)
theorem j5m (R:TOk cx n r.t) (hA:AOk n A) {op:BoolOp} {b:Bool}:∀{es:List Expr} {g:G} {σ:Store} {s:Shared},Inv cx g σ s->ER cx ks ns env g vs s->
  allA r ks ns op es vs σ=some (b,σ')->wpAny cx.M A (allTrue op es env) (PB cx g s σ' b) NoE s
 | [],g,σ,s,i,E,e=>by
  obtain⟨rfl,rfl⟩:=Prod.mk.inj (jI e)
  exact wpAny_pure ⟨by rcases op<;>rfl,g,.refl _ _ _,i⟩
 | x::es,g,σ,s,i,E,e=>by
  rcases _:bind_some e with⟨⟨c,σ1⟩,e1,e⟩
  refine wpAny_bind (z4u R hA i E e1 λ g1 s₁ a1 i1 E1=>?_)
  have up:∀{t:Sem Bool},wpAny cx.M A t (PB cx g1 s₁ σ' b) NoE s₁->wpAny cx.M A t (PB cx g s σ' b) NoE s₁:=λ h=>
   wpAny_mono h (λ _ _ ⟨hb,g',a,i⟩=>⟨hb,g',a1.trans a,i⟩) λ _ _ x=>x
  rcases op<;>rcases c<;>simp only at e ⊢
  case And.true=>exact up (j5m R hA i1 E1 e)
  case Or.false=>exact up (j5m R hA i1 E1 e)
  all_goals (obtain⟨rfl,rfl⟩:=Prod.mk.inj (jI e);exact wpAny_pure ⟨rfl,g1,a1,i1⟩)
theorem PB.up {t:Sem Bool} {b:Bool} {g1:G} {s₁:Shared} (a:Stp [] g s g1 s₁) (h:wpAny cx.M A t (PB cx g1 s₁ σ' b) NoE s₁):wpAny cx.M A t (PB cx g s σ' b) NoE s₁:=
 wpAny_mono h (λ _ _ ⟨hb,g',c,i⟩=>⟨hb,g',a.trans c,i⟩) λ _ _ x=>x
theorem j5n (R:EOk cx n r.e) (hA:AOk n A) (i:Inv cx g σ s) (E:ER cx ks ns env g vs s) {b:Bool}
  (e:(do
   let (x,σ) <-r.e ks ns ex vs σ
   let b <-q3g σ x
   some (b,σ))=some (b,σ')) (he:isTrue ex env (eval ex env)=(do let v <-eval ex env;standAt ex.pos;holding [v] (truthy v))):wpAny cx.M A (isTrue ex env (eval ex env)) (PB cx g s σ' b) NoE s:=by
 rcases _:bind_some e with⟨⟨x,σ1⟩,e1,e⟩
 rcases _:bind_some e with⟨b',e2,e⟩
 obtain⟨rfl,rfl⟩:=Prod.mk.inj (jI e)
 exact wpAny_isTrue_value (q0y R hA i E e1 λ g1 s₁ u1 a1 i1 E1 r1=>z0w a1 i1 e2 r1) he
theorem j7q (R:EvOk cx n r):TOk cx n (evT r):=by
 intro ks ns ex vs σ b σ' e A env g s hA i E
 have dflt:(do
   let (x,σ) <-r.e ks ns ex vs σ
   let b <-q3g σ x
   some (b,σ))=some (b,σ')->isTrue ex env (eval ex env)=(do let v <-eval ex env;standAt ex.pos;holding [v] (truthy v))->wpAny cx.M A (isTrue ex env (eval ex env)) (PB cx g s σ' b) NoE s:=
  λ e he=>j5n R.e hA i E e he
 induction ex using Expr.casesOn with
 | UnaryOp op x p=>
  induction op with
  | Not=>
   rcases _:bind_some e with⟨⟨c,σ1⟩,e1,e⟩
   obtain⟨rfl,rfl⟩:=Prod.mk.inj (jI e)
   exact wpAny_bind (z4u R.t hA i E e1 λ g1 s₁ a1 i1 E1=>wpAny_pure ⟨rfl,g1,a1,i1⟩)
  | _=>exact dflt e rfl
 | BoolOp op es p=>skip;exact j5m R.t hA i E e
 | IfExp t a c p=>exact nope e
 | Compare l ops rs p=>
  refine optE e λ op h1 e=>optE e λ rr h2 e=>?_
  obtain rfl:=w3b h1
  obtain rfl:=w3b h2
  refine ifNo e λ hm e=>q0h e λ x σ1 e1 e=>q0h e λ y σ2 e2 e=>q6k e λ w e3 e=>?_
  rcases e
  exact wpAny_isTrue_Compare1 (k2j R.e hA i E e1 e2 e3 λ g1 s₁ a1 i1=>wpAny_truthy_bool ⟨rfl,g1,a1,i1⟩) (Bool.not_eq_true _▸hm)
 | _=>exact dflt e rfl
end
section
variable {cx:Cx} {T:Tab} {n:Nat} {r:Ev} {ks:Kinds} {ns:List Str} {env:Env} {g g':G} {vs vs':Vs} {σ σ':Store} {s s':Shared} {A:Around} {v:AV} {u:Value} {ex:Expr}
inductive PL (cx:Cx) (g:G) (s:Shared) (σ':Store) (xs:List AV) (us:List Value) (s':Shared):Prop
 | mk (g':G) (a:Stp [] g s g' s') (i:Inv cx g' σ' s') (r:VRs cx g' xs us)
theorem q1k {e:Expr} {es:List Expr} (h:∀x p,e≠.Starred x p):starEach (e::es) env=(false,eval e env)::starEach es env:=by
 rcases e<;>first|rfl|exact absurd rfl (h _ _)
noncomputable def j5y (cx:Cx) (A:Around) (ks:Kinds) (ns:List Str) (env:Env) (vs:Vs) (ev:Expr->Vs->Store->Res):Prop:=
 ∀{ex σ v σ' g s},ev ex vs σ=some (v,σ')->Inv cx g σ s->ER cx ks ns env g vs s->wpAny cx.M A (eval ex env) (PX cx g s σ' v) NoE s
theorem w2o {ev:Expr->Vs->Store->Res} (R:j5y cx A ks ns env vs ev) {p:Pos}:∀{es:List Expr} {g:G} {σ:Store} {s:Shared} {xs:List AV},Inv cx g σ s->ER cx ks ns env g vs s->z1r ev es vs σ=some (xs,σ')->
  wpAny cx.M A (spliced (backTo p (starEach es env))) (PL cx g s σ' xs) NoE s
 | [],g,σ,s,_,i,E,e=>by obtain⟨rfl,rfl⟩:=Prod.mk.inj (jI e);exact wpAny_pure ⟨g,.refl _ _ _,i,.nil⟩
 | x::es,g,σ,s,xs,i,E,e=>by
  refine ifNo e λ hx e=>q0h e λ w σ1 e1 e2=>q0h e2 λ ws σ2 e2 e3=>?_
  rcases e3
  rw[q1k (q7i hx)]
  show wpAny cx.M A (do
   let v <-eval x env
   let here <-pure [v]
   return here++(<-holding here (spliced (backTo p (starEach es env))))) _ _ s
  refine wpAny_bind (PX.then (R e1 i E) λ g1 s₁ u1 a1 i1 r1=>wpAny_bind (wpAny_pure (wpAny_bind (wpAny_holding ?_))))
  refine wpAny_mono (w2o R i1 (E.go a1) e2) (λ us s₂ ⟨g2,a2,i2,r2⟩=>wpAny_pure ⟨g2,a1.trans a2,i2,.cons (r1.mono a2.le) r2⟩) λ _ _ x=>x
theorem z7x (R:EOk cx n r.e) (hA:AOk n A) {p:Pos} {es:List Expr} {xs:List AV} (i:Inv cx g σ s) (E:ER cx ks ns env g vs s) (e:evals r ks ns es vs σ=some (xs,σ')):wpAny cx.M A (spliced (backTo p (starEach es env))) (PL cx g s σ' xs) NoE s:=
 w2o (λ e i E=>R e hA i E) i E e
noncomputable def G.lit (g:G) (t:Tok) (x:Str):G:=⟨g.I,g.ρ,λ y=>if y=t then some x else g.τ y⟩
theorem G.lit_le {t:Tok} {x:Str} (h:g.τ t=none):g.le (g.lit t x):=
 ⟨λ _ _ e=>e,⟨[],by simp[G.lit]⟩,λ y z e=>by
  show(if y=t then some x else g.τ y)=some z
  by_cases q:y=t
  ·subst q;rw[h]at e;contradiction
  ·rw[if_neg q];exact e⟩
theorem j0w {x:Str} (i:Inv cx g σ s) (hx:x.length<=sizeLine):PX cx g s σ (.lit x) (.str x s.toks) { s with toks:=s.toks+1 }:=by
 have h0:g.τ s.toks=none:=by
  generalize q:g.τ s.toks=zzy
  induction zzy with
  | none=>rfl
  | some y=>exact absurd (i.tok _ _ q) (Nat.lt_irrefl _)
 have le:=G.lit_le (x:=x) h0
 refine⟨g.lit s.toks x,⟨le,Nat.le_succ _,λ _ _ e _ _=>e,λ _ _ _ h=>h,λ _ _ _ h=>h,λ _ o e=>⟨o,e⟩,rfl,rfl⟩,
  ⟨i.sub,i.base,i.len,i.nodup,i.apart,λ l o a e q=>(i.cells l o a e q).mono le λ _ e=>e,Nat.le_succ_of_le i.one,λ t y e=>?_⟩,⟨_,rfl,hx,if_pos rfl,Nat.ne_of_gt i.one⟩⟩
 have e:(if t=s.toks then some x else g.τ t)=some y:=e
 by_cases q:t=s.toks
 ·subst q;exact Nat.lt_succ_self _
 ·rw[if_neg q]at e;exact Nat.lt_succ_of_lt (i.tok _ _ e)
theorem j1j (R:EOk cx n r.e) (hA:AOk n A):j5y cx A ks ns env vs (rawE T r ks ns):=λ{ex σ v σ' g s} e i E=>by
 refine optM e (λ x h e=>optE h λ q h1 h=>optE h λ x' h2 h=>q0o h λ hz h9=>?_) λ _ e=>R e hA i E
 obtain⟨rfl,rfl⟩:=Prod.mk.inj (jI e)
 obtain⟨c,l⟩:=q
 obtain⟨k,p,rfl⟩:=k2p h1
 obtain rfl:c = .str x':=z7b h2
 obtain rfl:=jI h9
 exact wpAny_Constant_str (j0w i hz.2)
theorem k4r {mu:Bool} {xs:List AV} {us:List Value} {k t:Nat} (i:Inv cx g σ s) (q:VRs cx g xs us) (z:xs.length<=sizeLine) (e:q0j mu xs σ=some (v,σ')) :
  PE cx g s σ' v (.ref s.heap.objs.size) { s with heap:=s.heap.push { cls:=.type "list",data:=.seq us.toArray k },toks:=t }:=by
 unfold q0j at e
 split at e<;>obtain⟨rfl,rfl⟩:=Prod.mk.inj (jI e)
 ·refine PE.cell (o:=.list xs) i (q0m s) ⟨us,⟨k,Heap.get?_push_size _ rfl⟩,q.mono (G.cell_le _ _),z⟩ (λ b o e=>Heap.get?_push_of_some _ e) t
 ·exact .list i q z rfl
theorem j7e (R:EOk cx n r.e) (hA:AOk n A) (i:Inv cx g σ s) (E:ER cx ks ns env g vs s) {es:List Expr} {p:Pos}
  (e:(do
   let (xs,σ) <-z1r (rawE T r ks ns) es vs σ
   if xs.length<=sizeLine then q0j (T.mu p.line) xs σ else none)=some (v,σ')):wpAny cx.M A (eval (.List es p) env) (PX cx g s σ' v) NoE s:=by
 refine q0h e λ xs σ1 e1 e=>q0o e λ z e=>?_
 refine PE.x (wpAny_List (wpAny_mono (w2o (j1j R hA) i E e1) (λ us s₁ ⟨g1,a1,i1,r1⟩=>⟨by rw[<-r1.length];exact z,λ ht=>?_⟩) λ _ _ x=>x))
 exact(k4r (k:=0) (t:=s₁.toks) i1 r1 z e (jD _)).up a1
theorem j3n (R:EOk cx n r.e) (hA:AOk n A) (i:Inv cx g σ s) (E:ER cx ks ns env g vs s) {es:List Expr} {k:Nat} {p:Pos}
  (e:(do
   let (xs,σ) <-evals r ks ns es vs σ
   if xs.length<=sizeLine then some (AV.tup xs,σ)else none)=some (v,σ')):wpAny cx.M A (eval (.Tuple es k p) env) (PX cx g s σ' v) NoE s:=by
 refine q0h e λ xs σ1 e1 e=>q0o e λ z e=>?_
 obtain⟨rfl,rfl⟩:=Prod.mk.inj (jI e)
 refine PE.x (wpAny_Tuple (wpAny_mono (z7x R hA i E e1) (λ us s₁ ⟨g1,a1,i1,r1⟩=>⟨by rw[<-r1.length];exact z,λ ht=>?_⟩) λ _ _ x=>x))
 exact(PE.tuple (n:=0) (t:=s₁.toks) i1 r1 z rfl (jD _)).up a1
theorem v0r (R:EOk cx n r.e) (hA:AOk n A) (i:Inv cx g σ s) (E:ER cx ks ns env g vs s) {o j:Expr} {p:Pos}
  (e:(do
   let (x,σ) <-r.e ks ns o vs σ
   let (y,σ) <-r.e ks ns j vs σ
   let v <-getA σ x y
   some (norm v,σ))=some (v,σ')):wpAny cx.M A (eval (.Subscript o j p) env) (PX cx g s σ' v) NoE s:=by
 refine q0h e λ x σ1 e1 e=>?_
 refine q0h e λ y σ2 e2 e=>?_
 refine q6k e λ w e3 e=>?_
 obtain⟨rfl,rfl⟩:=Prod.mk.inj (jI e)
 refine wpAny_bind (q0y R hA i E e1 λ g1 s₁ u1 a1 i1 E1 r1=>wpAny_bind (wpAny_holding (q0y R hA i1 E1 e2 λ g2 s₂ u2 a2 i2 E2 r2=>wpAny_bind (wpAny_standAt ?_))))
 rcases _:k3r (A:=A) i2 e3 (r1.mono a2.le) r2 with⟨T',id,hT,hl,h⟩
 exact z0u hT hl (wpAny_mono (PE.up' (a1.trans a2) h) (λ _ _ ⟨g',a,b,c⟩=>⟨g',a,b,c.norm⟩) λ _ _ x=>x)
theorem z6g (R:EOk cx n r.e) (hA:AOk n A) (i:Inv cx g σ s) (E:ER cx ks ns env g vs s) {o:Option Expr} (e:k9p r ks ns vs o σ=some (v,σ')) {P:Value->Shared->Prop}
  (k:∀g1 s₁ u1,Stp [] g s g1 s₁->Inv cx g1 σ' s₁->ER cx ks ns env g1 vs s₁->VR cx g1 v u1->P u1 s₁):wpAny cx.M A (valueOrNone (evalOpt o env)) P NoE s:=by
 induction o with
 | none=>obtain⟨rfl,rfl⟩:=Prod.mk.inj (jI e);exact wpAny_pure (k g s .none (.refl _ _ _) i E .none_)
 | some x=>exact q0y R hA i E e k
theorem j3m (R:EOk cx n r.e) (hA:AOk n A) (i:Inv cx g σ s) (E:ER cx ks ns env g vs s) {o:Expr} {lo hi st:Option Expr} {p q:Pos}
  (e:j1n r ks ns o lo hi st vs σ=some (v,σ')):wpAny cx.M A (eval (.Subscript o (.Slice lo hi st q) p) env) (PX cx g s σ' v) NoE s:=by
 refine q0h e λ x σ1 e1 e=>q0h e λ y σ2 e2 e=>q0h e λ z σ3 e3 e=>q0h e λ w σ4 e4 e=>q6k e λ w' e5 e=>?_
 rcases e
 refine wpAny_bind (q0y R hA i E e1 λ g1 s₁ u1 a1 i1 E1 r1=>wpAny_bind (wpAny_holding ?_))
 refine wpAny_bind (z6g R hA i1 E1 e2 λ g2 s₂ u2 a2 i2 E2 r2=>wpAny_bind (wpAny_holding (z6g R hA i2 E2 e3 λ g3 s3 u3 a3 i3 E3 r3=>wpAny_bind (wpAny_holding (z6g R hA i3 E3 e4 λ g4 s4 u4 a4 i4 E4 r4=>?_)))))
 refine wpAny_newObj_type ?_
 have hn:=q0m s4
 have k:∀b o',s4.heap.get? b=some o'->(s4.heap.push { cls:=.type "slice",data:=.fields #[u2,u3,u4] }).get? b=some o':=λ b o' e=>Heap.get?_push_of_some _ e
 have le:=G.freeze_le (o:={ cls:=.type "slice",data:=.fields #[u2,u3,u4] }) (i4.fresh hn).1
 have a5:Stp [] g4 s4 (g4.freeze s4.heap.objs.size { cls:=.type "slice",data:=.fields #[u2,u3,u4] }) { s4 with heap:=s4.heap.push { cls:=.type "slice",data:=.fields #[u2,u3,u4] } }:=.freeze (t:=s4.toks) i4 (jD _) hn k
 have i5:Inv cx (g4.freeze s4.heap.objs.size { cls:=.type "slice",data:=.fields #[u2,u3,u4] }) σ' { s4 with heap:=s4.heap.push { cls:=.type "slice",data:=.fields #[u2,u3,u4] } }:=i4.freeze (t:=s4.toks) (jD _) hn (Heap.get?_push_size _ rfl) k
 refine wpAny_bind (wpAny_standAt ?_)
 rcases _:k6e (A:=A) i5 e5 ((((r1.mono a2.le).mono a3.le).mono a4.le).mono le) (((r2.mono a3.le).mono a4.le).mono le) ((r3.mono a4.le).mono le) (r4.mono le) (G.freeze_self _ _ _)with⟨T',id,hT,hl,h⟩
 refine z0u hT hl ?_
 exact PE.up' ((((a1.trans a2).trans a3).trans a4).trans a5) h
theorem w1l (x:Str):Str.empty++x=x:=by cases x;show(⟨#[]++_⟩:Str)=_;simp
theorem catE {a y b:Str} {P:Prop} (h:catA a y=some b) (k:b=a++y->(a++y).length<=sizeLine->P):P:=q0o h λ z h=>k (jI h).symm (by rw[strLen_append];exact z)
theorem k2v (R:EOk cx n r.e) (hA:AOk n A) {out:Str} {es:List Expr}:∀{acc:Str} {g:G} {σ:Store} {s:Shared} {Q:Str->Shared->Prop},Inv cx g σ s->ER cx ks ns env g vs s->w9c r ks ns vs es acc σ=some (out,σ')->
  (∀g1 s₁,Stp [] g s g1 s₁->Inv cx g1 σ' s₁->out.length<=sizeLine->Q out s₁)->Joins cx.M A NoE (evalEach es env) acc Q s:=by
 induction es with
 | nil=>exact λ i E e k=>q0o e λ z e=>by rcases e;exact k _ _ (.refl _ _ _) i z
 | cons x es ih=>
  intro acc g σ s Q i E e k
  induction x using Expr.casesOn with
  | Constant c kk p=>
   refine optE e λ y h0 e=>optE e λ a h1 e=>catE h1 λ h2 z=>?_
   obtain rfl:=z7b h0
   subst h2
   exact wpAny_Constant_str ⟨y,_,rfl,z,ih (i.toks (Nat.le_succ _)) (E.toks _) e λ g1 s₁ a1 i1=>k g1 s₁ ((Stp.tks (Nat.le_succ _)).trans a1) i1⟩
  | FormattedValue y cv sp p=>
   refine q0o e λ hc e=>q0h e λ w σ1 e1 e=>optE e λ q h0 e=>optE e λ a h1 e=>catE h1 λ h2 z=>?_
   obtain rfl:=hc.1
   obtain rfl:=Option.isNone_iff_eq_none.mp hc.2
   subst h2
   refine wpAny_FormattedValue_plain (q0y R hA i E e1 λ g1 s₁ u1 a1 i1 E1 r1=>?_)
   induction w using AV.casesOn with
   | str q'=>
    obtain rfl:=jI h0
    obtain⟨t,rfl,zz⟩:=r1.of_str
    exact wpAny_formatField_str ⟨_,_,rfl,z,ih i1 E1 e λ g2 s₂ a2 i2=>k g2 s₂ (a1.trans a2) i2⟩ ⟨_,_,rfl,z,ih (i1.toks (Nat.le_succ _)) (E1.toks _) e λ g2 s₂ a2 i2=>k g2 s₂ (a1.trans ((Stp.tks (Nat.le_succ _)).trans a2)) i2⟩ zz
   | int j=>
    refine q0o h0 λ hi h0=>?_
    obtain rfl:=jI h0
    obtain⟨t,rfl⟩:=r1.of_int
    have hlt:s₁.toks<=s₁.toks+1+1:=jG _ 2
    refine wpAny_formatField_int ?_ ⟨_,_,rfl,z,ih (i1.toks hlt) (E1.toks _) e λ g2 s₂ a2 i2=>k g2 s₂ (a1.trans ((Stp.tks hlt).trans a2)) i2⟩
    by_cases h0:j.natAbs=0
    ·rw[h0];decide
    ·exact(Nat.log2_lt h0).mpr (jC hi (jA (by decide:10 ^ 10<=2 ^ 40) (Nat.pow_le_pow_right (by decide) (by decide))))
   | _=>exact nope h0
  | _=>exact nope e
theorem k7u (R:EOk cx n r.e) (hA:AOk n A) (i:Inv cx g σ s) (E:ER cx ks ns env g vs s) {es:List Expr} {p:Pos}
  (e:(do
   let (x,σ) <-w9c r ks ns vs es Str.empty σ
   some (AV.str x,σ))=some (v,σ')):wpAny cx.M A (eval (.JoinedStr es p) env) (PX cx g s σ' v) NoE s:=by
 refine q0h e λ x σ1 e1 e=>?_
 rcases e
 have two:wpAny cx.M A (joinParts Str.empty (evalEach es env)) (PX cx g s σ' (.str x)) NoE s:=by
  refine wpAny_joinPartsRec _ _ _ _ (k2v R hA i E e1 λ g1 s₁ a1 i1 z=>⟨z,?_⟩)
  exact(PE.tok i1 (.str_ _ z) (s₁.toks+1) (Nat.le_succ _)).up a1
 rcases es with _|⟨y,_|⟨y',es'⟩⟩
 ·exact two
 rotate_left
 ·exact two
 ·skip
  have h:=k2v (Q:=λ o s₁=>o.length<=sizeLine/\o=x/\∃g1,Stp [] g s g1 s₁/\Inv cx g1 σ' s₁) R hA i E e1 λ g1 s₁ a1 i1 z=>⟨z,rfl,g1,a1,i1⟩
  refine wpAny_mono (show wpAny cx.M A (eval y env) (λ v s₁=>∃y t,v = .str y t/\(Str.empty++y).length<=sizeLine/\Joins cx.M A NoE [] (Str.empty++y) _ s₁) NoE s from h) ?_ λ _ _ x=>x
  rintro _ s₁ ⟨y',t,rfl,_,z,hx,g1,a1,i1⟩
  rw[w1l]at z hx
  cases hx
  exact⟨g1,a1,i1,.str_ _ z⟩
end
theorem q8s:Slot "method_descriptor" "__get__" "method_descriptor.__get__":=
 .of (owner:="method_descriptor") (n:="__get__") (by kernel_rfl) (by rfl) (by rfl) (by rfl)
  (by first|exact .inl (by rfl)|exact .inr (by decide +kernel)) (by kernel_rfl)
theorem z1o:entryFor table "method_descriptor.__get__" = some Builtin.«method_descriptor.__get__»:=entryFor_of_tree (by kernel_rfl)
theorem z4y (a b c:Value):argsOk "method_descriptor.__get__" ⟨[a,b,c],[]⟩:=by unfold argsOk;kernel_rfl
theorem k5a:typeLookup (.type "method_descriptor") "__set__" = pure none:=by rw[typeLookup_type,builtinLookup_eq_fast];kernel_rfl
theorem k4z:typeLookup (.type "method_descriptor") "__delete__" = pure none:=by rw[typeLookup_type,builtinLookup_eq_fast];kernel_rfl
theorem sub_list_list:isSubtype (.type "list") (.type "list")=pure true:=by rw[isSubtype_type];kernel_rfl
section
variable {prog:Program} {w:World} {A:Around} {E:Value->Shared->Prop} {h:Heap} {g:Array GenState} {d:Drawn} {t:Nat} {os:OsState} {p:Addr} {items:Array Value} {k:Nat}
theorem j8i {P:PySem.Fin->Shared->Prop} (ho:h.get? p=some { cls:=.type "list",data:=.seq items k })
  (hq:P (.done (.ret (.ref h.objs.size))) ⟨h.push (z1f (.builtin "list.append") (.ref p)),g,d,t,os⟩) :
  wpAny (model prog w) A (Builtin.«method_descriptor.__get__» ⟨[.builtin "list.append",.ref p,.type "list"],[]⟩) P E ⟨h,g,d,t,os⟩:=by
 have hT:(⟨h,g,d,t,os⟩:Shared).TypeIs (.ref p) "list":=⟨_,ho,rfl⟩
 refine wpAny_bind (wpAny_of_eq (a:=(.builtin "list.append",some (.ref p),some (.type "list"))) (by first|rfl|kernel_rfl) ?_)
 refine wpAny_bind ?_
 refine wpAny_bind (wpAny_pure ?_)
 refine wpAny_bind (wpAny_isInstance hT sub_list_list ?_)
 exact wpAny_pure (wpAny_bind (wpAny_newObj_type (wpAny_pure hq)))
theorem k3q {tk:Tok} {Q:PySem.Fin->Shared->Prop} (ho:h.get? p=some { cls:=.type "list",data:=.seq items k })
  (hq:Q (.done (.ret (.ref h.objs.size))) ⟨h.push (z1f (.builtin "list.append") (.ref p)),g,d,t,os⟩) :
  wpAny (model prog w) A (Builtin.«object.__getattribute__» ⟨[.ref p,.str "append" tk],[]⟩) Q E ⟨h,g,d,t,os⟩:=by
 have hT:(⟨h,g,d,t,os⟩:Shared).TypeIs (.ref p) "list":=⟨_,ho,rfl⟩
 have f4:=F.slot_list_append.lookup
 have f5:=F.type_list_append
 have f6:=q8s.lookup
 have f7:=k5a
 have f8:=k4z
 have hT5:(⟨h,g,d,t,os⟩:Shared).TypeIs (.builtin "list.append") "method_descriptor":=f5
 repeat (any_goals (first|assumption|wp_step))
 refine codeAny_call_builtin q8s.plain z1o (q8s.check _ _ _ _ _ _ _ _ hT5 (z4y _ _ _) (j8i ho ?_))
 repeat (any_goals (first|assumption|wp_step))
theorem z9w {expr:Bool} {Q:Value->Shared->Prop} (ho:h.get? p=some { cls:=.type "list",data:=.seq items k })
  (hq:Q (.ref h.objs.size) ⟨h.push (z1f (.builtin "list.append") (.ref p)),g,d,t+1,os⟩) :
  wpAny (model prog w) A (getAttr (.ref p) ("append" : Str) expr) Q E ⟨h,g,d,t,os⟩:=by
 have hT:(⟨h,g,d,t+1,os⟩:Shared).TypeIs (.ref p) "list":=⟨_,ho,rfl⟩
 have f2:=F.slot_list_getattribute.lookup
 have f3:=F.slot_list_getattribute.bind (.ref p)
 repeat (any_goals (first|assumption|wp_step))
 rw[if_neg (by rcases expr<;>trivial)]
 dsimp only[boundAndCalled]
 repeat (any_goals (first|assumption|wp_step))
 refine codeAny_call_builtin F.slot_list_getattribute.plain F.entry_list_ga (F.slot_list_getattribute.check _ _ _ _ _ _ _ _ hT (F.args_list_getattribute_2 _ _) (k3q ho ?_))
 repeat (any_goals (first|assumption|wp_step))
end
structure q6i (cx:Cx) (T:Tab):Prop where
 X:cx.K.In cx.h₀
 C:T.C=cx.C
 an:T.an=cx.an
 ga:findIn cx.K (.ref cx.C) "__getattribute__" = some (some (.builtin "object.__getattribute__"))
 gh:findIn cx.K (.ref cx.C) "__getattr__" = some none
 sa:findIn cx.K (.ref cx.C) "__setattr__" = some (some (.builtin "object.__setattr__"))
 over:plainOver cx.K cx.C=true
 dict:hasDictIn cx.K cx.C=true
 attr:∀x∈cx.an,takerIn cx.K cx.C x=some none/\(findIn cx.K (.ref cx.C) x=some none\/∃f g,findIn cx.K (.ref cx.C) x=some (some (.ref f))/\typeIn cx.K (.ref f)=some (.type "function")/\
  specialIn cx.K (.ref f) "__get__" = some (some g)/\takesIn cx.K (.ref f)=some false)
 ms:∀x f,x∉cx.an->T.ms.lookup x=some f->findIn cx.K (.ref cx.C) x=some (some (.ref f))/\typeIn cx.K (.ref f)=some (.type "function")/\fnIn cx.K f=true/\
  specialIn cx.K (.ref f) "__get__" = some (some (.builtin "function.__get__"))/\takesIn cx.K (.ref f)=some false/\copiedNames.contains x=false
section
variable {cx:Cx} {T:Tab} {n:Nat} {r:Ev} {ks:Kinds} {ns:List Str} {env:Env} {g g':G} {vs vs':Vs} {σ σ':Store} {s s':Shared} {A:Around} {v:AV} {u:Value} {ex:Expr} {x:Str}
theorem Inv.keeps0 (i:Inv cx g σ s) (b:Addr) (o:Obj) (e:cx.h₀.get? b=some o):s.heap.get? b=some o:=i.sub _ _ (i.base _ _ e)
theorem Inv.X (i:Inv cx g σ s) (H:q6i cx T):cx.K.In s.heap:=H.X.keeps i.keeps0
theorem k5b {h:Heap} {a:Addr} {m:Str->Option Value} (hn:h.Ns a m):∃o,h.get? a=some o/\∀x,lookIn x o=some (m x):=by
 rcases _:hn with⟨o,es,ep,ho,hd,hk,hm⟩
 refine⟨o,ho,λ x=>?_⟩
 have hany:es.toList.any (·.refKey)=false:=by
  rw[Array.any_toList,Array.any_eq_false'];intro e he;rcases _:hk e he with⟨n,t,h⟩;simp[DictEntry.refKey,h]
 unfold lookIn
 simp only[hd,<-hm x]
 simp only[nsFind,findBy,<-Array.find?_toList,hany]
 cases es.toList.find? (·.key.isStr x)<;>rfl
theorem j4t {a:Addr} {m:Str->Option Value} {k:Nat} {name:Str} {w:Value} {E:Value->Shared->Prop} {Q:Unit->Shared->Prop} (hn:NsN s.heap a m k)
  (h:∀h',NsN h' a (λ x=>if x=name then some w else m x) (if(m name).isSome then k else k+1)->Heap.SameBut a s.heap h'->Q () { s with heap:=h',toks:=s.toks+1 }):wpAny cx.M A (nsSet a name w) Q E s:=λ Γ p _=>by
 obtain⟨o,es,ep,ho,hd,hk,hm,hz⟩:=hn
 simp only[nsSet,strHash,Sem.wp_bind',Sem.wp_cmd_ask,Sem.wp_pure',Sem.wp_cmd_mkText]
 rw[Sem.wp_loadPart_of cx.M Γ _ p { s with toks:=s.toks+1 } (o:=o) _ ho]
 have hany:es.any (·.refKey)=false:=by
  rw[Array.any_eq_false'];intro e he;rcases _:hk e he with⟨n,t,h⟩;simp[DictEntry.refKey,h]
 simp only[hd,aRefKeyMayBeTheName_eq,aRefKeyMayBeTheNameByArray,hany,Bool.and_false,Bool.false_eq_true,if_false,Sem.wp_cmd_updatePart]
 refine⟨by rw[ho];rfl,h _ ?_ (Heap.SameBut.update ..)⟩
 obtain⟨c,d,dt,sl⟩:=o
 subst hd
 have hsome:(m name).isSome=(es.findIdx? (·.key.isStr name)).isSome:=by
  rw[<-hm name];simp only[nsFind,findBy,Option.isSome_map]
  rw[Bool.eq_iff_iff,Array.find?_isSome,Array.findIdx?_isSome,Array.any_eq_true]
  constructor
  ·rintro⟨x,hx,hp⟩;rcases _:Array.mem_iff_getElem.mp hx with⟨i,hi,rfl⟩;exact⟨i,hi,hp⟩
  ·rintro⟨i,hi,hp⟩;exact⟨_,Array.getElem_mem hi,hp⟩
 generalize hi:es.findIdx? (·.key.isStr name)=zzy
 induction zzy with
 | some i=>
  rw[hi]at hsome
  refine⟨_,_,ep,Heap.get?_update_self _ ho (by simp only[Obj.putName_eq,Obj.putNameByArray,hi];rfl),by simp only[Obj.putName_eq,Obj.putNameByArray,hi];rfl,hk.modify _ _,λ x=>?_,?_⟩
  ·show _=if x=name then some w else m x
   rw[<-hm];exact findBy_modify (λ n v=>v.isStr n) Value.isStr_inj es name x w i hi
  ·rw[hsome];simpa using hz
 | none=>
  rw[hi]at hsome
  refine⟨_,_,ep+1,Heap.get?_update_self _ ho (by simp only[Obj.putName_eq,Obj.putNameByArray,hi];rfl),by simp only[Obj.putName_eq,Obj.putNameByArray,hi];rfl,hk.push _ _ _ _,λ x=>?_,?_⟩
  ·show _=if x=name then some w else m x
   rw[<-hm]
   exact findBy_push (λ n v=>v.isStr n) es name x _ _ w (λ y=>by
    show(name==y)=decide (y=name)
    by_cases h:y=name
    ·cases h;rfl
    ·have:¬ name=y:=λ e=>h e.symm
     simp[h,this]) hi
  ·rw[hsome];simpa using hz
inductive j5w (cx:Cx) (g:G) (s:Shared) (d:Nat) (fs:List (Option AV)) (u:Value):Prop
 | mk (y a:Addr) (o:Obj) (m:Str->Option Value) (e:u = .ref y) (h:InstAt s.heap y (instObj cx.C a) cx.C (some o)) (ha:g.ρ[d]? = some a) (n:NsN s.heap a m (fs.countP (·.isSome))) (l:∀x,lookIn x o=some (m x)) (z:fs.length=cx.an.length) (z':cx.an.length<=100)
   (h1:∀x v,x∈cx.an->fs[cx.an.idxOf x]? = some (some v)->∃u,m x=some u/\VR cx g v u) (h2:∀x,(x∈cx.an->fs[cx.an.idxOf x]? = some none)->m x=none)
theorem z5o {d:Nat} {fs:List (Option AV)} (i:Inv cx g σ s) (r:VR cx g (.obj d) u) (e:w8r σ d=some fs):j5w cx g s d fs u:=by
 obtain⟨y,a,rfl,hy,ha⟩:=r
 refine j2k e λ fs' hs e=>?_
 obtain rfl:=jI e
 obtain⟨m,hm,hl,hl',h1,h2⟩:=i.cells _ _ _ hs ha
 obtain⟨o,ho,hlk⟩:=k5b hm.ns
 exact⟨y,a,o,m,rfl,⟨i.sub _ _ hy,rfl,rfl,ho⟩,ha,hm,hlk,hl,hl',h1,h2⟩
theorem BI.handed (b:BI):handedIn b.val=true:=by rcases b<;>first|rfl|decide +kernel
set_option tactic.hygienic true in theorem z1v (r:VR cx g v u):handedIn u=true:=by
 rcases v<;>skip
 case bf b=>subst r;exact b.handed
 all_goals first
  | (subst r;rfl)
  | (obtain⟨_,rfl,_⟩:=r;rfl)
  | (obtain⟨_,rfl⟩:=r;rfl)
  | (obtain⟨_,_,rfl,_⟩:=r;rfl)
  | (obtain⟨_,_,_,rfl,_⟩:=r;rfl)
theorem k9j {f:Addr} {gg:Value} {o:Obj} {w:Value} (H:q6i cx T) (h1:findIn cx.K (.ref cx.C) x=some (some (.ref f))) (h3:specialIn cx.K (.ref f) "__get__" = some (some gg)) (h4:takesIn cx.K (.ref f)=some false) (hl:lookIn x o=some (some w)) :
  findObj cx.K cx.C (some o) x=some (.value w):=by
 rcases _:any_some H.dict with⟨cd,hc',hd⟩
 unfold findObj
 have ho:PySem.W.ownOf cd (some o) x=some (some w):=by dsimp only[PySem.W.ownOf];rw[if_pos hd];exact hl
 simp only[hc',Option.bind_some,h1,Option.bind_some]
 simp only[h3,h4,Option.bind_some,ho]
theorem w7l {o:Obj} {w:Value} (H:q6i cx T) (hx:x∈cx.an) (hl:lookIn x o=some (some w)):findObj cx.K cx.C (some o) x=some (.value w):=by
 rcases _:(H.attr x hx).2 with h|⟨f,gg,h1,_,h3,h4⟩
 ·exact findObj_own H.dict h rfl hl
 ·exact k9j H h1 h3 h4 hl
theorem z7k {fs:List (Option AV)} {o:Option AV} (hl:fs.length=cx.an.length) (h:fs[cx.an.idxOf x]? = some o):x∈cx.an:=by
 have:=(List.getElem?_eq_some_iff.mp h).1
 rw[hl]at this
 exact List.idxOf_lt_length_iff.mp this
theorem w0p {fs:List (Option AV)} (hl:fs.length=cx.an.length) (h:fs[cx.an.idxOf x]? = none):x∉cx.an:=λ hx=>by
 have:=List.idxOf_lt_length_of_mem hx
 (simp_all +arith)
theorem w5h {l:Nat} {xs:List AV} {expr:Bool} (i:Inv cx g σ s) (r:VR cx g (.loc l) u) (e:σ[l]? = some (.list xs)):wpAny cx.M A (getAttr u ("append" : Str) expr) (PE cx g s σ (.bm .lAppend (.loc l))) NoE s:=by
 obtain⟨p,rfl,hl⟩:=r.of_loc
 obtain⟨vs,⟨k,hv⟩,q,z⟩:=i.cells _ _ _ e hl
 obtain⟨h,gs,d,t,os⟩:=s
 refine z9w hv ?_
 exact PE.alloc (t:=t+1) i rfl (λ g' le hi=>by exact⟨_,_,rfl,hi,⟨p,rfl,le.at hl⟩⟩)
theorem z9v (H:q6i cx T) {o:AV} {expr:Bool} (i:Inv cx g σ s) (r:VR cx g o u) (e:w1p T σ o x=some v):wpAny cx.M A (getAttr u x expr) (PE cx g s σ v) NoE s:=by
 induction o using AV.casesOn with
 | obj d=>
  refine optE e λ fs e1 e=>?_
  rcases _:z5o i r e1 with⟨y,a,ob,m,rfl,I,ha,hm,hlk,hl,hl',h1,h2⟩
  unfold q8c at e
  rw[H.an]at e
  refine optM e (λ w hw e=>?_) λ hw e=>?_
  ·have hx:=z7k hl hw
   subst e
   rcases _:h1 x v hx hw with⟨u,hu,ru⟩
   exact get_value (i.X H) I H.ga (w7l H hx (by simp only[hlk,hu])) (z1v ru) (.tok i ru _)
  ·have hx:=w0p hl hw
   obtain⟨f,e2,rfl⟩:=Option.map_eq_some_iff.mp e
   rcases _:H.ms x f hx e2 with⟨m1,m2,m3,m4,m5,m6⟩
   have hn:m x=none:=h2 x λ q=>absurd q hx
   refine get_bind (i.X H) I H.ga (findObj_fn H.dict m1 m4 m5 m6 (by rw[hlk,hn])) H.gh (wpAny_call (fn_get (s:={ s with toks:=s.toks+1 }) (i.X H) m2 (handed_on rfl ?_)))
   exact PE.alloc i rfl (λ g' le hi=>show VR cx g' (.mt f (.obj d)) _ from RMt.mk _ _ rfl hi (r.mono le)) _
 | loc l=>exact k4d e λ xs h e=>q0o e λ hx e=>by subst hx;obtain rfl:=jI e;exact w5h i r h
 | _=>exact nope e
theorem k0l (H:q6i cx T) {o w:AV} {uw:Value} {Q:Unit->Shared->Prop} (i:Inv cx g σ s) (r:VR cx g o u) (rw':VR cx g w uw) (e:q0q T σ o x w=some σ')
  (h:∀s',Stp [] g s g s'->Inv cx g σ' s'->Q () s'):wpAny cx.M A (setAttr u x uw) Q NoE s:=by
 induction o using AV.casesOn with
 | obj d=>
  refine optE e λ fs e1 e=>?_
  rcases _:z5o i r e1 with⟨y,a,ob,m,rfl,I,ha,hm,hlk,hl,hl',h1,h2⟩
  unfold q8c at e
  rw[H.an]at e
  refine q0o e λ hlt e=>?_
  ·obtain rfl:=jI e
   have hx:x∈cx.an:=by simp only[hl]at hlt;exact List.idxOf_lt_length_iff.mp hlt
   refine set_plain (i.X H) I H.sa (osa_open (s:={ s with toks:=s.toks+1 }) (i.X H) I H.over (H.attr x hx).1 λ b=>?_)
   rcases _:any_some H.dict with⟨cd,hc,hd'⟩
   refine wpAny_bind (wpAny_pure (wpAny_bind (wpAny_bind (wpAny_loadPart I.at_ (wpAny_bind ((show Looks cx.M ({ s with toks:=s.toks+1 }:Shared).heap _ _ from looks_clsIn (i.X H) hc).here ?_))))))
   rw[hd']
   refine wpAny_pure (a:=some a) (wpAny_bind (wpAny_pure (wpAny_bind ?_)))
   refine j4t (s:={ s with toks:=s.toks+1 }) hm λ h' hn hs=>?_
   have hcount:(if(m x).isSome then fs.countP (·.isSome)else fs.countP (·.isSome)+1)=(fs.set (cx.an.idxOf x) (some w)).countP (·.isSome):=by
    rw[List.countP_set (h:=hlt)]
    have hpos:∀z:Option AV,fs[cx.an.idxOf x]? = some z->z.isSome=true->0<fs.countP (·.isSome):=λ z hz hs=>
     List.countP_pos_iff.mpr ⟨z,List.mem_of_getElem? hz,hs⟩
    generalize hf:fs[cx.an.idxOf x]=zzy
    induction zzy with
    | none=>
     have:m x=none:=h2 x λ _=>by simp only[List.getElem?_eq_getElem hlt,hf]
     simp[this]
    | some z=>
     obtain⟨u',hu',_⟩:=h1 x z hx (by simp only[List.getElem?_eq_getElem hlt,hf])
     have:=hpos (some z) (by simp only[List.getElem?_eq_getElem hlt,hf]) rfl
     dsimp[hu'];(simp_all +arith)
   simp only[hcount]at hn
   have ho:OR cx g h' a (.attrs (fs.set (cx.an.idxOf x) (some w))):=by
    refine⟨_,hn,by rw[List.length_set];exact hl,hl',λ z q hz hq=>?_,λ z hz=>?_⟩
    ·by_cases hzx:z=x
     ·cases hzx;rw[List.getElem?_set_self hlt]at hq;rcases hq;exact⟨uw,by simp,rw'⟩
     ·rw[List.getElem?_set_ne (λ q=>hzx (w2r hx q).symm)]at hq
      obtain⟨u',p1,p2⟩:=h1 z q hz hq
      exact⟨u',by simp[hzx,p1],p2⟩
    ·have hzx:z≠x:=λ q=>by cases q;have:=hz hx;rw[List.getElem?_set_self hlt]at this;rcases this
     simp only[hzx,if_false]
     exact h2 z λ q=>by have:=hz q;rwa [List.getElem?_set_ne (λ q=>hzx (w2r hx q).symm)]at this
   rcases _:hn with⟨on,es,ep,hget,hdat,_,_,hsz⟩
   have hcl:(fs.set (cx.an.idxOf x) (some w)).countP (·.isSome)<=100:=jA List.countP_le_length (by simp only[List.length_set,hl];exact hl')
   refine wpAny_bind (wpAny_lookBehind hget (by rw[hdat];exact pastItsLine_dict (jA hsz (jA hcl (by rw[sizeLine_eq];decide)))) (wpAny_pure ?_))
   have ht:s.toks<=s.toks+1+1:=by solve_by_elim (maxDepth:=4) only[jA,jC,jB, *]
   exact h _ (.setCell (t:=s.toks+1+1) ht ha hs ho.there) (i.setCell (t:=s.toks+1+1) ht ha ho hs)
 | _=>exact nope e
end
section
variable {cx:Cx} {T:Tab} {n:Nat} {r:Ev} {ks:Kinds} {ns:List Str} {env:Env} {g g':G} {vs vs':Vs} {σ σ':Store} {s s':Shared} {A:Around} {v:AV} {u:Value} {ex:Expr} {x:Str}
theorem j5t {kvs:List (Str×AV)} {us:List Value} {k:Str} (h:kvs.length=us.length):(((kvs.map (·.1)).zip us).any λ kv=>kv.1=k)=kvs.any λ kv=>kv.1=k:=by
 induction kvs generalizing us with
 | nil=>rfl
 | cons a kvs ih=>induction us with
  | nil=>trivial
  | cons b us=>simp only[List.map_cons,List.zip_cons_cons,List.any_cons];simp only[ih (by simpa using h)]
set_option tactic.hygienic true in theorem w4s {kvs:List (Str×AV)} {us:List Value} {k:Str} (q:VRs cx g (kvs.map (·.2)) us) (r:VR cx g v u) :
  ∃us',stored ((kvs.map (·.1)).zip us) k u=((q1a k v kvs).map (·.1)).zip us'/\VRs cx g ((q1a k v kvs).map (·.2)) us':=by
 have hl:kvs.length=us.length:=by simpa using q.length
 delta stored q1a
 rw[j5t hl]
 split
 ·rename_i hany
  clear hany hl
  induction kvs generalizing us with
  | nil=>exact⟨[],by rfl,.nil⟩
  | cons a kvs ih=>
   rcases _:VRs.uncons (show VRs cx g (a.2::kvs.map (·.2)) us from q)with⟨b,us,rfl,h1,h2⟩
   rcases _:ih h2 with⟨us',e1,e2⟩
   by_cases ha:a.1=k
   ·exact⟨u::us',by simp[ha];simpa using e1,by simpa [ha]using VRs.cons r e2⟩
   ·exact⟨b::us',by simp[ha];simpa using e1,by simpa [ha]using VRs.cons h1 e2⟩
 ·exact⟨us++[u],by rw[List.map_append,List.zip_append (by simpa using hl)];rfl,by rw[List.map_append];exact q.append (.cons r .nil)⟩
theorem q5p (k:Str) (kvs:List (Str×AV)):(q1a k v kvs).length<=kvs.length+1:=by
 unfold q1a;split<;>simp
theorem q8t {k:Str} {kvs:List (Str×AV)} (h:∀kv∈kvs,kv.1.length<=sizeLine) (hk:k.length<=sizeLine):∀kv∈q1a k v kvs,kv.1.length<=sizeLine:=by
 intro kv hm
 unfold q1a at hm
 split at hm
 ·obtain⟨x,hx,rfl⟩:=List.mem_map.mp hm
  split
  ·exact h x hx
  ·exact h x hx
 ·rcases List.mem_append.mp hm with hm|hm
  ·exact h kv hm
  ·rw[List.mem_singleton]at hm;subst hm;exact hk
theorem q7z (hA:AOk n A) {xs:List AV} {k:Nat} {P:List Value->Shared->Prop} (i:Inv cx g σ s) (e:q1n σ v=some xs) (r:VR cx g v u) (hk:k=xs.length)
  (h:∀us h',VRs cx g xs us->(∀b o,s.heap.get? b=some o->h'.get? b=some o)->P us { s with heap:=h' }):wpAny cx.M A (unpackItems u k none) P NoE s:=by
 have fin:∀{us:List Value} {h':Heap},VRs cx g xs us->Heap.ExtBut s.heap.objs.size s.heap h'->P us { s with heap:=h' }:=λ q x=>h _ _ q λ b o e=>x b o (Nat.ne_of_lt (Heap.lt_size e)) e
 have lists:∀{v:AV},q0r σ v=some xs->VR cx g v u->wpAny cx.M A (unpackItems u k none) P NoE s:=by
  intro v e r
  obtain⟨p,us,rfl,hp,rp,zp⟩:=q0x i e r
  have hk':k=us.toArray.size:=by simp only[hk,rp.length,List.size_toArray]
  rw[hk']
  exact kun_itemsOf hA.handled hp.isList λ h' x=>fin rp x
 induction v using AV.casesOn with
 | tup ys=>
  rcases e
  obtain⟨a,o,us,rfl,hi,⟨m,rfl⟩,q,z⟩:=r
  have hk':k=us.toArray.size:=by rw[hk,q.length,List.size_toArray]
  rw[hk']
  exact wpAny_unpackItems_tuple hA.handled (show s.heap.IsTuple a us.toArray from⟨_,i.sub _ _ hi,rfl,m,rfl⟩) λ h' x=>fin q x
 | fl ys=>exact lists (v:=.fl ys) e r
 | loc l=>exact lists (v:=.loc l) e r
 | _=>exact nope e
set_option tactic.hygienic true in theorem PA.next {t:Sem Unit} {g1:G} {s₁:Shared} (a:Stp (ownK ks env) g s g1 s₁) (h:wpAny cx.M A t (λ _ s'=>PA cx ks ns env g1 s₁ vs' σ' s') NoE s₁):wpAny cx.M A t (λ _ s'=>PA cx ks ns env g s vs' σ' s') NoE s₁:=
 wpAny_mono h (λ _ _ ⟨g',b,i,E⟩=>⟨g',a.trans b,i,E⟩) λ _ _ x=>x
theorem q1p {e:Expr} {es:List Expr} (h:∀x p,e≠.Starred x p):assignEach (e::es) env=(false,assign e env)::assignEach es env:=by
 rcases e<;>first|rfl|exact absurd rfl (h _ _)
inductive v0b (xs:List AV) (ts:List Expr) (env:Env):Prop
 | mk (h1:(assignEach ts env).findIdx? (·.1)=none) (h2:(assignEach ts env).length=xs.length) (h3:ts.length=xs.length)
theorem asCE {α:Type} {xs:List AV} {f:AV->List AV->Option α} {a:α} {P:Prop} (h:asC xs f=some a) (k:∀x r,xs=x::r->f x r=some a->P):P:=match xs,h with
 | x::r,h=>k x r rfl h
theorem asEE {xs:List AV} {P:Prop} (h:asE xs vs σ=some (vs',σ')) (k:xs=[]->vs=vs'->σ=σ'->P):P:=match xs,h with
 | [],h=>by obtain⟨h1,h2⟩:=Prod.mk.inj (jI h);exact k rfl h1 h2
theorem w0n:∀{ts:List Expr} {xs:List AV} {vs:Vs} {σ:Store},assigns r ks ns ts xs vs σ=some (vs',σ')->∀env,v0b xs ts env
 | [],xs,vs,σ,e,_=>asEE e λ h _ _=>by subst h;exact⟨rfl,rfl,rfl⟩
 | t::ts,xs,vs,σ,e,env=>ifNo e λ hx e=>asCE e λ x xs hq e=>q0h e λ vs1 σ1 e1 e2=>by
  subst hq
  obtain⟨h1,h2,h3⟩:=w0n (ts:=ts) e2 env
  have c:=q1p (env:=env) (es:=ts) (q7i hx)
  exact⟨by rw[c,List.findIdx?_cons];simp[h1],by simp[c,h2],by simp[h3]⟩
theorem w7g (R:AsOk cx n r.a) (hA:AOk n A):∀{ts:List Expr} {xs:List AV} {us:List Value} {g:G} {s:Shared} {vs:Vs} {σ:Store},Inv cx g σ s->ER cx ks ns env g vs s->VRs cx g xs us->assigns r ks ns ts xs vs σ=some (vs',σ')->
  wpAny cx.M A (assignInOrder ((assignEach ts env).map (·.2)) us) (λ _ s'=>PA cx ks ns env g s vs' σ' s') NoE s
 | [],xs,us,g,s,vs,σ,i,E,q,e=>asEE e λ _ h1 h2=>by subst h1 h2;exact wpAny_pure ⟨g,.refl _ _ _,i,E⟩
 | t::ts,xs,us,g,s,vs,σ,i,E,q,e=>by
  refine ifNo e λ hx e=>asCE e λ x xs hq e=>q0h e λ vs1 σ1 e1 e2=>?_
  subst hq
  rw[q1p (q7i hx)]
  rcases _:q.uncons with⟨u,us,rfl,h1,h2⟩
  (refine wpAny_bind (wpAny_holding (wpAny_mono (R e1 hA i E h1) (λ _ s₁ zz0=>?_) λ _ _ x=>x));obtain⟨g1,a1,i1,E1⟩:=zz0)
  exact PA.next a1 (w7g R hA i1 E1 (h2.mono a1.le) e2)
theorem Stp.own {own:List Addr} (a:Stp [] g s g' s'):Stp own g s g' s':=a.wider (by simp)
theorem j7l (H:q6i cx T) (R:EvOk cx n r):AsOk cx n (evA T r):=by
 intro ks ns t v vs σ vs' σ' e A env g s u hA i E rv
 induction t using Expr.casesOn with
 | Name x p=>exact q0o e λ hk e=>PyProof.Rows.assign_Name (w1v i E hk rv λ s' h=>by rcases e;exact h)
 | Tuple ts k p=>
  refine q6k e λ xs e1 e=>?_
  obtain⟨h1,h2,h3⟩:=w0n e env
  refine wpAny_bind (wpAny_standAt ?_)
  unfold unpack
  rw[h1]
  refine wpAny_bind (wpAny_holding (q7z hA i e1 rv h2 λ us h' q k=>?_))
  have a1:Stp [] g s g { s with heap:=h' }:=.keeps (t:=s.toks) (jD _) k
  exact PA.next a1.own (w7g R.a hA (i.keep (t:=s.toks) (jD _) k) (E.go a1) q e)
 | Attribute o x p=>
  refine q0h e λ w σ1 e1 e=>q6k e λ σ2 e2 e=>?_
  obtain⟨rfl,rfl⟩:=Prod.mk.inj (jI e)
  refine wpAny_bind (wpAny_holding (q0y R.e hA i E e1 λ g1 s₁ u1 a1 i1 E1 r1=>wpAny_bind (wpAny_standAt (wpAny_bind (wpAny_holding (k0l H i1 r1 (rv.mono a1.le) e2 λ s₂ a2 i2=>?_))))))
  exact wpAny_release ⟨g1,(a1.trans a2).own,i2,E1.go a2⟩
 | Subscript o j p=>
  refine q0h e λ w σ1 e1 e=>q0h e λ y σ2 e2 e=>optE e λ l h1 e=>optE e λ k h2 e=>optE e λ kvs hl e=>q0o e λ hz e=>?_
  obtain⟨rfl,rfl⟩:=Prod.mk.inj (jI e)
  have hl:=z5j hl
  refine wpAny_bind (wpAny_holding (q0y R.e hA i E e1 λ g1 s₁ u1 a1 i1 E1 r1=>wpAny_bind (wpAny_holding (q0y R.e hA i1 E1 e2 λ g2 s₂ u2 a2 i2 E2 r2=>wpAny_bind (wpAny_standAt (wpAny_bind (wpAny_holding ?_)))))))
  have r1':=r1.mono a2.le
  rw[j0x h1]at r1'
  obtain⟨p,rfl,hp⟩:=r1'.of_loc
  obtain⟨t,rfl,tz⟩:=r2.strV h2
  obtain⟨us,hd,q,y1,y2,y3⟩:=i2.cells _ _ _ hl hp
  have hlen:((kvs.map (·.1)).zip us).length<=sizeLine:=by rw[z7f q];exact y2
  refine wpAny_setItem_pairs (strKind_is _ _ k t) hd (λ h' hd' hs=>wpAny_release ?_) hlen
  rcases _:w4s (k:=k) q ((rv.mono a1.le).mono a2.le)with⟨us',e3,q'⟩
  simp only[e3]at hd'
  have ho:OR cx g2 h' p (.dict (q1a k v kvs)):=⟨us',hd',q',y1,jA (q5p k kvs) hz,q8t y3 tz⟩
  have a3:Stp [] g2 s₂ g2 { s₂ with heap:=h',toks:=s₂.toks+1 }:=.setCell (t:=s₂.toks+1) (Nat.le_succ _) hp hs ho.there
  exact⟨g2,((a1.trans a2).trans a3).own,i2.setCell (t:=s₂.toks+1) (Nat.le_succ _) hp ho hs,E2.go a3⟩
 | _=>exact nope e
end
section
variable {cx:Cx} {T:Tab} {n:Nat} {r:Ev} {ks:Kinds} {ns:List Str} {env:Env} {g g':G} {vs vs':Vs} {σ σ':Store} {s s':Shared} {A:Around} {v:AV} {u:Value} {ex:Expr} {x:Str} {fl:q0b}
theorem PS.up {t:Sem Flow} {g1:G} {s₁:Shared} (a:Stp (ownK ks env) g s g1 s₁) (h:wpAny cx.M A t (PS cx ks ns env g1 s₁ fl vs' σ') NoE s₁):wpAny cx.M A t (PS cx ks ns env g s fl vs' σ') NoE s₁:=
 wpAny_mono h (λ _ _ ⟨g',b,i,E,f⟩=>⟨g',a.trans b,i,E,f⟩) λ _ _ x=>x
set_option tactic.hygienic true in theorem q5n (R:SOk cx n r.s) (hA:AOk n A):∀{ss:List Stmt} {g:G} {s:Shared} {vs:Vs} {σ:Store},Inv cx g σ s->ER cx ks ns env g vs s->q0w r ks ns ss vs σ=some (fl,vs',σ')->
  wpAny cx.M A (execs ss env) (PS cx ks ns env g s fl vs' σ') NoE s
 | [],g,s,vs,σ,i,E,e=>by rcases e;exact wpAny_execs_nil ⟨g,.refl _ _ _,i,E,rfl⟩
 | st::ss,g,s,vs,σ,i,E,e=>by
  rcases _:bind_some e with⟨⟨f,vs1,σ1⟩,e1,e⟩
  (refine wpAny_execs_cons (wpAny_mono (R e1 hA i E) (λ f' s₁ zz0=>?_) λ _ _ x=>x);obtain⟨g1,a1,i1,E1,F⟩:=zz0)
  induction f with
  | next=>subst F;exact PS.up a1 (q5n R hA i1 E1 e)
  | ret w=>
   obtain⟨u,rfl,ru⟩:=F
   rcases e
   exact⟨g1,a1,i1,E1,u,rfl,ru⟩
theorem k8d (E:ER cx ks ns env g vs s):env.blockKind = .function:=by unfold Env.blockKind;rw[E.fn];rfl
theorem w5j (E:ER cx ks ns env g vs s) (y:Str):(env.kindOf y==some .local)=(ks.lookup y==some .local):=by
 rcases E.kinds y with e|⟨e,e'⟩
 ·rw[e]
 ·rw[e,e'];rfl
theorem j5l (E:ER cx ks ns env g vs s) {ts:List Expr} {o:Option (List Str)} (h:j5k ks ts ex=some o):swappedStores ts ex env=pure o:=by
 have hb:=k8d E
 have hk:=w5j E
 have no:∀{q:Sem (Option (List Str))},q=pure none->some none=some o->q=pure o:=λ h1 h2=>h1.trans (congrArg pure (jI h2))
 rcases ts with _|⟨t,_|⟨t',ts⟩⟩
 ·exact no rfl h
 ·induction t using Expr.casesOn with
  | Tuple us k p=>induction ex using Expr.casesOn with
   | Tuple ws k' p'=>
    dsimp only[swappedStores]
    simp only[hb,hk,bne_self_eq_false,Bool.or_false]
    exact ifE h (λ c h=>no (if_pos c) h) λ c h=>(if_neg c).trans (ifE h (λ c h=>no (if_pos c) h) λ c h=>(if_neg c).trans (ifE h (λ c h=>no (if_pos c) h) λ c h=>(if_neg c).trans (ifE h (λ c h=>no (if_pos c) h) λ c h=>(if_neg c).trans (ifNo h λ c h=>(if_neg c).trans (congrArg pure (jI h))))))
   | _=>exact no rfl h
  | List us p=>cases ex with
   | Tuple ws k' p'=>exact nope h
   | _=>exact no rfl h
  | _=>exact no rfl h
 ·rcases t<;>exact no rfl h
theorem k0y {ts:List Expr} {line:Nat} (h:w0s ex=false):swapsWithSole ts ex line env=pure false:=by
 have:∀t,swapsWith ex t line env=pure false:=λ t=>by rcases ex<;>first|rfl|exact absurd h.symm Bool.false_ne_true
 rcases ts with _|⟨t,_|⟨t',ts⟩⟩
 ·rfl
 ·exact this _
 ·rfl
set_option tactic.hygienic true in theorem q6n (R:AsOk cx n r.a) (hA:AOk n A):∀{ts:List Expr} {g:G} {s:Shared} {vs:Vs} {σ:Store},Inv cx g σ s->ER cx ks ns env g vs s->VR cx g v u->q7l r ks ns v ts vs σ=some (vs',σ')->(∀t∈ts,∀y q,t≠.Starred y q)->
  wpAny cx.M A (assignAll u ((assignEach ts env).map (·.2))) (λ _ s'=>PA cx ks ns env g s vs' σ' s') NoE s
 | [],g,s,vs,σ,i,E,q,e,_=>by obtain⟨rfl,rfl⟩:=Prod.mk.inj (jI e);exact wpAny_pure ⟨g,.refl _ _ _,i,E⟩
 | [t],g,s,vs,σ,i,E,q,e,h=>by
  rcases _:bind_some e with⟨⟨vs1,σ1⟩,e1,e2⟩
  obtain⟨rfl,rfl⟩:=Prod.mk.inj (jI e2)
  rw[q1p (h t (by simp))]
  exact R e1 hA i E q
 | t::t' :: ts,g,s,vs,σ,i,E,q,e,h=>by
  rcases _:bind_some e with⟨⟨vs1,σ1⟩,e1,e2⟩
  rw[q1p (h t (by simp))]
  have h':(assignEach (t' :: ts) env).map (·.2)≠[]:=by rw[q1p (h t' (by simp))];simp
  have eq:assignAll u (assign t env::(assignEach (t' :: ts) env).map (·.2))=(do holding [u] (assign t env u);assignAll u ((assignEach (t' :: ts) env).map (·.2))):=by
   generalize hh:(assignEach (t' :: ts) env).map (·.2)=zzy
   induction zzy with
   | nil=>exact absurd hh h'
   | cons a b=>rfl
  show wpAny cx.M A (assignAll u (assign t env::(assignEach (t' :: ts) env).map (·.2))) _ _ s
  rw[eq]
  (refine wpAny_bind (wpAny_holding (wpAny_mono (R e1 hA i E q) (λ _ s₁ zz0=>?_) λ _ _ x=>x));obtain⟨g1,a1,i1,E1⟩:=zz0)
  exact PA.next a1 (q6n R hA i1 E1 (q.mono a1.le) (by exact e2) λ t ht=>h t (by simp[ht]))
theorem j8z {xs:List AV} {P:Prop} (h:putE xs vs=some vs') (k:xs=[]->vs=vs'->P):P:=match xs,h with
 | [],h=>k rfl (jI h)
theorem z2s:∀{xs:List Str} {ws:List AV} {us:List Value} {g:G} {s:Shared} {vs:Vs},Inv cx g σ s->ER cx ks ns env g vs s->VRs cx g ws us->z8x ns ks xs ws vs=some vs'->
  wpAny cx.M A (assignInOrder (xs.map λ n=>bindName env n) us) (λ _ s'=>PA cx ks ns env g s vs' σ s') NoE s
 | [],ws,us,g,s,vs,i,E,q,e=>j8z e λ _ h=>by subst h;exact wpAny_pure ⟨g,.refl _ _ _,i,E⟩
 | x::xs,ws,us,g,s,vs,i,E,q,e=>by
  refine asCE e λ w ws hq e1=>q0o e1 λ hk e2=>?_
  subst hq
  obtain⟨u,us,rfl,h1,h2⟩:=q.uncons
  (refine wpAny_bind (wpAny_holding (wpAny_bindName (w1v i E hk h1 λ s₁ zz0=>?_)));rcases _:zz0 with⟨g1,a1,i1,E1⟩)
  exact PA.next a1 (z2s i1 E1 (h2.mono a1.le) e2)
theorem q9h:∀{xs:List Str} {ws:List AV} {vs:Vs},z8x ns ks xs ws vs=some vs'->xs.length=ws.length
 | [],_,_,e=>j8z e λ h _=>by subst h;rfl
 | _::xs,_,_,e=>asCE e λ _ _ h e1=>q0o e1 λ _ e2=>by subst h;exact congrArg (· + 1) (q9h e2)
set_option tactic.hygienic true in theorem w2c (R:AsOk cx n r.a) (hA:AOk n A) {ts:List Expr} (i:Inv cx g σ s) (E:ER cx ks ns env g vs s) (q:VR cx g v u) (hs:∀t∈ts,∀y q,t≠.Starred y q) (e:w8q r ks ns ts ex v vs σ=some (vs',σ')) :
  wpAny cx.M A (do assignStores env u (<-swappedStores ts ex env) ((assignEach ts env).map (·.2))) (PS cx ks ns env g s .next vs' σ') NoE s:=by
 have fin:∀{t:Sem Unit} {s0:Shared},wpAny cx.M A t (λ _ s'=>PA cx ks ns env g s vs' σ' s') NoE s0->wpAny cx.M A (do t;pure Flow.next) (PS cx ks ns env g s .next vs' σ') NoE s0:=λ h=>
  wpAny_bind (wpAny_mono h (λ _ _ ⟨g',a,i,E⟩=>wpAny_pure ⟨g',a,i,E,rfl⟩) λ _ _ x=>x)
 refine optE e λ o hw e=>?_
 rw[j5l E hw]
 refine wpAny_bind (wpAny_pure ?_)
 refine optM e (λ names ho e=>?_) λ ho e=>?_<;>subst ho
 ·refine optE e λ xs e1 e=>mapQ e λ vs1 e2 e=>?_
  obtain⟨rfl,rfl⟩:=Prod.mk.inj e
  refine wpAny_bind (wpAny_rule (wpAny_bind (q7z hA i e1 q (by have:=q9h e2;simpa using this) λ us h' qs k=>?_)))
  have a1:Stp [] g s g { s with heap:=h' }:=.keeps (t:=s.toks) (jD _) k
  exact fin (PA.next a1.own (z2s (i.keep (t:=s.toks) (jD _) k) (E.go a1) qs.reverse e2))
 ·exact fin (q6n R hA i E q e hs)
theorem j6i {op:Operator} {old w:AV} {uo:Value} (i:Inv cx g σ s) (e:augA op old w=some v) (r1:VR cx g old uo) (r2:VR cx g w u):wpAny cx.M A (inplaceOp op uo u) (PE cx g s σ v) NoE s:=by
 induction op with
 | Add=>
  refine optE e λ x h0 e=>optE e λ y h1 e=>mapQ e λ z h e=>q0o h λ hz h=>?_
  subst e
  obtain rfl:=jI h
  obtain⟨t,rfl,_⟩:=r1.strV h0
  obtain⟨t',rfl,_⟩:=r2.strV h1
  exact PyProof.Rows.iadd_str (λ _ _=>.tok i (.str_ _ (by rw[strLen_append];exact hz)) _) hz
 | _=>exact nope e
theorem k5u (R:EvOk cx n r) (hA:AOk n A) (i:Inv cx g σ s) (E:ER cx ks ns env g vs s) {op:Operator} {p q:Pos}
  (e:augN r ks ns x op ex vs σ=some (fl,vs',σ')):wpAny cx.M A (exec (.AugAssign (.Name x p) op ex q) env) (PS cx ks ns env g s fl vs' σ') NoE s:=by
 ·refine q0o e λ hk e=>?_
  simp only[Bool.and_eq_true,Bool.not_eq_true']at hk
  refine q6k e λ old e1 e=>q0h e λ w σ1 e2 e=>q6k e λ new e3 e=>?_
  rcases e
  have hk':ks.lookup x=some .local\/ks.lookup x=some .cell\/ks.lookup x=some .free:=by
   have:=hk.1;unfold q1v at this;rw[Bool.or_eq_true,beq_iff_eq,beq_iff_eq]at this;exact this.elim .inl λ h=>.inr (.inl h)
  refine wpAny_AugAssign_Name (k4u E hk' hk.2 e1 λ uo ro=>q0y R.e hA i E e2 λ g1 s₁ u1 a1 i1 E1 r1=>?_)
  refine PX.then (PE.x (j6i i1 e3 (ro.mono a1.le).norm r1)) λ g2 s₂ u2 a2 i2 r2=>?_
  refine w1v i2 (E1.go a2) hk.1 r2 λ s3 ⟨g3,a3,i3,E3⟩=>⟨g3,((a1.trans a2).own).trans a3,i3,E3,rfl⟩
end
structure StpI (I:Addr) (g:G) (s:Shared) (g':G) (s':Shared):Prop where
 le:g.le g'
 toks:s.toks<=s'.toks
 keep:∀b o,s.heap.get? b=some o->b≠I->s'.heap.get? b=some o
 new:∀b o,s.heap.get? b=some o->b∉g.ρ->b∉g'.ρ
 newI:∀b o,s.heap.get? b=some o->g.I b=none->g'.I b=none
 gens:s'.gens=s.gens
 os:s'.os=s.os
noncomputable abbrev Nx:=Nat->Store->Option (Option AV)
inductive WkN (cx:Cx) (I:Addr) (g:G) (s:Shared) (σ:Store) (x:AV) (M:G->Heap->Value->Prop) (r:Option Value) (s':Shared):Prop
 | mk (u:Value) (g':G) (e:r=some u) (a:StpI I g s g' s') (i:Inv cx g' σ s') (q:VR cx g' x u) (m:M g' s'.heap u) (o:∃o,s'.heap.get? I=some o)
inductive WkD (cx:Cx) (I:Addr) (g:G) (s:Shared) (σ:Store) (r:Option Value) (s':Shared):Prop
 | mk (e:r=none) (a:StpI I g s g s') (i:Inv cx g σ s')
inductive WkG (cx:Cx) (I:Addr) (g:G) (s:Shared) (σ:Store) (St:G->Heap->Prop) (s':Shared):Prop
 | mk (a:StpI I g s g s') (i:Inv cx g σ s') (m:St g s'.heap) (o:∃o,s'.heap.get? I=some o)
inductive StW (n:Nat) (St':Nat->Heap->Prop) (g0:G) (I:Addr) (i:Nat) (g:G) (h:Heap):Prop
 | mk (hi:i<=n) (st:St' i h) (le:g0.le g) (h1:I∉g.ρ) (h2:g.I I=none)
inductive StC (l:Nat) (I:Addr) (i:Nat) (g:G) (h:Heap):Prop
 | mk (p:Addr) (e:g.ρ[l]? = some p) (it:h.IsListIter I p i) (h1:I∉g.ρ) (h2:g.I I=none)
structure WK (cx:Cx) (A:Around) (I:Addr) (tt:Expr->Bool) (nx:Nx) (St:Nat->G->Heap->Prop) (Mid:Nat->G->Heap->Value->Prop):Prop where
 next:∀{i g σ s x},Inv cx g σ s->St i g s.heap->nx i σ=some (some x)->
  wpAny cx.M A (pyNext (.ref I)) (WkN cx I g s σ x (Mid (i+1))) NoE s
 done:∀{i g σ s},Inv cx g σ s->St i g s.heap->nx i σ=some none->wpAny cx.M A (pyNext (.ref I)) (WkD cx I g s σ) NoE s
 frame:∀{i g s g' s' own σ σ'},St i g s.heap->Stp own g s g' s'->Inv cx g σ s->Inv cx g' σ' s'->I∉own->St i g' s'.heap
 self:∀{i g s} {Q:Value->Shared->Prop},St i g s.heap->Q (.ref I) s->wpAny cx.M A (pyIter (.ref I)) Q NoE s
 go:∀{i g σ s t x u},Inv cx g σ s->Mid i g s.heap u->tt t=true->VR cx g x u->wpAny cx.M A (letOwnedTupleGo t (.ref I) u) (λ _=>WkG cx I g s σ (St i)) NoE s
 out:∀{i g h},St i g h->I∉g.ρ/\g.I I=none
 there:∀{i g h},St i g h->∃o,h.get? I=some o
section
variable {cx:Cx} {T:Tab} {n:Nat} {r:Ev} {ks:Kinds} {ns:List Str} {env:Env} {g g':G} {vs vs':Vs} {σ σ':Store} {s s':Shared} {A:Around} {v:AV} {u:Value} {ex:Expr} {x:Str} {I:Addr}
theorem Stp.thenI {own:List Addr} {g0:G} {s0:Shared} (a:Stp own g0 s0 g s) (b:StpI I g s g' s') (h:s0.heap.get? I=none):Stp own g0 s0 g' s':=
 ⟨a.le.trans b.le,jA a.toks b.toks,λ x o e p q=>b.keep x o (a.keep x o e p q) (λ z=>by rw[z,h]at e;rcases e),
  λ x o e p=>let ⟨o',e'⟩:=a.stay x o e;b.new x o' e' (a.new x o e p),λ x o e p=>let ⟨o',e'⟩:=a.stay x o e;b.newI x o' e' (a.newI x o e p),
  λ x o e=>let ⟨o',e'⟩:=a.stay x o e;⟨o',b.keep x o' e' (λ z=>by rw[z,h]at e;cases e)⟩,b.gens.trans a.gens,b.os.trans a.os⟩
theorem ER.stepI (E:ER cx ks ns env g vs s) (a:StpI I g s g' s') (h1:env.locals≠I) (h2:∀x c,IsCF ks x->env.cells.lookup x=some c->c≠I):ER cx ks ns env g' vs s':=by
 obtain⟨m,hm,hv⟩:=E.loc
 obtain⟨lo,ho⟩:=q6e hm
 refine⟨E.fn,E.gl,E.bl,⟨E.code.1.mono a.le,E.code.2⟩,E.len,E.kinds,E.mem,⟨m,k9l hm λ o e=>a.keep _ _ e h1,λ x v k e=>let ⟨u,p,q⟩:=hv x v k e;⟨u,p,q.mono a.le⟩⟩,⟨a.new _ _ ho E.locA.1,a.newI _ _ ho E.locA.2⟩,λ x k=>?_,E.apart⟩
 obtain⟨c,hc,c1,c2,c3,o,co,cv⟩:=E.cel x k
 obtain⟨oc,hoc⟩:=q2s co
 exact⟨c,hc,a.new _ _ hoc c1,a.newI _ _ hoc c2,c3,o,k2i co λ o e=>a.keep _ _ e (h2 x c k hc),λ v e=>let ⟨u,p,q⟩:=cv v e;⟨u,p,q.mono a.le⟩⟩
theorem Inv.writeI (i:Inv cx g σ s) {h':Heap} {t:Nat} (ht:s.toks<=t) (h1:I∉g.ρ) (h2:g.I I=none) (k:∀b o,s.heap.get? b=some o->b≠I->h'.get? b=some o):Inv cx g σ { s with heap:=h',toks:=t }:=
 ⟨λ b o e=>k b o (i.sub b o e) (λ z=>by rw[z,h2]at e;contradiction),i.base,i.len,i.nodup,i.apart,
  λ l o b e q=>(i.cells l o b e q).mono (.refl g) λ ob eo=>k b ob eo λ z=>h1 (z▸List.mem_of_getElem? q),jA i.one ht,λ x y e=>jC (i.tok x y e) ht⟩
theorem StpI.write {h':Heap} {t:Nat} (ht:s.toks<=t) (k:∀b o,s.heap.get? b=some o->b≠I->h'.get? b=some o):StpI I g s g { s with heap:=h',toks:=t }:=
 ⟨.refl g,ht,λ b o e q=>k b o e q,λ _ _ _ h=>h,λ _ _ _ h=>h,rfl,rfl⟩
theorem Inv.add (i:Inv cx g σ s) {a:Addr} {o:Obj} (ho:s.heap.get? a=some o) (h1:a∉g.ρ) (h2:g.I a=none):Inv cx (g.freeze a o) σ s:=by
 refine⟨λ b x e=>?_,λ b x e=>(G.freeze_le h2).I _ _ (i.base b x e),i.len,i.nodup,λ b q=>?_,λ l x b e q=>(i.cells l x b e q).mono (G.freeze_le h2) λ _ e=>e,i.one,i.tok⟩
 ·have e:(if b=a then some o else g.I b)=some x:=e
  by_cases q:b=a
  ·subst q;rw[if_pos rfl]at e;obtain rfl:=jI e;exact ho
  ·rw[if_neg q]at e;exact i.sub b x e
 ·show(if b=a then some o else g.I b)=none
  rw[if_neg λ z=>by simp only[z]at q;exact h1 q];exact i.apart b q
noncomputable def w0i:List String:=["enumerate","zip","dict_itemiterator","dict_reverseitemiterator","odict_iterator","itertools.zip_longest","itertools.pairwise"]
theorem z8f {t:Expr} {o:Obj} {T:String} {Q:Unit->Shared->Prop} {E:Value->Shared->Prop} (ho:s.heap.get? I=some o) (hc:o.cls = .type T) (hT:w0i.contains T=false) (hQ:Q () s):wpAny cx.M A (letOwnedTupleGo t (.ref I) u) Q E s:=by
 have body:∀a:Addr,wpAny cx.M A (do
   let o <-load I
   match o.cls,o.data with
   | .type n,.fields vs=>
    if w0i.contains n&&vs[0]?==some (rawInt a)then
     rule "for.unpacks-the-owned-tuple"
     updateField I 0 .none
   | _,_=>pure ()) Q E s:=λ a=>by
  refine wpAny_bind (wpAny_load ho ?_)
  rw[hc]
  rcases o.data<;>first|exact wpAny_pure hQ|skip
  simp only[hT,Bool.false_and,Bool.false_eq_true,if_false]
  exact wpAny_pure hQ
 unfold letOwnedTupleGo
 split
 ·rcases u<;>first|exact wpAny_pure hQ|exact body _
 ·rcases u<;>first|exact wpAny_pure hQ|exact body _
 ·exact wpAny_pure hQ
theorem WK.of_walks {fp:List Addr} {n:Nat} {P:Nat->Value->Prop} {St':Nat->Heap->Prop} {g0:G} {xs:List AV} (W:Walks cx.prog cx.w A I fp [I] n P St') (hP:∀i v,i<n->P i v->∃x,xs[i]? = some x/\VR cx g0 x v) (hn:n=xs.length)
  (hfp:∀b∈fp,b=I\/∃o,g0.I b=some o) (hc:∀i h,St' i h->∃o T,h.get? I=some o/\o.cls = .type T/\w0i.contains T=false) :
  WK cx A I (λ _=>true) (λ i _=>some xs[i]?) (StW n St' g0 I) (λ i g h _=>StW n St' g0 I i g h) where
 next:=by
  rintro i g σ s x inv ⟨hi,st,le,h1,h2⟩ e
  have e:=jI e
  have hlt:i<n:=by simp only[hn];exact(List.getElem?_eq_some_iff.mp e).1
  refine q4y (W.item i s _ _ hlt st λ v h' tk hv st' k ht=>?_)
  rcases _:hP i v hlt hv with⟨y,hy,ry⟩
  rw[e]at hy;obtain rfl:=jI hy
  have k':∀b o,s.heap.get? b=some o->b≠I->h'.get? b=some o:=λ b o e q=>k b o (by simpa using q) e
  rcases _:hc _ _ st' with⟨o,T,ho,_⟩
  exact⟨v,g,rfl,.write ht k',inv.writeI ht h1 h2 k',ry.mono le,⟨hlt,st',le,h1,h2⟩,o,ho⟩
 done:=by
  rintro i g σ s inv ⟨hi,st,le,h1,h2⟩ e
  have e:=jI e
  have hin:i=n:=Nat.le_antisymm hi (by rw[hn];exact List.getElem?_eq_none_iff.mp e)
  subst hin
  refine q4y (W.done s _ _ st λ h' tk k ht=>?_)
  have k':∀b o,s.heap.get? b=some o->b≠I->h'.get? b=some o:=λ b o e q=>k b o (by simpa using q) e
  exact⟨rfl,.write ht k',inv.writeI ht h1 h2 k'⟩
 frame:=by
  rintro i g s g' s' own σ σ' ⟨hi,st,le,h1,h2⟩ a i1 i2 hI
  rcases _:hc _ _ st with⟨o,T,ho,_⟩
  refine⟨hi,W.frame i _ _ st λ b hb ob e=>?_,le.trans a.le,a.new _ _ ho h1,a.newI _ _ ho h2⟩
  rcases hfp b hb with rfl|⟨o',ho'⟩
  ·exact a.keep _ _ e h1 hI
  ·have e1:=i1.sub _ _ (le.I _ _ ho')
   rw[e]at e1;obtain rfl:=jI e1
   exact i2.sub _ _ (a.le.I _ _ (le.I _ _ ho'))
 self:=λ⟨_,st,_,_,_⟩ q=>W.self _ _ _ _ st q
 go:=by
  rintro i g σ s t x u inv ⟨hi,st,le,h1,h2⟩ _ _
  rcases _:hc _ _ st with⟨o,T,ho,hcl,hT⟩
  exact z8f ho hcl hT ⟨.write (t:=s.toks) (jD _) λ _ _ e _=>e,inv,⟨hi,st,le,h1,h2⟩,o,ho⟩
 out:=λ⟨_,_,_,h1,h2⟩=>⟨h1,h2⟩
 there:=λ⟨_,st,_,_,_⟩=>let ⟨o,_,ho,_⟩:=hc _ _ st;⟨o,ho⟩
noncomputable def nxC (l n:Nat):Nx:=λ i σ=>(q1j σ l).bind λ ys=>if ys.length=n then some ys[i]? else none
theorem WK.of_cell {l m:Nat} (hA:AOk n A):WK cx A I (λ _=>true) (nxC l m) (StC l I) (λ i g h _=>StC l I i g h) where
 next:=by
  rintro i g σ s x inv ⟨p,hp,it,h1,h2⟩ e
  refine q5f e λ ys hy e=>q0o e λ _ e=>?_
  have e:=jI e
  obtain⟨us,hl,q,z⟩:=inv.cells _ _ _ hy hp
  rcases _:q.get e with⟨v,hv,rv⟩
  refine wpAny_pyNext_list_item it hl.isList (x:=v) (by simpa using hv) λ h' it' hs=>?_
  have k':∀b o,s.heap.get? b=some o->b≠I->h'.get? b=some o:=λ b o e q=>(hs.2 b q).trans e
  rcases _:id it' with⟨o,ho,_⟩
  exact⟨v,g,rfl,.write (t:=s.toks) (jD _) k',inv.writeI (t:=s.toks) (jD _) h1 h2 k',rv,⟨p,hp,it',h1,h2⟩,o,ho⟩
 done:=by
  rintro i g σ s inv ⟨p,hp,it,h1,h2⟩ e
  refine q5f e λ ys hy e=>q0o e λ _ e=>?_
  have e:=jI e
  obtain⟨us,hl,q,z⟩:=inv.cells _ _ _ hy hp
  refine wpAny_pyNext_list_end hA.handled it hl.isList (by rw[List.getElem?_toArray,List.getElem?_eq_none_iff,<-q.length];exact List.getElem?_eq_none_iff.mp e) λ h' hx=>?_
  have k':∀b o,s.heap.get? b=some o->b≠I->h'.get? b=some o:=λ b o e q=>hx b o q e
  exact⟨rfl,.write (t:=s.toks) (jD _) k',inv.writeI (t:=s.toks) (jD _) h1 h2 k'⟩
 frame:=by
  rintro i g s g' s' own σ σ' ⟨p,hp,it,h1,h2⟩ a i1 i2 hI
  rcases _:it with⟨o,ho,r⟩
  exact⟨p,a.le.at hp,⟨o,a.keep _ _ ho h1 hI,r⟩,a.new _ _ ho h1,a.newI _ _ ho h2⟩
 self:=λ⟨_,_,it,_,_⟩ q=>wpAny_pyIter_listiter it q
 go:=by
  rintro i g σ s t x u inv ⟨p,hp,it,h1,h2⟩ _ _
  rcases _:it with⟨o,ho,hcl,r⟩
  exact z8f ho hcl (by rfl) ⟨.write (t:=s.toks) (jD _) λ _ _ e _=>e,inv,⟨p,hp,⟨o,ho,hcl,r⟩,h1,h2⟩,o,ho⟩
 out:=λ⟨_,_,_,h1,h2⟩=>⟨h1,h2⟩
 there:=λ⟨_,_,⟨o,ho,_⟩,_,_⟩=>⟨o,ho⟩
end
section
variable {cx:Cx} {T:Tab} {n:Nat} {r:Ev} {ks:Kinds} {ns:List Str} {env:Env} {g g':G} {vs vs':Vs} {σ σ':Store} {s s':Shared} {A:Around} {v:AV} {u:Value} {ex:Expr} {x:Str} {I:Addr}
noncomputable def nxA (σ:Store) (v:AV):Option Nx:=match v with
 | .loc l=>(q1j σ l).bind λ xs=>some (nxC l xs.length)
 | v=>(q2g σ v).map λ xs=>λ i _=>some xs[i]?
inductive k7a (cx:Cx) (A:Around) (g:G) (σ:Store) (s:Shared) (v:AV) (nx:Nx) (it:Value) (s':Shared):Prop
 | mk (I:Addr) (St:Nat->G->Heap->Prop) (Mid:Nat->G->Heap->Value->Prop) (e:it = .ref I) (h:s.heap.get? I=none) (a:Stp [] g s g s') (i:Inv cx g σ s') (W:WK cx A I (goOk v) nx St Mid) (st:St 0 g s'.heap)
set_option tactic.hygienic true in theorem WK.tt {tt tt':Expr->Bool} {nx:Nx} {St:Nat->G->Heap->Prop} {Mid:Nat->G->Heap->Value->Prop} (W:WK cx A I tt nx St Mid) (h:∀t,tt' t=true->tt t=true):WK cx A I tt' nx St Mid:=
 ⟨W.next,W.done,W.frame,W.self,λ a b c d=>W.go a b (h _ c) d,W.out,W.there⟩
set_option tactic.hygienic true in theorem w7w (a b:Int):Builtin.Range.rangeSize a b 1=((b - a).toNat:Int):=by
 unfold Builtin.Range.rangeSize
 rw[if_pos (by decide)]
 split
 ·rename_i h
  rw[Int.ediv_one,Int.sub_add_cancel,Int.toNat_of_nonneg (Int.sub_nonneg_of_le (Int.le_of_lt h))]
 ·rename_i h
  rw[Int.toNat_eq_zero.mpr (Int.sub_nonpos_of_le (Int.not_lt.mp h))];rfl
theorem q6o {k:Int} {n:Nat} (h:k.natAbs<=n) (hn:n<=2 ^ 31):Builtin.Range.rangeFitsLong k=true:=by
 unfold Builtin.Range.rangeFitsLong
 have h2:=z1w (jA h hn)
 rw[decide_eq_true (Int.le_trans (by decide) h2.1),decide_eq_true (Int.lt_of_le_of_lt h2.2 (by decide))];rfl
theorem z6h {a b:Int} (ha:a.natAbs<2 ^ 30) (hb:b.natAbs<2 ^ 30):Builtin.Range.small a b 1=true:=by
 unfold Builtin.Range.small
 rw[w7w,q6o (jF ha) (by decide),q6o (jF hb) (by decide),q6o (k:=1) (jD 1) (by decide),
  q6o (k:=((b - a).toNat:Int)) (n:=2 ^ 31) ?_ (jD _),if_pos (by decide),Int.sub_self,Int.add_zero,q6o (jF hb) (by decide),Bool.or_true]
 ·rfl
 ·refine Int.toNat_le.mpr (Int.le_trans (Int.add_le_add (z1w (jF hb)).2 (Int.neg_le_neg (z1w (jF ha)).1)) (by decide))
theorem z5p (hA:AOk n A) (i:Inv cx g σ s) (r:VR cx g v u) {nx:Nx} (e:nxA σ v=some nx):wpAny cx.M A (pyIter u) (k7a cx A g σ s v nx) NoE s:=by
 have hn:=q0m s
 obtain⟨f1,f2⟩:=i.fresh hn
 have kp:∀(o:Obj) b o',s.heap.get? b=some o'->(s.heap.push o).get? b=some o':=λ o b o' e=>Heap.get?_push_of_some o e
 have st1:∀o:Obj,Stp [] g s g { s with heap:=s.heap.push o }:=λ o=>.keeps (t:=s.toks) (jD _) (kp o)
 have in1:∀o:Obj,Inv cx g σ { s with heap:=s.heap.push o }:=λ o=>i.keep (t:=s.toks) (jD _) (kp o)
 induction v using AV.casesOn with
 | loc l=>
  refine q5f e λ xs hx e=>?_
  obtain rfl:=jI e
  rcases _:r.of_loc with⟨p,rfl,hp⟩
  rcases _:i.cells _ _ _ hx hp with⟨us,hl,q,z⟩
  exact wpAny_pyIter_list hl.isList ⟨_,_,_,rfl,hn,st1 _,in1 _,(WK.of_cell hA).tt λ _ _=>rfl,p,hp,⟨_,Heap.get?_push_size _ rfl,rfl,rfl⟩,f2,f1⟩
 | fl xs=>
  obtain rfl:=jI e
  obtain⟨a,o,us,rfl,hi,⟨k,rfl⟩,q,z⟩:=r
  have hne:a≠s.heap.objs.size:=Nat.ne_of_lt (Heap.lt_size (i.sub _ _ hi))
  have ht:s.heap.IsList a us.toArray:=⟨_,i.sub _ _ hi,rfl,k,rfl⟩
  refine wpAny_pyIter_list ht ⟨_,_,_,rfl,hn,st1 _,in1 _,(WK.of_walks (g0:=g) (xs:=xs) (Walks.list hA.handled _ a hne us.toArray) (λ j w _ hw=>?_) (by rw[List.size_toArray];exact q.length.symm) (λ b hb=>?_) (λ j h st=>?_)).tt λ _ _=>rfl,Nat.zero_le _,⟨⟨_,Heap.get?_push_size _ rfl,rfl,rfl⟩,ht.push _⟩,.refl g,f2,f1⟩
  ·have hj:us[j]? = some w:=by simpa using hw
   have hlt:j<xs.length:=by rw[q.length];exact(List.getElem?_eq_some_iff.mp hj).1
   rcases _:q.get (i:=j) (x:=xs[j]) (by simp[hlt])with⟨w',h1,h2⟩
   rw[hj]at h1;cases h1
   exact⟨xs[j],by simp[hlt],h2⟩
  ·simp at hb
   rcases hb with rfl|rfl
   ·exact .inl rfl
   ·exact .inr ⟨_,hi⟩
  ·obtain⟨⟨o,ho,hc,_⟩,_⟩:=st
   exact⟨o,_,ho,hc,by rfl⟩
 | rng a b=>
  refine mapQ e λ xs hx e=>q0o hx λ hab hx=>?_
  subst e
  obtain rfl:=jI hx
  obtain⟨p,o,rfl,hi,t,t',w',rfl⟩:=r
  have hsz:Builtin.Range.rangeSize a b 1=((b - a).toNat:Int):=w7w a b
  have hsm:Builtin.Range.small a b 1=true:=z6h hab.1 hab.2
  have hr:IsRange s.heap p a b 1 t t' w':=i.sub _ _ hi
  refine wpAny_pyIter_range hr hsm ⟨_,_,_,rfl,hn,st1 _,in1 _,(WK.of_walks (g0:=g) (xs:=z2u a b) (Walks.range hA.handled _ a 1 (b - a).toNat) (λ j w hj hw=>?_) (by simp[z2u]) (λ b hb=>.inl (by simpa using hb)) (λ j h st=>?_)).tt λ _ _=>rfl,Nat.zero_le _,?_,.refl g,f2,f1⟩
  ·obtain⟨t,rfl⟩:=hw
   refine⟨.int (a+(j:Int)),?_,by rw[show a+(j:Int) * 1=a+j by simp +arith [*]];exact .int_ _⟩
   unfold z2u
   simp only[List.getElem?_map,List.getElem?_range hj];rfl
  ·exact⟨_,_,st,rfl,by rfl⟩
  ·show IsRangeIter _ _ (a+((0:Nat):Int) * 1) (((b - a).toNat:Int) - ((0:Nat):Int)) 1
   rw[show a+((0:Nat):Int) * 1=a by simp,show((b - a).toNat:Int) - ((0:Nat):Int)=(b - a).toNat by rfl,<-hsz]
   exact Heap.get?_push_size _ rfl
 | str y=>
  obtain rfl:=jI e
  obtain⟨t,rfl,z⟩:=r.of_str
  have items:∀j w,j<y.cps.size->SignAt y j w->∃x,(q8r y)[j]? = some x/\VR cx g x w:=by
   rintro j _ _ ⟨c,u',hc,rfl⟩
   refine⟨.str (q1y c),?_,.str_ _ (by show 1<=sizeLine;decide)⟩
   unfold q8r
   simp only[List.getElem?_map,Array.getElem?_toList,hc];rfl
  have hlen:y.cps.size=(q8r y).length:=by simp[q8r]
  rcases ha:y.cps.all (· < 128)
  ·refine wpAny_pyIter_wide ha ⟨_,_,_,rfl,hn,st1 _,in1 _,(WK.of_walks (g0:=g) (xs:=q8r y) (Walks.strWide hA.handled _ y t) items hlen (λ b hb=>.inl (by simpa using hb)) (λ j h st=>?_)).tt λ _ _=>rfl,Nat.zero_le _,⟨_,Heap.get?_push_size _ rfl,rfl,rfl⟩,.refl g,f2,f1⟩
   obtain⟨o,ho,hc,_⟩:=st
   exact⟨o,_,ho,hc,by rfl⟩
  ·refine wpAny_pyIter_ascii ha ⟨_,_,_,rfl,hn,st1 _,in1 _,(WK.of_walks (g0:=g) (xs:=q8r y) (Walks.strAscii hA.handled _ y t) items hlen (λ b hb=>.inl (by simpa using hb)) (λ j h st=>?_)).tt λ _ _=>rfl,Nat.zero_le _,⟨_,Heap.get?_push_size _ rfl,rfl,rfl⟩,.refl g,f2,f1⟩
   obtain⟨o,ho,hc,_⟩:=st
   exact⟨o,_,ho,hc,by rfl⟩
 | _=>exact nope e
end
noncomputable def z5z {β:Type} (nx:Nx) (f:AV->β->Store->Option (β×Store)):Nat->Nat->β->Store->Option (β×Store)
 | 0,_,_,_=>none
 | k+1,i,b,σ=>(nx i σ).bind λ o=>optC o (λ x=>(f x b σ).bind λ p=>z5z nx f k (i+1) p.1 p.2) (some (b,σ))
theorem k4j {β:Type} {f:AV->β->Store->Option (β×Store)} {all:List AV}:∀(xs:List AV) (i:Nat) (b:β) (σ:Store) (r:β×Store),xs=all.drop i->i<=all.length->z5y f xs b σ=some r->z5z (λ i _=>some all[i]?) f (xs.length+1) i b σ=some r
 | [],i,b,σ,r,h,hi,e=>by
  have:all[i]? = none:=List.getElem?_eq_none_iff.mpr (List.drop_eq_nil_iff.mp h.symm)
  show optC all[i]? _ _=_
  rw[this];exact e
 | x::xs,i,b,σ,r,h,hi,e=>by
  have hx:all[i]? = some x:=by rw[<-List.head?_drop,<-h];rfl
  have hd:xs=all.drop (i+1):=by rw[<-List.tail_drop,<-h];rfl
  have hlt:i<all.length:=(List.getElem?_eq_some_iff.mp hx).1
  show optC all[i]? _ _=_
  rw[hx]
  refine optE e λ p h1 e=>?_
  show(f x b σ).bind _=_
  rw[h1]
  exact k4j xs (i+1) p.1 p.2 r hd hlt e
theorem q3r {σ:Store} {l:Nat} {xs:List AV} (h:σ[l]? = some (.list xs)):q1j σ l=some xs:=by unfold q1j;rw[h]
theorem k4i {β:Type} {f:AV->β->Store->Option (β×Store)} {l n:Nat}:∀(j:Nat) (b:β) (σ:Store) (r:β×Store),j<=n->k4h l n f j b σ=some r->z5z (nxC l n) f (j+1) (n - j) b σ=some r
 | 0,b,σ,r,hj,e=>q5f e λ xs hx e=>q0o e λ hn e=>by
  show((q1j σ l).bind λ ys=>if ys.length=n then some ys[n]? else none).bind _=_
  rw[q3r hx,Option.bind_some,if_pos hn,List.getElem?_eq_none_iff.mpr (jE hn)]
  exact e
 | j+1,b,σ,r,hj,e=>q5f e λ xs hx e=>q0o e λ hn e=>optE e λ x h1 e=>optE e λ p h2 e=>by
  show((q1j σ l).bind λ ys=>if ys.length=n then some ys[n - (j+1)]? else none).bind _=_
  rw[q3r hx,Option.bind_some,if_pos hn,h1]
  show(f x b σ).bind _=_
  rw[h2]
  have:=k4i j p.1 p.2 r (jF hj) e
  rw[show n - j=n - (j+1)+1 from(Nat.succ_pred_eq_of_pos (Nat.sub_pos_of_lt hj)).symm]at this
  exact this
inductive j6b {β:Type} (v:AV) (f:AV->β->Store->Option (β×Store)) (b:β) (σ:Store) (r:β×Store):Prop
 | mk (nx:Nx) (k:Nat) (h1:nxA σ v=some nx) (h2:z5z nx f k 0 b σ=some r)
theorem k1j {β:Type} {f:AV->β->Store->Option (β×Store)} {v:AV} {b:β} {σ:Store} {r:β×Store} (h:nxA σ v=(q2g σ v).map λ xs=>λ i _=>some xs[i]?) (e:((q2g σ v).bind λ xs=>z5y f xs b σ)=some r):j6b v f b σ r:=
 optE e λ xs h1 e=>⟨_,_,h.trans (by rw[h1];rfl),k4j xs 0 b σ r rfl (Nat.zero_le _) e⟩
theorem j1s {β:Type} {f:AV->β->Store->Option (β×Store)} {v:AV} {b:β} {σ:Store} {r:β×Store} (e:q1h v f b σ=some r):j6b v f b σ r:=by
 induction v using AV.casesOn with
 | loc l=>exact q5f e λ xs hx e=>⟨nxC l xs.length,xs.length+1,by show(q1j σ l).bind _=_;rw[q3r hx];rfl,by have:=k4i _ _ _ _ (jD _) e;rwa [Nat.sub_self]at this⟩
 | _=>exact k1j rfl e
section
variable {cx:Cx} {T:Tab} {n:Nat} {r:Ev} {ks:Kinds} {ns:List Str} {env:Env} {g g':G} {vs vs':Vs} {σ σ':Store} {s s':Shared} {A:Around} {v:AV} {u:Value} {ex:Expr} {x:Str} {I:Addr} {fl:q0b}
section
variable {tt:Expr->Bool} {nx:Nx} {St:Nat->G->Heap->Prop} {Mid:Nat->G->Heap->Value->Prop} {i:Nat} {y:AV} {P:Option Value->Shared->Prop} {E:Value->Shared->Prop} {t:Expr}
set_option tactic.hygienic true in theorem WK.nextK (W:WK cx A I tt nx St Mid) (inv:Inv cx g σ s) (st:St i g s.heap) (e:nx i σ=some (some y)) (k:∀u g' s',StpI I g s g' s'->Inv cx g' σ s'->VR cx g' y u->Mid (i+1) g' s'.heap u->P (some u) s'):wpAny cx.M A (pyNext (.ref I)) P E s:=
 wpAny_mono (W.next inv st e) (λ _ s' ⟨u,g',h,a,b,c,d,_⟩=>h▸k u g' s' a b c d) λ _ _ x=>x.elim
theorem WK.doneK (W:WK cx A I tt nx St Mid) (inv:Inv cx g σ s) (st:St i g s.heap) (e:nx i σ=some none) (k:∀s',StpI I g s g s'->Inv cx g σ s'->P none s'):wpAny cx.M A (pyNext (.ref I)) P E s:=
 wpAny_mono (W.done inv st e) (λ _ s' ⟨h,a,b⟩=>h▸k s' a b) λ _ _ x=>x.elim
theorem WK.goK {Q:Unit->Shared->Prop} (W:WK cx A I tt nx St Mid) (inv:Inv cx g σ s) (m:Mid i g s.heap u) (ht:tt t=true) (r:VR cx g y u) (k:∀s',StpI I g s g s'->Inv cx g σ s'->St i g s'.heap->Q () s'):wpAny cx.M A (letOwnedTupleGo t (.ref I) u) Q E s:=
 wpAny_mono (W.go inv m ht r) (λ _ s' ⟨a,b,c,_⟩=>k s' a b c) λ _ _ x=>x.elim
theorem w8p {Q:Unit->Shared->Prop} {env:Env} (R:AsOk cx n r.a) (hA:AOk n A) (i:Inv cx g σ s) (e:ER cx ks ns env g vs s) (f:r.a ks ns t v vs σ=some (vs',σ')) (q:VR cx g v u)
  (k:∀g' s',Stp (ownK ks env) g s g' s'->Inv cx g' σ' s'->ER cx ks ns env g' vs' s'->Q () s'):wpAny cx.M A (assign t env u) Q E s:=
 wpAny_mono (R f hA i e q) (λ _ s' ⟨g',a,b,c⟩=>k g' s' a b c) λ _ _ x=>x.elim
theorem PB.thenE {Q:Bool->Shared->Prop} {t:Sem Bool} {b:Bool} (h:wpAny cx.M A t (PB cx g s σ' b) NoE s) (k:∀g' s',Stp [] g s g' s'->Inv cx g' σ' s'->Q b s'):wpAny cx.M A t Q E s:=
 wpAny_mono h (λ _ s' ⟨e,g',a,b⟩=>e▸k g' s' a b) λ _ _ x=>x.elim
theorem PX.thenE {Q:Value->Shared->Prop} {t:Sem Value} (h:wpAny cx.M A t (PX cx g s σ' v) NoE s) (k:∀u g' s',Stp [] g s g' s'->Inv cx g' σ' s'->VR cx g' v u->Q u s'):wpAny cx.M A t Q E s:=
 wpAny_mono h (λ u s' ⟨g',a,b,c⟩=>k u g' s' a b c) λ _ _ x=>x.elim
end
theorem q8y {g0:G} {s0:Shared} {vs0:Vs} (E0:ER cx ks ns env g0 vs0 s0) (hI:s0.heap.get? I=none):env.locals≠I/\(∀x c,IsCF ks x->env.cells.lookup x=some c->c≠I)/\I∉ownK ks env:=by
 rcases _:k3e E0 with⟨⟨o,ho⟩,hc⟩
 refine⟨(λ z=>by rw[z,hI]at ho;contradiction),λ x c k e z=>?_,λ h=>?_⟩
 ·obtain⟨o,ho⟩:=hc x c k e;rw[z,hI]at ho;contradiction
 ·obtain⟨o,ho⟩:=k5g E0 h;rw[hI]at ho;contradiction
theorem set_plain {it:Expr} {env:Env} (h:q1r it=true) (x:Value):foldedSetIterable it env x=pure x:=by induction it using Expr.casesOn with
 | Set=>exact nob h
 | _=>rfl
noncomputable def k3o (r:Ev) (ks:Kinds) (ns:List Str) (t:Expr) (body:List Stmt) (x:AV) (vs:Vs) (σ:Store):ResS:=do
 let (vs,σ) <-r.a ks ns t x vs σ
 q0w r ks ns body vs σ
set_option tactic.hygienic true in theorem v0u {f:AV->Vs->Store->ResS} {x:AV} {xs:List AV} {q:q0b×Vs×Store} {P:Prop} (e:forA f (x::xs) vs σ=some q)
  (k:∀fl1 vs1 σ1,f x vs σ=some (fl1,vs1,σ1)->(match fl1 with | .next=>forA f xs vs1 σ1 | .ret w=>some (.ret w,vs1,σ1))=some q->P):P:=
 optE e λ p h e=>k p.1 p.2.1 p.2.2 h e
structure v0d (cx:Cx) (r:Ev) (ks:Kinds) (ns:List Str) (env:Env) (t:Expr) (body:List Stmt) (xs:List AV) (St:Nat->G->Heap->Prop) (g0:G) (s0:Shared) (fl:q0b) (vs':Vs) (σ':Store) (m:Nat) (s:Shared) (j:Nat) (g:G) (vs:Vs) (σ:Store):Prop where
 m:m=xs.length - j+1
 le:j<=xs.length
 stp:Stp (ownK ks env) g0 s0 g s
 inv:Inv cx g σ s
 er:ER cx ks ns env g vs s
 st:St j g s.heap
 run:forA (k3o r ks ns t body) (xs.drop j) vs σ=some (fl,vs',σ')
set_option tactic.hygienic true in theorem j7r (R:EvOk cx n r) (hA:AOk n A) {t:Expr} {body:List Stmt} {xs:List AV} {St:Nat->G->Heap->Prop} {Mid:Nat->G->Heap->Value->Prop} {tt:Expr->Bool} (W:WK cx A I tt (λ i _=>some xs[i]?) St Mid) (ht:tt t=true)
  {g0:G} {s0:Shared} {vs0:Vs} (E0:ER cx ks ns env g0 vs0 s0) (hI:s0.heap.get? I=none) (a:Stp (ownK ks env) g0 s0 g s) (i:Inv cx g σ s) (E:ER cx ks ns env g vs s) (st:St 0 g s.heap)
  (e:forA (k3o r ks ns t body) xs vs σ=some (fl,vs',σ')) {Er:Value->Shared->Prop} :
  codeAny cx.M A (.forLoop t (.ref I) body [] env) (λ q s'=>match q with | .ok f=>PS cx ks ns env g0 s0 fl vs' σ' f s' | .error e=>Er e s') s:=by
 rcases _:q8y E0 hI with⟨p1,p2,p3⟩
 refine codeAny_forLoop_any (λ m s=>∃j g vs σ,v0d cx r ks ns env t body xs St g0 s0 fl vs' σ' m s j g vs σ) ?_ (xs.length+1) ⟨0,g,vs,σ,rfl,Nat.zero_le _,a,i,E,st,e⟩
 rintro m s ⟨j,g,vs,σ,hm,hj,a,i,E,st,e⟩
 subst hm
 by_cases hlt:j<xs.length
 ·rw[List.drop_eq_getElem_cons hlt]at e
  refine v0u e λ f vs1 σ1 hf e=>q0h hf λ vs2 σ2 e1 e2=>W.nextK i st (congrArg some (List.getElem?_eq_getElem hlt)) λ u g1 s₁ a1 i1 r1 md=>W.goK i1 md ht r1 λ s₂ a2 i2 st2=>?_
  (refine w8p R.a hA i2 ((E.stepI a1 p1 p2).stepI a2 p1 p2) e1 r1 λ g3 s3 a3 i3 E3=>wpAny_mono (q5n R.s hA i3 E3 e2) (λ f' s4 zz0=>?_) λ _ _ x=>x.elim;rcases _:zz0 with⟨g4,a4,i4,E4,F⟩)
  have A4:=(((a.thenI a1 hI).thenI a2 hI).trans a3).trans a4
  induction f with
  | next=>subst F;exact⟨xs.length - (j+1)+1,Nat.succ_lt_succ (Nat.sub_lt_sub_left hlt (Nat.lt_succ_self j)),j+1,g4,vs1,σ1,rfl,hlt,A4,i4,E4,W.frame (W.frame st2 a3 i2 i3 p3) a4 i3 i4 p3,e⟩
  | ret w=>obtain⟨uw,rfl,rw'⟩:=F;rcases e;exact⟨g4,A4,i4,E4,uw,rfl,rw'⟩
 ·have hj':j=xs.length:=Nat.le_antisymm hj (Nat.not_lt.mp hlt)
  subst hj'
  rw[List.drop_length]at e
  rcases e
  exact W.doneK i st (congrArg some (List.getElem?_eq_none_iff.mpr (jD _))) λ s₁ a1 i1=>wpAny_execs_nil ⟨g,a.thenI a1 hI,i1,E.stepI a1 p1 p2,rfl⟩
theorem v1o (R:EvOk cx n r) (hA:AOk n A) (i:Inv cx g σ s) (E:ER cx ks ns env g vs s) {t it:Expr} {body:List Stmt} {p:Pos}
  (e:(if q1r it then do
   let (v,σ) <-r.e ks ns it vs σ
   if frozen v then do
    let xs <-q2g σ v
    forA (λ x vs σ=>do
     let (vs,σ) <-r.a ks ns t x vs σ
     q0w r ks ns body vs σ) xs vs σ
   else none
  else none)=some (fl,vs',σ')):wpAny cx.M A (exec (.For t it body [] p) env) (PS cx ks ns env g s fl vs' σ') NoE s:=by
 refine q0o e λ hp e=>q0h e λ w σ1 e1 e=>q0o e λ hf e=>q6k e λ xs e2 e=>?_
 have hs:∀x,foldedSetIterable it env x=pure x:=set_plain hp
 have e2':=congrArg (λ o:Option (List AV)=>o.map λ xs=>(λ(i:Nat) (_:Store)=>some xs[i]? : Nx)) e2
 have hnx:nxA σ1 w=some (λ i _=>some xs[i]?):=by
  induction w using AV.casesOn with
  | loc=>exact nob hf
  | _=>exact e2'
 refine wpAny_For (q0y R.e hA i E e1 λ g1 s₁ u1 a1 i1 E1 r1=>wpAny_mono (z5p hA i1 r1 hnx) ?_ λ _ _ x=>x) hs
 rintro _ s₂ ⟨I,St,Mid,rfl,hI,a2,i2,W,st⟩
 have htt:goOk w t=true:=by
  cases w with
  | iv=>exact nob hf
  | _=>rfl
 refine codeAny_mono (j7r (Er:=λ e s'=>cameBackBy cx.M A env NoE e s') R hA W htt E1 hI a2.own i2 (E1.go a2) st e) λ z s' h=>?_
 induction z with
 | error=>exact h
 | ok=>obtain⟨g',b,c,d,e⟩:=h;exact⟨g',a1.own.trans b,c,d,e⟩
end
noncomputable def j0o (e:Expr) (acc:Value) (env:Env):Sem Unit:=match e with
 | .ListComp elt _ _ _=>do let _ <-call (.builtin "list.append") [acc,<-eval elt env]
 | .DictComp k v _ _ _=>do
  let kv <-eval k env
  let vv <-holding [kv] (eval v env)
  match acc with
  | .ref d=>do
   standAt { k.pos with endLine:=v.pos.endLine,endCol:=v.pos.endCol }
   holding [kv,vv] (dictSet d kv vv)
  | _=>unsupported "internal:dictcomp"
 | _=>unsupported "internal:not-a-comprehension"
noncomputable def deeper (e:Expr) (depth:Nat) (acc:Value) (env:Env) (k:Sem PySem.Fin):Option Comprehension->Sem PySem.Fin
 | some g'=>do
  let x <-eval g'.iter env
  standAt g'.iter.pos
  if g'.is_async !=0 then do
   let x <-foldedIterable g'.iter x
   let it <-holding [x] (if g'.is_async !=0 then asyncIter x else pyIter x)
   let _ <-runOwn (.compStart e (depth+1) it acc env) env
   k
  else do
   let x <-foldedSetIterable g'.iter env x
   let it <-holding [x] (if g'.is_async !=0 then asyncIter x else pyIter x)
   let _ <-runOwn (.compStart e (depth+1) it acc env) env
   k
 | none=>do
  j0o e acc env
  k
noncomputable def w4y (ifs:List Expr) (env:Env):Sem Bool:=forIn ifs true λ c r=>if r=true then do let ok <-isTrue c env (eval c env);pure (ForInStep.yield ok)else pure (ForInStep.yield r)
theorem w5d {elt target iter:Expr} {gens:List Comprehension} {ifs:List Expr} {sc:Scope} {pos:Pos} {depth:Nat} {it acc:Value} {env:Env} (hg:gens[depth]? = some ⟨target,iter,ifs,0⟩) :
  compTurn (.ListComp elt gens sc pos) depth it acc env=(standAt iter.pos >>= λ _=>pyNext it >>= λ r=>match r with
   | none=>pure (.done .next)
   | some v=>letOwnedTupleGo target it v >>= λ _=>assign target env v >>= λ _=>w4y ifs env >>= λ ok=>
    if ok=true then deeper (.ListComp elt gens sc pos) depth acc env (again (.compLoop (.ListComp elt gens sc pos) depth it acc env)) gens[depth+1]?
    else again (.compLoop (.ListComp elt gens sc pos) depth it acc env)):=by
 dsimp only[compTurn]
 simp only[hg]
 generalize gens[depth+1]? = zzy at *
 induction zzy with
 | none=>rfl
 | some g'=>rfl
theorem w5c {kx vx target iter:Expr} {gens:List Comprehension} {ifs:List Expr} {sc:Scope} {pos:Pos} {depth:Nat} {it acc:Value} {env:Env} (hg:gens[depth]? = some ⟨target,iter,ifs,0⟩) :
  compTurn (.DictComp kx vx gens sc pos) depth it acc env=(standAt iter.pos >>= λ _=>pyNext it >>= λ r=>match r with
   | none=>pure (.done .next)
   | some v=>letOwnedTupleGo target it v >>= λ _=>assign target env v >>= λ _=>w4y ifs env >>= λ ok=>
    if ok=true then deeper (.DictComp kx vx gens sc pos) depth acc env (again (.compLoop (.DictComp kx vx gens sc pos) depth it acc env)) gens[depth+1]?
    else again (.compLoop (.DictComp kx vx gens sc pos) depth it acc env)):=by
 dsimp only[compTurn]
 simp only[hg]
 generalize gens[depth+1]? = zzy at *
 induction zzy with
 | none=>rfl
 | some g'=>rfl
structure IsC (cx:Cx) (e:Expr) (gens:List Comprehension):Prop where
 turn:∀{depth it acc env target iter ifs},gens[depth]? = some ⟨target,iter,ifs,0⟩->compTurn e depth it acc env=(standAt iter.pos >>= λ _=>pyNext it >>= λ r=>match r with
   | none=>pure (.done .next)
   | some v=>letOwnedTupleGo target it v >>= λ _=>assign target env v >>= λ _=>w4y ifs env >>= λ ok=>
    if ok=true then deeper e depth acc env (again (.compLoop e depth it acc env)) gens[depth+1]?
    else again (.compLoop e depth it acc env))
 den:∀depth it acc env,cx.M.den (.compLoop e depth it acc env)=(compTurn e depth it acc env).onRaise (λ x=>do noteFrame x env;theTreesLotGoes x)
 denS:∀depth it acc env,cx.M.den (.compStart e depth it acc env)=(compStart e depth it acc env).onRaise (λ x=>do noteFrame x env;standAt theWindowsPlace)
 und:∀(A:Around) depth it acc env,A.under (.compLoop e depth it acc env)=A
 undS:∀(A:Around) depth it acc env,A.under (.compStart e depth it acc env)=A
 quiet:∀depth it acc env,(Code.compLoop e depth it acc env).quiet=true
 clauses:clausesOf e=gens
theorem k8m {cx:Cx} {elt:Expr} {gens:List Comprehension} {sc:Scope} {pos:Pos}:IsC cx (.ListComp elt gens sc pos) gens:=
 ⟨w5d,λ _ _ _ _=>rfl,λ _ _ _ _=>rfl,λ _ _ _ _ _=>rfl,λ _ _ _ _ _=>rfl,λ _ _ _ _=>rfl,rfl⟩
theorem k8l {cx:Cx} {kx vx:Expr} {gens:List Comprehension} {sc:Scope} {pos:Pos}:IsC cx (.DictComp kx vx gens sc pos) gens:=
 ⟨w5c,λ _ _ _ _=>rfl,λ _ _ _ _=>rfl,λ _ _ _ _ _=>rfl,λ _ _ _ _ _=>rfl,λ _ _ _ _=>rfl,rfl⟩
noncomputable def j2z {β:Type} (r:Ev) (ks:Kinds) (ns:List Str) (emit:Vs->β->Store->Option (β×Store)) (gs:List Comprehension) (target:Expr) (ifs:List Expr) (x:AV) (b:Vs×β) (σ:Store):Option ((Vs×β)×Store):=do
 let (vs,σ) <-r.a ks ns target x b.1 σ
 let (ok,σ) <-w4x r ks ns ifs vs σ
 if ok then match gs with
  | []=>do
   let (acc,σ) <-emit vs b.2 σ
   some ((vs,acc),σ)
  | g::gs=>do
   let (v,σ) <-r.e ks ns g.iter vs σ
   if q1r g.iter then z1i r ks ns emit gs g.target g.ifs v (vs,b.2) σ else none
 else some ((vs,b.2),σ)
theorem z7p {β:Type} {r:Ev} {ks:Kinds} {ns:List Str} {emit:Vs->β->Store->Option (β×Store)} {gs:List Comprehension} {target:Expr} {ifs:List Expr} {src:AV} {b:Vs×β} {σ:Store} :
  z1i r ks ns emit gs target ifs src b σ=if !goOk src target then none else q1h src (j2z r ks ns emit gs target ifs) b σ:=by
 cases gs<;>rfl
section
variable {cx:Cx} {T:Tab} {n:Nat} {r:Ev} {ks:Kinds} {ns:List Str} {env:Env} {g g':G} {vs vs':Vs} {σ σ':Store} {s s':Shared} {A:Around} {v:AV} {u:Value} {ex:Expr} {x:Str} {I:Addr}
theorem w4z {env:Env}:∀cs:List Expr,(forIn cs false λ c r=>if r=true then do let ok <-isTrue c env (eval c env);pure (ForInStep.yield ok)else pure (ForInStep.yield r):Sem Bool)=pure false
 | []=>rfl
 | c::cs=>by rw[List.forIn_cons];skip;exact w4z cs
theorem z0v (R:TOk cx n r.t) (hA:AOk n A) {b:Bool}:∀{cs:List Expr} {g:G} {σ:Store} {s:Shared},Inv cx g σ s->ER cx ks ns env g vs s->w4x r ks ns cs vs σ=some (b,σ')->wpAny cx.M A (w4y cs env) (PB cx g s σ' b) NoE s
 | [],g,σ,s,i,E,e=>by obtain⟨rfl,rfl⟩:=Prod.mk.inj (jI e);exact wpAny_pure ⟨rfl,g,.refl _ _ _,i⟩
 | c::cs,g,σ,s,i,E,e=>by
  rcases _:bind_some e with⟨⟨d,σ1⟩,e1,e⟩
  unfold w4y
  rw[List.forIn_cons]
  refine wpAny_bind (wpAny_bind (z4u R hA i E e1 λ g1 s₁ a1 i1 E1=>wpAny_pure ?_))
  induction d with
  | true=>exact PB.up a1 (z0v R hA i1 E1 e)
  | false=>
   obtain⟨rfl,rfl⟩:=Prod.mk.inj (jI e)
   dsimp only
   rw[w4z]
   exact wpAny_pure ⟨rfl,g1,a1,i1⟩
theorem w0q {e:Expr} {gens:List Comprehension} (C:IsC cx e gens) {depth:Nat} {it acc:Value} {cenv:Env} {gg:Comprehension} (hg:gens[depth]? = some gg) (h0:gg.is_async=0) {P:Result->Shared->Prop}
  (h1:codeAny cx.M A (.compLoop e depth it acc cenv) P s) (h2:wpAny cx.M A (pyIter it) (λ it' s'=>codeAny cx.M A (.compLoop e depth it' acc cenv) P s') NoE s):codeAny cx.M A (.compStart e depth it acc cenv) P s:=by
 refine codeAny_of_tree ?_
 rw[C.undS,C.denS]
 refine wpAny_notedAt ?_
 dsimp only[compStart]
 rw[C.clauses,hg]
 simp only[Option.elim,h0,bne_self_eq_false,Bool.false_eq_true,if_false]
 refine wpAny_bind (wpAny_askSetting (wpAny_ite ?_))
 split
 ·exact wpAny_pure ⟨C.quiet ..,h1⟩
 ·refine wpAny_bind (wpAny_rule (wpAny_bind (wpAny_standAt (wpAny_bind (wpAny_mono h2 (λ it' s' h'=>wpAny_pure ⟨C.quiet ..,h'⟩) λ _ _ x=>x.elim)))))
end
structure Acc (β:Type) (cx:Cx) where
 R:G->Heap->Addr->β->Prop
 mono:∀{g g' h h' D b},g.le g'->(∀o,h.get? D=some o->h'.get? D=some o)->R g h D b->R g' h' D b
section
variable {β:Type} {cx:Cx} {T:Tab} {n:Nat} {r:Ev} {ks:Kinds} {ns:List Str} {cenv:Env} {g g':G} {vs vs':Vs} {σ σ':Store} {s s':Shared} {A:Around} {v:AV} {u:Value} {ex:Expr} {x:Str} {I D:Addr}
theorem w9q (h:∀x,ks.lookup x≠some .cell):ownK ks cenv=[cenv.locals]:=by
 unfold ownK
 congr 1
 rw[List.filterMap_eq_nil_iff]
 intro p _
 rw[if_neg (h p.1)]
structure Cs (Q:Acc β cx) (ks:Kinds) (ns:List Str) (cenv:Env) (D:Addr) (g0:G) (s0:Shared) (vs:Vs) (b:β) (σ:Store) (g:G) (s:Shared):Prop where
 stp:Stp [cenv.locals,D] g0 s0 g s
 inv:Inv cx g σ s
 er:ER cx ks ns cenv g vs s
 acc:Q.R g s.heap D b
 out:D∉g.ρ/\g.I D=none
 there:∃o,s.heap.get? D=some o
variable {Q:Acc β cx} {g0:G} {s0:Shared} {b b':β}
theorem Cs.go (c:Cs Q ks ns cenv D g0 s0 vs b σ g s) (a:Stp [] g s g' s') (i:Inv cx g' σ' s'):Cs Q ks ns cenv D g0 s0 vs b σ' g' s':=by
 rcases _:c.there with⟨o,ho⟩
 exact⟨c.stp.trans a.own,i,c.er.go a,Q.mono a.le (λ o e=>a.keep _ _ e c.out.1 (by simp)) c.acc,⟨a.new _ _ ho c.out.1,a.newI _ _ ho c.out.2⟩,a.stay _ _ ho⟩
theorem Cs.set (c:Cs Q ks ns cenv D g0 s0 vs b σ g s) (hD:D≠cenv.locals) (a:Stp [cenv.locals] g s g' s') (i:Inv cx g' σ' s') (E:ER cx ks ns cenv g' vs' s'):Cs Q ks ns cenv D g0 s0 vs' b σ' g' s':=by
 rcases _:c.there with⟨o,ho⟩
 exact⟨c.stp.trans (a.wider (by simp)),i,E,Q.mono a.le (λ o e=>a.keep _ _ e c.out.1 (by simpa using hD)) c.acc,⟨a.new _ _ ho c.out.1,a.newI _ _ ho c.out.2⟩,a.stay _ _ ho⟩
theorem Cs.it (c:Cs Q ks ns cenv D g0 s0 vs b σ g s) (hI:s0.heap.get? I=none) (h1:cenv.locals≠I) (h2:∀x c,IsCF ks x->cenv.cells.lookup x=some c->c≠I) (hD:D≠I) (a:StpI I g s g' s') (i:Inv cx g' σ s'):Cs Q ks ns cenv D g0 s0 vs b σ g' s':=by
 obtain⟨o,ho⟩:=c.there
 exact⟨c.stp.thenI a hI,i,c.er.stepI a h1 h2,Q.mono a.le (λ o e=>a.keep _ _ e hD) c.acc,⟨a.new _ _ ho c.out.1,a.newI _ _ ho c.out.2⟩,o,a.keep _ _ ho hD⟩
inductive j1u (Q:Acc β cx) (g:G) (s:Shared) (σ':Store) (D:Addr) (b':β) (s':Shared):Prop
 | mk (g':G) (a:Stp [D] g s g' s') (i:Inv cx g' σ' s') (r:Q.R g' s'.heap D b') (o:∃o,s'.heap.get? D=some o)
noncomputable def Emits (Q:Acc β cx) (A:Around) (ks:Kinds) (ns:List Str) (cenv:Env) (D:Addr) (e:Expr) (emit:Vs->β->Store->Option (β×Store)):Prop:=
 ∀{vs b σ b' σ' g s},emit vs b σ=some (b',σ')->Inv cx g σ s->ER cx ks ns cenv g vs s->Q.R g s.heap D b->D∉g.ρ->g.I D=none->
  wpAny cx.M A (j0o e (.ref D) cenv) (λ _ s'=>j1u Q g s σ' D b' s') NoE s
theorem j4j {γ:Type} {nx:Nx} {f:AV->γ->Store->Option (γ×Store)} {k i:Nat} {b:γ} {q:γ×Store} {P:Prop} (e:z5z nx f (k+1) i b σ=some q)
  (h0:nx i σ=some none->(b,σ)=q->P) (h1:∀x b' σ',nx i σ=some (some x)->f x b σ=some (b',σ')->z5z nx f k (i+1) b' σ'=some q->P):P:=
 optE e λ o h2 e=>optM e (λ x ho e=>optE e λ p h3 e=>h1 x p.1 p.2 (ho▸h2) h3 e) λ ho e=>h0 (ho▸h2) (jI e)
noncomputable def j0t (r:Ev) (ks:Kinds) (ns:List Str) (emit:Vs->β->Store->Option (β×Store)):List Comprehension->Vs->β->Store->Option ((Vs×β)×Store)
 | [],vs,b,σ=>do
   let (acc,σ) <-emit vs b σ
   some ((vs,acc),σ)
 | g::gs,vs,b,σ=>do
   let (v,σ) <-r.e ks ns g.iter vs σ
   if q1r g.iter then z1i r ks ns emit gs g.target g.ifs v (vs,b) σ else none
theorem v0o {emit:Vs->β->Store->Option (β×Store)} {gs:List Comprehension} {target:Expr} {ifs:List Expr} {q:(Vs×β)×Store} {P:Prop} (h:j2z r ks ns emit gs target ifs v (vs,b) σ=some q)
  (k:∀vs1 σ1 σ2,r.a ks ns target v vs σ=some (vs1,σ1)->(w4x r ks ns ifs vs1 σ1=some (false,σ2)->some ((vs1,b),σ2)=some q->P)/\(w4x r ks ns ifs vs1 σ1=some (true,σ2)->j0t r ks ns emit gs vs1 b σ2=some q->P)):P:=
 q0h h λ vs1 σ1 f1 h=>q0h h λ ok σ2 f2 h=>match ok,f2,h with
  | false,f2,h=>(k vs1 σ1 σ2 f1).1 f2 h
  | true,f2,h=>(k vs1 σ1 σ2 f1).2 f2 (by rcases gs<;>exact h)
section
variable {e:Expr} {gens gs:List Comprehension} {emit:Vs->β->Store->Option (β×Store)} {depth:Nat} {target iter:Expr} {ifs:List Expr}
noncomputable def k1l (Q:Acc β cx) (A:Around) (r:Ev) (ks:Kinds) (ns:List Str) (cenv:Env) (D:Addr) (e:Expr) (emit:Vs->β->Store->Option (β×Store)) (depth:Nat) (o:Option Comprehension) (gs:List Comprehension):Prop:=
 ∀(k:Sem PySem.Fin) {P:PySem.Fin->Shared->Prop} {E:Value->Shared->Prop} {g0 s0 vs b σ q g s},Cs Q ks ns cenv D g0 s0 vs b σ g s->j0t r ks ns emit gs vs b σ=some q->
  (∀g' s',Stp [cenv.locals,D] g s g' s'->Cs Q ks ns cenv D g0 s0 q.1.1 q.1.2 q.2 g' s'->wpAny cx.M A k P E s')->wpAny cx.M A (deeper e depth (.ref D) cenv k o) P E s
noncomputable def k1m (Q:Acc β cx) (A:Around) (r:Ev) (ks:Kinds) (ns:List Str) (cenv:Env) (D:Addr) (e:Expr) (emit:Vs->β->Store->Option (β×Store)) (depth:Nat) (target:Expr) (ifs:List Expr) (gs:List Comprehension):Prop:=
 ∀(nx:Nx) {I St Mid src},WK cx A I (goOk src) nx St Mid->goOk src target=true->cenv.locals≠I->(∀x c,IsCF ks x->cenv.cells.lookup x=some c->c≠I)->D≠I->∀{g0 s0},s0.heap.get? I=none->
  ∀k i {b vs σ g s q},Cs Q ks ns cenv D g0 s0 vs b σ g s->St i g s.heap->z5z nx (j2z r ks ns emit gs target ifs) k i (vs,b) σ=some q->
  codeAny cx.M A (.compLoop e depth (.ref I) (.ref D) cenv) (λ z s'=>match z with | .ok _=>∃g',Cs Q ks ns cenv D g0 s0 q.1.1 q.1.2 q.2 g' s' | .error _=>False) s
theorem k4k (R:EvOk cx n r) (hA:AOk n A) (C:IsC cx e gens) (hks:∀x,ks.lookup x≠some .cell) (hD:D≠cenv.locals) (hg:gens[depth]? = some ⟨target,iter,ifs,0⟩) (H:k1l Q A r ks ns cenv D e emit depth gens[depth+1]? gs) :
  k1m Q A r ks ns cenv D e emit depth target ifs gs:=by
 intro nx I St Mid src W hgo p1 p2 hDI g0 s0 hI k
 have p3:I∉[cenv.locals]:=λ h=>p1 (jJ h).symm
 induction k with
 | zero=>exact λ i b vs σ g s q c st e'=>nope e'
 | succ k ih=>
  intro i b vs σ g s q c st e'
  refine codeAny_of_tree ?_
  simp only[C.und,C.den]
  refine wpAny_noted ?_
  simp only[C.turn hg]
  refine wpAny_bind (wpAny_standAt ?_)
  refine j4j e' (λ hnx hq=>wpAny_bind (W.doneK c.inv st hnx λ s₁ a1 i1=>wpAny_pure ⟨g,hq▸c.it hI p1 p2 hDI a1 i1⟩))
   λ y b1 σ1 hnx hf hl=>wpAny_bind (W.nextK c.inv st hnx λ u g1 s₁ a1 i1 r1 md=>wpAny_bind (W.goK i1 md hgo r1 λ s₂ a2 i2 st2=>?_))
  have c2:=(c.it hI p1 p2 hDI a1 i1).it hI p1 p2 hDI a2 i2
  refine v0o hf λ vs1 σ1 σ2 f1=>?_
  have st4:∀{g3 s3 g4 s4 σ1 σ2},Stp (ownK ks cenv) g1 s₂ g3 s3->Inv cx g3 σ1 s3->Stp [] g3 s3 g4 s4->Inv cx g4 σ2 s4->St (i+1) g4 s4.heap:=λ a3 i3 a4 i4=>W.frame (W.frame st2 a3 i2 i3 (by rw[w9q hks];exact p3)) a4 i3 i4 List.not_mem_nil
  constructor
  ·refine λ f2 h=>wpAny_bind (w8p R.a hA i2 c2.er f1 r1 λ g3 s3 a3 i3 E3=>wpAny_bind (PB.thenE (z0v R.t hA i3 E3 f2) λ g4 s4 a4 i4=>?_))
   obtain⟨rfl,rfl⟩:=Prod.mk.inj (jI h)
   exact wpAny_pure ⟨C.quiet ..,ih (i+1) ((c2.set hD (w9q (cenv:=cenv) hks▸a3) i3 E3).go a4 i4) (st4 a3 i3 a4 i4) hl⟩
  ·refine λ f2 h=>wpAny_bind (w8p R.a hA i2 c2.er f1 r1 λ g3 s3 a3 i3 E3=>wpAny_bind (PB.thenE (z0v R.t hA i3 E3 f2) λ g4 s4 a4 i4=>?_))
   exact H _ ((c2.set hD (w9q (cenv:=cenv) hks▸a3) i3 E3).go a4 i4) h λ g5 s5 a5 c5=>wpAny_pure ⟨C.quiet ..,ih (i+1) c5 (W.frame (st4 a3 i3 a4 i4) a5 i4 c5.inv λ m=>(List.mem_cons.mp m).elim (λ z=>p1 z.symm) λ m=>hDI (jJ m).symm) hl⟩
theorem k7t (hem:Emits Q A ks ns cenv D e emit) (hD:D≠cenv.locals) (hcD:∀x cc,cenv.cells.lookup x=some cc->cc≠D):k1l Q A r ks ns cenv D e emit depth none []:=λ _ _ _ _ _ _ _ _ _ _ _ c h k=>by
 obtain⟨o,ho⟩:=c.there
 refine q0h h λ acc σ1 f h=>?_
 obtain rfl:=jI h
 (refine wpAny_bind (wpAny_mono (hem f c.inv c.er c.acc c.out.1 c.out.2) (λ _ s' zz0=>?_) λ _ _ x=>x.elim);rcases _:zz0 with⟨g',a,i,q,o'⟩)
 have a':Stp [cenv.locals,D] _ _ g' s':=a.wider λ _ m=>jK _ m
 exact k g' s' a' ⟨c.stp.trans a',i,c.er.step a (λ m=>hD (jJ m).symm) (λ x cc _ hx m=>hcD x cc hx (jJ m)),q,⟨a.new _ _ ho c.out.1,a.newI _ _ ho c.out.2⟩,o'⟩
theorem z5i {it:Value} {k:Sem PySem.Fin} {gg:Comprehension} (h0:gg.is_async=0) (h:q1r gg.iter=true) :
  deeper e depth it cenv k (some gg)=(eval gg.iter cenv >>= λ x=>standAt gg.iter.pos >>= λ _=>holding [x] (pyIter x) >>= λ i=>runOwn (.compStart e (depth+1) i it cenv) cenv >>= λ _=>k):=by
 dsimp only[deeper]
 simp only[h0,bne_self_eq_false,Bool.false_eq_true,if_false,set_plain h,pure_bind]
theorem k2r (R:EvOk cx n r) (hA:AOk n A) (C:IsC cx e gens) {gg:Comprehension} (hg:gens[depth+1]? = some gg) (h0:gg.is_async=0) (L:k1m Q A r ks ns cenv D e emit (depth+1) gg.target gg.ifs gs) :
  k1l Q A r ks ns cenv D e emit depth (some gg) (gg::gs):=λ k P E g0 s0 vs b σ q g s c h kk=>by
 refine q0h h λ w σ3 f3 h=>q0o h λ hpl h=>?_
 rw[z7p]at h
 refine ifNo h λ hgo2 h=>?_
 rcases _:j1s h with⟨nx2,k2,hnx2,hl2⟩
 rw[z5i h0 hpl]
 refine wpAny_bind (PX.thenE (R.e f3 hA c.inv c.er) λ uw g5 s5 a5 i5 r5=>wpAny_bind (wpAny_standAt ?_))
 have c5:=c.go a5 i5
 refine wpAny_bind (wpAny_holding (wpAny_mono (z5p hA i5 r5 hnx2) ?_ λ _ _ x=>x.elim))
 rintro _ s6 ⟨I2,St2,Mid2,rfl,hI2,a6,i6,W2,st26⟩
 have c6:=c5.go a6 i6
 obtain⟨od,hod⟩:=c5.there
 rcases _:q8y c5.er hI2 with⟨q1,q2,_⟩
 have inner:=L _ W2 (by simpa using hgo2) q1 q2 (λ z=>by simp only[z,hI2]at hod;contradiction) hI2 k2 0 (g0:=g5) (s0:=s5) ⟨a6.own,i6,c6.er,c6.acc,c6.out,c6.there⟩ st26 hl2
 refine wpAny_bind (wpAny_runOwn ?_)
 refine codeAny_mono (w0q C hg h0 inner (W2.self st26 inner)) λ z s7 h7=>?_
 induction z with
 | error=>exact h7.elim
 | ok=>
  obtain⟨g7,c7⟩:=h7
  exact kk g7 s7 (a5.own.trans c7.stp) ⟨c5.stp.trans c7.stp,c7.inv,c7.er,c7.acc,c7.out,c7.there⟩
theorem k2o (R:EvOk cx n r) (hA:AOk n A) (C:IsC cx e gens) (hem:Emits Q A ks ns cenv D e emit) (hks:∀x,ks.lookup x≠some .cell) (hD:D≠cenv.locals) (hcD:∀x cc,cenv.cells.lookup x=some cc->cc≠D) :
  ∀(gs:List Comprehension) (depth:Nat) (target iter:Expr) (ifs:List Expr),gens.drop depth=⟨target,iter,ifs,0⟩::gs->(∀g∈gs,g.is_async=0)->k1m Q A r ks ns cenv D e emit depth target ifs gs:=by
 intro gs
 induction gs with
 | nil=>
  intro depth target iter ifs hd _
  have hg:gens[depth]? = some ⟨target,iter,ifs,0⟩:=by rw[<-List.head?_drop,hd];rfl
  have hg':gens[depth+1]? = none:=by rw[<-List.head?_drop,<-List.tail_drop,hd];rfl
  exact k4k R hA C hks hD hg (by simp only[hg'];exact k7t hem hD hcD)
 | cons gg gs ih=>
  intro depth target iter ifs hd has
  have hg:gens[depth]? = some ⟨target,iter,ifs,0⟩:=by rw[<-List.head?_drop,hd];rfl
  have hg':gens[depth+1]? = some gg:=by rw[<-List.head?_drop,<-List.tail_drop,hd];rfl
  have h0:=has gg jL
  refine k4k R hA C hks hD hg (by
   simp only[hg']
   refine k2r R hA C hg' h0 (ih (depth+1) gg.target gg.iter gg.ifs ?_ λ g m=>has g (jK _ m))
   rw[<-List.tail_drop,hd];show gg::gs=_;rcases gg;subst h0;exact rfl)
end
end
noncomputable def clOf (env:Env):List (Str×NameKind)->List (Str×Addr)->Option (List (Str×Addr))
 | [],acc=>some acc
 | (n,k)::r,acc=>if k==.free then(match env.cells.lookup n with|some c=>clOf env r ((n,c)::acc)|none=>none)else clOf env r acc
set_option tactic.hygienic true in theorem z9o {sc:Scope} {env:Env} {cl:List (Str×Addr)} (h:clOf env sc.names []=some cl):closureFor sc env=pure cl:=by
 have key:∀(names:List (Str×NameKind)) (acc cl:List (Str×Addr)),clOf env names acc=some cl->
   (forIn names acc λ(x:Str×NameKind) cs=>match x with|(name,kind)=>if(kind==NameKind.free)=true then do let c <-cellOf env name;pure (ForInStep.yield ((name,c)::cs))else pure (ForInStep.yield cs):Sem (List (Str×Addr)))=pure cl:=by
  intro names
  induction names with
  | nil=>intro acc cl h;obtain rfl:=jI h;rfl
  | cons p r ih=>
   obtain⟨n,k⟩:=p
   intro acc cl h
   simp only[List.forIn_cons]
   unfold clOf at h
   split at h
   ·rename_i hk
    split at h
    ·rename_i c hc
     simp only[hk,if_true]
     unfold cellOf
     rw[hc]
     exact ih _ _ h
    ·contradiction
   ·rename_i hk
    simp only[hk,Bool.false_eq_true,if_false,pure_bind]
    exact ih _ _ h
 dsimp only[closureFor]
 have:=key sc.names [] cl h
 simp only[bind_pure]
 first|exact this|simpa using this
set_option tactic.hygienic true in theorem q2o {env:Env}:∀{names:List (Str×NameKind)} {acc cl:List (Str×Addr)},clOf env names acc=some cl->∀x c,cl.lookup x=some c->acc.lookup x=some c\/((x,NameKind.free)∈names/\env.cells.lookup x=some c)
 | [],acc,cl,h,x,c,e=>by obtain rfl:=jI h;exact .inl e
 | (n,k)::r,acc,cl,h,x,c,e=>by
  unfold clOf at h
  split at h
  ·rename_i hk
   split at h
   ·rename_i d hd
    rcases q2o h x c e with q|⟨q1,q2⟩
    ·simp only[List.lookup_cons]at q
     split at q
     ·rename_i hx
      obtain rfl:=jI q
      rw[beq_iff_eq]at hx hk
      subst hx hk
      exact .inr ⟨by simp,hd⟩
     ·exact .inl q
    ·exact .inr ⟨by simp[q1],q2⟩
   ·contradiction
  ·rcases q2o h x c e with q|⟨q1,q2⟩
   ·exact .inl q
   ·exact .inr ⟨by simp[q1],q2⟩
theorem w8u {env:Env}:∀{names:List (Str×NameKind)} {acc cl:List (Str×Addr)},clOf env names acc=some cl->∀x,(acc.lookup x).isSome=true->(cl.lookup x).isSome=true
 | [],acc,cl,h,x,e=>by obtain rfl:=jI h;exact e
 | (n,k)::r,acc,cl,h,x,e=>by
  unfold clOf at h
  split at h
  ·split at h
   ·refine w8u h x ?_
    simp only[List.lookup_cons]
    split
    ·rfl
    ·exact e
   ·contradiction
  ·exact w8u h x e
theorem w8v {env:Env}:∀{names:List (Str×NameKind)} {acc cl:List (Str×Addr)},clOf env names acc=some cl->∀x,(x,NameKind.free)∈names->(cl.lookup x).isSome=true
 | (n,k)::r,acc,cl,h,x,e=>by
  unfold clOf at h
  rcases List.mem_cons.mp e with q|q
  ·rcases q
   rw[if_pos (by rfl)]at h
   split at h
   ·exact w8u h _ (by simp)
   ·contradiction
  ·split at h
   ·split at h
    ·exact w8v h x q
    ·contradiction
   ·exact w8v h x q
set_option tactic.hygienic true in theorem w2h {env:Env}:∀{names:List (Str×NameKind)} {acc:List (Str×Addr)},(∀x,(x,NameKind.free)∈names->∃c,env.cells.lookup x=some c)->∃cl,clOf env names acc=some cl
 | [],acc,_=>⟨acc,rfl⟩
 | (n,k)::r,acc,h=>by
  dsimp only[clOf]
  split
  ·rename_i hk
   rw[beq_iff_eq]at hk
   subst hk
   obtain⟨c,hc⟩:=h n (by simp)
   rw[hc]
   exact w2h λ x hx=>h x (by simp[hx])
  ·exact w2h λ x hx=>h x (by simp[hx])
set_option tactic.hygienic true in theorem w5m {sc:Scope} {env:Env} (x:Str):KR (sc.names.lookup x) ((relabel sc env).names.lookup x):=by
 show KR (sc.names.lookup x) ((sc.names.map λ(n,k)=>if(k==.free&&env.scope.kind==.function&&env.kindOf n==some .cell)then(n,NameKind.cell)else(n,k)).lookup x)
 induction sc.names with
 | nil=>exact .inl rfl
 | cons p r ih=>
  obtain⟨n,k⟩:=p
  rw[List.map_cons]
  simp only
  split
  ·rename_i hc
   simp only[List.lookup_cons,List.lookup_cons]
   split
   ·simp only[Bool.and_eq_true,beq_iff_eq]at hc
    exact .inr ⟨by rw[hc.1.1],rfl⟩
   ·exact ih
  ·simp only[List.lookup_cons,List.lookup_cons]
   split
   ·exact .inl rfl
   ·exact ih
section
variable {β:Type} {cx:Cx} {T:Tab} {n:Nat} {r:Ev} {ks:Kinds} {ns:List Str} {env:Env} {g g':G} {vs vs':Vs} {σ σ':Store} {s s':Shared} {A:Around} {v:AV} {u:Value} {ex:Expr} {x:Str} {I D:Addr}
structure z1b (ks:Kinds) (sc:Scope):Prop where
 kind:sc.kind = .function
 nodup:(sc.names.map (·.1)).Nodup
 names:∀p∈sc.names,p.2 = .local\/p.2 = .globalImplicit\/(p.2 = .free/\(ks.lookup p.1=some .cell\/ks.lookup p.1=some .free))
 lam:sc.names.lookup ("resolved_names" : Str)=none
theorem k2n {sc:Scope} (h:k2m ks sc=true):z1b ks sc:=by
 unfold k2m at h
 simp only[Bool.and_eq_true,decide_eq_true_eq,beq_iff_eq,List.all_eq_true,Bool.or_eq_true]at h
 refine⟨h.1.1.1,h.1.2,λ p hp=>?_,by simpa using h.1.1.2⟩
 have:=h.2 p hp
 rcases this with(h1|h1)|⟨h1,h2⟩
 ·exact .inl h1
 ·exact .inr (.inl h1)
 ·exact .inr (.inr ⟨h1,h2⟩)
theorem q3s {names:List (Str×NameKind)} (h:(names.map (·.1)).Nodup) {x:Str} {k:NameKind} (hm:(x,k)∈names):names.lookup x=some k:=by
 induction names with
 | nil=>simp at hm
 | cons p r ih=>
  obtain⟨n,k'⟩:=p
  simp only[List.map_cons,List.nodup_cons]at h
  simp only[List.lookup_cons]
  rcases List.mem_cons.mp hm with q|q
  ·rcases q;simp
  ·have:(x==n)=false:=by
    rw[beq_eq_false_iff_ne];intro z;subst z;exact h.1 (List.mem_map.mpr ⟨(x,k),q,rfl⟩)
   rw[this];exact ih h.2 q
theorem k4n {names:List (Str×NameKind)} {x:Str}:x∈q0z names↔(x,NameKind.local)∈names:=by
 dsimp only[q0z]
 simp only[List.mem_map,List.mem_filter,beq_iff_eq,Prod.exists]
 constructor
 ·rintro⟨a,b,⟨h1,h2⟩,rfl⟩;subst h2;exact h1
 ·intro h;exact⟨x,.local,⟨h,rfl⟩,rfl⟩
theorem k4g {cn:List Str} (hx:x∉cn):q5r (cn++ns) (cn.map (λ _=>none)++vs) x=q5r ns vs x:=by
 unfold q5r
 rw[List.idxOf_append,if_neg hx,List.getElem?_append_right (by simp)]
 simp
theorem k7s {sc:Scope} {cl:List (Str×Addr)} {C:Addr} {cenv:Env} (K:z1b ks sc) (E:ER cx ks ns env g vs s) (hcl:clOf env sc.names []=some cl) (hC:s.heap.get? C=none\/True)
  (e1:cenv.scope=relabel sc env) (e2:cenv.locals=C) (e3:cenv.globals=env.globals) (e4:cenv.cells=cl) (e5:cenv.builtins=env.builtins) (e6:cenv.code=env.code)
  (hn:∃m,s'.heap.Ns C m) (hk:∀b o,s.heap.get? b=some o->s'.heap.get? b=some o) (h1:C∉g.ρ) (h2:g.I C=none) (h3:∀b o,s.heap.get? b=some o->b≠C) :
  ER cx sc.names (q0z sc.names++ns) cenv g ((q0z sc.names).map (λ _=>none)++vs) s':=by
 have out:∀x,sc.names.lookup x=some .free->x∉q0z sc.names:=λ x hx hm=>by
  rw[q3s K.nodup (k4n.mp hm)]at hx;contradiction
 have own:∀x,sc.names.lookup x=some .local->x∈q0z sc.names:=λ x hx=>k4n.mpr (mem_of_lookup hx)
 have noCell:∀x,sc.names.lookup x≠some .cell:=λ x hx=>by
  rcases K.names _ (mem_of_lookup hx)with h|h|⟨h,_⟩<;>contradiction
 obtain⟨m,hm⟩:=hn
 refine⟨?_,by rw[e3];exact E.gl,by rw[e5];exact E.bl,⟨by simp only[e6];exact E.code.1,λ h=>by rw[K.lam]at h;exact Bool.noConfusion h⟩,by simp[E.len],λ x=>?_,λ x hx=>?_,⟨m,by rw[e2];exact hm,λ x v hx hv=>?_⟩,by rw[e2];exact⟨h1,h2⟩,λ x hx=>?_,λ x y c hx hy=>?_⟩
 ·rw[e1];exact K.kind
 ·show KR _ (cenv.scope.names.lookup x);rw[e1];exact w5m x
 ·rcases hx with hx|hx
  ·exact List.mem_append_left _ (own x hx)
  ·exact absurd hx (noCell x)
 ·exfalso
  have hx':=own x hx
  unfold q5r at hv
  rw[List.idxOf_append,if_pos hx',List.getElem?_append_left (by simpa using w1q hx')]at hv
  rw[List.getElem?_map,List.getElem?_eq_getElem (w1q hx')]at hv
  trivial
 ·rcases hx with hx|hx
  ·exact absurd hx (noCell x)
  ·have hmem:=mem_of_lookup hx
   obtain⟨c,hc⟩:=Option.isSome_iff_exists.mp (w8v hcl x hmem)
   rcases q2o hcl x c hc with q|⟨_,q⟩
   ·trivial
   ·rcases K.names _ hmem with h|h|⟨_,h⟩
    ·contradiction
    ·contradiction
    ·obtain⟨c',hc',c1,c2,c3,o,co,cv⟩:=E.cel x h
     rw[q]at hc';obtain rfl:=jI hc'
     obtain⟨oc,hoc⟩:=q2s co
     refine⟨c,by rw[e4];exact hc,c1,c2,by simp only[e2];exact h3 _ _ hoc,o,co.keeps hk,λ v hv=>?_⟩
     rw[k4g (out x hx)]at hv
     exact cv v hv
 ·rw[e4]at hx hy
  rcases _:q2o hcl x c hx with q|⟨_,q⟩
  ·trivial
  ·rcases q2o hcl y c hy with q' | ⟨_,q'⟩
   ·trivial
   ·exact E.apart x y c q q'
end
section
variable {β:Type} {cx:Cx} {T:Tab} {n:Nat} {r:Ev} {ks:Kinds} {ns:List Str} {env:Env} {g g':G} {vs vs':Vs} {σ σ':Store} {s s':Shared} {A:Around} {v:AV} {u:Value} {ex:Expr} {x:Str} {I D:Addr}
theorem Stp.fresh {own:List Addr} (a:Stp own g s g' s') (h:∀b∈own,s.heap.get? b=none):Stp [] g s g' s':=
 ⟨a.le,a.toks,λ b o e p _=>a.keep b o e p λ q=>(by rw[h b q]at e;contradiction),a.new,a.newI,a.stay,a.gens,a.os⟩
structure CFin (Q:Acc β cx) (ks:Kinds) (ns:List Str) (env:Env) (g:G) (s:Shared) (vs:Vs) (b:β) (σ:Store) (D C:Addr) (g':G) (s':Shared):Prop where
 nsp:∃m,s'.heap.Ns C m
 stp:Stp [] g s g' s'
 inv:Inv cx g' σ s'
 er:ER cx ks ns env g' vs s'
 acc:Q.R g' s'.heap D b
 outD:D∉g'.ρ/\g'.I D=none/\s.heap.get? D=none
 outC:C∉g'.ρ/\g'.I C=none/\s.heap.get? C=none
 ne:D≠C
 there:∃o,s'.heap.get? D=some o
set_option tactic.hygienic true in theorem z1j {Q:Acc β cx} (R:EvOk cx n r) (hA:AOk n A) {e:Expr} {gens gs:List Comprehension} (C:IsC cx e gens) {target iter:Expr} {ifs:List Expr} (hgens:gens=⟨target,iter,ifs,0⟩::gs) (has:∀g∈gs,g.is_async=0)
  {sc:Scope} (K:z1b ks sc) {emit:Vs->β->Store->Option (β×Store)} {b0 b':β} {vsc:Vs} {w:AV} {σ1:Store} {newAcc:Sem Value} {ao:Obj} {use:Option (Value->Sem Unit)} {pos:Pos} {P:Value->Shared->Prop}
  (hp:q1r iter=true) (e1:r.e ks ns iter vs σ=some (w,σ1))
  (e2:z1i r sc.names (q0z sc.names++ns) emit gs target ifs w ((q0z sc.names).map (λ _=>none)++vs,b0) σ1=some ((vsc,b'),σ'))
  (hnew:∀{s:Shared} {P:Value->Shared->Prop},P (.ref s.heap.objs.size) { s with heap:=s.heap.push ao }->wpAny cx.M A newAcc P NoE s) (hfr:ao.isFreed=false) (hmod:∃b o,sysModules<=b/\cx.h₀.get? b=some o) (hq:∀g h D,h.get? D=some ao->(D==sysModules)=false->Q.R g h D b0)
  (hem:∀cenv D,Emits Q A sc.names (q0z sc.names++ns) cenv D e emit) (i:Inv cx g σ s) (E:ER cx ks ns env g vs s)
  (fin:∀g' s' D C,CFin Q ks ns env g s vs b' σ' D C g' s'->match use with
   | none=>∀h',Heap.SameBut C s'.heap h'->P (.ref D) { s' with heap:=h' }
   | some u=>wpAny cx.M A (u (.ref D)) (λ _ s''=>∃m,s''.heap.Ns C m/\∀h',Heap.SameBut C s''.heap h'->P .none { s'' with heap:=h' }) NoE s') :
  wpAny cx.M A (comprehension e sc env pos newAcc false (eval iter env) use) P NoE s:=by
 have noCell:∀x,sc.names.lookup x≠some .cell:=λ x hx=>by
  rcases K.names _ (mem_of_lookup hx)with h|h|⟨h,_⟩<;>contradiction
 obtain⟨cl,hcl⟩:=w2h (env:=env) (names:=sc.names) (acc:=[]) λ x hx=>by
  rcases K.names _ hx with h|h|⟨_,h⟩
  ·contradiction
  ·contradiction
  ·obtain⟨c,hc,_⟩:=E.cel x h;exact⟨c,hc⟩
 have hs:∀x,foldedSetIterable iter env x=pure x:=λ x=>by rcases iter<;>first|rfl|trivial
 refine wpAny_comprehension_free (g:=⟨target,iter,ifs,0⟩) (gs:=gs) (by simp only[C.clauses,hgens]) hs (z9o hcl) K.kind (λ x hx hl=>q3s K.nodup (by rw[<-hl];exact hx)) ?_
 refine q0y R.e hA i E e1 λ g1 s₁ u1 a1 i1 E1 r1=>?_
 simp only[z7p]at e2
 split at e2
 ·contradiction
 rename_i hgo
 rcases _:j1s e2 with⟨nx,k,hnx,hl⟩
 refine wpAny_mono (z5p hA i1 r1 hnx) ?_ λ _ _ x=>x
 rintro _ s₂ ⟨I,St,Mid,rfl,hI,a2,i2,W,st⟩
 obtain⟨oI,hoI⟩:=W.there st
 refine hnew ?_
 refine wpAny_newFunctionEnv (λ x hx hc=>noCell x.1 (q3s K.nodup (by rw[<-hc];exact hx))) (by intro x hx;simp at hx) (λ h1 hns hsb=>?_) K.kind
 dsimp only at hns hsb ⊢
 generalize hD:s₂.heap.objs.size=D at hns hsb ⊢
 generalize hH:s₂.heap.push ao=H at hns hsb ⊢
 generalize hCC:H.objs.size=CC at hns hsb ⊢
 have hDC:D≠CC:=by rw[<-hCC,<-hH,Heap.size_push,hD];exact Nat.ne_of_lt (Nat.lt_succ_self _)
 have below:∀b o,s₂.heap.get? b=some o->b≠D/\b≠CC:=λ b o e=>by
  have:=Heap.lt_size e
  rw[<-hCC,<-hH,Heap.size_push]
  rw[hD]at this ⊢
  exact⟨Nat.ne_of_lt this,Nat.ne_of_lt (Nat.lt_succ_of_lt this)⟩
 have keep:∀b o,s₂.heap.get? b=some o->h1.get? b=some o:=λ b o e=>hsb.extBut b o (below b o e).2 (Heap.get?_push_of_some _ (by rw[<-hH];exact Heap.get?_push_of_some _ e))
 have hDo:h1.get? D=some ao:=hsb.extBut D _ hDC (Heap.get?_push_of_some _ (by rw[<-hH,<-hD];exact Heap.get?_push_size _ hfr))
 have nD:s₂.heap.get? D=none:=by rw[<-hD];exact q0m s₂
 have hDm:(D==sysModules)=false:=by
  rcases _:hmod with⟨b,o,hb,ho⟩
  have:=Heap.lt_size (i2.sub _ _ (i2.base _ _ ho))
  simp only[hD]at this
  exact beq_false_of_ne (Nat.ne_of_gt (jB hb this))
 have nC:s₂.heap.get? CC=none:=by
  cases q:s₂.heap.get? CC with
  | none=>rfl
  | some o=>exact absurd rfl (below _ _ q).2
 obtain⟨fD1,fD2⟩:=i2.fresh nD
 obtain⟨fC1,fC2⟩:=i2.fresh nC
 have ht:s₂.toks<=s₂.toks+([]:List (Str×Value)).length:=jD _
 have a3:Stp [] g1 s₂ g1 { s₂ with heap:=h1,toks:=s₂.toks+([]:List (Str×Value)).length }:=.keeps ht keep
 have i3:Inv cx g1 σ1 { s₂ with heap:=h1,toks:=s₂.toks+([]:List (Str×Value)).length }:=i2.keep ht keep
 have E2:=E1.go a2
 have st3:=W.frame st a3 i2 i3 (by simp)
 have n1:∀{b},s₂.heap.get? b=none->s₁.heap.get? b=none:=λ{b} h=>by
  generalize q:s₁.heap.get? b=zzy
  induction zzy with
  | none=>rfl
  | some o=>obtain⟨o',e'⟩:=a2.stay _ _ q;rw[h]at e';contradiction
 have n0:∀{b},s₁.heap.get? b=none->s.heap.get? b=none:=λ{b} h=>by
  cases q:s.heap.get? b with
  | none=>rfl
  | some o=>obtain⟨o',e'⟩:=a1.stay _ _ q;rw[h]at e';contradiction
 have hcellsI:∀x c,IsCF ks x->env.cells.lookup x=some c->c≠I/\∃o,s₂.heap.get? c=some o:=λ x c k hc=>by
  obtain⟨c',hc',_,_,_,o,co,_⟩:=E2.cel x k
  rw[hc]at hc';obtain rfl:=jI hc'
  obtain⟨oc,hoc⟩:=q2s co
  refine⟨λ z=>?_,oc,hoc⟩
  exact(q8y E1 hI).2.1 x c k hc z
 have hclc:∀x c,cl.lookup x=some c->c≠I/\c≠D:=λ x c hx=>by
  rcases q2o hcl x c hx with q|⟨hm,q⟩
  ·trivial
  ·rcases K.names _ hm with h|h|⟨_,h⟩
   ·contradiction
   ·contradiction
   ·obtain⟨z1,o,ho⟩:=hcellsI x c h q
    exact⟨z1,(below _ _ ho).1⟩
 have hIC:I≠CC:=(below _ _ hoI).2
 have hID:I≠D:=(below _ _ hoI).1
 have body:∀cenv:Env,cenv.scope=relabel sc env->cenv.locals=CC->cenv.globals=env.globals->cenv.cells=cl->cenv.builtins=env.builtins->cenv.code=env.code->
   codeAny cx.M A (.compStart e 0 (.ref I) (.ref D) cenv) (compPost cx.M A NoE use P (.ref D) CC) { s₂ with heap:=h1,toks:=s₂.toks+([]:List (Str×Value)).length }:=by
  intro cenv q1 q2 q3 q4 q5 q6
  have Ec:ER cx sc.names (q0z sc.names++ns) cenv g1 ((q0z sc.names).map (λ _=>none)++vs) { s₂ with heap:=h1,toks:=s₂.toks+([]:List (Str×Value)).length }:=
   k7s K E2 hcl (.inr trivial) q1 q2 q3 q4 q5 q6 ⟨_,hns⟩ keep fC2 fC1 λ b o e=>(below b o e).2
  have A3:Stp [cenv.locals,D] g1 s₁ g1 { s₂ with heap:=h1,toks:=s₂.toks+([]:List (Str×Value)).length }:=(a2.trans a3).own
  have c0:Cs Q sc.names (q0z sc.names++ns) cenv D g1 s₁ ((q0z sc.names).map (λ _=>none)++vs) b0 σ1 g1 { s₂ with heap:=h1,toks:=s₂.toks+([]:List (Str×Value)).length }:=
   ⟨A3,i3,Ec,hq _ _ _ hDo hDm,⟨fD2,fD1⟩,_,hDo⟩
  have inner:=k2o R hA C (hem cenv D) noCell (by simp only[q2];exact hDC) (λ x cc hx=>by rw[q4]at hx;exact(hclc x cc hx).2) gs 0 target iter ifs (by rw[hgens];rfl) has nx W (by simpa using hgo) (by rw[q2];exact hIC.symm) (λ x c _ hx=>by rw[q4]at hx;exact(hclc x c hx).1) hID.symm hI k 0 c0 st3 hl
  refine codeAny_mono (w0q C (by rw[hgens];rfl) rfl inner (W.self st3 inner)) ?_
  rintro(ee|f) s' h
  ·exact h.elim
  ·obtain⟨g',c⟩:=h
   have hnC:∃m,s'.heap.Ns CC m:=by obtain⟨m,hm,_⟩:=c.er.loc;rw[q2]at hm;exact⟨m,hm⟩
   have hst:Stp [] g s g' s':=a1.trans (c.stp.fresh λ b hb=>by
    rw[q2]at hb
    rcases List.mem_cons.mp hb with rfl|hb
    ·exact n1 nC
    ·rw[jJ hb];exact n1 nD)
   have hEr:ER cx ks ns env g' vs s':=E.go hst
   have F:CFin Q ks ns env g s vs b' σ' D CC g' s':=⟨hnC,hst,c.inv,hEr,c.acc,⟨c.out.1,c.out.2,n0 (n1 nD)⟩,⟨by have:=c.er.locA.1;rwa [q2]at this,by have:=c.er.locA.2;rwa [q2]at this,n0 (n1 nC)⟩,hDC,c.there⟩
   have:=fin g' s' D CC F
   induction use with
   | none=>exact⟨_,hnC.choose_spec,this⟩
   | some u=>exact this
 exact body _ rfl rfl rfl rfl rfl rfl
end
section
variable {β:Type} {cx:Cx} {T:Tab} {n:Nat} {r:Ev} {ks:Kinds} {ns:List Str} {env:Env} {g g':G} {vs vs':Vs} {σ σ':Store} {s s':Shared} {A:Around} {v:AV} {u:Value} {ex:Expr} {x:Str} {I D C:Addr}
inductive AccL (cx:Cx) (g:G) (h:Heap) (D:Addr) (b:List AV):Prop
 | mk (us:List Value) (p:h.PlainList D us.toArray) (r:VRs cx g b us) (z:b.length<=sizeLine)
inductive AccD (cx:Cx) (g:G) (h:Heap) (D:Addr) (b:List (Str×AV)):Prop
 | mk (us:List Value) (p:h.DictOf cx.sk D ((b.map (·.1)).zip us)) (r:VRs cx g (b.map (·.2)) us) (q:(D==sysModules)=false) (z:b.length<=sizeLine) (y:∀kv∈b,kv.1.length<=sizeLine)
inductive Made (cx:Cx) (g:G) (s:Shared) (g':G) (s':Shared) (D:Addr) (v:AV) (σ':Store):Prop
 | mk (g'':G) (le:g'.le g'') (a:Stp [] g s g'' s') (i:Inv cx g'' σ' s') (r:VR cx g'' v (.ref D)) (h1:∀c,c≠D->c∉g'.ρ->c∉g''.ρ) (h2:∀c,c≠D->g'.I c=none->g''.I c=none)
noncomputable def w9g (cx:Cx):Acc (List AV) cx where
 R:=AccL cx
 mono:=by rintro g g' h h' D b le k ⟨us,⟨m,e⟩,q,z⟩;exact⟨us,⟨m,k _ e⟩,q.mono le,z⟩
noncomputable def w2l (cx:Cx):Acc (List (Str×AV)) cx where
 R:=AccD cx
 mono:=by rintro g g' h h' D b le k ⟨us,⟨ob,es,ep,e,r⟩,q,z,y,x⟩;exact⟨us,⟨ob,es,ep,k _ e,r⟩,q.mono le,z,y,x⟩
theorem k3c (R:EOk cx n r.e) (hA:AOk n A) {cenv:Env} {elt:Expr} {gens:List Comprehension} {sc:Scope} {p:Pos} :
  Emits (w9g cx) A ks ns cenv D (.ListComp elt gens sc p) (k3a r elt ks ns):=by
 intro vs b σ b' σ' g s e i E q h1 h2
 refine q0h e λ w σ1 e1 e=>q0o e λ hz e=>?_
 rcases e
 refine wpAny_bind (q0y R hA i E e1 λ g1 s₁ u1 a1 i1 E1 r1=>wpAny_bind ?_)
 rcases _:q with⟨us,⟨m,hm⟩,qs,z⟩
 have hm1:s₁.heap.PlainList D us.toArray:=⟨m,a1.keep _ _ hm h1 (by simp)⟩
 have d1:=a1.new _ _ hm h1
 have d2:=a1.newI _ _ hm h2
 refine wpAny_list_append_plain hm1 (λ h' hp hs=>wpAny_pure ?_) (by simp only[List.size_toArray,<-qs.length];exact z)
 have ho:∃o,h'.get? D=some o:=by obtain⟨m',e'⟩:=hp;exact⟨_,e'⟩
 exact⟨g1,a1.own.trans (.write (t:=s₁.toks) (jD _) (by simp) hs ho),i1.write (t:=s₁.toks) (jD _) d1 d2 hs,⟨us++[u1],by simpa using hp,(qs.mono a1.le).append (.cons r1 .nil),by simp;assumption⟩,ho⟩
theorem k3b (R:EOk cx n r.e) (hA:AOk n A) {cenv:Env} {kx vx:Expr} {gens:List Comprehension} {sc:Scope} {p:Pos} :
  Emits (w2l cx) A ks ns cenv D (.DictComp kx vx gens sc p) (k2z r kx vx ks ns):=by
 intro vs b σ b' σ' g s e i E q h1 h2
 refine q0h e λ w σ1 e1 e=>q0h e λ y σ2 e2 e=>optE e λ k h0 e=>q0o e λ hz e=>?_
 ·rcases e
  show wpAny cx.M A (do
   let kv <-eval kx cenv
   let vv <-holding [kv] (eval vx cenv)
   standAt _
   holding [kv,vv] (dictSet D kv vv)) _ _ s
  refine wpAny_bind (q0y R hA i E e1 λ g1 s₁ u1 a1 i1 E1 r1=>wpAny_bind (wpAny_holding (q0y R hA i1 E1 e2 λ g2 s₂ u2 a2 i2 E2 r2=>wpAny_bind (wpAny_standAt (wpAny_holding ?_)))))
  rcases _:q with⟨us,hd,qs,y1,z,kz⟩
  obtain⟨t,rfl,tz⟩:=r1.strV h0
  have a12:=a1.trans a2
  rcases _:hd with⟨ob,es,ep,eo,rest⟩
  have hd2:s₂.heap.DictOf cx.sk D ((b.map (·.1)).zip us):=⟨ob,es,ep,a12.keep _ _ eo h1 (by simp),rest⟩
  have d1:=a12.new _ _ eo h1
  have d2:=a12.newI _ _ eo h2
  have hlen:((b.map (·.1)).zip us).length<=sizeLine:=by have:=qs.length;skip;(simp_all +arith)
  refine wpAny_dictSet_pairs (hsz:=hlen) (strKind_is _ _ k t) hd2 λ h' hp hs=>?_
  rcases _:w4s (k:=k) (qs.mono a12.le) r2 with⟨us',e3,q'⟩
  simp only[e3]at hp
  have ho:∃o,h'.get? D=some o:=by rcases _:hp with⟨ob,es,ep,e',_⟩;exact⟨_,e'⟩
  exact⟨g2,a12.own.trans (.write (t:=s₂.toks+1) (Nat.le_succ _) (by simp) hs ho),i2.write (t:=s₂.toks+1) (Nat.le_succ _) d1 d2 hs,⟨us',hp,q',y1,jA (q5p k b) hz,q8t kz tz⟩,ho⟩
theorem Inv.addCell (i:Inv cx g σ s) {a:Addr} {o:AObj} (ho:OR cx (g.cell a) s.heap a o) (h1:a∉g.ρ) (h2:g.I a=none):Inv cx (g.cell a) (σ++[o]) s:=by
 refine⟨i.sub,i.base,by simp[G.cell,i.len],?_,λ b hb=>?_,λ l ob b e q=>?_,i.one,i.tok⟩
 ·show(g.ρ++[a]).Nodup
  rw[List.nodup_append];exact⟨i.nodup,by simp,λ x hx y hy=>by simp at hy;subst hy;exact λ z=>h1 (z▸hx)⟩
 ·rcases _:List.mem_append.mp hb with hb|hb
  ·exact i.apart b hb
  ·rw[List.mem_singleton]at hb;subst hb;exact h2
 ·by_cases hl:l<σ.length
  ·rw[List.getElem?_append_left hl]at e
   have q':g.ρ[l]? = some b:=by
    have:(g.ρ++[a])[l]? = some b:=q
    rwa [List.getElem?_append_left (by simp only[i.len];exact hl)]at this
   exact(i.cells l ob b e q').mono (G.cell_le g a) λ _ e=>e
  ·have hl':l=σ.length:=by
    have:=(List.getElem?_eq_some_iff.mp e).1
    rw[List.length_append]at this
    exact Nat.le_antisymm (Nat.le_of_lt_succ this) (Nat.le_of_not_lt hl)
   subst hl'
   simp at e;subst e
   have:(g.ρ++[a])[σ.length]? = some b:=q
   rw[<-i.len]at this;simp at this;subst this;exact ho
theorem Stp.addCell {own:List Addr} {g0:G} {s0:Shared} {a:Addr} (x:Stp own g0 s0 g s) (h:s0.heap.get? a=none):Stp own g0 s0 (g.cell a) s:=
 ⟨x.le.trans (G.cell_le _ _),x.toks,x.keep,λ b o e p q=>by
  rcases List.mem_append.mp q with q|q
  ·exact x.new b o e p q
  ·rw[jJ q,h]at e;exact absurd e (by simp),x.newI,x.stay,x.gens,x.os⟩
theorem Stp.addFz {own:List Addr} {g0:G} {s0:Shared} {a:Addr} {o:Obj} (x:Stp own g0 s0 g s) (h:s0.heap.get? a=none) (hi:g.I a=none):Stp own g0 s0 (g.freeze a o) s:=
 ⟨x.le.trans (G.freeze_le hi),x.toks,x.keep,x.new,λ b ob e p=>by
  show(if b=a then some o else g.I b)=none
  rw[if_neg λ z=>by rw[z,h]at e;contradiction];exact x.newI b ob e p,x.stay,x.gens,x.os⟩
theorem k7z {mu:Bool} {b:List AV} {σ1:Store} (a:Stp [] g s g' s') (i:Inv cx g' σ1 s') (q:(w9g cx).R g' s'.heap D b) (h1:D∉g'.ρ) (h2:g'.I D=none) (h3:s.heap.get? D=none) (e:q0j mu b σ1=some (v,σ')) :
  Made cx g s g' s' D v σ':=by
 rcases _:q with⟨us,⟨m,hm⟩,qs,z⟩
 unfold q0j at e
 split at e<;>obtain⟨rfl,rfl⟩:=Prod.mk.inj (jI e)
 ·refine⟨g'.cell D,G.cell_le _ _,a.addCell h3,i.addCell (o:=.list b) ⟨us,⟨m,hm⟩,qs.mono (G.cell_le _ _),z⟩ h1 h2,?_,λ c hc h=>?_,λ c hc h=>h⟩
  ·skip;exact⟨D,rfl,by simp[G.cell,<-i.len]⟩
  ·simp only[G.cell,List.mem_append,List.mem_singleton,not_or];exact⟨h,hc⟩
 ·refine⟨g'.freeze D _,G.freeze_le h2,a.addFz h3 h2,i.add hm h1 h2,?_,λ c hc h=>h,λ c hc h=>?_⟩
  ·skip;exact⟨D,_,us,rfl,G.freeze_self _ _ _,⟨m,rfl⟩,qs.mono (G.freeze_le h2),z⟩
  ·show(if c=D then _ else g'.I c)=none
   rw[if_neg hc];exact h
theorem z7y {mu:Bool} {b:List (Str×AV)} {σ1:Store} (a:Stp [] g s g' s') (i:Inv cx g' σ1 s') (q:(w2l cx).R g' s'.heap D b) (h1:D∉g'.ρ) (h2:g'.I D=none) (h3:s.heap.get? D=none) (e:q1z mu b σ1=some (v,σ')) :
  Made cx g s g' s' D v σ':=by
 rcases _:q with⟨us,hd,qs,y,z,kz⟩
 unfold q1z at e
 split at e<;>obtain⟨rfl,rfl⟩:=Prod.mk.inj (jI e)
 ·refine⟨g'.cell D,G.cell_le _ _,a.addCell h3,i.addCell (o:=.dict b) ⟨us,hd,qs.mono (G.cell_le _ _),y,z,kz⟩ h1 h2,?_,λ c hc h=>?_,λ c hc h=>h⟩
  ·skip;exact⟨D,rfl,by simp[G.cell,<-i.len]⟩
  ·simp only[G.cell,List.mem_append,List.mem_singleton,not_or];exact⟨h,hc⟩
 ·rcases _:Heap.dictOf_iff.mp hd with⟨ob,hob,hdo⟩
  refine⟨g'.freeze D ob,G.freeze_le h2,a.addFz h3 h2,i.add hob h1 h2,?_,λ c hc h=>h,λ c hc h=>?_⟩
  ·skip;exact⟨D,ob,us,rfl,G.freeze_self _ _ _,hdo,by simp,qs.mono (G.freeze_le h2),y,by simpa using z,λ k hk=>by obtain⟨kv,hkv,rfl⟩:=List.mem_map.mp hk;exact kz kv hkv⟩
  ·show(if c=D then _ else g'.I c)=none
   rw[if_neg hc];exact h
end
section
variable {β:Type} {cx:Cx} {T:Tab} {n:Nat} {r:Ev} {ks:Kinds} {ns:List Str} {env:Env} {g g':G} {vs vs':Vs} {σ σ' σ'':Store} {s s':Shared} {A:Around} {v:AV} {u:Value} {ex:Expr} {x:Str} {I D C:Addr}
noncomputable def Makes (Q:Acc β cx) (mk:β->Store->Res):Prop:=
 ∀{g s g' s' D b σ1 v σ'},Stp [] g s g' s'->Inv cx g' σ1 s'->Q.R g' s'.heap D b->D∉g'.ρ->g'.I D=none->s.heap.get? D=none->mk b σ1=some (v,σ')->
  Made cx g s g' s' D v σ'
theorem z1k {Q:Acc β cx} {mk:β->Store->Res} (M:Makes Q mk) (R:EvOk cx n r) (hA:AOk n A) {e:Expr} {gens gs:List Comprehension} (Cc:IsC cx e gens) {target iter:Expr} {ifs:List Expr} (hgens:gens=⟨target,iter,ifs,0⟩::gs) (has:∀g∈gs,g.is_async=0)
  {sc:Scope} (K:z1b ks sc) {emit:Vs->β->Store->Option (β×Store)} {b0 b':β} {vsc:Vs} {w:AV} {σ1:Store} {newAcc:Sem Value} {ao:Obj} {pos:Pos}
  (hp:q1r iter=true) (e1:r.e ks ns iter vs σ=some (w,σ1))
  (e2:z1i r sc.names (q0z sc.names++ns) emit gs target ifs w ((q0z sc.names).map (λ _=>none)++vs,b0) σ1=some ((vsc,b'),σ'))
  (hnew:∀{s:Shared} {P:Value->Shared->Prop},P (.ref s.heap.objs.size) { s with heap:=s.heap.push ao }->wpAny cx.M A newAcc P NoE s) (hfr:ao.isFreed=false) (hmod:∃b o,sysModules<=b/\cx.h₀.get? b=some o) (hq:∀g h D,h.get? D=some ao->(D==sysModules)=false->Q.R g h D b0)
  (hem:∀cenv D,Emits Q A sc.names (q0z sc.names++ns) cenv D e emit) (i:Inv cx g σ s) (E:ER cx ks ns env g vs s) (em:mk b' σ'=some (v,σ'')) :
  wpAny cx.M A (comprehension e sc env pos newAcc false (eval iter env)) (PX cx g s σ'' v) NoE s/\
  ∀{use:Value->Sem Unit} {vs' σ3},(∀g1 s₁ u1,Stp [] g s g1 s₁->Inv cx g1 σ'' s₁->ER cx ks ns env g1 vs s₁->VR cx g1 v u1->wpAny cx.M A (use u1) (λ _ s₂=>PA cx ks ns env g1 s₁ vs' σ3 s₂) NoE s₁)->
   wpAny cx.M A (comprehension e sc env pos newAcc false (eval iter env) (some use)) (λ _ s'=>PA cx ks ns env g s vs' σ3 s') NoE s:=by
 constructor
 ·refine z1j (use:=none) R hA Cc hgens has K hp e1 e2 hnew hfr hmod hq hem i E λ g' s' D C F h' hs=>?_
  rcases _:M F.stp F.inv F.acc F.outD.1 F.outD.2.1 F.outD.2.2 em with⟨g'',le,a,i',rv,hc1,hc2⟩
  have k':∀b o,s'.heap.get? b=some o->b≠C->h'.get? b=some o:=λ b o e q=>(hs.2 b q).trans e
  have c1:=hc1 C F.ne.symm F.outC.1
  have c2:=hc2 C F.ne.symm F.outC.2.1
  exact⟨g'',a.thenI (.write (t:=s'.toks) (jD _) k') F.outC.2.2,i'.writeI (t:=s'.toks) (jD _) c1 c2 k',rv⟩
 ·intro use vs' σ3 hu
  refine z1j (use:=some use) R hA Cc hgens has K hp e1 e2 hnew hfr hmod hq hem i E λ g' s' D C F=>?_
  rcases _:M F.stp F.inv F.acc F.outD.1 F.outD.2.1 F.outD.2.2 em with⟨g'',le,a,i',rv,hc1,hc2⟩
  have c1:=hc1 C F.ne.symm F.outC.1
  have c2:=hc2 C F.ne.symm F.outC.2.1
  (refine wpAny_mono (hu g'' s' _ a i' (E.go a) rv) (λ _ s₂ zz0=>?_) λ _ _ x=>x;obtain⟨g2,b,i2,E2⟩:=zz0)
  obtain⟨m,hm⟩:=F.nsp
  obtain⟨oC,hoC⟩:=q6e hm
  obtain⟨z1,z2,z3⟩:=q8y E F.outC.2.2
  refine⟨m,k9l hm λ o e=>b.keep _ _ e c1 z3,λ h' hs=>?_⟩
  have k':∀b o,s₂.heap.get? b=some o->b≠C->h'.get? b=some o:=λ b o e q=>(hs.2 b q).trans e
  have st:StpI C g2 s₂ g2 { s₂ with heap:=h' }:=.write (t:=s₂.toks) (jD _) k'
  exact⟨g2,(a.own.trans b).thenI st F.outC.2.2,i2.writeI (t:=s₂.toks) (jD _) (b.new _ _ hoC c1) (b.newI _ _ hoC c2) k',E2.stepI st z1 z2⟩
theorem k0e {mu:Bool}:Makes (w9g cx) (q0j mu):=λ a i q h1 h2 h3 e=>k7z a i q h1 h2 h3 e
theorem k0d {mu:Bool}:Makes (w2l cx) (q1z mu):=λ a i q h1 h2 h3 e=>z7y a i q h1 h2 h3 e
inductive Parts (r:Ev) (ks:Kinds) (ns:List Str) (b0:β) (emit:Kinds->List Str->Vs->β->Store->Option (β×Store)) (gens:List Comprehension) (sc:Scope) (vs:Vs) (σ:Store) (b':β) (σ':Store):Prop
 | mk (target iter:Expr) (ifs:List Expr) (gs:List Comprehension) (w:AV) (σ1:Store) (vsc:Vs) (h:gens=⟨target,iter,ifs,0⟩::gs) (h1:∀g∈gs,g.is_async=0) (h2:z1b ks sc) (h3:q1r iter=true) (h4:r.e ks ns iter vs σ=some (w,σ1))
   (h5:z1i r sc.names (q0z sc.names++ns) (emit sc.names (q0z sc.names++ns)) gs target ifs w ((q0z sc.names).map (λ _=>none)++vs,b0) σ1=some ((vsc,b'),σ'))
theorem w2j {b0:β} {emit:Kinds->List Str->Vs->β->Store->Option (β×Store)} {gens:List Comprehension} {sc:Scope} {b':β} (e:k2l r ks ns b0 emit gens sc vs σ=some (b',σ')):Parts r ks ns b0 emit gens sc vs σ b' σ':=by
 rcases gens with _|⟨⟨t,it,ifs,as⟩,gs⟩
 ·exact nope e
 ·refine q0h e λ w σ1 e1 e=>q0o e λ h e=>q0h e λ q σ2 e2 e=>?_
  simp only[Bool.and_eq_true,List.all_cons,List.all_eq_true,beq_iff_eq]at h
  obtain⟨rfl,rfl⟩:=Prod.mk.inj (jI e)
  obtain rfl:=h.2.1
  exact⟨t,it,ifs,gs,w,σ1,q.1,rfl,h.2.2,k2n h.1.2,h.1.1,e1,e2⟩
theorem w7r (H:GlOk cx T) (R:EvOk cx n r) (hA:AOk n A) {elt:Expr} {gens:List Comprehension} {sc:Scope} {p:Pos} (i:Inv cx g σ s) (E:ER cx ks ns env g vs s)
  (e:(do
   let (acc,σ) <-k2l r ks ns [] (k3a r elt) gens sc vs σ
   q0j (T.mu p.line) acc σ)=some (v,σ')) :
  wpAny cx.M A (eval (.ListComp elt gens sc p) env) (PX cx g s σ' v) NoE s/\
  ∀{use:Value->Sem Unit} {vs' σ3},(∀g1 s₁ u1,Stp [] g s g1 s₁->Inv cx g1 σ' s₁->ER cx ks ns env g1 vs s₁->VR cx g1 v u1->wpAny cx.M A (use u1) (λ _ s₂=>PA cx ks ns env g1 s₁ vs' σ3 s₂) NoE s₁)->
   wpAny cx.M A (evalThenUse (.ListComp elt gens sc p) env use) (λ _ s'=>PA cx ks ns env g s vs' σ3 s') NoE s:=by
 refine q0h e λ acc σ1 e1 em=>?_
 clear e
 rcases _:w2j e1 with⟨target,iter,ifs,gs,w,σ2,vsc,rfl,has,K,hp,f1,f2⟩
 obtain⟨h1,h2⟩:=z1k (Q:=w9g cx) (mk:=q0j (T.mu p.line)) (pos:=iter.pos) k0e R hA k8m rfl has K hp f1 f2 (newAcc:=newList []) (ao:={ cls:=.type "list",data:=.seq #[] }) (λ h=>wpAny_newObj_type h) rfl H.mods
  (λ g h D e _=>⟨[],⟨0,e⟩,.nil,Nat.zero_le _⟩) (λ cenv D=>k3c R.e hA) i E em
 refine⟨h1,λ hu=>?_⟩
 exact wpAny_bind (wpAny_mono (h2 hu) (λ _ _ h=>wpAny_pure h) λ _ _ x=>x)
theorem w7i (H:GlOk cx T) (R:EvOk cx n r) (hA:AOk n A) {kx vx:Expr} {gens:List Comprehension} {sc:Scope} {p:Pos} (i:Inv cx g σ s) (E:ER cx ks ns env g vs s)
  (e:(do
   let (acc,σ) <-k2l r ks ns [] (k2z r kx vx) gens sc vs σ
   q1z (T.mu p.line) acc σ)=some (v,σ')) :
  wpAny cx.M A (eval (.DictComp kx vx gens sc p) env) (PX cx g s σ' v) NoE s/\
  ∀{use:Value->Sem Unit} {vs' σ3},(∀g1 s₁ u1,Stp [] g s g1 s₁->Inv cx g1 σ' s₁->ER cx ks ns env g1 vs s₁->VR cx g1 v u1->wpAny cx.M A (use u1) (λ _ s₂=>PA cx ks ns env g1 s₁ vs' σ3 s₂) NoE s₁)->
   wpAny cx.M A (evalThenUse (.DictComp kx vx gens sc p) env use) (λ _ s'=>PA cx ks ns env g s vs' σ3 s') NoE s:=by
 refine q0h e λ acc σ1 e1 em=>?_
 clear e
 rcases _:w2j e1 with⟨target,iter,ifs,gs,w,σ2,vsc,rfl,has,K,hp,f1,f2⟩
 have hempty:∀(g:G) (h:Heap) (D:Addr),h.get? D=some { cls:=.type "dict",data:=.dict #[] }->(D==sysModules)=false->(w2l cx).R g h D []:=λ g h D e hm=>
  ⟨[],⟨_,#[],0,e,⟨rfl,rfl,rfl⟩,rfl,λ _ he=>by simp at he,.nil,by trivial⟩,.nil,hm,Nat.zero_le _,by trivial⟩
 obtain⟨h1,h2⟩:=z1k (Q:=w2l cx) (mk:=q1z (T.mu p.line)) (pos:=iter.pos) k0d R hA k8l rfl has K hp f1 f2 (newAcc:=newDict) (ao:={ cls:=.type "dict",data:=.dict #[] }) (λ h=>wpAny_newObj_type h) rfl H.mods
  hempty (λ cenv D=>k3b R.e hA) i E em
 refine⟨h1,λ hu=>?_⟩
 exact wpAny_bind (wpAny_mono (h2 hu) (λ _ _ h=>wpAny_pure h) λ _ _ x=>x)
end
theorem z0p:typeLookup (.type "slice") "__index__" = pure none:=by rw[typeLookup_type,builtinLookup_eq_fast];kernel_rfl
section
variable {prog:Program} {w:World} {A:Around} {E:Value->Shared->Prop} {h:Heap} {g:Array GenState} {d:Drawn} {t:Nat} {os:OsState} {l m:Addr} {items:Array Value} {k:Nat}
theorem z5l {f:Value×Nat->Option Value} (hf:∀p∈items.toList.zipIdx,f p=none):(items.toList.zipIdx.filterMap f).toArray = #[]:=by
 rw[List.filterMap_eq_nil_iff.mpr hf]
theorem z2m {f:Value×Nat->Option Value} (hf:∀x k,f (x,k)=if(if(1:Int) > 0 then decide ((0:Int)<=(k:Int))&&decide ((k:Int)<(items.size:Int))&&(((k:Int) - 0) % 1==0)else false)=true then none else some x):(items.toList.zipIdx.filterMap f).toArray = #[]:=by
 refine z5l λ p hp=>?_
 obtain⟨x,k⟩:=p
 have hk:k<items.size:=by
  have:=(List.mem_zipIdx hp).2.1
  simpa using this
 rw[hf]
 simp[hk,Int.emod_one]
theorem j3h {P:PySem.Fin->Shared->Prop} (hl:h.get? l=some { cls:=.type "list",data:=.seq items k }) (hm:h.get? m=some { cls:=.type "slice",data:=.fields #[.none,.none,.none] }) (hz:items.size<=sizeLine)
  (hq:∀f:Array Value->Array Value,f items = #[]->P (.done (.ret .none)) ⟨h.update l (Obj.mapSeq f),g,d,t,os⟩) :
  wpAny (model prog w) A (Builtin.«list.__delitem__» ⟨[.ref l,.ref m],[]⟩) P E ⟨h,g,d,t,os⟩:=by
 have hT:(⟨h,g,d,t,os⟩:Shared).TypeIs (.ref m) "slice":=⟨_,hm,rfl⟩
 refine wpAny_bind (m:=slotArgs _ _ _) (wpAny_pure ?_)
 refine wpAny_bind ?_
 refine wpAny_bind (wpAny_specialOf hT z0p ?_)
 refine wpAny_pure ?_
 refine wpAny_bind (wpAny_typeOf hT ?_)
 refine wpAny_ite_split (λ hab=>absurd hab (by decide)) (λ _=>?_)
 refine wpAny_bind ?_
 refine wpAny_bind (wpAny_field hm rfl (x:=.none) rfl ?_)
 refine wpAny_bind (wpAny_pure ?_)
 refine wpAny_ite_split (λ hab=>absurd hab (by decide)) (λ _=>?_)
 refine wpAny_bind (wpAny_field hm rfl (x:=.none) rfl ?_)
 refine wpAny_bind (wpAny_pure ?_)
 refine wpAny_bind (wpAny_field hm rfl (x:=.none) rfl ?_)
 refine wpAny_bind (wpAny_pure ?_)
 refine wpAny_pure ?_
 refine wpAny_bind (listItems_at hl rfl ?_)
 refine wpAny_bind ?_
 show wpAny _ _ (pure ((0:Int),(items.size:Int),(1:Int))) _ _ _
 refine wpAny_pure ?_
 refine wpAny_bind (wpAny_rule ?_)
 refine wpAny_bind ?_
 refine listUpdate_at hl rfl ?_ hz ?_
 ·exact wpAny_bind (wpAny_letGo (wpAny_pure (hq _ (z2m λ _ _=>rfl))))
 ·refine jA (jE (congrArg Array.size (z2m λ _ _=>rfl))) (Nat.zero_le _)
end
section
variable {cx:Cx} {T:Tab} {n:Nat} {r:Ev} {ks:Kinds} {ns:List Str} {env:Env} {g g':G} {vs vs':Vs} {σ σ' σ'':Store} {s s':Shared} {A:Around} {v:AV} {u:Value} {ex:Expr} {x:Str} {fl:q0b}
theorem k6h {ts:List Expr} {line:Nat} (h:w0s ex=true):∃b,swapsWithSole ts ex line env=pure b/\(b=true->∃t,ts=[t]):=by
 rcases ts with _|⟨t,_|⟨t',ts⟩⟩
 ·exact⟨false,rfl,by simp⟩
 ·rcases ex<;>first|(exact absurd h Bool.false_ne_true)|(rcases t<;>exact⟨_,rfl,λ _=>⟨_,rfl⟩⟩)
 ·exact⟨false,rfl,by simp⟩
theorem k9r (h:w0s ex=true):rawE T r ks ns ex vs σ=r.e ks ns ex vs σ:=by induction ex using Expr.casesOn with
 | Constant=>exact nob h
 | _=>rfl
theorem k6t {ts:List Expr} (h:w0s ex=true):j5k ks ts ex=some none:=by
 rcases ex<;>first|(exact absurd h Bool.false_ne_true)|(rcases ts with _|⟨t,_|⟨t',ts⟩⟩<;>first|rfl|(rcases t<;>rfl))
theorem k9s (R:EvOk cx n r) (hA:AOk n A) (i:Inv cx g σ s) (E:ER cx ks ns env g vs s) {ts:List Expr} {p:Pos}
  (e:(if ts.any q9c then none else do
   let (v,σ) <-rawE T r ks ns ex vs σ
   let (vs,σ) <-w8q r ks ns ts ex v vs σ
   some (q0b.next,vs,σ))=some (fl,vs',σ')):wpAny cx.M A (exec (.Assign ts ex p) env) (PS cx ks ns env g s fl vs' σ') NoE s:=by
 refine ifNo e λ hst e=>q0h e λ w σ1 e1 e=>q0h e λ vs1 σ2 ev e=>?_
 have hs:∀t∈ts,∀y q,t≠.Starred y q:=λ t ht y q h=>hst (List.any_eq_true.mpr ⟨t,ht,by rw[h];rfl⟩)
 rcases e
 refine wpAny_bind (wpAny_standAt ?_)
 have plain:wpAny cx.M A (do
   let v <-eval ex env
   assignStores env v (<-swappedStores ts ex env) ((assignEach ts env).map (·.2))) (PS cx ks ns env g s .next vs' σ') NoE s:=by
  refine wpAny_bind (PX.then (j1j R.e hA e1 i E) λ g1 s₁ u1 a1 i1 r1=>?_)
  exact PS.up a1.own (w2c R.a hA i1 (E.go a1) r1 hs ev)
 cases hc:w0s ex with
 | false=>
  rw[k0y hc]
  exact wpAny_bind (wpAny_pure plain)
 | true=>
  rcases _:k6h (env:=env) (ts:=ts) (line:=p.line) hc with⟨b,hb,hb'⟩
  rw[hb]
  refine wpAny_bind (wpAny_pure ?_)
  induction b with
  | false=>exact plain
  | true=>
   rw[k9r hc]at e1
   have ev':q7l r ks ns w ts vs σ1=some (vs',σ'):=by unfold w8q at ev;rw[k6t hc]at ev;exact ev
   refine wpAny_bind (wpAny_mono (R.c hc e1 hA i E (use:=λ v=>assignAll v ((assignEach ts env).map (·.2))) λ g1 s₁ u1 a1 i1 E1 r1=>q6n R.a hA i1 E1 r1 ev' hs) (λ _ s₂ ⟨g2,a,i2,E2⟩=>wpAny_pure ⟨g2,a,i2,E2,rfl⟩) λ _ _ x=>x)
theorem j3g {l:Nat} {xs:List AV} {m:Addr} {Q:Unit->Shared->Prop} (hA:AOk n A) (i:Inv cx g σ s) (r:VR cx g (.loc l) u) (e:σ[l]? = some (.list xs)) (hm:s.heap.get? m=some { cls:=.type "slice",data:=.fields #[.none,.none,.none] }) (hmI:g.I m=some { cls:=.type "slice",data:=.fields #[.none,.none,.none] })
  (h:∀s',Stp [] g s g s'->Inv cx g (σ.set l (.list [])) s'->Q () s'):wpAny cx.M A (delItem u (.ref m)) Q NoE s:=by
 obtain⟨p,rfl,hp⟩:=r.of_loc
 rcases _:i.cells _ _ _ e hp with⟨us,⟨k,hk⟩,q,z⟩
 have hz:us.toArray.size<=sizeLine:=by simp only[List.size_toArray,<-q.length];exact z
 refine wpAny_delItem_slot ⟨_,hk,rfl⟩ (by rfl) F.slot_list_delitem ?_
 obtain⟨hh,gs,d,t,os⟩:=s
 refine wpAny_call_entry F.slot_list_delitem ⟨_,hk,rfl⟩ F.entry_list_delitem (j3h hk hm hz λ f hf=>⟨_,rfl,?_⟩) (F.args_list_delitem_2 _ _)
 obtain⟨k',hk'⟩:=w0u f us.toArray k
 have hget:=Heap.get?_update_self (h:=hh) (a:=p) (Obj.mapSeq f) hk (by rfl)
 rw[hk',hf]at hget
 have ho:OR cx g (hh.update p (Obj.mapSeq f)) p (.list []):=⟨[],⟨k',hget⟩,.nil,Nat.zero_le _⟩
 exact h _ (.setCell (t:=t) (jD _) hp (Heap.SameBut.update ..) ho.there) (i.setCell (t:=t) (jD _) hp ho (Heap.SameBut.update ..))
theorem v1n (R:EvOk cx n r) (hA:AOk n A) (i:Inv cx g σ s) (E:ER cx ks ns env g vs s) {o:Expr} {p q q':Pos}
  (e:(do
   let (v,σ) <-r.e ks ns o vs σ
   (locV v).bind λ l=>(q1j σ l).bind λ _=>some (q0b.next,vs,σ.set l (.list [])))=some (fl,vs',σ')):wpAny cx.M A (exec (.Delete [.Subscript o (.Slice none none none q) q'] p) env) (PS cx ks ns env g s fl vs' σ') NoE s:=by
 refine q0h e λ w σ1 e1 e=>optE e λ l h0 e=>q5f e λ xs hx e=>?_
 rcases e
 refine wpAny_Delete ?_
 refine wpAny_bind (wpAny_bind (q0y R.e hA i E e1 λ g1 s₁ u1 a1 i1 E1 r1=>wpAny_bind (wpAny_holding ?_)))
 refine wpAny_bind (wpAny_pure (wpAny_bind (wpAny_holding (wpAny_pure (wpAny_bind (wpAny_holding (wpAny_pure ?_)))))))
 refine wpAny_newObj_type ?_
 have hn:=q0m s₁
 have k:∀b o',s₁.heap.get? b=some o'->(s₁.heap.push { cls:=.type "slice",data:=.fields #[.none,.none,.none] }).get? b=some o':=λ b o' e=>Heap.get?_push_of_some _ e
 have a2:Stp [] g1 s₁ (g1.freeze s₁.heap.objs.size { cls:=.type "slice",data:=.fields #[.none,.none,.none] }) { s₁ with heap:=s₁.heap.push { cls:=.type "slice",data:=.fields #[.none,.none,.none] } }:=.freeze (t:=s₁.toks) i1 (jD _) hn k
 have i2:Inv cx (g1.freeze s₁.heap.objs.size { cls:=.type "slice",data:=.fields #[.none,.none,.none] }) σ1 { s₁ with heap:=s₁.heap.push { cls:=.type "slice",data:=.fields #[.none,.none,.none] } }:=i1.freeze (t:=s₁.toks) (jD _) hn (Heap.get?_push_size _ rfl) k
 obtain rfl:=j0x h0
 refine wpAny_bind (wpAny_standAt (wpAny_bind (wpAny_holding (j3g hA i2 (r1.mono a2.le) hx (Heap.get?_push_size _ rfl) (G.freeze_self _ _ _) λ s3 a3 i3=>wpAny_release ?_))))
 exact wpAny_pure ⟨_,((a1.trans a2).trans a3).own,i3,(E1.go a2).go a3,rfl⟩
theorem j7o (H:q6i cx T) (R:EvOk cx n r):SOk cx n (evS T r):=by
 intro ks ns st vs σ fl vs' σ' e A env g s hA i E
 induction st using Stmt.casesOn with
 | Expr ee pp=>
  refine ifNo e λ hc e=>q0h e λ w σ1 e1 e=>?_
  rcases e
  have hi:interactive env=false:=by dsimp only[interactive];rw[E.fn];rfl
  refine wpAny_Expr_any (q0y R.e hA i E e1 λ g1 s₁ u1 a1 i1 E1 r1=>⟨g1,a1.own,i1,E1,rfl⟩) hi ?_
  rcases ee<;>first|rfl|exact absurd rfl hc
 | Return o p=>
  refine optM e (λ ee h e=>q0h e λ w σ1 e1 e9=>?_) λ h e9=>?_<;>(subst h;rcases e9)
  ·exact wpAny_Return_some (q0y R.e hA i E e1 λ g1 s₁ u1 a1 i1 E1 r1=>⟨g1,a1.own,i1,E1,u1,rfl,r1⟩)
  ·exact wpAny_Return_none ⟨g,.refl _ _ _,i,E,.none,rfl,.none_⟩
 | Assign ts ee p=>exact k9s R hA i E e
 | AugAssign t op ee p=>
  refine optE e λ x h e=>?_
  obtain⟨q,rfl⟩:=w1s h;exact k5u R hA i E e
 | If t a b p=>
  refine q0h e λ c σ1 e1 e=>wpAny_If (z4u R.t hA i E e1 λ g1 s₁ a1 i1 E1=>?_)
  cases c with
  | true=>exact PS.up a1.own (q5n R.s hA i1 E1 e)
  | false=>exact PS.up a1.own (q5n R.s hA i1 E1 e)
 | For t it body orelse p=>exact q0o e λ h e=>by obtain rfl:=List.isEmpty_iff.mp h;exact v1o R hA i E e
 | Try body hs orelse fin p=>
  refine q0o e λ h e=>?_
  obtain⟨h1,h2,h3⟩:=h
  obtain rfl:=List.isEmpty_iff.mp h2
  obtain rfl:=List.isEmpty_iff.mp h3
  rcases hs with _|⟨h0,hs⟩
  ·exact absurd h1.symm Bool.false_ne_true
  ·refine wpAny_Try_except (wpAny_mono (q5n R.s hA i E e) (λ f s₁ h=>?_) λ _ _ x=>x.elim)
   rcases f<;>first|exact h|exact wpAny_execs_nil h
 | Delete ts p=>exact optE e λ o h e=>delE h λ q q' h=>by rw[h];exact v1n R hA i E e
 | _=>exact nope e
end
noncomputable def BiOk (cx:Cx) (n:Nat):Prop:=∀{b args σ v σ'},biA b args σ=some (v,σ')->∀{A g s us},AOk n A->Inv cx g σ s->VRs cx g args us->wpAny cx.M A (call b.val us) (PX cx g s σ' v) NoE s
structure w8k (n:Nat) (A:Around):Prop where
 handled:A.handled=none
 depth:A.depth+4 * n+6<recursionLimit
 units:A.units+60 * n+80<cLine
theorem AOk.call {n:Nat} {A:Around} (h:AOk n A):w8k n A:=
 ⟨h.handled,jB (Nat.add_le_add_left (by decide:6<=8) _) h.depth,jB (Nat.add_le_add_left (by decide:80<=100) _) h.units⟩
theorem w8k.droom {n:Nat} {A:Around} (h:w8k n A):A.depth<recursionLimit:=jB (jA (jG _ _) (jG _ _)) h.depth
theorem w8k.deep {n:Nat} {A:Around} (h:w8k (n+1) A) (env:Env):AOk n (A.deeper env):=
 ⟨h.handled,jB (jE (congrArg (· + 8) (Nat.add_right_comm A.depth 1 (4 * n)))) (jB (Nat.add_le_add_left (by decide:9<=10) _) h.depth),
  jB (jE (congrArg (· + 100) (Nat.add_right_comm A.units 3 (60 * n)))) (jB (Nat.add_le_add_left (by decide:103<=140) _) h.units)⟩
structure CfOk (cx:Cx) (n:Nat) (C:q0a):Prop where
 run:∀{a args kws σ v σ'},C a args kws σ=some (v,σ')->∀{A g s us uk},w8k n A->Inv cx g σ s->VRs cx g args us->VRs cx g (kws.map (·.2)) uk->
  codeAny cx.M A (.call (.ref a) ⟨us,(kws.map (·.1)).zip uk⟩) (λ r s'=>match r with | .ok (.ret u)=>PX cx g s σ' v u s' | _=>False) s
 fn:∀{a args kws σ r},C a args kws σ=some r->keepIn cx.K (.ref a)=true/\fnIn cx.K a=true
section
variable {cx:Cx} {T:Tab} {n:Nat} {r:Ev} {C:q0a} {ks:Kinds} {ns:List Str} {env:Env} {g g':G} {vs vs':Vs} {σ σ' σ'':Store} {s s':Shared} {A:Around} {v:AV} {u:Value} {ex:Expr} {x:Str}
inductive KwOk (p:Pos) (env:Env) (kws:List Keyword) (kvs:List (Str×AV)):Prop
 | mk (h1:(backToKw p (keywordEach kws env)).filterMap (·.1)=kvs.map (·.1)) (h2:(backToKw p (keywordEach kws env)).all (·.1.isSome)=true) (h3:(backToKw p (keywordEach kws env)).any (·.1.isNone)=false) (h4:kws.length=kvs.length)
theorem w9d {p:Pos}:∀{kws:List Keyword} {kvs:List (Str×AV)} {σ:Store},q8d r ks ns kws vs σ=some (kvs,σ')->∀env,KwOk p env kws kvs
 | [],_,_,e,_=>by obtain⟨rfl,rfl⟩:=Prod.mk.inj (jI e);exact⟨rfl,rfl,rfl,rfl⟩
 | ⟨an,ex,q⟩::kws,kvs,σ,e,env=>by
  refine optE e λ nm h0 e=>q0h e λ w σ1 e1 e=>q0h e λ ws σ2 e2 e9=>?_
  obtain rfl:an=some nm:=h0
  rcases e9
  obtain⟨h1,h2,h3,h4⟩:=w9d (p:=p) e2 env
  unfold backToKw at h1 h2 h3
  refine⟨?_,?_,?_,congrArg (· + 1) h4⟩<;>(unfold backToKw;simp only[arm_keywordEach_cons])
  ·simpa using h1
  ·exact h2
  ·exact h3
theorem j8c (R:EOk cx n r.e) (hA:AOk n A) {p:Pos}:∀{kws:List Keyword} {kvs:List (Str×AV)} {g:G} {σ:Store} {s:Shared},Inv cx g σ s->ER cx ks ns env g vs s->q8d r ks ns kws vs σ=some (kvs,σ')->
  wpAny cx.M A (evalAll ((backToKw p (keywordEach kws env)).map (·.2))) (PL cx g s σ' (kvs.map (·.2))) NoE s
 | [],_,g,σ,s,i,E,e=>by obtain⟨rfl,rfl⟩:=Prod.mk.inj (jI e);exact kwAll_nil ⟨g,.refl _ _ _,i,.nil⟩
 | ⟨an,ex,q⟩::kws,kvs,g,σ,s,i,E,e=>by
  refine optE e λ nm h0 e=>q0h e λ w σ1 e1 e=>q0h e λ ws σ2 e2 e9=>?_
  obtain rfl:an=some nm:=h0
  rcases e9
  refine kwAll_cons (q0y R hA i E e1 λ g1 s₁ u1 a1 i1 E1 r1=>?_)
  exact wpAny_mono (j8c R hA i1 E1 e2) (λ us s₂ ⟨g2,a2,i2,q2⟩=>⟨g2,a1.trans a2,i2,.cons (r1.mono a2.le) q2⟩) λ _ _ x=>x
theorem k4y {p:Pos}:∀{es:List Expr} {xs:List AV} {σ:Store},evals r ks ns es vs σ=some (xs,σ')->∀env,(backTo p (starEach es env)).any (·.1)=false/\es.length=xs.length
 | [],_,_,e,_=>by obtain⟨rfl,rfl⟩:=Prod.mk.inj (jI e);exact⟨rfl,rfl⟩
 | y::es,xs,σ,e,env=>by
  refine ifNo e λ hx e=>q0h e λ w σ1 e1 e=>q0h e λ ws σ2 e2 e=>?_
  rcases e
  obtain⟨h1,h2⟩:=k4y (p:=p) e2 env
  rw[q1k (q7i hx)]
  exact⟨by exact h1,by simp[h2]⟩
theorem w2f (R:EOk cx n r.e) (hA:AOk n A) {p:Pos} {first:List Value} {args:List Expr} {kws:List Keyword} {xs:List AV} {kvs:List (Str×AV)} {σ1 σ2:Store} {P:Value->Shared->Prop} {f:Value} {HP:Heap->Prop}
  (i:Inv cx g σ s) (E:ER cx ks ns env g vs s) (e1:evals r ks ns args vs σ=some (xs,σ1)) (e2:q8d r ks ns kws vs σ1=some (kvs,σ2))
  (hk:∀h,HP h->∃k,(k=Keeper.frame\/k=Keeper.machine\/k=Keeper.boundFrame)/\Looks cx.M h (keeperOf f) k)
  (h:∀g1 s₁ us uk,Stp [] g s g1 s₁->Inv cx g1 σ2 s₁->VRs cx g1 xs us->VRs cx g1 (kvs.map (·.2)) uk->HP s₁.heap/\wpAny cx.M A (call f (first++us) ((kvs.map (·.1)).zip uk)) P NoE s₁) :
  wpAny cx.M A (callWith p f first (backTo p (starEach args env)) (backToKw p (keywordEach kws env))) P NoE s:=by
 rcases _:w9d (p:=p) e2 env with⟨k1,k2,k3,k4⟩
 obtain⟨n1,n2⟩:=k4y (p:=p) e1 env
 refine callWith_of (P:=HP) (by simp only[n1,k3];rfl) hk ?_
 have tail:∀{g1:G} {s₁:Shared} {us:List Value},Stp [] g s g1 s₁->Inv cx g1 σ1 s₁->VRs cx g1 xs us->wpAny cx.M A (evalAll ((backToKw p (keywordEach kws env)).map (·.2))) (λ ks' s₂=>HP s₂.heap/\wpAny cx.M A (call f (first++us) (((backToKw p (keywordEach kws env)).filterMap (·.1)).zip ks')) P NoE s₂) NoE s₁:=by
  intro g1 s₁ us a1 i1 q1
  (refine wpAny_mono (j8c R hA i1 (E.go a1) e2) (λ uk s₂ zz0=>?_) λ _ _ x=>x;rcases _:zz0 with⟨g2,a2,i2,q2⟩)
  rw[k1]
  exact h g2 s₂ us uk (a1.trans a2) i2 (q1.mono a2.le) q2
 induction args with
 | nil=>
  obtain⟨rfl,rfl⟩:=Prod.mk.inj (jI e1)
  exact evalArgs_kw2_nil k2 (tail (.refl _ _ _) i .nil)
 | cons y args=>
  have hx:∀z q,y≠.Starred z q:=ifNo e1 λ hx _=>q7i hx
  refine evalArgs_kw2 k2 (wpAny_mono (z7x R hA i E e1) (λ us s₁ ⟨g1,a1,i1,q1⟩=>tail a1 i1 q1) λ _ _ x=>x) (q1k hx)
end
section
variable {cx:Cx} {T:Tab} {n:Nat} {r:Ev} {C:q0a} {ks:Kinds} {ns:List Str} {env:Env} {g g':G} {vs vs':Vs} {σ σ' σ'':Store} {s s':Shared} {A:Around} {v:AV} {u:Value} {ex:Expr} {x:Str}
theorem w8s {o:Expr} {P:Value->Shared->Prop} {E:Value->Shared->Prop} (hs:q5t o=true) (h:wpAny cx.M A (eval o env) P E s):wpAny cx.M A (attributeBase o x env (eval o env)) P E s:=by
 induction o using Expr.casesOn with
 | Call f as kw p=>induction f using Expr.casesOn with
  | Name id q=>induction as with
   | nil=>induction kw with
    | nil=>
     dsimp only[attributeBase]
     rw[show(id !=("super" : Str))=true from hs]
     first|exact h|exact wpAny_bind (wpAny_mono h (λ _ _ z=>wpAny_pure z) λ _ _ z=>z)
    | cons=>exact h
   | cons=>exact h
  | _=>exact h
 | _=>exact h
theorem j7b (H:q6i cx T) (R:EOk cx n r.e) (hA:AOk n A) (i:Inv cx g σ s) (E:ER cx ks ns env g vs s) {o:Expr} {p:Pos}
  (e:(if !q5t o then none else do
   let (v,σ) <-r.e ks ns o vs σ
   let u <-w1p T σ v x
   some (norm u,σ))=some (v,σ')):wpAny cx.M A (eval (.Attribute o x p) env) (PX cx g s σ' v) NoE s:=by
 refine ifNo e λ hs e=>q0h e λ w σ1 e1 e=>q6k e λ y e2 e=>?_
 obtain⟨rfl,rfl⟩:=Prod.mk.inj (jI e)
 refine wpAny_bind (w8s (by simpa using hs) (q0y R hA i E e1 λ g1 s₁ u1 a1 i1 E1 r1=>wpAny_bind (wpAny_standAt (wpAny_bind (wpAny_holding ?_)))))
 refine PX.then (PE.x (z9v H i1 r1 e2)) λ g2 s₂ u2 a2 i2 r2=>wpAny_bind (wpAny_letTemporaryGo (wpAny_pure ⟨g2,a1.trans a2,i2,r2.norm⟩))
theorem w9k {K:Frag} {f y Ca:Addr} {ox:Obj} {od:Option Obj} {name:Str} {pl:Sem Bool} {Q:Value×List Value->Shared->Prop} {E:Value->Shared->Prop} (X:K.In s.heap) (I:InstAt s.heap y ox Ca od) (hga:findIn K (.ref Ca) "__getattribute__" = some (some (.builtin "object.__getattribute__"))) (hk:findIn K (.ref Ca) "__getattr__" = some none)
  (hf:findIn K (.ref Ca) name=some (some (.ref f))) (ht:typeIn K (.ref f)=some (.type "function")) (hs:shadowIn od name=some true) (hod:ox.dict≠none) (h:wpAny cx.M A (getAttr (.ref y) name) (λ v=>Q (v,[])) E s) :
  wpAny cx.M A (getMethod (.ref y) name pl) Q E s:=by
 dsimp only[getMethod,specialOf]
 refine wpAny_bind (wpAny_bind (I.type.here ((looks_findIn X hga).here ?_)))
 dsimp only
 refine wpAny_bind (wpAny_bind (I.type.here ((looks_findIn X hk).here ?_)))
 refine wpAny_bind (wpAny_bind (I.type.here ((looks_findIn X hf).here (wpAny_bind ((looks_typeIn X ht).here ?_)))))
 refine wpAny_bind (wpAny_loadPart I.at_ ?_)
 have hd:=I.dict
 cases e:ox.dict with
 | none=>exact absurd e hod
 | some dx=>
  induction od with
  | none=>rw[e]at hd;exact hd.elim
  | some o=>
   rw[e]at hd
   rcases _:Option.map_eq_some_iff.mp hs with⟨q,a,b⟩
   refine wpAny_bind (wpAny_bind (wpAny_loadPart hd ?_))
   simp only[nsLook_of a]
   refine wpAny_pure ?_
   rw[b]
   exact wpAny_bind (wpAny_mono h (λ _ _ z=>wpAny_pure z) λ _ _ z=>z)
end
noncomputable def MR (cx:Cx) (g:G) (c:Callee) (fx:Value×List Value):Prop:=match c with
 | .val v=>fx.2=[]/\VR cx g v fx.1
 | .fn f o=>fx.1 = .ref f/\∃us,fx.2=[us]/\VR cx g o us
 | .bi b o=>fx.1=b.val/\∃us,fx.2=[us]/\VR cx g o us
section
variable {cx:Cx} {T:Tab} {n:Nat} {r:Ev} {C:q0a} {ks:Kinds} {ns:List Str} {env:Env} {g g':G} {vs vs':Vs} {σ σ' σ'':Store} {s s':Shared} {A:Around} {v:AV} {u:Value} {ex:Expr} {x:Str}
set_option tactic.hygienic true in theorem q1m {α:Type} {k:Str} {a b:α} {l:List (Str×α)} (h:((k,a)::l).lookup x=some b):(x=k/\b=a)\/l.lookup x=some b:=by
 simp only[List.lookup_cons]at h
 split at h
 ·rename_i hx;obtain rfl:=jI h;exact .inl ⟨beq_iff_eq.mp hx,rfl⟩
 ·exact .inr h
theorem k4o {b:BI} {p:Addr} {items:Array Value} {pl:Sem Bool} {Q:Value×List Value->Shared->Prop} {E:Value->Shared->Prop} (hl:s.heap.PlainList p items) (e:z2e.lookup x=some b) (h:Q (b.val,[.ref p]) s):wpAny cx.M A (getMethod (.ref p) x pl) Q E s:=by
 rcases _:hl with⟨k,hk⟩
 have hd:∀a,Value.ref p = .ref a->∃o,s.heap.get? a=some o/\o.dict=none:=λ a z=>by rcases z;exact⟨_,hk,rfl⟩
 have hT:s.TypeIs (.ref p) "list":=⟨_,hk,rfl⟩
 rcases q1m e with⟨rfl,rfl⟩|e
 ·exact getMethod_builtin hT F.plainAttrs_list F.slot_list_append F.type_list_append hd h
 rcases q1m e with⟨rfl,rfl⟩|e
 ·exact getMethod_builtin hT F.plainAttrs_list F.slot_list_pop F.type_list_pop hd h
 rcases q1m e with⟨rfl,rfl⟩|e
 ·exact getMethod_builtin hT F.plainAttrs_list F.slot_list_extend F.type_list_extend hd h
 rcases q1m e with⟨rfl,rfl⟩|e
 ·exact getMethod_builtin hT F.plainAttrs_list F.slot_list_index F.type_list_index hd h
 rcases q1m e with⟨rfl,rfl⟩|e
 ·exact getMethod_builtin hT F.plainAttrs_list F.slot_list_sort F.type_list_sort hd h
 ·contradiction
theorem z2j {b:BI} {p:Addr} {kvs:List (Str×Value)} {pl:Sem Bool} {Q:Value×List Value->Shared->Prop} {E:Value->Shared->Prop} (hl:s.heap.DictOf cx.sk p kvs) (e:w2m.lookup x=some b) (h:Q (b.val,[.ref p]) s):wpAny cx.M A (getMethod (.ref p) x pl) Q E s:=by
 have hd:∀a,Value.ref p = .ref a->∃o,s.heap.get? a=some o/\o.dict=none:=λ a z=>by
  rcases z;rcases _:hl with⟨o,es,ep,ho,hx,_⟩;exact⟨o,ho,hx.2.1⟩
 have hT:=hl.typeIs
 rcases _:q1m e with⟨rfl,rfl⟩|e
 ·exact getMethod_builtin hT F.plainAttrs_dict F.slot_dict_items F.type_dict_items hd h
 rcases q1m e with⟨rfl,rfl⟩|e
 ·exact getMethod_builtin hT F.plainAttrs_dict F.slot_dict_get F.type_dict_get hd h
 ·contradiction
theorem k9e {b:BI} {p:Addr} {S:Str->Bool} {m:Nat} {pl:Sem Bool} {Q:Value×List Value->Shared->Prop} {E:Value->Shared->Prop} (hl:s.heap.SetOf cx.sk p S m) (e:z8y.lookup x=some b) (h:Q (b.val,[.ref p]) s):wpAny cx.M A (getMethod (.ref p) x pl) Q E s:=by
 rcases q1m e with⟨rfl,rfl⟩|e
 ·exact getMethod_builtin hl.typeIs F.plainAttrs_set F.slot_set_add F.type_set_add hl.noDict h
 ·contradiction
set_option maxHeartbeats 4000000 in
theorem k9f {b:BI} {y:Str} {t:Tok} {pl:Sem Bool} {Q:Value×List Value->Shared->Prop} {E:Value->Shared->Prop} (e:z0s.lookup x=some b) (h:Q (b.val,[.str y t]) s):wpAny cx.M A (getMethod (.str y t) x pl) Q E s:=by
 have hd:∀a,Value.str y t = .ref a->∃o,s.heap.get? a=some o/\o.dict=none:=λ a z=>by cases z
 have hT:s.TypeIs (.str y t) "str":=typeIs_str _ _ _
 unfold z0s at e
 rcases q1m e with⟨rfl,rfl⟩|e
 ·exact getMethod_builtin hT F.plainAttrs_str F.slot_str_join F.type_str_join hd h
 rcases q1m e with⟨rfl,rfl⟩|e
 ·exact getMethod_builtin hT F.plainAttrs_str F.slot_str_rsplit F.type_str_rsplit hd h
 rcases q1m e with⟨rfl,rfl⟩|e
 ·exact getMethod_builtin hT F.plainAttrs_str F.slot_str_split F.type_str_split hd h
 ·cases e
theorem z2k {y:Str} {t:Tok} {pl:Sem Bool} {Q:Value×List Value->Shared->Prop} {E:Value->Shared->Prop} (h:Q (.builtin "str.replace",[.str y t]) s):wpAny cx.M A (getMethod (.str y t) "replace" pl) Q E s:=
 getMethod_builtin (typeIs_str _ _ _) F.plainAttrs_str F.slot_str_replace F.type_str_replace (λ a z=>by cases z) h
theorem k0f {y:Str} {t:Tok} {pl:Sem Bool} {Q:Value×List Value->Shared->Prop} {E:Value->Shared->Prop} (h:Q (.builtin "str.split",[.str y t]) s):wpAny cx.M A (getMethod (.str y t) "split" pl) Q E s:=
 getMethod_builtin (typeIs_str _ _ _) F.plainAttrs_str F.slot_str_split F.type_str_split (λ a z=>by cases z) h
inductive w8l (cx:Cx) (g:G) (s:Shared) (σ:Store) (c:Callee) (fx:Value×List Value) (s':Shared):Prop
 | mk (g':G) (a:Stp [] g s g' s') (i:Inv cx g' σ s') (m:MR cx g' c fx)
theorem k4p (H:q6i cx T) {o:AV} {c:Callee} {pl:Sem Bool} (i:Inv cx g σ s) (r:VR cx g o u) (e:q0l T σ o x=some c) :
  wpAny cx.M A (getMethod u x pl) (w8l cx g s σ c) NoE s:=by
 have bi:∀{o:AV} {b:BI},VR cx g o u->w8l cx g s σ (.bi b o) (b.val,[u]) s:=λ r=>⟨g,.refl _ _ _,i,rfl,u,rfl,r⟩
 induction o using AV.casesOn with
 | obj d=>
  refine optE e λ fs e1 e=>?_
  rcases _:z5o i r e1 with⟨y,a,ob,m,rfl,I,ha,hm,hlk,hl,hl',h1,h2⟩
  unfold q8c at e
  rw[H.an]at e
  refine optM e (λ w' hw e=>mapQ e λ w ho e=>?_) λ hw e=>mapQ e λ f e2 e=>?_<;>subst e
  ·subst ho
   have hx:=z7k hl hw
   rcases _:h1 x w hx hw with⟨uw,hu,ru⟩
   have get:wpAny cx.M A (getAttr (.ref y) x) (λ v=>w8l cx g s σ (.val w) (v,[])) NoE s:=
    get_value (i.X H) I H.ga (w7l H hx (by simp only[hlk,hu])) (z1v ru) ⟨g,.tks (Nat.le_succ _),i.toks (Nat.le_succ _),rfl,ru⟩
   rcases _:(H.attr x hx).2 with h|⟨f,gg,q1,q2,_,_⟩
   ·exact method_usual (i.X H) I H.ga H.gh h rfl get
   ·exact w9k (i.X H) I H.ga H.gh q1 q2 (by simp[shadowIn,hlk,hu]) (by simp) get
  ·have hx:=w0p hl hw
   obtain⟨m1,m2,_⟩:=H.ms x f hx e2
   have hn:m x=none:=h2 x λ q=>absurd q hx
   exact method_fn (i.X H) I H.ga H.gh m1 m2 (by simp[shadowIn,hlk,hn]) ⟨g,.refl _ _ _,i,rfl,_,rfl,r⟩
 | str y=>
  refine mapQ e λ b e2 e=>?_
  subst e
  obtain⟨t,rfl,z⟩:=r.of_str
  exact k9f e2 (bi r)
 | fd kk ys=>
  refine mapQ e λ b e2 e=>?_
  subst e
  obtain⟨p,us,rfl,hp,_⟩:=q1g i rfl r
  exact z2j hp e2 (bi r)
 | loc l=>
  refine optM e (λ xs hx e=>mapQ e λ b e2 e=>?_) λ _ e=>optM e (λ kk hx e=>mapQ e λ b e2 e=>?_) λ _ e=>optE e λ kvs hx e=>mapQ e λ b e2 e=>?_<;>subst e
  ·obtain⟨p,us,rfl,hp,_⟩:=q0x (xs:=xs) i (by assumption) r
   exact k4o hp e2 (bi r)
  ·obtain⟨p,rfl,hp,_⟩:=z7i (ks:=kk) i (by simp only[z9l,j1m hx]) r
   exact k9e hp e2 (bi r)
  ·obtain⟨p,us,rfl,hp,_⟩:=q1g (v:=.loc l) (kvs:=kvs) i hx r
   exact z2j hp e2 (bi r)
 | _=>exact nope e
end
structure w0l (cx:Cx) (T:Tab):Prop where
 makes:makesIn cx.K cx.C=true
 ini:findIn cx.K (.ref cx.C) "__init__" = some (some (.ref T.ini))
 iniFn:typeIn cx.K (.ref T.ini)=some (.type "function")
 keep:keepIn cx.K (.ref cx.C)=true
noncomputable def j1x (cx:Cx) (g:G) (s:Shared) (σ':Store) (v:AV) (r:Result) (s':Shared):Prop:=match r with
 | .ok (.ret u)=>PX cx g s σ' v u s'
 | _=>False
section
variable {cx:Cx} {T:Tab} {n:Nat} {r:Ev} {C:q0a} {ks:Kinds} {ns:List Str} {env:Env} {g g':G} {vs vs':Vs} {σ σ' σ'':Store} {s s':Shared} {A:Around} {v f:AV} {u uf:Value} {ex:Expr} {x:Str}
theorem q2d {fv:Value} {us:List Value} {kw:List (Str×Value)} (h:codeAny cx.M A (.call fv ⟨us,kw⟩) (j1x cx g s σ' v) s'):wpAny cx.M A (call fv us kw) (PX cx g s σ' v) NoE s':=by
 refine wpAny_call (codeAny_mono h λ r s'' z=>?_)
 rcases r with e|(w|_|_|_)<;>first|exact z|exact z.elim
theorem k8s {a:Addr} {p q:Value} (h:Heap) (e:h.get? a=some (z1f p q)):∃k,(k=Keeper.frame\/k=Keeper.machine\/k=Keeper.boundFrame)/\Looks cx.M h (keeperOf (.ref a)) k:=
 ⟨.machine,.inr (.inl rfl),(Looks.ld (part:=none) e).andThen .now⟩
theorem q3i {id:String} (h:Heap):∃k,(k=Keeper.frame\/k=Keeper.machine\/k=Keeper.boundFrame)/\Looks cx.M h (keeperOf (.builtin id)) k:=⟨.machine,.inr (.inl rfl),.now⟩
theorem z9z {id:String} (h:Heap):∃k,(k=Keeper.frame\/k=Keeper.machine\/k=Keeper.boundFrame)/\Looks cx.M h (keeperOf (.type id)) k:=⟨.machine,.inr (.inl rfl),.now⟩
theorem BI.keeps (b:BI) (h:Heap):∃k,(k=Keeper.frame\/k=Keeper.machine\/k=Keeper.boundFrame)/\Looks cx.M h (keeperOf b.val) k:=by
 rcases b<;>first|exact q3i h|exact z9z h
theorem K_at (H:q6i cx T) (i:Inv cx g σ s) {h:Heap} (k:∀a o,g.I a=some o->h.get? a=some o):cx.K.In h:=H.X.keeps λ b o e=>k _ _ (i.base _ _ e)
theorem w7p (H:q6i cx T) (M:w0l cx T) (Cf:CfOk cx n C) {xs:List AV} {kvs:List (Str×AV)} {res:AV×Store} (e:q0i T C f xs kvs σ'=some res) (i:Inv cx g σ s) (rf:VR cx g f uf) (h:Heap) (k:∀a o,g.I a=some o->h.get? a=some o) :
  ∃k,(k=Keeper.frame\/k=Keeper.machine\/k=Keeper.boundFrame)/\Looks cx.M h (keeperOf uf) k:=by
 have X:=K_at H i k
 revert e rf
 rcases f<;>first
  | exact λ e _=>nope e
  | exact λ e rf=>by subst rf;exact ifE e (λ hc _=>by rw[hc,H.C];exact keeps_K M.keep h X) λ _ e=>keeps_K (Cf.fn e).1 h X
  | exact λ _ rf=>by subst rf;exact BI.keeps _ h
  | exact λ _ rf=>let ⟨_,_,e,hi,_⟩:=rf;e▸k8s h (k _ _ hi)
  | exact λ e rf=>let ⟨_,_,e',hi,_⟩:=rf;e'▸keeps_M (Cf.fn e).2 h ⟨k _ _ hi,X⟩
theorem k9m {h:Heap} {a:Addr} (e:h.get? a=some emptyDict):NsN h a (λ _=>none) 0:=⟨_,#[],_,e,rfl,λ x hx=>by simp at hx,λ _=>rfl,jD _⟩
theorem j8p (H:q6i cx T) (M:w0l cx T) (Cf:CfOk cx n C) (h100:cx.an.length<=100) {xs:List AV} {kvs:List (Str×AV)} {us uk:List Value} (e:z6d T C xs kvs σ=some (v,σ')) (hA:AOk n A) (i:Inv cx g σ s) (q:VRs cx g xs us) (qk:VRs cx g (kvs.map (·.2)) uk) :
  codeAny cx.M A (.call (.ref cx.C) ⟨us,(kvs.map (·.1)).zip uk⟩) (j1x cx g s σ' v) s:=by
 rcases _:bind_some e with⟨⟨w,σ1⟩,e1,e⟩
 dsimp only at e
 split at e
 ·obtain⟨rfl,rfl⟩:=Prod.mk.inj (jI e)
  obtain⟨hh,gs,d,t,os⟩:=s
  have X:=i.X H
  refine make_core (makes_of X M.makes) (looks_findIn X M.ini) (λ self=>bind_fn X self M.iniFn) (.inl rfl) ?_
  have hn:=q0m ⟨hh,gs,d,t,os⟩
  have k1:∀b o,hh.get? b=some o->(hh.push emptyDict).get? b=some o:=λ b o e=>Heap.get?_push_of_some _ e
  have g1:(hh.push emptyDict).get? hh.objs.size=some emptyDict:=Heap.get?_push_size _ rfl
  have o1:OR cx (g.cell hh.objs.size) (hh.push emptyDict) hh.objs.size (.attrs (T.an.map λ _=>none)):=by
   refine⟨λ _=>none,?_,by rw[List.length_map,H.an],h100,λ x v _ hx=>?_,λ _ _=>rfl⟩
   ·have:(T.an.map λ _=>(none:Option AV)).countP (·.isSome)=0:=by rw[List.countP_eq_zero];intro z hz;obtain⟨_,_,rfl⟩:=List.mem_map.mp hz;simp
    simp only[this];exact k9m g1
   ·rw[List.getElem?_map]at hx;rcases _:Option.map_eq_some_iff.mp hx with⟨_,_,hx⟩;contradiction
  have a1:Stp [] g ⟨hh,gs,d,t,os⟩ (g.cell hh.objs.size) ⟨hh.push emptyDict,gs,d,t,os⟩:=.newCell (t:=t) (jD _) hn k1
  have i1:Inv cx (g.cell hh.objs.size) (σ++[.attrs (T.an.map λ _=>none)]) ⟨hh.push emptyDict,gs,d,t,os⟩:=i.newCell (t:=t) (jD _) hn o1 k1
  have hn2:=q0m ⟨hh.push emptyDict,gs,d,t,os⟩
  have hsz:(hh.push emptyDict).objs.size=hh.objs.size+1:=Heap.size_push ..
  have k2:∀b o,(hh.push emptyDict).get? b=some o->((hh.push emptyDict).push (instObj cx.C hh.objs.size)).get? b=some o:=λ b o e=>Heap.get?_push_of_some _ e
  have g2:((hh.push emptyDict).push (instObj cx.C hh.objs.size)).get? (hh.objs.size+1)=some (instObj cx.C hh.objs.size):=by rw[<-hsz];exact Heap.get?_push_size _ rfl
  have hn3:(hh.push emptyDict).get? (hh.objs.size+1)=none:=by rw[<-hsz];exact hn2
  have a2:Stp [] (g.cell hh.objs.size) ⟨hh.push emptyDict,gs,d,t,os⟩ ((g.cell hh.objs.size).freeze (hh.objs.size+1) (instObj cx.C hh.objs.size)) ⟨(hh.push emptyDict).push (instObj cx.C hh.objs.size),gs,d,t,os⟩:=
   .freeze (t:=t) i1 (jD _) hn3 k2
  have i2:=i1.freeze (t:=t) (o:=instObj cx.C hh.objs.size) (jD _) hn3 g2 k2
  have a12:=a1.trans a2
  have self:VR cx ((g.cell hh.objs.size).freeze (hh.objs.size+1) (instObj cx.C hh.objs.size)) (.obj σ.length) (.ref (hh.objs.size+1)):=by
   exact ROb.mk _ _ rfl (G.freeze_self _ _ _) (by rw[<-i.len];exact List.getElem?_concat_length)
  have hw:∀k,(Code.builtin "type.__call__" ⟨.ref cx.C::us,k⟩).weight=1:=λ k=>rfl
  have hc:∀k,(Code.builtin "type.__call__" ⟨.ref cx.C::us,k⟩).cUnits=1:=λ k=>rfl
  refine codeAny_mono (Cf.run e1 (A:=A.under (.builtin "type.__call__" ⟨.ref cx.C::us,(kvs.map (·.1)).zip uk⟩)) ⟨hA.handled,?_,?_⟩ i2 (.cons self (q.mono a12.le)) (qk.mono a12.le)) λ r s' z=>?_
  ·have:=hA.depth;show A.depth+(Code.builtin "type.__call__" ⟨.ref cx.C::us,_⟩).weight+4 * n+6<recursionLimit;rw[hw];exact jB (jE (congrArg (· + 6) (Nat.add_right_comm A.depth 1 (4 * n)))) (jB (Nat.add_le_add_left (by decide:7<=8) _) hA.depth)
  ·have:=hA.units;show A.units+(Code.builtin "type.__call__" ⟨.ref cx.C::us,_⟩).cUnits+60 * n+80<cLine;rw[hc];exact jB (jE (congrArg (· + 80) (Nat.add_right_comm A.units 1 (60 * n)))) (jB (Nat.add_le_add_left (by decide:81<=100) _) hA.units)
  ·rcases r with e|(y|_|_|_)<;>first|exact z.elim|skip
   obtain⟨g',a3,i3,r3⟩:=z
   refine⟨r3.of_none,g',a12.trans a3,i3,self.mono a3.le⟩
 ·contradiction
end
theorem w4w:isSubtype (.type "list") (.type "module")=pure false:=by rw[isSubtype_type];kernel_rfl
theorem w7c:isSubtype (.type "str") (.type "module")=pure false:=by rw[isSubtype_type];kernel_rfl
theorem k0v:∃sig,Manifest.signature? "list.append" = some sig/\∀a b,Bind.checkArgs "list.append" { sig with full:=toString (Bind.lastOf "list")++toString "."++toString (Bind.lastOf "list.append") } ⟨[a,b],[]⟩=pure ():=⟨(Manifest.signature? "list.append").get (by decide +kernel),(Option.some_get _).symm,λ _ _=>by kernel_rfl⟩
theorem k9u:∃sig,Manifest.signature? "str.join" = some sig/\∀a b,Bind.checkArgs "str.join" { sig with full:=toString (Bind.lastOf "str")++toString "."++toString (Bind.lastOf "str.join") } ⟨[a,b],[]⟩=pure ():=⟨(Manifest.signature? "str.join").get (by decide +kernel),(Option.some_get _).symm,λ _ _=>by kernel_rfl⟩
theorem z5r:builtinKind "list.append" = some .method:=by decide +kernel
theorem k3y:builtinKind "str.join" = some .method:=by decide +kernel
section
variable {cx:Cx} {T:Tab} {n:Nat} {r:Ev} {C:q0a} {ks:Kinds} {ns:List Str} {env:Env} {g g':G} {vs vs':Vs} {σ σ' σ'':Store} {s s':Shared} {A:Around} {v f:AV} {u uf:Value} {ex:Expr} {x:Str}
theorem z1g {p:Addr} {k:Nat} {items:Array Value} {y:Value} {Q:Unit->Shared->Prop} {E:Value->Shared->Prop} (ho:s.heap.get? p=some { cls:=.type "list",data:=.seq items k }) (hq:Q () s) :
  wpAny cx.M A (checkBoundCall "list.append" ⟨[.ref p,y],[]⟩) Q E s:=by
 rcases _:k0v with⟨sig,hs,hk⟩
 have hT:s.TypeIs (.ref p) "list":=⟨_,ho,rfl⟩
 have hv:Manifest.varargsMethods.contains "list.append" = false:=by rfl
 simp only[checkBoundCall,hs,z5r,hv]
 refine wpAny_ite_split (λ h=>absurd h (by decide)) λ _=>?_
 refine wpAny_bind (wpAny_isInstance hT w4w ?_)
 refine wpAny_ite_split (λ h=>absurd h (by decide)) λ _=>?_
 refine wpAny_bind ?_
 refine wpAny_bind ?_
 refine wpAny_loadPart ho (wpAny_pure ?_)
 dsimp only
 refine wpAny_ite_split (λ h=>absurd h (by decide)) λ _=>?_
 refine wpAny_bind (wpAny_typeOf hT ?_)
 dsimp only
 rw[hk]
 exact wpAny_pure hq
theorem z9m {p:Str} {t:Tok} {y:Value} {Q:Unit->Shared->Prop} {E:Value->Shared->Prop} (hq:Q () s) :
  wpAny cx.M A (checkBoundCall "str.join" ⟨[.str p t,y],[]⟩) Q E s:=by
 rcases _:k9u with⟨sig,hs,hk⟩
 have hT:s.TypeIs (.str p t) "str":=typeIs_str _ _ _
 have hv:Manifest.varargsMethods.contains "str.join" = false:=by rfl
 simp only[checkBoundCall,hs,k3y,hv]
 refine wpAny_ite_split (λ h=>absurd h (by decide)) λ _=>?_
 refine wpAny_bind (wpAny_isInstance hT w7c ?_)
 refine wpAny_ite_split (λ h=>absurd h (by decide)) λ _=>?_
 refine wpAny_bind ?_
 refine wpAny_bind ?_
 refine wpAny_pure (wpAny_pure ?_)
 refine wpAny_ite_split (λ h=>absurd h (by decide)) λ _=>?_
 refine wpAny_bind (wpAny_typeOf hT ?_)
 dsimp only
 rw[hk]
 exact wpAny_pure hq
theorem j0l {a:Addr} {id:String} {w:Value} {us:List Value} {R:Result->Shared->Prop} (ho:s.heap.get? a=some (z1f (.builtin id) w)) (hq:(Code.builtin id ⟨w::us,[]⟩).quiet=true)
  (h:wpAny cx.M A.in1 (checkBoundCall id ⟨w::us,[]⟩) (λ _ s'=>codeAny cx.M A (.builtin id ⟨w::us,[]⟩) R s') (λ _ _=>False) s):codeAny cx.M A (.call (.ref a) ⟨us,[]⟩) R s:=by
 refine codeAny_of_tree ?_
 show wpAny _ A.in1 (callAny (.ref a) _) _ _ s
 dsimp only[callAny]
 refine wpAny_bind (wpAny_load ho ?_)
 exact wpAny_bind (wpAny_mono h (λ _ s' z=>wpAny_pure ⟨hq,z⟩) λ _ _ z=>z.elim)
theorem k2e {l:Nat} {xs:List AV} {b w:Value} {a:Addr} (hA:AOk n A) (i:Inv cx g σ s) (e:σ[l]? = some (.list xs)) (hz:xs.length<sizeLine) (ho:s.heap.get? a=some (z1f (.builtin "list.append") w)) (ra:VR cx g (.loc l) w) (rb:VR cx g v b) :
  wpAny cx.M A (call (.ref a) [b]) (PX cx g s (σ.set l (.list (xs++[v]))) .none) NoE s:=by
 rcases _:ra.of_loc with⟨p,rfl,hl⟩
 obtain⟨vs,⟨k,hv⟩,q,z⟩:=i.cells _ _ _ e hl
 refine PE.x (wpAny_call (j0l ho (plainId_quiet F.slot_list_append.plain _) (z1g hv (codeAny_builtin F.entry_list_append ?_))))
 show wpAny _ _ (updateSeq p (·.push b) >>= λ _=>ret .none) _ _ s
 refine wpAny_bind ?_
 have hsz:vs.toArray.size<=sizeLine:=by simp only[List.size_toArray,<-q.length];exact z
 refine wpAny_updateSeq hv rfl (wpAny_pure ?_)
 have hp:(s.heap.update p (Obj.mapSeq (·.push b))).PlainList p (vs.toArray.push b):=⟨k+1,by rw[Heap.get?_update_self _ hv (by rfl),Obj.mapSeq_push_plain]⟩
 exact PE.set (o:=.list (xs++[v])) (t:=s.toks) i hl ⟨vs++[b],by simpa using hp,q.append (.cons rb .nil),by simp;assumption⟩ (Heap.SameBut.update ..) .none_
theorem j2y {sep:Str} {xs:List AV} {ts:List Str} {a:Addr} {b w:Value} (hA:AOk n A) (i:Inv cx g σ s) (e:q0r σ v=some xs) (h:q1f xs=some ts) (hz:(ts.map (·.length)).sum+ts.length * sep.length<=sizeLine) (ho:s.heap.get? a=some (z1f (.builtin "str.join") w)) (ra:VR cx g (.str sep) w) (rb:VR cx g v b) :
  wpAny cx.M A (call (.ref a) [b]) (PX cx g s σ (.str (Txt.join sep ts))) NoE s:=by
 rcases _:ra.of_str with⟨t,rfl,_⟩
 rcases _:q0x i e rb with⟨p,vs,rfl,hp,rp,zp⟩
 obtain⟨_,hS⟩:=q3e h rp
 rcases _:w4v hS with⟨l,rfl,rfl⟩
 have hok:JoinOk sep (l.map (·.1))=true:=joinOk_of (by exact hz)
 have hj:=hok
 unfold JoinOk at hj
 refine PE.x (wpAny_call (j0l ho (plainId_quiet F.slot_str_join.plain _) (z9m (codeAny_builtin F.entry_str_join ?_))))
 exact meets_str_join_list sep t p l (by simpa using hj) cx.prog cx.w A (wants (PE cx g s σ (.str (Txt.join sep (l.map (·.1))))) NoE) s ⟨hp.isList,post_join l ⟨joinOk_length hok,λ t' k=>.tok i (.str_ _ (joinOk_length hok)) _⟩⟩
theorem j8l {a f:Addr} {w:Value} {us:List Value} {kw:List (Str×Value)} {R:Result->Shared->Prop} (ho:s.heap.get? a=some (methodObj (.ref f) w))
  (h:codeAny cx.M A (.call (.ref f) ⟨w::us,kw⟩) R s):codeAny cx.M A (.call (.ref a) ⟨us,kw⟩) R s:=by
 refine codeAny_of_tree ?_
 show wpAny _ A.in1 (callAny (.ref a) _) _ _ s
 dsimp only[callAny]
 refine wpAny_bind (wpAny_load ho ?_)
 exact wpAny_pure ⟨rfl,h⟩
theorem pxE {t:Sem Value} {w:AV} {σ1:Store} (h:some (w,σ1)=some (v,σ')) (p:wpAny cx.M A t (PX cx g s σ1 w) NoE s):wpAny cx.M A t (PX cx g s σ' v) NoE s:=by obtain⟨rfl,rfl⟩:=Prod.mk.inj (jI h);exact p
theorem pxM {α:Type} {o:Option α} {fo:α->AV×Store} {t:Sem Value} (h:o.map fo=some (v,σ')) (p:∀a,o=some a->wpAny cx.M A t (PX cx g s (fo a).2 (fo a).1) NoE s):wpAny cx.M A t (PX cx g s σ' v) NoE s:=by
 induction o with
 | none=>exact nope h
 | some a=>
  have q:=p a rfl
  rw[show fo a=(v,σ')from jI h]at q
  exact q
theorem VRs.c1 {x:AV} {us:List Value} {kw:List (Str×Value)} {fv:Value} {Q:Value->Shared->Prop} {E:Value->Shared->Prop} (R:VRs cx g [x] us) (k:∀u,VR cx g x u->wpAny cx.M A (call fv [u] kw) Q E s):wpAny cx.M A (call fv us kw) Q E s:=R.e1 (P:=λ us=>wpAny cx.M A (call fv us kw) Q E s) k
section
variable {g:G} {σ σ':Store} {s:Shared} {A:Around} {v x:AV} {u:Value} {xs:List AV} {us:List Value} {α:Type} {a:α} {P:Prop} {Q:List Value->Prop}
theorem w5n {f:AV->Option α} (R:VRs cx g xs us) (h:(one xs).bind f=some a) (k:∀x u,VR cx g x u->f x=some a->Q [u]):Q us:=match xs,R,h with
 | [x],R,h=>R.e1 λ u r=>k x u r h
 | [],_,h=>nope h
 | _::_::_,_,h=>nope h
theorem k1h {f:AV×AV->Option α} (R:VRs cx g xs us) (h:(two xs).bind f=some a) (k:∀x y u w,VR cx g x u->VR cx g y w->f (x,y)=some a->Q [u,w]):Q us:=match xs,R,h with
 | [x,y],R,h=>R.e2 λ u w r q=>k x y u w r q h
 | [],_,h=>nope h
 | [_],_,h=>nope h
 | _::_::_::_,_,h=>nope h
theorem j5o {f:AV×AV×AV->Option α} (R:VRs cx g xs us) (h:(three xs).bind f=some a) (k:∀x y z u w q,VR cx g x u->VR cx g y w->VR cx g z q->f (x,y,z)=some a->Q [u,w,q]):Q us:=match xs,R,h with
 | [x,y,z],R,h=>R.e3 λ u w q r r' r''=>k x y z u w q r r' r'' h
 | [],_,h=>nope h
 | [_],_,h=>nope h
 | [_,_],_,h=>nope h
 | _::_::_::_::_,_,h=>nope h
theorem z5x {f:Nat->Option α} (r:VR cx g x u) (h:(locV x).bind f=some a) (k:∀l,VR cx g (.loc l) u->f l=some a->P):P:=by
 rcases x<;>first|exact nope h|exact k _ r h
theorem w7b {f:Str->Option α} (r:VR cx g x u) (h:(strV x).bind f=some a) (k:∀l,VR cx g (.str l) u->f l=some a->P):P:=by
 rcases x<;>first|exact nope h|exact k _ r h
theorem z9y {f:Int->Option α} (r:VR cx g x u) (h:(intV x).bind f=some a) (k:∀l,VR cx g (.int l) u->f l=some a->P):P:=by
 rcases x<;>first|exact nope h|exact k _ r h
theorem iv_E {f:AV->Option α} (r:VR cx g x u) (h:(ivV x).bind f=some a) (k:∀l,VR cx g (.iv l) u->f l=some a->P):P:=by
 rcases x<;>first|exact nope h|exact k _ r h
theorem bm_E {f:AV×AV->Option α} (q:VRs cx g xs us) (h:(two (x::xs)).bind f=some a) (k:∀y u,VR cx g y u->f (x,y)=some a->Q [u]):Q us:=match xs,q,h with
 | [y],q,h=>q.e1 λ u r=>k y u r h
 | [],_,h=>nope h
 | _::_::_,_,h=>nope h
end
theorem w0k {kvs:List (Str×AV)} (h:kvs.isEmpty=true) (uk:List Value):(kvs.map (·.1)).zip uk=[]:=by cases kvs<;>simp at h ⊢
theorem z5f (Cf:CfOk cx n C) {a:Addr} {xs:List AV} {kvs:List (Str×AV)} {us uk:List Value} (e:C a xs kvs σ=some (v,σ')) (hA:AOk n A) (i:Inv cx g σ s) (q:VRs cx g xs us) (qk:VRs cx g (kvs.map (·.2)) uk) :
  codeAny cx.M A (.call (.ref a) ⟨us,(kvs.map (·.1)).zip uk⟩) (j1x cx g s σ' v) s:=
 codeAny_mono (Cf.run e hA.call i q qk) λ r s' z=>by rcases r with e|(w|_|_|_)<;>first|exact z|exact z.elim
section
variable (H:q6i cx T) (M:w0l cx T) (B:BiOk cx n) (Cf:CfOk cx n C) (h100:cx.an.length<=100) {xs:List AV} {kvs:List (Str×AV)} {us uk:List Value} (hA:AOk n A) (i:Inv cx g σ s) (q:VRs cx g xs us) (qk:VRs cx g (kvs.map (·.2)) uk)
include H M B Cf h100 hA i q qk
theorem k7i {a:Addr} (e:(if a=T.C then z6d T C xs kvs σ else C a xs kvs σ)=some (v,σ')) (rf:VR cx g (.fn a) uf):wpAny cx.M A (call uf us ((kvs.map (·.1)).zip uk)) (PX cx g s σ' v) NoE s:=by
 subst rf
 exact ifE e (λ hc e=>by rw[hc,H.C];exact q2d (j8p H M Cf h100 e hA i q qk)) λ _ e=>q2d (z5f Cf e hA i q qk)
theorem k7g {b:BI} (e:(if kvs.isEmpty then biA b xs σ else none)=some (v,σ')) (rf:VR cx g (.bf b) uf):wpAny cx.M A (call uf us ((kvs.map (·.1)).zip uk)) (PX cx g s σ' v) NoE s:=by
 subst rf
 exact q0o e λ hk e=>by rw[w0k hk];exact B e hA i q
theorem k7h {b:BI} {x:AV} (e:(if(kvs.isEmpty&&k3v b)=true then biA b (x::xs) σ else none)=some (v,σ')) (rf:VR cx g (.bm b x) uf):wpAny cx.M A (call uf us ((kvs.map (·.1)).zip uk)) (PX cx g s σ' v) NoE s:=by
 obtain⟨a,w,rfl,hi,rw'⟩:=rf
 refine q0o e λ hk e=>?_
 obtain⟨hk,hb⟩:=Bool.and_eq_true_iff.mp hk
 rw[w0k hk]
 have hi:=i.sub _ _ hi
 clear qk hk H M B Cf h100
 revert e hb
 rcases b<;>first
  | exact λ _ hb=>nob hb
  | exact λ e _=>bm_E (Q:=λ us=>wpAny cx.M A (call _ us) _ _ _) q e λ y u h1 e=>z5x rw' e λ l rw' e=>q5f e λ ys hy e=>q0o e λ hz e=>pxE e (k2e hA i hy hz hi rw' h1)
  | exact λ e _=>bm_E (Q:=λ us=>wpAny cx.M A (call _ us) _ _ _) q e λ y u h1 e=>w7b rw' e λ l rw' e=>q6k e λ ys e1 e=>q6k e λ ts e2 e=>q0o e λ hz e=>pxE e (j2y hA i e1 e2 hz hi rw' h1)
theorem k7j {a:Addr} {x:AV} (e:C a (x::xs) kvs σ=some (v,σ')) (rf:VR cx g (.mt a x) uf):wpAny cx.M A (call uf us ((kvs.map (·.1)).zip uk)) (PX cx g s σ' v) NoE s:=by
 obtain⟨a',w,rfl,hi,rw'⟩:=rf
 exact q2d (j8l (i.sub _ _ hi) (z5f Cf e hA i (.cons rw' q) qk))
theorem z1d (e:q0i T C f xs kvs σ=some (v,σ')) (rf:VR cx g f uf):wpAny cx.M A (call uf us ((kvs.map (·.1)).zip uk)) (PX cx g s σ' v) NoE s:=by
 revert e rf
 rcases f<;>first
  | exact λ e _=>nope e
  | exact λ e r=>k7i H M B Cf h100 hA i q qk e r
  | exact λ e r=>k7g H M B Cf h100 hA i q qk e r
  | exact λ e r=>k7h H M B Cf h100 hA i q qk e r
  | exact λ e r=>k7j H M B Cf h100 hA i q qk e r
theorem k1u {c:Callee} {fx:Value×List Value} (e:q0g T C c xs kvs σ=some (v,σ')) (rf:MR cx g c fx) :
  wpAny cx.M A (call fx.1 (fx.2++us) ((kvs.map (·.1)).zip uk)) (PX cx g s σ' v) NoE s:=by
 obtain⟨f1,f2⟩:=fx
 exact match c,e,rf with
 | .val f,e,⟨h1,h2⟩=>by subst h1;exact z1d H M B Cf h100 hA i q qk e h2
 | .fn a x,e,⟨h1,w,h2,h3⟩=>by subst h1;subst h2;exact q2d (z5f Cf e hA i (.cons h3 q) qk)
 | .bi b x,e,⟨h1,w,h2,h3⟩=>by subst h1;subst h2;exact q0o e λ hk e=>by rw[w0k hk];exact B e hA i (.cons h3 q)
end
theorem z5q (H:q6i cx T) (M:w0l cx T) (Cf:CfOk cx n C) {c:Callee} {fx:Value×List Value} {xs:List AV} {kvs:List (Str×AV)} {res:AV×Store} (e:q0g T C c xs kvs σ'=some res) (i:Inv cx g σ s) (rf:MR cx g c fx) (h:Heap) (k:∀a o,g.I a=some o->h.get? a=some o) :
  ∃k,(k=Keeper.frame\/k=Keeper.machine\/k=Keeper.boundFrame)/\Looks cx.M h (keeperOf fx.1) k:=by
 have X:=K_at H i k
 exact match c,e,rf with
 | .val f,e,rf=>w7p H M Cf e i rf.2 h k
 | .fn a x,e,rf=>rf.1▸keeps_K (Cf.fn e).1 h X
 | .bi b x,e,rf=>rf.1▸BI.keeps _ h
end
section
variable {cx:Cx} {T:Tab} {n:Nat} {r:Ev} {C:q0a} {ks:Kinds} {ns:List Str} {env:Env} {g g':G} {vs vs':Vs} {σ σ' σ'':Store} {s s':Shared} {A:Around} {v f:AV} {u uf:Value} {ex:Expr} {x:Str}
theorem z6b {p:Pos} {args:List Expr} {kws:List Keyword} {xs:List AV} {kvs:List (Str×AV)} {σ1:Store} (e1:evals r ks ns args vs σ=some (xs,σ1)) (e2:q8d r ks ns kws vs σ1=some (kvs,σ')) (hz:args.length+kws.length<28) :
  methodCallForm (args.length+kws.length) (backTo p (starEach args env)) (backToKw p (keywordEach kws env))=true:=by
 rcases _:w9d (p:=p) e2 env with⟨k1,k2,k3,k4⟩
 obtain⟨n1,n2⟩:=k4y (p:=p) e1 env
 unfold methodCallForm
 rw[k2]
 have:(backTo p (starEach args env)).all (λ x=>!x.1)=true:=by
  rw[List.all_eq_true];intro y hy
  have:=List.any_eq_false.mp n1 y hy
  simpa using this
 rw[this]
 simp only[Bool.and_self,Bool.true_and,decide_eq_true_eq]
 split<;>decreasing_trivial
theorem k7v (H:q6i cx T) (M:w0l cx T) (B:BiOk cx n) (Cf:CfOk cx n C) (h100:cx.an.length<=100) (R:EOk cx n r.e) (hA:AOk n A) (i:Inv cx g σ s) (E:ER cx ks ns env g vs s) {o:Expr} {ap cp:Pos} {args:List Expr} {kws:List Keyword}
  (hs:q5t o=true) (hl:ap.endLine=cp.line) (hz:args.length+kws.length<28)
  (e:j8k T C r ks ns o x args kws vs σ=some (v,σ')):wpAny cx.M A (eval (.Call (.Attribute o x ap) args kws cp) env) (PX cx g s σ' v) NoE s:=by
 refine q0h e λ w σ1 e1 e=>q6k e λ c e2 e=>q0h e λ xs σ2 e3 e=>q0h e λ kvs σ3 e4 e=>?_
 refine wpAny_bind (w8s hs (q0y R hA i E e1 λ g1 s₁ u1 a1 i1 E1 r1=>wpAny_bind (wpAny_standAt ?_)))
 dsimp only[methodCall]
 rw[z6b e3 e4 hz]
 have hpos:methodCallPos true o env ap cp=pure cp:=by unfold methodCallPos;simp[hl]
 refine wpAny_bind (wpAny_holding ?_)
 (refine wpAny_mono (k4p H i1 r1 e2) (λ fx s₂ zz0=>?_) λ _ _ x=>x;rcases _:zz0 with⟨g2,a2,i2,m2⟩)
 obtain⟨fv,first⟩:=fx
 refine wpAny_bind (wpAny_of_eq hpos ?_)
 refine w2f R hA i2 (E1.go a2) e3 e4 (HP:=λ h=>∀a o,g2.I a=some o->h.get? a=some o) (λ h k=>z5q H M Cf e i2 m2 h k) λ g3 s3 us uk a3 i3 q qk=>⟨λ a o z=>i3.sub _ _ (a3.le.I _ _ z),?_⟩
 have m3:MR cx g3 c (fv,first):=by
  induction c with
  | val w=>exact⟨m2.1,m2.2.mono a3.le⟩
  | fn a o=>obtain⟨h1,w,h2,h3⟩:=m2;exact⟨h1,w,h2,h3.mono a3.le⟩
  | bi b o=>obtain⟨h1,w,h2,h3⟩:=m2;exact⟨h1,w,h2,h3.mono a3.le⟩
 exact PX.lift ((a1.trans a2).trans a3) (k1u H M B Cf h100 hA i3 q qk e m3)
theorem j7c (H:q6i cx T) (M:w0l cx T) (B:BiOk cx n) (Cf:CfOk cx n C) (h100:cx.an.length<=100) (R:EOk cx n r.e) (hA:AOk n A) (i:Inv cx g σ s) (E:ER cx ks ns env g vs s) {o:Expr} {cp:Pos} {args:List Expr} {kws:List Keyword}
  (ho:∀a b c,o≠.Attribute a b c)
  (e:j6u T C r ks ns o args kws vs σ=some (v,σ')):wpAny cx.M A (eval (.Call o args kws cp) env) (PX cx g s σ' v) NoE s:=by
 refine q0h e λ w σ1 e1 e=>q0h e λ xs σ2 e3 e=>q0h e λ kvs σ3 e4 e=>?_
 have arm:eval (.Call o args kws cp) env=(do callWith cp (<-eval o env) [] (backTo cp (starEach args env)) (backToKw cp (keywordEach kws env))):=by
  rcases o<;>first|rfl|exact absurd rfl (ho _ _ _)
 rw[arm]
 refine wpAny_bind (q0y R hA i E e1 λ g1 s₁ u1 a1 i1 E1 r1=>?_)
 refine w2f R hA i1 E1 e3 e4 (HP:=λ h=>∀a o,g1.I a=some o->h.get? a=some o) (λ h k=>w7p H M Cf e i1 r1 h k) λ g3 s3 us uk a3 i3 q qk=>⟨λ a o z=>i3.sub _ _ (a3.le.I _ _ z),?_⟩
 exact PX.lift (a1.trans a3) (z1d H M B Cf h100 hA i3 q qk e (r1.mono a3.le))
theorem k4f {ex:Expr} (i:Inv cx g σ s) (E:ER cx ks ns env g vs s) (e:litN ks ns ex vs=some v):wpAny cx.M A (eval ex env) (PX cx g s σ v) NoE s:=by
 refine optE e λ x h e=>q0o e λ hk e9=>?_
 obtain⟨p,rfl⟩:=w1s h
 obtain⟨h1,h2⟩:=Bool.and_eq_true_iff.mp hk
 simp only[Bool.not_eq_true',Bool.or_eq_false_iff]at h1
 exact z5k E i (z8t h2) h1.1 h1.2 e9
theorem k4e {ex:Expr} (hA:AOk n A) (i:Inv cx g σ s) (E:ER cx ks ns env g vs s) {q:Str} (e:litA ks ns ex vs σ=some q):wpAny cx.M A (eval ex env) (PX cx g s σ (.lit q)) NoE s:=by
 refine optM e (λ c h e=>optE e λ x h2 e=>q0o e λ hz e9=>?_) λ _ e=>optM e (λ _ _ e=>optE e λ w h2 e9=>?_) λ _ e=>optE e λ oq h e=>optE e λ w h2 e=>optE e λ c h3 e=>optE e λ j h4 e=>optE e λ y h5 e9=>?_
 ·obtain⟨k,p,rfl⟩:=q8z h
  obtain rfl:=z7b h2
  obtain rfl:=jI e9
  exact wpAny_Constant_str (j0w i hz)
 ·obtain rfl:=j0v e9
  exact k4f i E h2
 ·obtain rfl:=j0v e9
  obtain⟨o,j'⟩:=oq
  obtain⟨p,rfl⟩:=k6s h
  obtain⟨k,p',rfl⟩:∃k p,j' = .Constant c k p:=q8z h3
  obtain rfl:=j4a h4
  refine wpAny_bind (PX.then (k4f i E h2) λ g1 s₁ u1 a1 i1 r1=>wpAny_bind (wpAny_holding (PX.then (w8x (v:=.int _) (σ:=σ) rfl i1) λ g2 s₂ u2 a2 i2 r2=>wpAny_bind (wpAny_standAt ?_))))
  rcases _:k3r (A:=A) i2 h5 (r1.mono a2.le) r2 with⟨T',id,hT,hl,h⟩
  exact z0u hT hl (PE.up' (a1.trans a2) h)
theorem z2h {ex:Expr} {q:Str} (e:litA ks ns ex vs σ=some q):∀y z,ex≠.Starred y z:=λ y z h=>by subst h;exact nope e
theorem w4q {p:Pos} {a b:Expr} {P:List Value->Shared->Prop} {E:Value->Shared->Prop} (h:wpAny cx.M A (eval a env) (λ u s₁=>wpAny cx.M A (eval b env) (λ w s₂=>P [u,w] s₂) E s₁) E s):wpAny cx.M A (spliced (backTo p [(false,eval a env),(false,eval b env)])) P E s:=by
 refine Calls.spliced_cons (wpAny_mono h (λ u s₁ h1=>Calls.spliced_cons (wpAny_mono h1 (λ w s₂ h2=>Calls.spliced_nil h2) λ _ _ x=>x)) λ _ _ x=>x)
theorem z5w {x y z:Str} (h:x.length+(x.length+1) * z.length<=sizeLine):(Txt.replace x y z).length<=sizeLine:=by
 unfold Txt.replace
 split
 ·exact jA (jG _ _) h
 ·exact fits_replaced y (by exact h)
theorem k2w (R:EOk cx n r.e) (hA:AOk n A) (i:Inv cx g σ s) (E:ER cx ks ns env g vs s) {o a b:Expr} {ap cp:Pos} {p q x:Str} {σ1:Store}
  (hs:q5t o=true) (hl:ap.endLine=cp.line) (e1:r.e ks ns o vs σ=some (.str x,σ1)) (e2:litA ks ns a vs σ1=some p) (e3:litA ks ns b vs σ1=some q) (hc:p≠q/\x.length+(x.length+1) * q.length<=sizeLine) :
  wpAny cx.M A (eval (.Call (.Attribute o ("replace" : Str) ap) [a,b] [] cp) env) (PX cx g s σ1 (.str (Txt.replace x p q))) NoE s:=by
 refine wpAny_bind (w8s hs (q0y R hA i E e1 λ g1 s₁ u1 a1 i1 E1 r1=>wpAny_bind (wpAny_standAt ?_)))
 unfold methodCall
 have st:starEach [a,b] env=[(false,eval a env),(false,eval b env)]:=by rw[q1k (z2h e2),q1k (z2h e3)];rfl
 have hform:methodCallForm ([a,b].length+([]:List Keyword).length) (backTo cp (starEach [a,b] env)) (backToKw cp (keywordEach [] env))=true:=by rw[st];rfl
 rw[hform]
 have hpos:methodCallPos true o env ap cp=pure cp:=by unfold methodCallPos;simp[hl]
 refine wpAny_bind (wpAny_holding ?_)
 rcases _:r1.of_str with⟨t,rfl,tz⟩
 refine z2k ?_
 refine wpAny_bind (wpAny_of_eq hpos ?_)
 refine callWith_of (P:=λ _=>True) (by rw[st];rfl) (λ h _=>q3i h) ?_
 rw[st]
 refine Calls.evalArgs_plain (w4q ?_)
 refine PX.then (k4e hA i1 E1 e2) λ g2 s₂ u2 a2 i2 r2=>PX.then (k4e hA i2 (E1.go a2) e3) λ g3 s3 u3 a3 i3 r3=>⟨trivial,?_⟩
 obtain⟨t2,rfl,z2,τ2,n2⟩:RLit g3 u2 p:=r2.mono a3.le
 obtain⟨t3,rfl,z3,τ3,n3⟩:RLit g3 u3 q:=r3
 refine PE.up' ((a1.trans a2).trans a3) (SC.replace n2 n3 (λ h=>?_) (by simpa using hc.1) (by have:=hc.2;exact this) λ t' k=>.tok i3 (.str_ _ (z5w hc.2)) _)
 rw[h,τ3]at τ2
 exact hc.1 (jI τ2).symm
end
noncomputable def k2b (f:Fn) (args:List AV) (kws:List (Str×AV)):Option (List (Str×AV)):=
 if kws.map (·.1)=f.kws then(z5a f.pars (args++f.dfl)).map λ ps=>ps++f.kwd.map λ kd=>(kd.1,(q0t kd.1 kws).getD kd.2)else none
set_option tactic.hygienic true in noncomputable def q0e (T:Tab):Nat->q0a
 | 0=>λ _ _ _ _=>none
 | n+1=>λ a args kws σ=>do
  let f <-T.fn.lookup a
  let bs <-k2b f args kws
  let ns:=q0f f.scope
  let (fl,_,σ) <-q0w (evN T (q0e T n) 40) f.scope.names ns f.body (bs.foldl (λ vs (x,v)=>putV ns vs x v) (ns.map λ _=>.none)) σ
  match fl with
  | .next=>some (.none,σ)
  | .ret v=>some (v,σ)
theorem z6a {ps:List Str} {us:List Value} (h:ps.length=us.length):(ps.zip us).map (·.1)=ps:=by rw[<-List.unzip_fst,List.unzip_zip h]
noncomputable def pick:List Str->List Value->List (Str×Value)->List (Str×Value)
 | n::ns,d::ds,kw=>(n,(kw.lookup n).getD d)::pick ns ds kw
 | _,_,_=>[]
inductive j0g (cx:Cx) (f:Fn) (fd:FuncData):Prop
 | mk (dv kv:List Value) (hd:∀g:G,(∀a o,cx.h₀.get? a=some o->g.I a=some o)->VRs cx g f.dfl dv/\VRs cx g (f.kwd.map (·.2)) kv)
   (run:∀us uk:List Value,us.length+f.dfl.length=f.pars.length->uk.length=f.kws.length->∀s:Shared,cx.K.In s.heap->BindsTo s fd ⟨us,f.kws.zip uk⟩ (f.pars.zip (us++dv)++pick (f.kwd.map (·.1)) kv (f.kws.zip uk)))
theorem w0b:∀{ps:List Str} {xs:List AV} {bs:List (Str×AV)},z5a ps xs=some bs->ps.length=xs.length/\bs.map (·.1)=ps/\bs.map (·.2)=xs
 | [],[],_,e=>by cases e;exact⟨rfl,rfl,rfl⟩
 | p::ps,x::xs,bs,e=>by
  refine mapQ e λ b e1 h=>?_
  subst h
  obtain⟨h1,h2,h3⟩:=w0b e1
  exact⟨congrArg (· + 1) h1,congrArg (p :: ·) h2,congrArg (x :: ·) h3⟩
 | [],_::_,_,e=>nope e
 | _::_,[],_,e=>nope e
section
variable {cx:Cx} {T:Tab} {n:Nat} {r:Ev} {C:q0a} {ks:Kinds} {ns:List Str} {env:Env} {g g':G} {vs vs':Vs} {σ σ' σ'':Store} {s s':Shared} {A:Around} {v:AV} {u uf:Value} {ex:Expr} {x:Str}
theorem j4g {kws:List (Str×AV)} {uk:List Value} (q:VRs cx g (kws.map (·.2)) uk) (k:Str):(q0t k kws=none/\((kws.map (·.1)).zip uk).lookup k=none)\/∃w u,q0t k kws=some w/\((kws.map (·.1)).zip uk).lookup k=some u/\VR cx g w u:=by
 induction kws generalizing uk with
 | nil=>exact .inl ⟨rfl,rfl⟩
 | cons a kws ih=>
  obtain⟨b,us,rfl,h1,h2⟩:=VRs.uncons (show VRs cx g (a.2::kws.map (·.2)) uk from q)
  obtain⟨k',w⟩:=a
  by_cases hk:k'=k
  ·subst hk;exact .inr ⟨w,b,by simp[q0t],by simp[List.lookup_cons],h1⟩
  ·have hk':(k==k')=false:=beq_false_of_ne λ e=>hk e.symm
   have e1:q0t k ((k',w)::kws)=q0t k kws:=by simp[q0t,hk]
   have e2:((((k',w)::kws).map (·.1)).zip (b::us)).lookup k=((kws.map (·.1)).zip us).lookup k:=by simp[List.lookup_cons,hk']
   rw[e1,e2];exact ih h2
theorem k5i {kws:List (Str×AV)} {uk:List Value} (q:VRs cx g (kws.map (·.2)) uk):∀{kwd:List (Str×AV)} {kv:List Value},VRs cx g (kwd.map (·.2)) kv->
  ∃pv,pick (kwd.map (·.1)) kv ((kws.map (·.1)).zip uk)=(kwd.map (·.1)).zip pv/\VRs cx g (kwd.map λ kd=>(q0t kd.1 kws).getD kd.2) pv
 | [],_,_=>⟨[],rfl,.nil⟩
 | (k,d)::kwd,kv,r=>by
  obtain⟨v,kv,rfl,rv,r⟩:=VRs.uncons (show VRs cx g (d::kwd.map (·.2)) kv from r)
  obtain⟨pv,e,rp⟩:=k5i q r
  rcases j4g q k with⟨f1,f2⟩|⟨w,u,f1,f2,f3⟩
  ·exact⟨v::pv,by show(k,_)::pick _ _ _=_;rw[f2,e];rfl,by rw[List.map_cons,f1];exact .cons rv rp⟩
  ·exact⟨u::pv,by show(k,_)::pick _ _ _=_;rw[f2,e];rfl,by rw[List.map_cons,f1];exact .cons f3 rp⟩
end
section
variable {cx:Cx} {T:Tab} {n:Nat} {r:Ev} {C:q0a} {ks:Kinds} {ns:List Str} {env:Env} {g g':G} {vs vs':Vs} {σ σ' σ'':Store} {s s':Shared} {A:Around} {v:AV} {u uf:Value} {ex:Expr} {x:Str}
theorem w2e {f:Fn} {args:List AV} {kws bs:List (Str×AV)} (e:k2b f args kws=some bs):bs.map (·.1)=f.pars++f.kwd.map (·.1):=by
 refine q0o e λ hk e=>mapE (P:=λ bs=>bs.map (·.1)=f.pars++f.kwd.map (·.1)) e λ ps e1=>?_
 simp only[List.map_append,(w0b e1).2.1,List.map_map];rfl
theorem k2c {f:Fn} {fd:FuncData} (B:j0g cx f fd) (X:cx.K.In s.heap) {args:List AV} {kws:List (Str×AV)} {bs:List (Str×AV)} {us uk:List Value} {P:List (Str×Value)->Shared->Prop} (e:k2b f args kws=some bs) (hI:∀a o,cx.h₀.get? a=some o->g.I a=some o) (q:VRs cx g args us) (qk:VRs cx g (kws.map (·.2)) uk)
  (h:∀ws,VRs cx g (bs.map (·.2)) ws->P ((bs.map (·.1)).zip ws) s):wpAny cx.M A (bindArgs fd ⟨us,(kws.map (·.1)).zip uk⟩) P NoE s:=by
 have hn:=w2e e
 revert h
 rw[hn]
 refine q0o e λ hk e=>mapE (P:=λ bs=>(∀ws,VRs cx g (bs.map (·.2)) ws->P ((f.pars++f.kwd.map (·.1)).zip ws) s)->_) e λ ps e1 h=>?_
 obtain⟨l1,_,l3⟩:=w0b e1
 obtain⟨dv,kv,hd,run⟩:=B
 obtain⟨rd,rk⟩:=hd g hI
 obtain⟨pv,p1,p2⟩:=k5i qk rk
 rw[List.length_append,q.length]at l1
 simp only[List.map_append,l3,List.map_map]at h
 rw[hk]at p1 ⊢
 refine run us uk l1.symm (by simp only[<-hk,List.length_map,<-qk.length,List.length_map]) s X cx.M A NoE P ?_
 rw[p1,<-List.zip_append (by rw[List.length_append,<-rd.length];exact l1)]
 exact h _ ((q.append rd).append p2)
end
structure ScOk (sc:Scope):Prop where
 kind:sc.kind = .function
 free:∀p∈sc.names,p.2≠.free
 co:sc.isCoroutine=false
 gen:sc.isGenerator=false
set_option tactic.hygienic true in theorem q2b:∀(names:List (Str×NameKind)) (n:Nat) (acc:List (Str×Addr)) (x:Str),((x,NameKind.cell)∈names\/∃c,acc.lookup x=some c)->∃c,(cellsFrom n names acc).lookup x=some c
 | [],_,_,_,h=>h.elim (λ h=>by simp at h) id
 | (y,k)::r,n,acc,x,h=>by
  dsimp only[cellsFrom]
  split
  ·refine q2b r _ _ x ?_
   by_cases hx:x=y
   ·subst hx;exact .inr ⟨n,by simp[List.lookup_cons]⟩
   ·rcases h with h|⟨c,h⟩
    ·rcases List.mem_cons.mp h with h|h
     ·rcases h;exact absurd rfl hx
     ·exact .inl h
    ·exact .inr ⟨c,by simp only[List.lookup_cons,beq_false_of_ne hx];exact h⟩
  ·rename_i hk
   refine q2b r _ _ x ?_
   rcases h with h|h
   ·rcases _:List.mem_cons.mp h with h|h
    ·rcases h;exact absurd rfl hk
    ·exact .inl h
   ·exact .inr h
theorem q7m (ns:List Str) (x:Str):q5r ns (ns.map λ _=>none) x=none:=by
 unfold q5r
 rw[List.getElem?_map]
 cases ns[ns.idxOf x]?<;>rfl
section
variable {cx:Cx} {T:Tab} {n:Nat} {r:Ev} {C:q0a} {ks:Kinds} {ns:List Str} {env:Env} {g g':G} {vs vs':Vs} {σ σ' σ'':Store} {s s':Shared} {A:Around} {v:AV} {u uf:Value} {ex:Expr} {x:Str}
theorem z7l {P:PUnit->Shared->Prop} (f:Str×Value->PUnit->Sem (ForInStep PUnit)) (hf:∀n v u,f (n,v) u=(do storeName env n v;pure (.yield ⟨⟩))):∀{bs:List (Str×AV)} {ws:List Value} {g:G} {s:Shared} {vs:Vs},(∀p∈bs,q1v ks p.1=true)->
  Inv cx g σ s->ER cx ks ns env g vs s->VRs cx g (bs.map (·.2)) ws->(∀s',PA cx ks ns env g s (bs.foldl (λ vs (x,v)=>putV ns vs x v) vs) σ s'->P ⟨⟩ s')->wpAny cx.M A (forIn ((bs.map (·.1)).zip ws) ⟨⟩ f) P NoE s
 | [],ws,g,s,vs,_,i,E,q,h=>by
  exact wpAny_pure (h s ⟨g,.refl _ _ _,i,E⟩)
 | (y,w)::bs,ws,g,s,vs,hs,i,E,q,h=>by
  rcases _:VRs.uncons (show VRs cx g (w::bs.map (·.2)) ws from q)with⟨u,us,rfl,h1,h2⟩
  rw[List.map_cons,List.zip_cons_cons,List.forIn_cons,hf]
  refine wpAny_bind (wpAny_bind (w1v i E (hs (y,w) (by simp)) h1 λ s₁ ⟨g1,a1,i1,E1⟩=>wpAny_pure ?_))
  refine z7l f hf (λ p hp=>hs p (by simp[hp])) i1 E1 (h2.mono a1.le) λ s₂ ⟨g2,a2,i2,E2⟩=>h s₂ ⟨g2,a1.trans a2,i2,E2⟩
theorem z8d {sc:Scope} (S:ScOk sc) {qual:Str} {func:Option Addr} {code:Value} (hcd:w7e g code/\((sc.names.lookup ("resolved_names" : Str)).isSome=true->code = .ref cx.lc/\qual=cx.lq)) {bs:List (Str×AV)} {ws:List Value} {P:Env->Shared->Prop} (hs:∀p∈bs,q1v sc.names p.1=true) (i:Inv cx g σ s) (q:VRs cx g (bs.map (·.2)) ws)
  (h:∀env g' s',(∀b∈ownK sc.names env,s.heap.get? b=none)->Stp (ownK sc.names env) g s g' s'->Inv cx g' σ s'->ER cx sc.names (q0f sc) env g' (bs.foldl (λ vs (x,v)=>putV (q0f sc) vs x v) ((q0f sc).map λ _=>none)) s'->P env s') :
  wpAny cx.M A (newFunctionEnv sc cx.gA [] ((bs.map (·.1)).zip ws) qual func code none cx.bA) P NoE s:=by
 have hn:=q0m s
 simp only[newFunctionEnv,Option.isSome_none,Bool.false_eq_true,if_false]
 refine wpAny_bind (wpAny_alloc ?_)
 refine wpAny_bind (wpAny_layCells _ (λ name kind cells=>by rcases hkc:kind==NameKind.cell<;>dsimp[hkc]) _ _ _ _ ?_)
 have ok:=cellsFrom_ok sc.names (s.heap.push { cls:=.type "frame",data:=.dict #[] }) (s.heap.objs.size+1) [] ⟨λ _ _ hm=>(nomatch hm),List.Pairwise.nil⟩ (by simp only[Heap.size_push];exact jD _)
 have k:∀b o,s.heap.get? b=some o->(pushCells (s.heap.push { cls:=.type "frame",data:=.dict #[] }) sc.names).get? b=some o:=λ b o e=>pushCells_keeps _ _ b o (Heap.get?_push_of_some _ e)
 have hns:(pushCells (s.heap.push { cls:=.type "frame",data:=.dict #[] }) sc.names).Ns s.heap.objs.size (λ _=>none):=(Heap.Ns.new s.heap (.type "frame")).keeps (pushCells_keeps _ _)
 have hbig:∀{b:Addr},s.heap.objs.size<=b->s.heap.get? b=none:=λ{b} hb=>by
  generalize q:s.heap.get? b=zzy
  induction zzy with
  | none=>rfl
  | some o=>exact absurd (Heap.lt_size q) (Nat.not_lt.mpr hb)
 generalize hcs:cellsFrom (s.heap.push { cls:=.type "frame",data:=.dict #[] }).objs.size sc.names []=cs at ok
 generalize hh:pushCells (s.heap.push { cls:=.type "frame",data:=.dict #[] }) sc.names=hp at ok k hns
 have a0:Stp [] g s g { s with heap:=hp }:=.keeps (t:=s.toks) (jD _) k
 have i0:Inv cx g σ { s with heap:=hp }:=i.keep (t:=s.toks) (jD _) k
 let env:Env:={ scope:=sc,locals:=s.heap.objs.size,globals:=cx.gA,cells:=cs,qual:=qual,func:=func,code:=code,frame:=some s.heap.objs.size,builtins:=cx.bA }
 have E0:ER cx sc.names (q0f sc) env g ((q0f sc).map λ _=>none) { s with heap:=hp }:=by
  refine⟨S.kind,rfl,rfl,hcd,by simp,λ x=>.inl rfl,λ x hx=>?_,⟨_,hns,λ x v _ e=>by rw[q7m]at e;contradiction⟩,⟨(i.fresh hn).2,(i.fresh hn).1⟩,λ x hx=>?_,λ x y c hx hy=>?_⟩
  ·skip
   rcases hx with hx|hx
   ·exact List.mem_map.mpr ⟨_,List.mem_filter.mpr ⟨mem_of_lookup hx,by rfl⟩,rfl⟩
   ·exact List.mem_map.mpr ⟨_,List.mem_filter.mpr ⟨mem_of_lookup hx,by rfl⟩,rfl⟩
  ·rcases hx with hx|hx
   ·obtain⟨c,hc⟩:=q2b sc.names (s.heap.push { cls:=.type "frame",data:=.dict #[] }).objs.size [] x (.inl (mem_of_lookup hx))
    rw[hcs]at hc
    obtain⟨o1,o2⟩:=ok.empty x c (mem_of_lookup hc)
    have hb:=hbig (b:=c) (jF o2)
    exact⟨c,hc,(i.fresh hb).2,(i.fresh hb).1,(Nat.ne_of_lt o2).symm,none,o1,λ v e=>by rw[q7m]at e;contradiction⟩
   ·exact absurd rfl (S.free _ (mem_of_lookup hx))
  ·exact name_of_addr ok.apart (mem_of_lookup hx) (mem_of_lookup hy)
 refine wpAny_bind (z7l (env:=env) _ (λ _ _ _=>rfl) hs i0 E0 q λ s₁ ⟨g1,a1,i1,E1⟩=>wpAny_pure (h env g1 s₁ (λ b hb=>?_) (a0.own.trans a1) i1 E1))
 rcases List.mem_cons.mp hb with rfl|hb
 ·exact hn
 ·rcases _:List.mem_filterMap.mp hb with⟨⟨y,kk⟩,_,e⟩
  split at e
  ·exact hbig (jF (ok.empty y b (mem_of_lookup e)).2)
  ·contradiction
inductive FnIs (cx:Cx) (a:Addr) (f:Fn):Prop
 | mk (o:Obj) (fd:FuncData) (ho:cx.h₀.get? a=some o) (hd:o.data = .func fd) (hb:fd.body = .stmts f.body) (hs:fd.scope=f.scope) (S:ScOk f.scope) (hg:fd.globals=cx.gA) (hbl:fd.builtins=cx.bA) (hcl:fd.closure=[]) (hc:cx.h₀.CodeRec fd.code fd.qualname)
   (k:keepIn cx.K (.ref a)=true) (n:fnIn cx.K a=true) (l:(f.scope.names.lookup ("resolved_names" : Str)).isSome=true->fd.code = .ref cx.lc/\fd.qualname++".<locals>." = cx.lq) (st:∀p∈f.pars++f.kwd.map (·.1),q1v f.scope.names p=true) (B:j0g cx f fd)
structure FnOk (cx:Cx) (T:Tab):Prop where
 X:cx.K.In cx.h₀
 lim:cx.h₀.NoLimit
 fn:∀a f,T.fn.lookup a=some f->FnIs cx a f
set_option tactic.hygienic true in theorem z7m (F:FnOk cx T) (hEv:∀n,CfOk cx n (q0e T n)->EvOk cx n (evN T (q0e T n) 40)):∀n,CfOk cx n (q0e T n)
 | 0=>CfOk.mk (λ e=>nomatch e) (λ e=>nomatch e)
 | n+1=>by
  have R:=hEv n (z7m F hEv n)
  refine⟨?_,?_⟩
  ·intro a args kws σ v σ' e A g s us uk hA i q qk
   refine q6k e λ f e1 e=>q6k e λ bs e2 e=>?_
   rcases _:bind_some e with⟨⟨fl,vs',σ1⟩,e3,e⟩
   rcases _:F.fn a f e1 with⟨o,fd,ho,hd,hb,hsc,S,hg,hbl,hcl,hcode,_,_,hlam,hst,B⟩
   have room:A.depth<recursionLimit:=hA.droom
   refine codeAny_call_function room (i.keeps0 _ _ ho) hd (by rw[hsc];exact S.co) (by rw[hsc];exact S.gen) hb (hcode.keeps i.keeps0) (k2c (A:=A.in1) B (F.X.keeps i.keeps0) e2 i.base q qk λ ws qw=>?_)
   rw[hsc,hg,hbl,hcl]
   have hst':∀p∈bs,q1v f.scope.names p.1=true:=λ p hp=>hst _ (by rw[<-w2e e2];exact List.mem_map.mpr ⟨p,hp,rfl⟩)
   refine z8d S ⟨let ⟨c,o,fs,_,h1,h2,h3,_⟩:=hcode;⟨c,o,fs,h1,i.base _ _ h2,h3⟩,hlam⟩ hst' i qw λ env g1 s₁ hown a1 i1 E1=>⟨F.lim.keeps i1.keeps0,codeAny_func ?_⟩
   have hA':AOk n (A.deeper env):=hA.deep env
   (refine wpAny_mono (q5n R.s hA' i1 E1 e3) (λ ff s₂ zz0=>?_) λ _ _ x=>x.elim;obtain⟨g2,a2,i2,E2,r2⟩:=zz0)
   have a12:=(a1.trans a2).fresh hown
   induction fl with
   | next=>obtain⟨rfl,rfl⟩:=Prod.mk.inj (jI e);subst r2;exact⟨g2,a12,i2,.none_⟩
   | ret w=>obtain⟨rfl,rfl⟩:=Prod.mk.inj (jI e);obtain⟨u,rfl,r3⟩:=r2;exact⟨g2,a12,i2,r3⟩
  ·intro a args kws σ r e
   refine q6k e λ f e1 e=>?_
   rcases _:F.fn a f e1 with⟨o,fd,_,_,_,_,_,_,_,_,_,h1,h2,_⟩
   exact⟨h1,h2⟩
end
section
variable {cx:Cx} {T:Tab} {n:Nat} {r:Ev} {C:q0a} {ks:Kinds} {ns:List Str} {env:Env} {g g':G} {vs vs':Vs} {σ σ' σ'':Store} {s s':Shared} {A:Around} {v:AV} {u uf:Value} {ex:Expr} {x:Str}
theorem z8u (R:EOk cx n r.e) (hA:AOk n A) {p:Pos}:∀{kk:List (Option Expr)} {vv:List Expr} {kvs:List (Str×AV)} {g:G} {σ:Store} {s:Shared},Inv cx g σ s->ER cx ks ns env g vs s->z1n r ks ns kk vv vs σ=some (kvs,σ')->
  wpAny cx.M A (evalPairs (pairTrees kk vv env p)) (λ prs s₁=>∃g1 us,Stp [] g s g1 s₁/\Inv cx g1 σ' s₁/\VRs cx g1 (kvs.map (·.2)) us/\Carries cx.sk prs ((kvs.map (·.1)).zip us)/\∀kv∈kvs,kv.1.length<=sizeLine) NoE s
 | [],[],kvs,g,σ,s,i,E,e=>by
  obtain⟨rfl,rfl⟩:=Prod.mk.inj (jI e)
  exact pairTrees_nil_walk ⟨g,[],.refl _ _ _,i,.nil,trivial,by trivial⟩
 | some k::kk,w::vv,kvs,g,σ,s,i,E,e=>by
  rcases _:bind_some e with⟨⟨x,σ1⟩,e1,e⟩
  rcases _:bind_some e with⟨⟨y,σ2⟩,e2,e⟩
  dsimp only at e
  split at e
  ·rcases _:bind_some e with⟨⟨rest,σ3⟩,e3,e4⟩
   clear e
   simp only[Option.some.injEq,Prod.mk.injEq]at e4
   obtain⟨e5,e6⟩:=e4
   simp only[e6]at e3
   subst e5
   refine pairTrees_cons_walk (q0y R hA i E e1 λ g1 s₁ u1 a1 i1 E1 r1=>q0y R hA i1 E1 e2 λ g2 s₂ u2 a2 i2 E2 r2=>?_)
   (refine wpAny_mono (z8u R hA i2 E2 e3) (λ prs s3 zz0=>?_) λ _ _ x=>x;rcases _:zz0 with⟨g3,us,a3,i3,q3,c3,z3⟩)
   obtain⟨t,rfl,tz⟩:=r1.of_str
   refine⟨g3,u2::us,(a1.trans a2).trans a3,i3,.cons (r2.mono a3.le) q3,⟨strKind_is _ _ _ t,rfl,c3⟩,λ kv hkv=>?_⟩
   rcases List.mem_cons.mp hkv with rfl|hkv
   ·exact tz
   ·exact z3 kv hkv
  ·contradiction
 | [],_::_,_,_,_,_,_,_,e=>by trivial
 | none::_,_,_,_,_,_,_,_,e=>by trivial
 | some _::_,[],_,_,_,_,_,_,e=>by trivial
theorem w2k:∀{kk:List (Option Expr)} {vv:List Expr} {kvs:List (Str×AV)} {σ:Store},z1n r ks ns kk vv vs σ=some (kvs,σ')->kk.all (·.isSome)=true/\kk.length=vv.length/\kk.length=kvs.length
 | [],[],kvs,σ,e=>by obtain⟨rfl,rfl⟩:=Prod.mk.inj (jI e);exact⟨rfl,rfl,rfl⟩
 | some k::kk,w::vv,kvs,σ,e=>by
  rcases _:bind_some e with⟨⟨x,σ1⟩,e1,e⟩
  rcases _:bind_some e with⟨⟨y,σ2⟩,e2,e⟩
  dsimp only at e
  split at e
  ·obtain⟨⟨rest,σ3⟩,e3,e4⟩:=bind_some e
   clear e
   simp only[Option.some.injEq,Prod.mk.injEq]at e4
   obtain⟨e5,e6⟩:=e4
   rw[e6]at e3
   subst e5
   rcases _:w2k e3 with⟨h1,h2,h3⟩
   exact⟨by exact h1,by simpa using h2,by simpa using h3⟩
  ·contradiction
 | [],_::_,_,_,e=>by simp[z1n]at e
 | none::_,_,_,_,e=>by simp[z1n]at e
 | some _::_,[],_,_,e=>by simp[z1n]at e
theorem w7u:∀{us:List Value} {kvs acc:List (Str×AV)} {ua:List Value},VRs cx g (kvs.map (·.2)) us->VRs cx g (acc.map (·.2)) ua->
  ∃ws,merged ((acc.map (·.1)).zip ua) ((kvs.map (·.1)).zip us)=((kvs.foldl (λ a kv=>q1a kv.1 kv.2 a) acc).map (·.1)).zip ws/\VRs cx g ((kvs.foldl (λ a kv=>q1a kv.1 kv.2 a) acc).map (·.2)) ws
 | us,[],acc,ua,q,qa=>by exact⟨ua,rfl,qa⟩
 | us,(k,w)::kvs,acc,ua,q,qa=>by
  rcases _:VRs.uncons (show VRs cx g (w::kvs.map (·.2)) us from q)with⟨u,us,rfl,h1,h2⟩
  rcases _:w4s (k:=k) qa h1 with⟨us',e1,q1⟩
  obtain⟨ws,e2,q2⟩:=w7u h2 q1
  refine⟨ws,?_,q2⟩
  simp only[List.foldl_cons,<-e2,<-e1];rfl
theorem q6p:∀{kvs acc:List (Str×AV)},(kvs.foldl (λ a kv=>q1a kv.1 kv.2 a) acc).length<=acc.length+kvs.length
 | [],acc=>by simp
 | kv::kvs,acc=>by
  simp only[List.foldl_cons]
  have:=q6p (kvs:=kvs) (acc:=q1a kv.1 kv.2 acc)
  have:=q5p (v:=kv.2) kv.1 acc
  exact jA ‹_› (jA (Nat.add_le_add_right this _) (jE (by rw[List.length_cons,Nat.add_right_comm];rfl)))
theorem q6g:∀{kvs acc:List (Str×AV)},(∀kv∈acc,kv.1.length<=sizeLine)->(∀kv∈kvs,kv.1.length<=sizeLine)->∀kv∈kvs.foldl (λ a kv=>q1a kv.1 kv.2 a) acc,kv.1.length<=sizeLine
 | [],acc,h,_=>h
 | kv::kvs,acc,h,hk=>by
  simp only[List.foldl_cons]
  exact q6g (q8t h (hk kv (by simp))) λ kv' hkv'=>hk kv' (by simp[hkv'])
theorem w7h {h:Heap} (D:Addr) (hD:h.get? D=some { cls:=.type "dict",data:=.dict #[] }):h.DictOf cx.sk D []:=
 ⟨_,#[],0,hD,⟨rfl,rfl,rfl⟩,rfl,λ _ he=>by simp at he,.nil,by trivial⟩
set_option tactic.hygienic true in theorem j7d (H:GlOk cx T) (R:EOk cx n r.e) (hA:AOk n A) (i:Inv cx g σ s) (E:ER cx ks ns env g vs s) {kk:List (Option Expr)} {vv:List Expr} {p:Pos}
  (e:(do
   let (kvs,σ) <-z1n r ks ns kk vv vs σ
   if kk.length<=15 then q1z (T.mu p.line) (q2n kvs) σ else none)=some (v,σ')):wpAny cx.M A (eval (.Dict kk vv p) env) (PX cx g s σ' v) NoE s:=by
 rcases _:bind_some e with⟨⟨kvs,σ1⟩,e1,e⟩
 dsimp only at e
 split at e
 rotate_left
 ·contradiction
 rename_i hz
 rcases _:w2k e1 with⟨h1,h2,h3⟩
 have hn:=q0m s
 have hmod:(s.heap.objs.size==sysModules)=false:=by
  rcases _:H.mods with⟨b,o,hb,ho⟩
  have:=Heap.lt_size (i.keeps0 _ _ ho)
  exact beq_false_of_ne (Nat.ne_of_gt (jB hb this))
 have k:∀b o,s.heap.get? b=some o->(s.heap.push { cls:=.type "dict",data:=.dict #[] }).get? b=some o:=λ b o e=>Heap.get?_push_of_some _ e
 have a0:Stp [] g s g { s with heap:=s.heap.push { cls:=.type "dict",data:=.dict #[] } }:=.keeps (t:=s.toks) (jD _) k
 have i0:Inv cx g σ { s with heap:=s.heap.push { cls:=.type "dict",data:=.dict #[] } }:=i.keep (t:=s.toks) (jD _) k
 have hD:(s.heap.push { cls:=.type "dict",data:=.dict #[] }).get? s.heap.objs.size=some { cls:=.type "dict",data:=.dict #[] }:=Heap.get?_push_size _ rfl
 have fin:∀{g1:G} {s₁:Shared} {us:List Value} {h':Heap} {t:Nat},Stp [] g { s with heap:=s.heap.push { cls:=.type "dict",data:=.dict #[] } } g1 s₁->Inv cx g1 σ1 s₁->VRs cx g1 ((q2n kvs).map (·.2)) us->(∀kv∈kvs,kv.1.length<=sizeLine)->
   h'.DictOf cx.sk s.heap.objs.size (((q2n kvs).map (·.1)).zip us)->Heap.SameBut s.heap.objs.size s₁.heap h'->s₁.toks<=t->PX cx g s σ' v (.ref s.heap.objs.size) { s₁ with heap:=h',toks:=t }:=by
  intro g1 s₁ us h' t a1 i1 q hk hd hs ht
  have n1:s.heap.objs.size∉g1.ρ:=a1.new _ _ hD (i.fresh hn).2
  have n2:g1.I s.heap.objs.size=none:=a1.newI _ _ hD (i.fresh hn).1
  have a2:Stp [s.heap.objs.size] g1 s₁ g1 { s₁ with heap:=h',toks:=t }:=.write ht (by simp) hs (let ⟨o,_,_,ho,_⟩:=hd;⟨o,ho⟩)
  have i2:Inv cx g1 σ1 { s₁ with heap:=h',toks:=t }:=i1.write ht n1 n2 hs
  have a3:Stp [] g s g1 { s₁ with heap:=h',toks:=t }:=((a0.trans a1).own.trans a2).fresh (by simp[hn])
  obtain⟨g3,_,b1,b2,b3,_⟩:=z7y a3 i2 ⟨us,hd,q,hmod,jA q6p (by simp only[sizeLine_eq];simp;lia),q6g (by simp) hk⟩ n1 n2 hn e
  exact⟨g3,b1,b2,b3⟩
 by_cases h0:kk=[]
 ·subst h0
  have hv:vv=[]:=List.length_eq_zero_iff.mp (by exact h2.symm)
  subst hv
  obtain⟨rfl,rfl⟩:=Prod.mk.inj (jI e1)
  refine wpAny_Dict_empty ?_
  exact fin (s₁:={ s with heap:=s.heap.push { cls:=.type "dict",data:=.dict #[] } }) (t:=s.toks) (.refl _ _ _) i0 .nil (by simp) (w7h _ hD) (Heap.SameBut.refl ..) (jD _)
 ·(refine wpAny_Dict_walk (knd:=cx.sk) h1 h2 h0 hz (wpAny_mono (z8u R hA i0 (E.go a0) e1) (λ prs s₁ zz0=>?_) λ _ _ x=>x);rcases _:zz0 with⟨g1,us,a1,i1,q,c,hk⟩)
  refine⟨_,c,w7h _ (a1.keep _ _ hD (i.fresh hn).2 (by simp)),λ h' hd hs=>?_⟩
  rcases _:w7u (acc:=[]) (ua:=[]) q .nil with⟨ws,m1,m2⟩
  simp only[show([]:List (Str×Value))=(([]:List (Str×AV)).map (·.1)).zip []from rfl,m1]at hd
  exact fin a1 i1 m2 hk hd hs (by simp +arith [*])
end
structure k7c (cx:Cx) (n:Nat) (t:SetTable):Prop where
 led:cx.w.params.followText "set-order" = false->t.led=true
 plain:1<=n->t.plain=false
 zero:n=0->t.mask=7/\t.place = #[]/\t.dummies = #[]
 one:n=1->t.mask=7/\t.dummies = #[]
inductive q3f (cx:Cx) (h:Heap) (a:Addr) (ks:List Str):Prop
 | mk (o:Obj) (es:Array (Int×Value)) (ep:Nat) (t:SetTable) (ho:h.get? a=some o) (hx:o.ExactSet) (hd:o.data = .set es ep t) (hel:ElemsOf cx.sk es.toList) (hm:∀k,ks.contains k=true↔∃e∈es.toList,cx.sk.is k e.2=true)
   (hb:es.size<scanBound) (hf:t.fits es.size=true) (hn:es.size=ks.length) (hnd:ks.Nodup) (hz:∀k∈ks,k.length<=sizeLine) (ht:k7c cx es.size t)
theorem w9p (t:SetTable) (n:Nat):(t.orStandIn n).led=t.led:=by unfold SetTable.orStandIn;split<;>rfl
theorem w3c {t:SetTable} {n:Nat} (h:t.plain=false):(t.orStandIn n).plain=false:=by unfold SetTable.orStandIn;split<;>first|exact h|rfl
theorem k0b (t:SetTable) (es:Array (Int×Value)) (h:Int) (x:Value):(layNew t es h x).2.1.led=t.led:=by
 unfold layNew
 split
 ·exact w9p _ _
 ·rfl
theorem z2d {t:SetTable} (es:Array (Int×Value)) (h:Int) (x:Value) (hp:t.plain=false):(layNew t es h x).2.1.plain=false:=by
 unfold layNew
 split
 ·exact w3c hp
 ·rfl
theorem k8w {mask finger moves:Nat} {led plain:Bool} {hs:Array Int} {r:SetTable×Array Nat} (h:SetTable.laid mask finger moves led plain hs=some r):r.1.led=led/\r.1.plain=plain:=by
 rcases _:bind_some h with⟨o,_,h⟩
 obtain rfl:=jI h
 exact⟨rfl,rfl⟩
set_option tactic.hygienic true in theorem z2v (t:SetTable) (es:Array (Int×Value)) (wanted:Nat):(relayAll t es wanted).2.1.led=t.led/\(t.plain=false->(relayAll t es wanted).2.1.plain=false):=by
 unfold relayAll
 split
 ·rename_i t' order h
  have:=k8w h
  dsimp only
  split
  ·exact⟨this.1,λ hp=>this.2.trans hp⟩
  ·exact⟨rfl,λ _=>rfl⟩
 ·exact⟨rfl,λ _=>rfl⟩
theorem k0x {t:SetTable} (hp:t.place = #[]) (hd:t.dummies = #[]) (j:Nat):t.slot j = .empty:=by
 dsimp only[SetTable.slot,SetTable.has]
 rw[hp,hd]
 rfl
theorem w5g {t:SetTable} (h:Int) (hp:t.place = #[]) (hd:t.dummies = #[]):∃j,t.freeSlot h=some (j,false):=by
 delta SetTable.freeSlot SetTable.probe
 have hf:∃f,10 * SetTable.turns t.mask=f+1:=⟨10 * SetTable.turns t.mask - 1,by rfl⟩
 obtain⟨f,hf⟩:=hf
 rw[hf]
 dsimp only[SetTable.probe.go]
 simp only[k0x hp hd]
 exact⟨_,rfl⟩
theorem z2c {t:SetTable} (h:Int) (x:Value) (hm:t.mask=7) (hp:t.place = #[]) (hd:t.dummies = #[]) :
  (layNew t #[] h x).2.1.mask=7/\(layNew t #[] h x).2.1.dummies = #[]/\(layNew t #[] h x).2.1.place.size=1:=by
 rcases _:w5g (t:=t) h hp hd with⟨j,hj⟩
 unfold layNew
 rw[hj]
 have hput:(t.put j).1.mask=7/\(t.put j).1.dummies = #[]/\(t.put j).1.place.size=1:=by
  dsimp only[SetTable.put,SetTable.has,SetTable.insertAt]
  rw[hp,hd]
  trivial
 have hfit:(t.put j).1.fits 1=true:=by
  delta SetTable.fits SetTable.fill
  simp only[hput.1,hput.2.1,hput.2.2];rfl
 dsimp only
 have hsz:(SetTable.insertAt (#[]:Array (Int×Value)) (t.put j).2 (h,x)).size=1:=by unfold SetTable.insertAt;simp
 rw[hsz]
 unfold SetTable.orStandIn
 rw[if_pos hfit]
 exact hput
section
variable {cx:Cx} {T:Tab} {n:Nat} {r:Ev} {C:q0a} {ks:Kinds} {ns:List Str} {env:Env} {g g':G} {vs vs':Vs} {σ σ' σ'':Store} {s s':Shared} {A:Around} {v:AV} {u uf:Value} {ex:Expr} {x:Str} {E:Value->Shared->Prop}
theorem q3f.new {led:Bool} {h:Heap} {a:Addr} (ho:h.get? a=some { cls:=.type "set",dict:=none,data:=.set #[] 0 (.fresh 0 0 led) }) (hl:cx.w.params.followText "set-order" = false->led=true):q3f cx h a []:=
 ⟨_,#[],0,_,ho,⟨rfl,rfl,rfl⟩,rfl,λ e he=>by simp at he,λ k=>by simp,by decide,rfl,rfl,.nil,by trivial,hl,by simp,λ _=>⟨rfl,rfl,rfl⟩,by simp⟩
theorem k4x {Q:Value->Shared->Prop} (h:∀led:Bool,(cx.w.params.followText "set-order" = false->led=true)->Q (.ref s.heap.objs.size) { s with heap:=s.heap.push { cls:=.type "set",dict:=none,data:=.set #[] 0 (.fresh 0 0 led) } }) :
  wpAny cx.M A (newSet (.type "set")) Q E s:=by
 dsimp only[newSet,setsByText]
 refine wpAny_bind (wpAny_bind (wpAny_askSetting (wpAny_pure ?_)))
 exact wpAny_bind (wpAny_alloc (wpAny_pure (h _ λ hl=>by show(!cx.w.params.followText "set-order")=true;rw[hl];rfl)))
theorem z9c {h:Heap} {a:Addr} {o:Obj} {es:Array (Int×Value)} {ep:Nat} {t:SetTable} (ho:h.get? a=some o) (hex:o.ExactSet) (hd:o.data = .set es ep t)
  {es':Array (Int×Value)} {t':SetTable} {kk:List Str} (hel:ElemsOf cx.sk es'.toList) (hmem:∀k,kk.contains k=true↔∃e∈es'.toList,cx.sk.is k e.2=true) (hb:es'.size<scanBound) (hf:t'.fits es'.size=true)
  (hn:es'.size=kk.length) (hnd:kk.Nodup) (hz:∀k∈kk,k.length<=sizeLine) (ht:k7c cx es'.size t') :
  (h.update a (Obj.putSet es' t')).get? a=some { o with data:=.set es' (ep+1) t' }/\q3f cx (h.update a (Obj.putSet es' t')) a kk:=by
 have hg:(h.update a (Obj.putSet es' t')).get? a=some { o with data:=.set es' (ep+1) t' }:=by
  have:=Heap.get?_update_self (Obj.putSet es' t') ho (by rw[putSet_of es' t' hd];rfl)
  rw[putSet_of es' t' hd]at this;exact this
 exact⟨hg,_,es',ep+1,t',hg,hex,rfl,hel,hmem,hb,hf,hn,hnd,hz,ht⟩
theorem k7d {k:Str} {kk:List Str} (h:kk.contains k=false):addK k kk=kk++[k]:=by unfold addK;rw[h];rfl
theorem k7e {k:Str} {kk:List Str} (h:kk.contains k=true):addK k kk=kk:=by unfold addK;rw[h];rfl
set_option tactic.hygienic true in theorem w0m {a:Addr} {kk:List Str} {k:Str} {tk:Tok} {Q:Bool->Shared->Prop} (H:q3f cx s.heap a kk) (hz:k.length<=sizeLine) (hroom:kk.length+1<scanBound)
  (h:∀b h',Heap.SameBut a s.heap h'->q3f cx h' a (addK k kk)->Q b { s with heap:=h' }):wpAny cx.M A (setAddHashed a (.str k tk) (cx.sk.hash k)) Q E s:=by
 have hkey:cx.sk.is k (.str k tk)=true:=strKind_is _ _ _ _
 have hsc:(Value.str k tk).scannable=true:=rfl
 rcases _:H with⟨o,es,ep,t,ho,hex,hd,hel,hmem,hb,hf,hn,hnd,hkz,ht⟩
 have hb1:es.size+1<scanBound:=by rw[hn];exact hroom
 refine wpAny_holding (wpAny_bind (wpAny_setState_of ho hd hf ?_))
 dsimp only
 rw[byScan_of hsc hb hel]
 refine wpAny_bind ?_
 refine wpAny_bind (wpAny_rule ?_)
 refine wpAny_bind (wpAny_setScan_of hkey ho hd hf hel ?_)
 generalize hr:List.findIdx? (λ e=>cx.sk.is k e.2) es.toList=zzy
 induction zzy with
 | some j=>
  rcases _:List.findIdx?_eq_some_iff_getElem.mp hr with⟨hj,hpj,_⟩
  have hSk:kk.contains k=true:=(hmem k).mpr ⟨es.toList[j],List.getElem_mem hj,hpj⟩
  refine wpAny_pure (wpAny_pure ?_)
  have e:s={ s with heap:=s.heap }:=by rcases s;rfl
  refine h _ s.heap (Heap.SameBut.refl a s.heap) ?_
  simp only[k7e hSk]
  exact⟨o,es,ep,t,ho,hex,hd,hel,hmem,hb,hf,hn,hnd,hkz,ht⟩
 | none=>
  have hSk:kk.contains k=false:=by
   cases hk:kk.contains k with
   | false=>rfl
   | true=>obtain⟨e,he,hp⟩:=(hmem k).mp hk;have:=List.findIdx?_eq_none_iff.mp hr e he;rw[hp]at this;exact Bool.noConfusion this
  have hgw:∀(b:Bool) {s₁:Shared} {Q':Unit->Shared->Prop},Q' () s₁->wpAny cx.M A (match b with|true=>rule "set.scan.the-table-gave-way" | false=>pure ()) Q' E s₁:=
   λ b s₁ Q' hq=>by rcases b<;>first|exact wpAny_pure hq|exact wpAny_rule hq
  have hperm:=layNew_perm t es (cx.sk.hash k) (.str k tk)
  have hfits:=layNew_fits t es (cx.sk.hash k) (.str k tk)
  have hled:=k0b t es (cx.sk.hash k) (.str k tk)
  have hpl:=λ hp=>z2d (t:=t) es (cx.sk.hash k) (.str k tk) hp
  have hfirst:es.size=0->(layNew t es (cx.sk.hash k) (.str k tk)).2.1.mask=7/\(layNew t es (cx.sk.hash k) (.str k tk)).2.1.dummies = #[]/\(layNew t es (cx.sk.hash k) (.str k tk)).2.1.place.size=1:=λ h0=>by
   have:es = #[]:=Array.size_eq_zero_iff.mp h0
   subst this
   rcases _:ht.zero rfl with⟨z1,z2,z3⟩
   exact z2c _ _ z1 z2 z3
  generalize hL:layNew t es (cx.sk.hash k) (.str k tk)=L at hperm hfits hled hpl hfirst ⊢
  obtain⟨es1,t1,wasDummy,gave⟩:=L
  dsimp only at hperm hfits hled hpl hfirst ⊢
  simp only[Array.toList_push]at hperm
  have hel1:ElemsOf cx.sk es1.toList:=(hel.push hkey hsc).perm hperm
  have hmem1:∀k',(addK k kk).contains k'=true↔∃e∈es1.toList,cx.sk.is k' e.2=true:=λ k'=>by
   simp only[q8x];exact mem_push_iff hkey hmem hperm k'
  have hsz1:es1.size=es.size+1:=by rw[<-Array.length_toList,hperm.length_eq,List.length_append,Array.length_toList];rfl
  have hb1':es1.size<scanBound:=by rw[hsz1];exact hb1
  have hlen:es1.size=(addK k kk).length:=by simp only[q8b,hSk,hsz1,hn];rfl
  have hndp:(addK k kk).Nodup:=w7f hnd
  have hzz:∀y∈addK k kk,y.length<=sizeLine:=λ y hy=>by
   rw[k7d hSk]at hy
   rcases List.mem_append.mp hy with hy|hy
   ·exact hkz y hy
   ·rw[List.mem_singleton]at hy;cases hy;exact hz
  refine wpAny_bind (hgw _ ?_)
  have fin:∀t2:SetTable,t2.fits es1.size=true->(cx.w.params.followText "set-order" = false->t2.led=true)->t2.plain=false->(es.size=0->t2.mask=7/\t2.dummies = #[])->
    ∀{R:Option Bool->Shared->Prop},(∀h',Heap.SameBut a s.heap h'->q3f cx h' a (addK k kk)->R (some true) { s with heap:=h' })->
    wpAny cx.M A (do
     storeSet a es1 t2
     if(!wasDummy&&t2.tooFull)=true then do
       (match (relayAll t2 es1 (SetTable.grown es1.size)).2.2 with|true=>rule "set.scan.the-table-gave-way" | false=>pure ())
       storeSet a (relayAll t2 es1 (SetTable.grown es1.size)).1 (relayAll t2 es1 (SetTable.grown es1.size)).2.1
       pure (some true)
      else pure (some true)) R E s:=by
   intro t2 hf2 hl2 hp2 hm2 R hR
   have T1:k7c cx es1.size t2:=⟨hl2,λ _=>hp2,λ h0=>by(simp_all +arith),λ h1=>hm2 (by(simp_all +arith))⟩
   refine wpAny_bind (wpAny_storeSet_of ho hd ?_ (fits_of_scanBound hb1'))
   obtain⟨ho1,hS1⟩:=z9c ho hex hd hel1 hmem1 hb1' hf2 hlen hndp hzz T1
   have hsb1:=Heap.SameBut.update s.heap a (Obj.putSet es1 t2)
   split
   ·rename_i hfull
    have hp:=relayAll_perm t2 es1 (SetTable.grown es1.size)
    have hfr:=relayAll_fits t2 es1 (SetTable.grown es1.size)
    have hrl:=z2v t2 es1 (SetTable.grown es1.size)
    have hbig:es.size≠0:=λ h0=>by
     have hm:=hm2 h0
     have hpz:t2.place.size=es1.size:=by simp only[SetTable.fits,Bool.and_eq_true,beq_iff_eq]at hf2;exact hf2.1
     simp only[SetTable.tooFull,SetTable.fill,hm.1,hm.2,hpz,hsz1,h0,Bool.and_eq_true,decide_eq_true_eq]at hfull
     have:=hfull.2
     trivial
    generalize hRl:relayAll t2 es1 (SetTable.grown es1.size)=Rl at hp hfr hrl ⊢
    obtain⟨es2,t3,gave2⟩:=Rl
    dsimp only at hp hfr hrl ⊢
    have hel2:ElemsOf cx.sk es2.toList:=hel1.perm hp
    have hmem2:∀k',(addK k kk).contains k'=true↔∃e∈es2.toList,cx.sk.is k' e.2=true:=λ k'=>(hmem1 k').trans ⟨λ⟨e,he,q⟩=>⟨e,hp.mem_iff.mpr he,q⟩,λ⟨e,he,q⟩=>⟨e,hp.mem_iff.mp he,q⟩⟩
    have hsz:es2.size=es1.size:=by rw[<-Array.length_toList,hp.length_eq,Array.length_toList]
    have hb2:es2.size<scanBound:=by rw[hsz];exact hb1'
    have T2:k7c cx es2.size t3:=⟨λ hl=>hrl.1.trans (hl2 hl),λ _=>hrl.2 hp2,λ h0=>by(simp_all +arith),λ h1=>by(simp_all +arith)⟩
    have tailw:wpAny cx.M A (do
      storeSet a es2 t3
      pure (some true)) R E { s with heap:=s.heap.update a (Obj.putSet es1 t2) }:=by
     refine wpAny_bind (wpAny_storeSet_of ho1 rfl ?_ (fits_of_scanBound hb2))
     obtain⟨_,hS2⟩:=z9c ho1 hex rfl hel2 hmem2 hb2 hfr (hsz.trans hlen) hndp hzz T2
     exact wpAny_pure (hR _ (hsb1.trans (Heap.SameBut.update _ a _)) hS2)
    refine wpAny_bind (by rcases gave2<;>first|exact wpAny_pure tailw|exact wpAny_rule tailw)
   ·exact wpAny_pure (hR _ hsb1 hS1)
  have ledok:cx.w.params.followText "set-order" = false->t1.led=true:=λ hl=>hled.trans (ht.led hl)
  have mok:es.size=0->t1.mask=7/\t1.dummies = #[]:=λ h0=>⟨(hfirst h0).1,(hfirst h0).2.1⟩
  split
  ·refine wpAny_bind ?_
   refine wpAny_pure ?_
   refine fin { t1 with plain:=false } (SetTable.fits_plain_off hfits) ledok rfl mok λ h' hsb hS'=>?_
   skip;exact wpAny_pure (h _ h' hsb hS')
  ·rename_i hpf
   refine wpAny_bind (wpAny_pure ?_)
   refine fin t1 hfits ledok (by simpa using hpf) mok λ h' hsb hS'=>?_
   skip;exact wpAny_pure (h _ h' hsb hS')
theorem j0i {a:Addr} {kk:List Str} {k:Str} {tk:Tok} {Q:Bool->Shared->Prop} (H:q3f cx s.heap a kk) (hz:k.length<=sizeLine) (hroom:kk.length+1<scanBound)
  (h:∀b h',Heap.SameBut a s.heap h'->q3f cx h' a (addK k kk)->Q b { s with heap:=h',toks:=s.toks+1 }):wpAny cx.M A (setAdd a (.str k tk)) Q E s:=by
 unfold setAdd
 refine wpAny_holding (wpAny_bind (cx.sk.pyHash (strKind_is _ _ _ _) ?_))
 exact w0m (s:={ s with toks:=s.toks+1 }) H hz hroom h
end
theorem z0t:isSubtype (.type "dict") (.type "set")=pure false:=by rw[isSubtype_type];kernel_rfl
theorem q8v:isSubtype (.type "dict") (.type "frozenset")=pure false:=by rw[isSubtype_type];kernel_rfl
theorem w1x (kk ts:List Str) (k:Str):q1i kk (ts++[k])=addK k (q1i kk ts):=by unfold q1i;rw[List.foldl_append];rfl
theorem q7k (ts:List Str):∀kk:List Str,(q1i kk ts).length<=kk.length+ts.length:=by
 unfold q1i
 induction ts with
 | nil=>intro kk;simp
 | cons t ts ih=>
  intro kk
  simp only[List.foldl_cons]
  have:=ih (addK t kk)
  have h2:=q8b t kk
  exact jA this (jA (Nat.add_le_add_right (jA (jE h2) (by split;exact Nat.le_succ _;exact jD _)) _) (jE (Nat.succ_add_eq_add_succ _ _)))
theorem q6q {cx:Cx} {k:Str} {v:Value} (h:cx.sk.is k v=true):∃t,v = .str k t:=Value.isStrOf_shape h
section
variable {cx:Cx} {T:Tab} {n:Nat} {r:Ev} {C:q0a} {ks:Kinds} {ns:List Str} {env:Env} {g g':G} {vs vs':Vs} {σ σ' σ'':Store} {s s':Shared} {A:Around} {v:AV} {u uf:Value} {ex:Expr} {x:Str} {E:Value->Shared->Prop}
theorem q3f.at {h h':Heap} {a:Addr} {kk:List Str} (H:q3f cx h a kk) (k:∀o,h.get? a=some o->h'.get? a=some o):q3f cx h' a kk:=
 let ⟨o,es,ep,t,h1,a,b,c,d,e,f,g,i,j,l⟩:=H;⟨o,es,ep,t,k _ h1,a,b,c,d,e,f,g,i,j,l⟩
theorem q3f.there {h:Heap} {a:Addr} {kk:List Str} (H:q3f cx h a kk):∃o,h.get? a=some o:=by obtain⟨o,_,_,_,h1⟩:=H;exact⟨o,h1⟩
theorem z7d {I:Addr} {fp wr:List Addr} {Gr:Array GenState->Array GenState->Prop} {P:Nat->Value->Prop} {St:Nat->Shared->Prop} {ts:List Str} {R:Result->Shared->Prop} (W:WalksS cx.prog cx.w A.in1 I fp wr Gr ts.length P St) (S:Addr) (hSf:S∉fp)
  (hval:∀i v,P i v->∃k t,ts[i]? = some k/\v = .str k t) (hz:∀k∈ts,k.length<=sizeLine) {kk:List Str} (hb:kk.length+ts.length+1<scanBound) :
  ∀(k i:Nat) (s:Shared),ts.length - i=k->i<=ts.length->St i s->q3f cx s.heap S (q1i kk (ts.take i))->
   (∀s',Moved (S::wr) Gr s s'->q3f cx s'.heap S (q1i kk ts)->R (.ok (.ret .none)) s')->
   codeAny cx.M A (.builtin "set.update.loop" ⟨[.ref S,.ref I],[]⟩) R s:=by
 have hSw:S∉wr:=λ h=>hSf (W.sub _ h)
 have hsub:∀b∈wr,b∈S::wr:=λ b hb=>jK _ hb
 intro k
 induction k with
 | zero=>
  intro i s hk hi hst hS hR
  have hin:i=ts.length:=Nat.le_antisymm hi (Nat.le_of_sub_eq_zero hk)
  subst hin
  simp only[List.take_length]at hS
  refine codeAny_builtin F.entry_set_update_loop ?_
  refine wpAny_bind (W.done s _ _ hst λ s' hm=>?_)
  exact wpAny_pure (hR s' (hm.mono hsub) (hS.at λ o e=>hm.heap S o hSw e))
 | succ k ih=>
  intro i s hk hi hst hS hR
  have hlt:i<ts.length:=Nat.lt_of_sub_pos (by rw[hk];exact Nat.succ_pos _)
  refine codeAny_builtin F.entry_set_update_loop ?_
  refine wpAny_bind (W.item i s _ _ hlt hst λ v s' hP hst' hm=>?_)
  rcases _:hval i v hP with⟨key,t,hkey,rfl⟩
  have hS':=hS.at (h':=s'.heap) λ o e=>hm.heap S o hSw e
  refine wpAny_bind (wpAny_holding ?_)
  refine j0i hS' (hz _ (List.mem_of_getElem? hkey)) (jB (Nat.succ_le_succ (jA (q7k (ts.take i) kk) (Nat.add_le_add_left (by rw[List.length_take];exact Nat.min_le_right _ _) _))) hb) λ b h' hsb hS2=>?_
  have htk:ts.take (i+1)=ts.take i++[key]:=by rw[List.take_add_one,hkey];rfl
  rw[<-w1x,<-htk]at hS2
  refine wpAny_pure ⟨plainId_quiet F.plain_set_update_loop _,ih (i+1) _ (by rw[Nat.sub_succ,hk];rfl) hlt (W.frame _ s' _ _ hst' (Nat.le_succ _) λ b hb o e=>?_) hS2 λ s'' hm'' hS''=>?_⟩
  ·exact(hsb.2 b λ h=>hSf (h▸hb)).trans e
  ·refine hR s'' (Moved.trans W.gtrans ((hm.mono hsub).then_heap (Nat.le_succ _) λ b o hb e=>?_) hm'') hS''
   exact(hsb.2 b λ h=>hb (by simp only[h];exact jL)).trans e
theorem j5a {S:Addr} {k:Str} {m:Nat} {Q:Unit->Shared->Prop} (H:q3f cx s.heap S [k]) (hm:m<=3) (h:Q () s):wpAny cx.M A (setRoomFor S m) Q E s:=by
 rcases _:H with⟨o,es,ep,t,ho,hex,hd,hel,hmem,hb,hf,hn,hnd,hkz,ht⟩
 refine wpAny_bind (wpAny_setState_of ho hd hf ?_)
 have hsz:es.size=1:=hn
 obtain⟨t1,t2⟩:=ht.one hsz
 have hp:t.place.size=1:=by simp only[SetTable.fits,Bool.and_eq_true,beq_iff_eq]at hf;simp only[hf.1,hsz]
 have:t.roomFor m=none:=by
  dsimp only[SetTable.roomFor,SetTable.fill]
  simp only[t1,t2,hp]
  rw[if_neg (by simp;lia)]
 rw[this]
 exact wpAny_pure h
theorem z9r {es:Array DictEntry} {kvs:List (Str×Value)} (hk:KeysOf cx.sk es) (hp:Pairs cx.sk es.toList kvs) {i:Nat} {e:DictEntry} (he:es[i]? = some e) :
  ∃k w t,kvs[i]? = some (k,w)/\e.key = .str k t/\e.hash=cx.sk.hash k:=by
 have hi:=(Array.getElem?_eq_some_iff.mp he).1
 have hlen:=hp.length
 obtain⟨kv,hkv⟩:∃kv,kvs[i]? = some kv:=⟨kvs[i]'(by decreasing_trivial),List.getElem?_eq_getElem _⟩
 obtain⟨k,w⟩:=kv
 obtain⟨hkey,_⟩:=hp.get? (e:=e) (by rw[Array.getElem?_toList];exact he) hkv
 obtain⟨t,ht⟩:=q6q hkey
 rcases _:hk e (Array.mem_of_getElem? he)with⟨k',h1,h2⟩
 have:k'=k:=cx.sk.inj _ _ _ h1 hkey
 subst this
 exact⟨k',w,t,hkv,ht,h2⟩
theorem k6n {S d:Addr} {k:Str} {kvs:List (Str×Value)} {Q:Unit->Shared->Prop} (hA:A.handled=none) (H:q3f cx s.heap S [k]) (hd:s.heap.DictOf cx.sk d kvs) (hne:d≠S) (hm:(d==sysModules)=false) (h3:kvs.length<=3) (hz:∀kv∈kvs,kv.1.length<=sizeLine)
  (h:∀h' t,(∀b o,b≠S->s.heap.get? b=some o->h'.get? b=some o)->s.toks<=t->q3f cx h' S (q1i [k] (kvs.map (·.1)))->Q () { s with heap:=h',toks:=t }) :
  wpAny cx.M A (setDisplayStar S (.ref d)) Q E s:=by
 have hT:=hd.typeIs
 refine wpAny_bind (wpAny_isInstance hT z0t ?_)
 refine wpAny_bind (wpAny_isInstance hT q8v ?_)
 refine wpAny_bind (wpAny_askSetting ?_)
 rcases _:id hd with⟨o,es,ep,ho,hex,hdat,hkeys,hpairs,hnd⟩
 have hlen:kvs.length=es.size:=by have:=hpairs.length;simp only[Array.length_toList]at this;solve_by_elim (maxDepth:=4) only[jA,jC,jB, *]
 generalize hbt:cx.w.params.followText "set-display-star-reads-storage" = zzy
 induction zzy with
 | false=>
  have hbt':(model cx.prog cx.w).w.params.followText "set-display-star-reads-storage" = false:=hbt
  dsimp only
  rw[if_neg (by rw[hbt'];exact Bool.false_ne_true)]
  refine wpAny_bind (wpAny_typeOf hT ?_)
  refine wpAny_bind (wpAny_rule ?_)
  rw[if_neg (by rw[hm];exact Bool.false_ne_true)]
  refine wpAny_bind (wpAny_dictEpoch ho hdat ?_)
  refine wpAny_bind (wpAny_dictEntries ho hdat ?_)
  refine wpAny_bind (j5a H (by decreasing_trivial) ?_)
  refine wpAny_bind ?_
  rw[Std.Legacy.Range.forIn_eq_forIn_range']
  simp only[Std.Legacy.Range.size,Nat.sub_zero,Nat.add_sub_cancel,Nat.div_one]
  refine wpAny_forIn_list _
   (λ rest _ s'=>∃h' i,s'={ s with heap:=h' }/\rest=List.range' i (es.size - i)/\i<=es.size/\q3f cx h' S (q1i [k] ((kvs.map (·.1)).take i))/\h'.get? d=some o/\Heap.SameBut S s.heap h')
   _ ?_ ?_ _ _ ⟨s.heap,0,rfl,by rfl,Nat.zero_le _,H,ho,Heap.SameBut.refl _ _⟩
  ·rintro x rest b s' ⟨h',i,rfl,hr,hi,hS,ho',hs'⟩
   have hlt:i<es.size:=by
    rcases _:Nat.lt_or_ge i es.size with h|h
    ·exact h
    ·rw[Nat.sub_eq_zero_of_le h]at hr;trivial
   obtain⟨rfl,hrest⟩:x=i/\rest=List.range' (i+1) (es.size - (i+1)):=by
    have e:es.size - i=(es.size - (i+1))+1:=(Nat.succ_pred_eq_of_pos (Nat.sub_pos_of_lt hlt)).symm
    rw[e,List.range'_succ]at hr
    injection hr with h1 h2
    exact⟨h1,h2⟩
   refine wpAny_bind (wpAny_dictEntries ho' hdat ?_)
   rw[Array.getElem?_eq_getElem hlt]
   rcases _:z9r hkeys hpairs (Array.getElem?_eq_getElem hlt)with⟨k',w,t,hkv,hkey,hhash⟩
   simp only[hkey,hhash]
   have hmap:(kvs.map (·.1))[x]? = some k':=by rw[List.getElem?_map,hkv];rfl
   have hl:=q7k ((kvs.map (·.1)).take x) [k]
   have hsb:scanBound=4096:=rfl
   refine wpAny_bind (wpAny_holding (wpAny_bind (w0m hS (hz _ (List.mem_of_getElem? hkv)) (jB (Nat.succ_le_succ (jA hl (Nat.add_le_add_left (jA (jE (List.length_take ..)) (jA (Nat.min_le_right _ _) (jA (jE (List.length_map ..)) h3))) _))) (show 1+3+1<scanBound by rw[hsb];decide)) λ b h2 hsb2 hS2=>wpAny_pure ?_)))
   have htk:(kvs.map (·.1)).take (x+1)=(kvs.map (·.1)).take x++[k']:=by simp only[List.take_add_one,hmap];rfl
   rw[<-w1x,<-htk]at hS2
   have ho2:h2.get? d=some o:=(hsb2.2 d hne).trans ho'
   refine wpAny_bind (wpAny_dictEpoch ho2 hdat ?_)
   simp only[bne_self_eq_false,Bool.false_eq_true,if_false]
   exact wpAny_pure ⟨h2,x+1,rfl,hrest,hlt,hS2,ho2,hs'.trans hsb2⟩
  ·rintro b s' ⟨h',i,rfl,hr,hi,hS,ho',hs'⟩
   have hie:i=es.size:=by
    rcases Nat.lt_or_ge i es.size with h|h
    ·have e:es.size - i=(es.size - (i+1))+1:=(Nat.succ_pred_eq_of_pos (Nat.sub_pos_of_lt h)).symm
     rw[e,List.range'_succ]at hr;contradiction
    ·exact Nat.le_antisymm ‹_› ‹_›
   rw[hie,List.take_of_length_le (by rw[List.length_map];exact jE ‹_›)]at hS
   exact wpAny_pure (h h' s.toks (λ b o hb e=>(hs'.2 b hb).trans e) (jD _) hS)
 | true=>
  have hbt':(model cx.prog cx.w).w.params.followText "set-display-star-reads-storage" = true:=hbt
  dsimp only
  rw[if_pos hbt']
  have hda:s.heap.DictAt cx.sk d kvs ep:=⟨o,es,ho,hex,hdat,hkeys,hpairs,hnd⟩
  refine wpAny_bind (wpAny_pyIter_dict hm hda ?_)
  refine wpAny_bind (wpAny_runValue ?_)
  have hdl:=Heap.lt_size ho
  have hSl:S<s.heap.objs.size:=let ⟨oS,hS⟩:=H.there;Heap.lt_size hS
  have W:=(Walks.dictKeys (knd:=cx.sk) (A:=A.in1) (by exact hA) s.heap.objs.size d (Nat.ne_of_lt hdl) kvs ep).toS
  have W':WalksS cx.prog cx.w A.in1 s.heap.objs.size [s.heap.objs.size,d] [s.heap.objs.size] (λ a b=>b=a) (kvs.map (·.1)).length (λ i v=>∃k x,kvs[i]? = some (k,x)/\cx.sk.is k v=true) (λ i s'=>s'.heap.IsKeyIter s.heap.objs.size d i kvs.length ep/\s'.heap.DictAt cx.sk d kvs ep):=by
   simp only[List.length_map];exact W
  have hsb:scanBound=4096:=rfl
  have hval:∀i v,(∃k x,kvs[i]? = some (k,x)/\cx.sk.is k v=true)->∃k t,(kvs.map (·.1))[i]? = some k/\v = .str k t:=λ i v hv=>by
   rcases _:hv with⟨k',x,h1,h2⟩
   obtain⟨t,ht⟩:=q6q h2
   exact⟨k',t,by rw[List.getElem?_map,h1];rfl,ht⟩
  have hzz:∀k'∈kvs.map (·.1),k'.length<=sizeLine:=λ k' hk'=>by
   obtain⟨kv,hkv,rfl⟩:=List.mem_map.mp hk'
   exact hz kv hkv
  have hSf:S∉[s.heap.objs.size,d]:=by simp only[List.mem_cons,List.not_mem_nil,or_false,not_or];exact⟨Nat.ne_of_lt hSl,hne.symm⟩
  have hroom:[k].length+(kvs.map (·.1)).length+1<scanBound:=by rw[List.length_map,hsb];exact jB (Nat.succ_le_succ (Nat.add_le_add_left h3 _)) (show 1+3+1<4096 by decide)
  refine z7d W' S hSf hval hzz hroom _ 0 _ rfl (Nat.zero_le _) ⟨⟨_,Heap.get?_push_size _ rfl,rfl,rfl⟩,Heap.DictAt.at' hda λ o e=>Heap.get?_push_of_some _ e⟩
   (H.at λ o e=>Heap.get?_push_of_some _ e) λ s' hm' hS'=>?_
  ·show wpAny cx.M A (pure ()) Q E s'
   obtain⟨h',g',d',tk',os'⟩:=s'
   have eg:g'=s.gens:=hm'.gens
   have ed:d'=s.drawn:=hm'.drawn
   have eo:os'=s.os:=hm'.os
   subst eg;subst ed;subst eo
   refine wpAny_pure (h h' tk' (λ b o hb e=>hm'.heap b o ?_ (Heap.get?_push_of_some _ e)) hm'.toks hS')
   simp only[List.mem_cons,List.not_mem_nil,or_false,not_or]
   exact⟨hb,Nat.ne_of_lt (Heap.lt_size e)⟩
end
section
variable {cx:Cx} {T:Tab} {n:Nat} {r:Ev} {C:q0a} {ks:Kinds} {ns:List Str} {env:Env} {g g':G} {vs vs':Vs} {σ σ' σ'':Store} {s s':Shared} {A:Around} {v:AV} {u uf:Value} {ex:Expr} {x:Str}
theorem j4n (i:Inv cx g σ s) (E:ER cx ks ns env g vs s) {Q:Bool->Shared->Prop} {E':Value->Shared->Prop} (h:∀b,Q b s):wpAny cx.M A (inMainModule env) Q E' s:=by
 rcases _:E.code.1 with⟨c,o,fs,e,ho,hd⟩
 have ho:=i.sub _ _ ho
 dsimp only[inMainModule]
 try skip
 rw[e]
 split
 ·exact wpAny_pure (h _)
 ·refine wpAny_bind (wpAny_fieldsOf ho hd ?_)
  split
  ·exact wpAny_bind (wpAny_askSetting (wpAny_pure (h _)))
  ·exact wpAny_pure (h _)
inductive v0e (cx:Cx) (h:Heap) (a:Addr) (kk:List Str):Prop
 | mk (o:Obj) (e:h.get? a=some o) (d:o.SetObjOf cx.sk (λ k=>kk.contains k) kk.length) (l:z7g cx o) (z:kk.length<scanBound) (n:kk.Nodup) (y:∀k∈kk,k.length<=sizeLine)
theorem q3f.led {h:Heap} {a:Addr} {kk:List Str} (H:q3f cx h a kk):v0e cx h a kk:=by
 rcases _:H with⟨o,es,ep,t,ho,hex,hd,hel,hmem,hb,hf,hn,hnd,hkz,ht⟩
 exact⟨o,ho,⟨hex,es,ep,t,hd,hel,hmem,hn,hf⟩,⟨es,ep,t,hd,ht.led,ht.plain,ht.one⟩,by decreasing_trivial,hnd,hkz⟩
theorem j3s {D:Addr} {mu:Bool} {b:List Str} {σ1:Store} (a:Stp [] g s g' s') (i:Inv cx g' σ1 s') (H:q3f cx s'.heap D b) (h1:D∉g'.ρ) (h2:g'.I D=none) (h3:s.heap.get? D=none) (e:k9h mu b σ1=some (v,σ')) :
  PX cx g s σ' v (.ref D) s':=by
 rcases _:H.led with⟨o,ho,hso,hled,hb,hnd,hz⟩
 refine q0o e λ _ e=>ifNo e λ _ e=>?_
 obtain⟨rfl,rfl⟩:=Prod.mk.inj (jI e)
 exact⟨g'.freeze D o,a.addFz h3 h2,i.add ho h1 h2,D,o,rfl,G.freeze_self _ _ _,hso,hb,hnd,hz,hled⟩
theorem z9q {e:Expr} {rest:List (Bool×Sem Value)} {y:Str} {σ1:Store} {p:Pos} {b:Bool} {road:DisplayRoad} (R:EOk cx n r.e) (hA:AOk n A) (i:Inv cx g σ s) (E:ER cx ks ns env g vs s) (e1:r.e ks ns e vs σ=some (.str y,σ1)) {P:Value->Shared->Prop}
  (hroad:road = .oneByOne) (hrest:rest.length<=10) (hf:((false,(do let v <-eval e env;standAt p;pure v:Sem Value))::rest).findIdx? (·.1)=none/\rest=[]\/((false,(do let v <-eval e env;standAt p;pure v:Sem Value))::rest).findIdx? (·.1)=some 1)
  (h:∀g1 s₁,Stp [] g s g1 s₁->Inv cx g1 σ1 s₁->ER cx ks ns env g1 vs s₁->q3f cx s₁.heap s.heap.objs.size [y]->s.heap.objs.size∉g1.ρ->g1.I s.heap.objs.size=none->
   wpAny cx.M A (forIn rest PUnit.unit λ(x:Bool×Sem Value) (_:PUnit)=>(do
    let v <-x.2
    if x.1=true then do
     holding [v] (setDisplayStar s.heap.objs.size v)
     pure (ForInStep.yield PUnit.unit)
    else do
     let _ <-holding [v] (setAdd s.heap.objs.size v)
     pure (ForInStep.yield PUnit.unit):Sem (ForInStep PUnit))) (λ _ s'=>P (.ref s.heap.objs.size) s') NoE s₁) :
  wpAny cx.M A (setDisplay road b ((false,do let v <-eval e env;standAt p;pure v)::rest)) P NoE s:=by
 subst hroad
 have hn:=q0m s
 have hnf:(if((false,(do let v <-eval e env;standAt p;pure v:Sem Value))::rest).length > 30 then 0 else(((false,(do let v <-eval e env;standAt p;pure v:Sem Value))::rest).findIdx? (·.1)).getD ((false,(do let v <-eval e env;standAt p;pure v:Sem Value))::rest).length)=1:=by
  rw[if_neg (by simp;decreasing_trivial)]
  rcases hf with⟨hf,hr⟩|hf
  ·rw[hf,hr];rfl
  ·rw[hf];rfl
 dsimp only[setDisplay]
 try dsimp only
 refine wpAny_bind (k4x λ led hl=>?_)
 rw[hnf]
 rw[show((false,(do let v <-eval e env;standAt p;pure v:Sem Value))::rest).take 1=[(false,(do let v <-eval e env;standAt p;pure v:Sem Value))]from rfl,show((false,(do let v <-eval e env;standAt p;pure v:Sem Value))::rest).drop 1=rest from rfl]
 have k:∀b o,s.heap.get? b=some o->(s.heap.push { cls:=.type "set",dict:=none,data:=.set #[] 0 (.fresh 0 0 led) }).get? b=some o:=λ b o e=>Heap.get?_push_of_some _ e
 have a0:Stp [] g s g { s with heap:=s.heap.push { cls:=.type "set",dict:=none,data:=.set #[] 0 (.fresh 0 0 led) } }:=.keeps (t:=s.toks) (jD _) k
 have i0:Inv cx g σ { s with heap:=s.heap.push { cls:=.type "set",dict:=none,data:=.set #[] 0 (.fresh 0 0 led) } }:=i.keep (t:=s.toks) (jD _) k
 have hD:(s.heap.push { cls:=.type "set",dict:=none,data:=.set #[] 0 (.fresh 0 0 led) }).get? s.heap.objs.size=some { cls:=.type "set",dict:=none,data:=.set #[] 0 (.fresh 0 0 led) }:=Heap.get?_push_size _ rfl
 refine wpAny_bind (wpAny_holding ?_)
 refine wpAny_bind ?_
 refine wpAny_evalAll_cons (wpAny_bind (q0y R hA i0 (E.go a0) e1 λ g1 s₁ u1 a1 i1 E1 r1=>wpAny_bind (wpAny_standAt (wpAny_pure (wpAny_evalAll_nil ?_)))))
 obtain⟨t,rfl,tz⟩:=r1.of_str
 have n1:s.heap.objs.size∉g1.ρ:=a1.new _ _ hD (i.fresh hn).2
 have n2:g1.I s.heap.objs.size=none:=a1.newI _ _ hD (i.fresh hn).1
 have H0:q3f cx s₁.heap s.heap.objs.size []:=(q3f.new hD hl).at λ o e=>a1.keep _ _ e (i.fresh hn).2 (by simp)
 refine wpAny_bind (wpAny_holding ?_)
 rw[List.forIn_cons]
 refine wpAny_bind (wpAny_bind (wpAny_bind (j0i H0 tz (by decide) λ b h' hsb hS=>?_)))
 have a2:Stp [s.heap.objs.size] g1 s₁ g1 { s₁ with heap:=h',toks:=s₁.toks+1 }:=.write (t:=s₁.toks+1) (Nat.le_succ _) (by simp) hsb hS.there
 have i2:Inv cx g1 σ1 { s₁ with heap:=h',toks:=s₁.toks+1 }:=i1.write (t:=s₁.toks+1) (Nat.le_succ _) n1 n2 hsb
 have a3:Stp [] g s g1 { s₁ with heap:=h',toks:=s₁.toks+1 }:=((a0.trans a1).own.trans a2).fresh (by simp[hn])
 refine wpAny_pure (wpAny_pure ?_)
 refine wpAny_pure ?_
 refine wpAny_bind (wpAny_mono (h g1 _ a3 i2 (E.go a3) hS n1 n2) (λ _ s3 h3=>wpAny_pure (wpAny_pure h3)) λ _ _ x=>x)
theorem j7h (R:EOk cx n r.e) (hA:AOk n A) (i:Inv cx g σ s) (E:ER cx ks ns env g vs s) {e d:Expr} {p q:Pos}
  (e0:j9e T r ks ns e d p vs σ=some (v,σ')):wpAny cx.M A (eval (.Set [e,.Starred d q] 0 p) env) (PX cx g s σ' v) NoE s:=by
 refine ifNo e0 λ hst e0=>q0h e0 λ w σ1 e1 e2=>q0h e2 λ y σ2 e3 e4=>optE e4 λ st h0 e4=>optE e4 λ kvs hd e4=>q0o e4 λ h3 e9=>?_
 obtain rfl:=k6r h0
 ··skip
   simp only[arm_eval_Set]
   refine wpAny_bind (wpAny_standAt (wpAny_bind (j4n i E λ b=>?_)))
   rw[q1k (q7i hst)]
   refine z9q (rest:=[(true,do let v <-eval d env;standAt p;pure v)]) R hA i E e1 rfl (by simp) (.inr rfl) λ g1 s₁ a1 i1 E1 H n1 n2=>?_
   rw[List.forIn_cons]
   refine wpAny_bind (wpAny_bind (wpAny_bind (q0y R hA i1 E1 e3 λ g2 s₂ u2 a2 i2 E2 r2=>wpAny_bind (wpAny_standAt (wpAny_pure ?_)))))
   rcases _:q1g i2 hd r2 with⟨da,us,rfl,hda,qd,hm,hz,hkz⟩
   obtain⟨oS,hoS⟩:=H.there
   have hn:=q0m s
   have m1:s.heap.objs.size∉g2.ρ:=a2.new _ _ hoS n1
   have m2:g2.I s.heap.objs.size=none:=a2.newI _ _ hoS n2
   have H2:=H.at (h':=s₂.heap) λ o e=>a2.keep _ _ e n1 (by simp)
   have hlen:((kvs.map (·.1)).zip us).length=kvs.length:=by have:=qd.length;simp[List.length_zip]at this ⊢;simp +arith [*]
   have hne:da≠s.heap.objs.size:=by
    rintro rfl
    obtain⟨o1,es1,ep1,ho1,hx1,hd1,_⟩:=hda
    obtain⟨o2,es2,ep2,t2,ho2,hx2,hd2,_⟩:=H2
    rw[ho1]at ho2;obtain rfl:=jI ho2
    rw[hd1]at hd2;contradiction
   have hkeys:((kvs.map (·.1)).zip us).map (·.1)=kvs.map (·.1):=z6a (by have:=qd.length;simpa using this)
   refine wpAny_bind (wpAny_holding (k6n hA.handled H2 hda hne hm (by rw[hlen];exact h3) (λ kv hkv=>?_) λ h' t k ht H3=>wpAny_pure ?_))
   ·have:kv.1∈kvs.map (·.1):=by rw[<-hkeys];exact List.mem_map.mpr ⟨kv,hkv,rfl⟩
    obtain⟨kv',hk',e'⟩:=List.mem_map.mp this
    rw[<-e'];exact hkz kv' hk'
   ·skip
    simp only[hkeys]at H3
    have a3:Stp [s.heap.objs.size] g2 s₂ g2 { s₂ with heap:=h',toks:=t }:=⟨.refl _,ht,λ b o e _ hb=>k b o (by simpa using hb) e,λ _ _ _ h=>h,λ _ _ _ h=>h,λ b o e=>by
     by_cases hb:b=s.heap.objs.size
     ·rw[hb];exact H3.there
     ·exact⟨o,k b o hb e⟩,rfl,rfl⟩
    have i3:Inv cx g2 σ2 { s₂ with heap:=h',toks:=t }:=i2.writeI ht m1 m2 λ b o e hb=>k b o hb e
    exact wpAny_pure (j3s (((a1.trans a2).own.trans a3).fresh (by simp[hn])) i3 H3 m1 m2 hn e9)
end
theorem q2m:Slot "set_iterator" "__next__" "set_iterator.__next__":=
 .of (owner:="set_iterator") (n:="__next__") (by kernel_rfl) (by rfl) (by rfl) (by rfl)
  (by first|exact .inl (by rfl)|exact .inr (by decide +kernel)) (by kernel_rfl)
theorem q7h:Slot "set_iterator" "__iter__" "set_iterator.__iter__":=
 .of (owner:="set_iterator") (n:="__iter__") (by kernel_rfl) (by rfl) (by rfl) (by rfl)
  (by first|exact .inl (by rfl)|exact .inr (by decide +kernel)) (by kernel_rfl)
theorem w1h:entryFor table "set_iterator.__next__" = some Builtin.«set_iterator.__next__»:=entryFor_of_tree (by kernel_rfl)
theorem w1z (a:Value):argsOk "set_iterator.__next__" ⟨[a],[]⟩:=by unfold argsOk;kernel_rfl
theorem w1y (a:Value):argsOk "set_iterator.__iter__" ⟨[a],[]⟩:=by unfold argsOk;kernel_rfl
theorem w1g:entryFor table "set_iterator.__iter__" = some Builtin.«dict_keyiterator.__iter__»:=
 entryFor_alias (id':="dict_keyiterator.__iter__") (by kernel_rfl) (by first|rfl|decide +kernel|(unfold String.splitOn;simp +decide [String.splitOnAux])) (by decide +kernel) (by kernel_rfl)
theorem w2n:entryFor table "set.__iter__" = some Builtin.«frozenset.__iter__»:=
 entryFor_alias (id':="frozenset.__iter__") (by kernel_rfl) (by first|rfl|decide +kernel|(unfold String.splitOn;simp +decide [String.splitOnAux])) (by decide +kernel) (by kernel_rfl)
section
variable {M:Model} {A:Around} {E:Value->Shared->Prop} {s:Shared}
theorem z0z {src:Source} {n:Nat} {Q:Nat->Shared->Prop} (hn:n≠0) (h:∀k d,k<n->Q k { s with drawn:=d }):wpAny M A (choose src n) Q E s:=λ Γ p _=>
 ⟨hn,h _ _ (Nat.mod_lt _ (Nat.pos_of_ne_zero hn))⟩
theorem w7k {α:Type} (xs:List α) (i:Nat) (x:α) (h:xs[i]? = some x):(x::xs.eraseIdx i).Perm xs:=by
 induction xs generalizing i with
 | nil=>trivial
 | cons y ys ih=>
  induction i with
  | zero=>simp at h;subst h;rfl
  | succ j=>
   simp at h
   exact(List.Perm.swap y x _).trans ((ih j h).cons y)
theorem k2s {α:Type}:∀(n:Nat) (xs:List α) {s:Shared} {Q:List α->Shared->Prop},xs.length=n->(∀ys d,ys.Perm xs->Q ys { s with drawn:=d })->wpAny M A (drawOrder n xs) Q E s
 | 0,xs,s,Q,hl,h=>by
  rw[List.length_eq_zero_iff.mp hl]at h
  exact wpAny_pure (h [] s.drawn (.refl _))
 | n+1,[],s,Q,hl,h=>by trivial
 | n+1,x::xs,s,Q,hl,h=>by
  refine wpAny_bind (z0z (by simp) λ k d hk=>?_)
  obtain⟨y,hy⟩:∃y,(x::xs)[k]? = some y:=⟨(x::xs)[k],List.getElem?_eq_getElem hk⟩
  rw[hy]
  have hle:((x::xs).eraseIdx k).length=n:=by rw[List.length_eraseIdx,if_pos hk,hl];rfl
  refine wpAny_bind (k2s n _ hle λ ys d' hp=>wpAny_pure (h _ d' ((hp.cons y).trans (w7k _ _ _ hy))))
theorem z2r {α:Type} (next:Nat->Nat):∀(f k:Nat) (left:List α) (out:Array α),left.length=f->(pickOrder.go next f k left out).toList.Perm (out.toList++left)
 | 0,k,left,out,h=>by rw[List.length_eq_zero_iff.mp h];dsimp only[pickOrder.go];simp
 | f+1,k,left,out,h=>by
  dsimp only[pickOrder.go]
  have hpos:0<left.length:=by simp +arith [*]
  obtain⟨y,hy⟩:∃y,left[next k % left.length]? = some y:=⟨left[next k % left.length]'(Nat.mod_lt _ hpos),List.getElem?_eq_getElem _⟩
  rw[hy]
  have hle:(left.eraseIdx (next k % left.length)).length=f:=by rw[List.length_eraseIdx,if_pos (Nat.mod_lt _ hpos)];simp +arith [*]
  refine(z2r next f (k+1) _ _ hle).trans ?_
  simp only[Array.toList_push,List.append_assoc]
  exact(List.Perm.refl _).append (by exact w7k _ _ _ hy)
end
noncomputable abbrev q3j (f a:Value) (i n ep:Nat):Obj:={ cls:=.type "set_iterator",data:=.fields #[f,.int i 0,a,.int n 0,.int ep 0] }
section
variable {cx:Cx} {A:Around} {E:Value->Shared->Prop} {s:Shared} {I a:Addr} {oS:Obj} {es:Array (Int×Value)} {ep:Nat} {t:SetTable}
theorem w0w {f x:Value} {i n:Nat} {Q:Value->Shared->Prop} (hI:s.heap.get? I=some (q3j f x i n ep)) (h:Q (.ref I) s):wpAny cx.M A (pyIter (.ref I)) Q E s:=by
 have hT:s.TypeIs (.ref I) "set_iterator":=⟨_,hI,rfl⟩
 refine wpAny_pyIter_slot hT q7h (wpAny_call_entry q7h hT w1g ?_ (w1y _))
 exact wpAny_pure ⟨_,rfl,"set_iterator",_,hT,q2m.lookup,h⟩
theorem w0e {f x:Value} {i n:Nat} {k:Nat} {v:Value} (h:Heap) (hI:h.get? I=some (q3j f x i n ep)) :
  (h.update I (Obj.mapFields (·.setIfInBounds k v))).get? I=some { cls:=.type "set_iterator",data:=.fields (#[f,.int i 0,x,.int n 0,.int ep 0].setIfInBounds k v) }:=Heap.get?_update_self _ hI rfl
noncomputable def NxOk (cx:Cx) (A:Around) (a:Addr) (oS:Obj) (ep:Nat) (ord:List Value) (sl:Nat->Nat):Prop:=
 ∀i (s:Shared) (E:Value->Shared->Prop) (Q:Option (Value×Nat)->Shared->Prop),i<=ord.length->s.heap.get? a=some oS->Q ((ord[i]?).map λ x=>(x,sl (i+1))) s->wpAny cx.M A (setNext a (sl i) i ep) Q E s
set_option tactic.hygienic true in theorem q7n {f:Value} {i n:Nat} {Q:Option Value->Shared->Prop} (hI:s.heap.get? I=some (q3j f (.ref a) i n ep)) (ha:s.heap.get? a=some oS) (hd:oS.data = .set es ep t) (hf:t.fits es.size=true) (hn:n=es.size)
  (h:wpAny cx.M A.in1 (if let .int slot _:=f then(do
    match <-setNext a slot.toNat i ep with
    | some (x,next)=>
     setField (.ref I) 0 (rawInt next)
     setField (.ref I) 1 (rawInt ((i:Int)+1))
     ret x
    | none=>setField (.ref I) 2 .none;raiseNew (<-newExc (.type "StopIteration") []):Sem PySem.Fin)
   else(do
    let some places <-seqItems? f|unsupported "internal:set_iterator"
    match places[i]? with
    | some (.int place _)=>
     let x <-setNextDrawn a place.toNat ep
     setField (.ref I) 1 (rawInt ((i:Int)+1))
     ret x
    | some _=>unsupported "internal:set_iterator"
    | none=>setField (.ref I) 0 (rawInt 0);setField (.ref I) 2 .none;raiseNew (<-newExc (.type "StopIteration") []))) (λ fin s'=>∃r,fin = .done (.ret r)/\Q (some r) s') (λ e s'=>wpAny cx.M A (do if(<-isInstance e (.type "StopIteration"))then pure none else throw e) Q E s') s) :
  wpAny cx.M A (pyNext (.ref I)) Q E s:=by
 have hT:s.TypeIs (.ref I) "set_iterator":=⟨_,hI,rfl⟩
 refine wpAny_bind (wpAny_attempt (wpAny_callSpecial?_slot (name:=Str.ofString "__next__") hT q2m
  (wpAny_call_entry q2m hT w1h ?_ (w1z _))))
 refine wpAny_bind (m:=slotArgs _ _ _) (wpAny_pure ?_)
 refine wpAny_bind (wpAny_fieldsOf hI rfl ?_)
 refine wpAny_bind (wpAny_setEntries_of ha hd hf ?_)
 rw[if_neg (by rw[hn];simp)]
 exact wpAny_mono h (λ fin s' ⟨r,e,q⟩=>⟨r,e,wpAny_pure q⟩) λ _ _ x=>x
theorem z4p {h1:Heap} {Q:Option Value->Shared->Prop} (hh:A.handled=none) (hQ:∀h',(∀b o,h1.get? b=some o->h'.get? b=some o)->Q none { s with heap:=h' }) :
  wpAny cx.M A.in1 (do raiseNew (<-newExc (.type "StopIteration") []):Sem PySem.Fin) (λ fin s'=>∃r,fin = .done (.ret r)/\Q (some r) s') (λ e s'=>wpAny cx.M A (do if(<-isInstance e (.type "StopIteration"))then pure none else throw e) Q E s') { s with heap:=h1 }:=by
 refine wpAny_bind ?_
 refine wpAny_bind (wpAny_newObj_type ?_ (by size_fits))
 refine wpAny_bind (m:=firstArgMember _ _) (wpAny_of_eq (a:=Value.none) (by first|rfl|(simp only[firstArgMember];rfl)) ?_)
 refine wpAny_newObj_type ?_ (by size_fits)
 dsimp only[raiseNew]
 refine wpAny_bind (wpAny_handled ?_)
 rw[show A.in1.handled=none from hh]
 refine wpAny_bind (wpAny_pure (wpAny_throw ?_))
 refine wpAny_bind (wpAny_isInstance (T:="StopIteration") (b:=true) ⟨_,Heap.get?_push_size _ rfl,rfl⟩ isSubtype_stop ?_)
 exact wpAny_pure (hQ _ λ b o e=>Heap.get?_push_of_some _ (Heap.get?_push_of_some _ e))
theorem q2a {h:Heap} {k:Nat} {v:Value} {b:Addr} {o:Obj} (hb:b≠I) (e:h.get? b=some o):(h.update I (Obj.mapFields (·.setIfInBounds k v))).get? b=some o:=((Heap.SameBut.update ..).2 b hb).trans e
theorem j0f {ord:List Value} {sl:Nat->Nat} (hh:A.handled=none) (hne:a≠I) (hd:oS.data = .set es ep t) (hf:t.fits es.size=true) (hn:ord.length=es.size) (N:NxOk cx A.in1 a oS ep ord sl) :
  Walks cx.prog cx.w A I [I,a] [I] ord.length (λ i v=>ord[i]? = some v) (λ i h=>h.get? I=some (q3j (.int (sl i) 0) (.ref a) i ord.length ep)/\h.get? a=some oS) where
 sub:=λ b hb=>by simp at hb;simp[hb]
 frame:=λ _ _ _ st hk=>⟨hk I (by simp) _ st.1,hk a (by simp) _ st.2⟩
 item:=λ i s Q E hi st hQ=>by
  refine q7n st.1 st.2 hd hf hn ?_
  obtain⟨x,hx⟩:∃x,ord[i]? = some x:=⟨ord[i],List.getElem?_eq_getElem hi⟩
  refine wpAny_bind (N i s _ _ (jF hi) st.2 ?_)
  rw[hx]
  refine wpAny_bind (wpAny_setField st.1 rfl (by simp) ?_)
  have g1:=w0e (k:=0) (v:=rawInt (sl (i+1))) s.heap st.1
  refine wpAny_bind (wpAny_setField g1 rfl (by simp) ?_)
  refine wpAny_pure ⟨_,rfl,?_⟩
  refine hQ x _ s.toks hx ⟨?_,q2a hne (q2a hne st.2)⟩ λ b o hb e=>q2a (by simpa using hb) (q2a (by simpa using hb) e)
  rw[Heap.get?_update_self _ g1 rfl]
  rfl
 done:=λ s Q E st hQ=>by
  refine q7n st.1 st.2 hd hf hn ?_
  refine wpAny_bind (N ord.length s _ _ (jD _) st.2 ?_)
  rw[List.getElem?_eq_none (jD _)]
  refine wpAny_bind (wpAny_setField st.1 rfl (by simp) ?_)
  exact z4p (s:=s) hh λ h' k=>hQ h' s.toks λ b o hb e=>k b o (q2a (by simpa using hb) e)
 self:=λ i s Q E st hQ=>w0w st.1 hQ
theorem k1i {pl:List Nat} {tp:Addr} {m:Nat} (hh:A.handled=none) (hne:a≠I) (hnt:tp≠I) (hd:oS.data = .set es ep t) (hf:t.fits es.size=true) (hn:pl.length=es.size) (hp:∀j∈pl,j<es.size) :
  Walks cx.prog cx.w A I [I,a,tp] [I] pl.length (λ i v=>∃j e,pl[i]? = some j/\es[j]? = some e/\v=e.2) (λ i h=>h.get? I=some (q3j (.ref tp) (.ref a) i pl.length ep)/\h.get? a=some oS/\h.get? tp=some { cls:=.type "tuple",data:=.seq (pl.map λ(i:Nat)=>rawInt i).toArray m }) where
 sub:=λ b hb=>by simp at hb;simp[hb]
 frame:=λ _ _ _ st hk=>⟨hk I (by simp) _ st.1,hk a (by simp) _ st.2.1,hk tp (by simp) _ st.2.2⟩
 item:=λ i s Q E hi st hQ=>by
  refine q7n st.1 st.2.1 hd hf hn ?_
  obtain⟨j,hj⟩:∃x,pl[i]? = some x:=⟨pl[i],List.getElem?_eq_getElem hi⟩
  have hjl:=hp j (List.mem_of_getElem? hj)
  have hje:es[j]? = some es[j]:=Array.getElem?_eq_getElem hjl
  refine wpAny_bind (wpAny_seqItems st.2.2 rfl ?_)
  dsimp only
  rw[List.getElem?_toArray,List.getElem?_map,hj]
  show wpAny _ _ (setNextDrawn a (Int.toNat (j:Int)) ep >>= _) _ _ _
  simp only[Int.toNat_natCast]
  dsimp only[setNextDrawn]
  refine wpAny_bind (wpAny_bind (wpAny_setState_of st.2.1 hd hf ?_))
  simp only[bne_self_eq_false,Bool.false_eq_true,if_false]
  rw[hje]
  dsimp only
  refine wpAny_pure ?_
  refine wpAny_bind (wpAny_setField st.1 rfl (by simp) ?_)
  refine wpAny_pure ⟨_,rfl,?_⟩
  refine hQ _ _ s.toks ⟨j,_,hj,hje,rfl⟩ ⟨?_,q2a hne st.2.1,q2a hnt st.2.2⟩ λ b o hb e=>q2a (by simpa using hb) e
  rw[w0e s.heap st.1]
  rfl
 done:=λ s Q E st hQ=>by
  refine q7n st.1 st.2.1 hd hf hn ?_
  refine wpAny_bind (wpAny_seqItems st.2.2 rfl ?_)
  dsimp only
  rw[List.getElem?_toArray,List.getElem?_map,List.getElem?_eq_none (jD _)]
  refine wpAny_bind (wpAny_setField st.1 rfl (by simp) ?_)
  refine wpAny_bind (wpAny_setField (w0e (k:=0) (v:=rawInt 0) s.heap st.1) rfl (by simp) ?_)
  exact z4p (s:=s) hh λ h' k=>hQ h' s.toks λ b o hb e=>k b o (q2a (by simpa using hb) (q2a (by simpa using hb) e))
 self:=λ i s Q E st hQ=>w0w st.1 hQ
end
structure ItOk (cx:Cx) (src:List Addr) (s:Shared) (n:Nat) (R:List Value->Prop) (I:Addr) (s':Shared):Prop where
 keep:∀b o,s.heap.get? b=some o->s'.heap.get? b=some o
 new:s.heap.get? I=none
 toks:s.toks<=s'.toks
 gens:s'.gens=s.gens
 os:s'.os=s.os
 walk:∃fp P St,(∀A:Around,A.handled=none->Walks cx.prog cx.w A I fp [I] n P St)/\St 0 s'.heap/\(∀b∈fp,s.heap.get? b=none\/b∈src)/\I∈fp/\∀vs:List Value,ItemsOf P vs.toArray n->R vs
theorem k1z (j k:Nat):SetTable.below #[j] k=if j<k then 1 else 0:=by
 unfold SetTable.below
 simp only[List.size_toArray,List.length_cons,List.length_nil]
 unfold SetTable.below.go
 simp only[Nat.zero_add,Nat.lt_one_iff,if_true]
 have:(#[j]:Array Nat).getD ((0+1) / 2) k=j:=rfl
 simp only[this]
 split<;>(rfl)
section
variable {cx:Cx} {A:Around} {E:Value->Shared->Prop} {s:Shared} {a:Addr} {oS:Obj}
theorem k8o {ord vs:List Value} (h:ItemsOf (λ i v=>ord[i]? = some v) vs.toArray ord.length):vs=ord:=by
 obtain⟨h1,h2⟩:=h
 rw[List.size_toArray]at h1
 refine List.ext_getElem? λ i=>?_
 by_cases hi:i<vs.length
 ·have:=h2 i vs[i] (by simp only[List.getElem?_toArray,List.getElem?_eq_getElem hi])
  simp only[List.getElem?_eq_getElem hi,this]
 ·rw[List.getElem?_eq_none (by exact Nat.le_of_not_lt ‹_›),List.getElem?_eq_none (by(simp_all +arith))]
set_option tactic.hygienic true in theorem k8q {S:Str->Bool} {n:Nat} {Q:Value->Shared->Prop} (ho:s.heap.get? a=some oS) (hs:oS.SetObjOf cx.sk S n) (hl:z7g cx oS) (hb:n<scanBound)
  (h:∀es ep t,oS.data = .set es ep t->∀I s',ItOk cx [a] s es.size (λ vs=>vs.Perm (es.toList.map (·.2))) I s'->s'.TypeIs (.ref I) "set_iterator"->Q (.ref I) s'):wpAny cx.M A (pyIter (.ref a)) Q E s:=by
 rcases _:hs with⟨hex,es,ep,t,hd,hel,hmem,hn,hf⟩
 obtain⟨es',ep',t',hd',hled,hplain,_⟩:=hl
 rw[hd]at hd';rcases hd'
 have h:=h es ep t hd
 have hT:s.TypeIs (.ref a) "set":=⟨_,ho,hex.1⟩
 have hal:=Heap.lt_size ho
 have big:∀{b:Addr},s.heap.objs.size<=b->s.heap.get? b=none:=λ{b} hb=>by
  generalize q:s.heap.get? b=zzy
  induction zzy with
  | none=>rfl
  | some o=>exact absurd (Heap.lt_size q) (Nat.not_lt.mpr hb)
 refine wpAny_pyIter_slot hT F.slot_set_iter (wpAny_call_entry F.slot_set_iter hT w2n ?_ (F.args_set_iter_1 _))
 refine wpAny_bind ?_
 refine wpAny_bind (m:=slotArgs _ _ _) (wpAny_pure ?_)
 refine wpAny_pure ?_
 refine wpAny_bind ?_
 refine wpAny_bind (wpAny_setEntries_of ho hd hf (wpAny_pure ?_))
 refine wpAny_bind ?_
 refine wpAny_bind (wpAny_setState_of ho hd hf ?_)
 dsimp only
 refine wpAny_bind (wpAny_bind (wpAny_askSetting (wpAny_pure (wpAny_pure ?_))))
 have fin:∀(first:Value) (s₁:Shared),(∀b o,s.heap.get? b=some o->s₁.heap.get? b=some o)->s₁.toks=s.toks->s₁.gens=s.gens->s₁.os=s.os->
   (∀h',(∀b o,s₁.heap.get? b=some o->h'.get? b=some o)->h'.get? s₁.heap.objs.size=some (q3j first (.ref a) 0 es.size ep)->∃fp P St,(∀A:Around,A.handled=none->Walks cx.prog cx.w A s₁.heap.objs.size fp [s₁.heap.objs.size] es.size P St)/\St 0 h'/\(∀b∈fp,s.heap.get? b=none\/b∈[a])/\s₁.heap.objs.size∈fp/\∀vs:List Value,ItemsOf P vs.toArray es.size->vs.Perm (es.toList.map (·.2)))->
   wpAny cx.M A.in1 (do
    let __do_lift <-setEpoch a
    let __do_lift <-newFields "set_iterator" [first,rawInt 0,Value.ref a,rawInt ↑es.size,rawInt ↑__do_lift]
    ret __do_lift) (λ fin s'=>∃v,fin = .done (.ret v)/\∃T' r,s'.TypeIs v T'/\typeLookup (.type T') (Str.ofString "__next__")=pure (some r)/\Q v s') E s₁:=by
  intro first s₁ k1 k2 k3 k4 hw
  refine wpAny_bind (wpAny_setEpoch_of (k1 _ _ ho) hd hf ?_)
  refine wpAny_bind (wpAny_newObj_type ?_ (by size_fits))
  have hk:∀b o,s₁.heap.get? b=some o->(s₁.heap.push (q3j first (.ref a) 0 es.size ep)).get? b=some o:=λ b o e=>Heap.get?_push_of_some _ e
  have hI:(s₁.heap.push (q3j first (.ref a) 0 es.size ep)).get? s₁.heap.objs.size=some (q3j first (.ref a) 0 es.size ep):=Heap.get?_push_size _ rfl
  refine wpAny_pure ⟨_,rfl,"set_iterator",_,⟨_,hI,rfl⟩,q2m.lookup,?_⟩
  rcases _:hw _ hk hI with⟨fp,P,St,w1,w2,w3,w4,w5⟩
  have hnew:s.heap.get? s₁.heap.objs.size=none:=by
   cases q:s.heap.get? s₁.heap.objs.size with
   | none=>rfl
   | some o=>exact absurd (Heap.lt_size (k1 _ _ q)) (Nat.lt_irrefl _)
  refine h _ _ ⟨λ b o e=>hk b o (k1 b o e),hnew,jE k2.symm,k3,k4,⟨fp,P,St,w1,w2,w3,w4,w5⟩⟩ ⟨_,hI,rfl⟩
 split
 ·rename_i hc
  have hc':cx.w.params.followText "set-order" = false/\((!t.plain&&decide (es.size > 1))=true):=by
   simp only[Bool.and_eq_true]at hc
   exact⟨by have:=hc.1;simp only[Bool.not_eq_true']at this;exact this,hc.2⟩
  refine wpAny_bind (k2s _ _ (by simp) λ ys d hp=>?_)
  refine wpAny_bind ?_
  have hlen:ys.length=es.size:=by have:=hp.length_eq;simpa using this
  have hz:(List.map (λ(i:Nat)=>rawInt ↑i) ys).length<=sizeLine:=by
   simp only[List.length_map,hlen,hn];exact fits_of_scanBound hb
  refine wpAny_newTuple ?_ hz
  refine fin _ _ (λ b o e=>Heap.get?_push_of_some _ e) rfl rfl rfl λ h' k hI=>?_
  have htp:h'.get? s.heap.objs.size=some { cls:=.type "tuple",data:=.seq (ys.map λ(i:Nat)=>rawInt i).toArray 0 }:=k _ _ (Heap.get?_push_size _ rfl)
  have ha':h'.get? a=some oS:=k _ _ (Heap.get?_push_of_some _ ho)
  have hsz:(s.heap.push { cls:=.type "tuple",data:=.seq (ys.map λ(i:Nat)=>rawInt i).toArray 0 }).objs.size=s.heap.objs.size+1:=Heap.size_push ..
  have hpl:∀j∈ys,j<es.size:=λ j hj=>by have:=hp.mem_iff.mp hj;simpa using this
  have hI':(s.heap.push { cls:=.type "tuple",data:=.seq (ys.map λ(i:Nat)=>rawInt i).toArray 0 }).objs.size≠a:=by rw[hsz];exact(Nat.ne_of_lt (Nat.lt_succ_of_lt hal)).symm
  have hI2:(s.heap.push { cls:=.type "tuple",data:=.seq (ys.map λ(i:Nat)=>rawInt i).toArray 0 }).objs.size≠s.heap.objs.size:=by rw[hsz];exact(Nat.ne_of_lt (Nat.lt_succ_self _)).symm
  have W:=λ(A:Around) (hA:A.handled=none)=>k1i (cx:=cx) (A:=A) (pl:=ys) (m:=0) hA hI'.symm hI2.symm hd hf hlen hpl
  rw[hlen]at W
  refine⟨_,_,_,W,⟨hI,ha',htp⟩,λ b hb=>?_,by simp,λ vs hv=>?_⟩
  ·simp only[List.mem_cons,List.not_mem_nil,or_false]at hb
   rcases hb with rfl|rfl|rfl
   ·exact .inl (big (by simp only[hsz];exact Nat.le_succ _))
   ·exact .inr (by simp)
   ·exact .inl (big (jD _))
  ·have hvs:vs=ys.map λ j=>((es[j]?).map (·.2)).getD .none:=by
    obtain⟨h1,h2⟩:=hv
    refine List.ext_getElem? λ i=>?_
    by_cases hi:i<vs.length
    ·obtain⟨j,e,q1,q2,q3⟩:=h2 i vs[i] (by simp only[List.getElem?_toArray,List.getElem?_eq_getElem hi])
     simp only[List.getElem?_eq_getElem hi,List.getElem?_map,q1,q3]
     simp[q2]
    ·rw[List.getElem?_eq_none (by exact Nat.le_of_not_lt ‹_›),List.getElem?_eq_none (by(simp_all +arith))]
   rw[hvs]
   refine(hp.map _).trans (List.Perm.of_eq ?_)
   refine List.ext_getElem? λ i=>?_
   simp only[List.getElem?_map,List.getElem?_map]
   by_cases hi:i<es.size
   ·rw[List.getElem?_range hi];simp[hi]
   ·rw[List.getElem?_eq_none (by simpa using Nat.le_of_not_lt hi),List.getElem?_eq_none (by simpa using Nat.le_of_not_lt hi)];rfl
 ·rename_i hc
  refine wpAny_bind (wpAny_pure ?_)
  refine fin _ _ (λ b o e=>e) rfl rfl rfl λ h' k hI=>?_
  have ha':h'.get? a=some oS:=k _ _ ho
  have hne:a≠s.heap.objs.size:=Nat.ne_of_lt hal
  have byInt:∀(ord:List Value) (sl:Nat->Nat),ord.length=es.size->sl 0=0->ord.Perm (es.toList.map (·.2))->(∀A,NxOk cx A a oS ep ord sl)->
    ∃fp P St,(∀A:Around,A.handled=none->Walks cx.prog cx.w A s.heap.objs.size fp [s.heap.objs.size] es.size P St)/\St 0 h'/\(∀b∈fp,s.heap.get? b=none\/b∈[a])/\s.heap.objs.size∈fp/\∀vs:List Value,ItemsOf P vs.toArray es.size->vs.Perm (es.toList.map (·.2)):=by
   intro ord sl hlen h0 hperm N
   have W:=λ(A:Around) (hA:A.handled=none)=>j0f (cx:=cx) (A:=A) (I:=s.heap.objs.size) hA hne hd hf hlen (N A.in1)
   rw[hlen]at W
   refine⟨_,_,_,W,⟨by rw[h0];exact hI,ha'⟩,λ b hb=>?_,by simp,λ vs hv=>?_⟩
   ·simp only[List.mem_cons,List.not_mem_nil,or_false]at hb
    rcases hb with rfl|rfl
    ·exact .inl (big (jD _))
    ·exact .inr (by simp)
   ·simp only[<-hlen]at hv
    rw[k8o hv];exact hperm
  generalize hbt:cx.w.params.followText "set-order" = zzy
  induction zzy with
  | true=>
   have hbt':(model cx.prog cx.w).w.params.followText "set-order" = true:=hbt
   have hp:=z2r (cx.w.params.setOrder a ep) es.size 0 es.toList #[] (by dsimp)
   refine byInt ((pickOrder (cx.w.params.setOrder a ep) es).toList.map (·.2)) (λ _=>0) ?_ rfl ?_ λ A i s₁ E Q hi ha1 hq=>?_
   ·have:=hp.length_eq
    simp at this
    simp only[List.length_map,Array.length_toList]
    exact this
   ·exact(by unfold pickOrder;simpa using hp:(pickOrder (cx.w.params.setOrder a ep) es).toList.Perm es.toList).map _
   ·skip
    refine wpAny_bind (wpAny_setState_of ha1 hd hf ?_)
    refine wpAny_bind (wpAny_bind (wpAny_askSetting (wpAny_pure ?_)))
    rw[if_pos hbt']
    simp only[bne_self_eq_false,Bool.false_eq_true,if_false]
    refine wpAny_bind (wpAny_bind (wpAny_setState_of ha1 hd hf ?_))
    refine wpAny_bind (wpAny_bind (wpAny_askSetting (wpAny_pure ?_)))
    rw[if_pos hbt']
    refine wpAny_bind (wpAny_askSetting (wpAny_pure (wpAny_pure ?_)))
    simp only[List.getElem?_map,Array.getElem?_toList]at hq
    rw[Option.map_map]at hq
    exact hq
  | false=>
   have hbt':(model cx.prog cx.w).w.params.followText "set-order" = false:=hbt
   have hnd:¬ ((!t.plain&&decide (es.size > 1))=true):=λ q=>hc (by simp only[Bool.and_eq_true];exact⟨by simp[hbt'],q⟩)
   have hsz:es.size<=1:=by
    rcases Nat.lt_or_ge 1 es.size with h|h
    ·exact absurd (by rw[hplain (by exact jF ‹_›)];simp[h]) hnd
    ·exact h
   have hps:t.place.size=es.size:=by simp only[SetTable.fits,Bool.and_eq_true,beq_iff_eq]at hf;exact hf.1
   refine byInt (es.toList.map (·.2)) (λ i=>if i=0 then 0 else t.place.getD 0 0+1) (by simp) rfl (.refl _) λ A i s₁ E Q hi ha1 hq=>?_
   refine wpAny_bind (wpAny_setState_of ha1 hd hf ?_)
   refine wpAny_bind (wpAny_bind (wpAny_askSetting (wpAny_pure ?_)))
   rw[if_neg (by rw[hbt'];exact Bool.false_ne_true)]
   refine wpAny_ite_split (λ q=>absurd q hnd) λ _=>?_
   refine wpAny_bind ?_
   show wpAny _ _ (if(!t.led&&!es.isEmpty)=true then unsupported _ else pure ()) _ _ _
   rw[if_neg (by rw[hled hbt];simp)]
   refine wpAny_pure (wpAny_pure ?_)
   rcases Nat.eq_zero_or_pos es.size with h0|h1
   ·have e0:es = #[]:=Array.size_eq_zero_iff.mp h0
    subst e0
    exact hq
   ·have h1:es.size=1:=by exact Nat.le_antisymm ‹_› ‹_›
    obtain⟨e0,he⟩:=Array.size_eq_one_iff.mp h1
    obtain⟨j,hj⟩:=Array.size_eq_one_iff.mp (hps.trans h1)
    subst he
    rw[hj]at hq ⊢
    rcases _:Nat.eq_zero_or_pos i with hi0|hi1
    ·subst hi0
     exact hq
    ·have hi1:i=1:=by exact Nat.le_antisymm ‹_› ‹_›
     subst hi1
     rw[k1z]
     simpa using hq
end
structure Kept (s s':Shared):Prop where
 heap:∀b o,s.heap.get? b=some o->s'.heap.get? b=some o
 toks:s.toks<=s'.toks
 gens:s'.gens=s.gens
 os:s'.os=s.os
theorem Kept.refl (s:Shared):Kept s s:=⟨λ _ _ e=>e,jD _,rfl,rfl⟩
theorem Kept.trans {s s' s'':Shared} (a:Kept s s') (b:Kept s' s''):Kept s s'':=⟨λ x o e=>b.heap x o (a.heap x o e),jA a.toks b.toks,b.gens.trans a.gens,b.os.trans a.os⟩
theorem ItOk.kept {cx:Cx} {src:List Addr} {s s':Shared} {n:Nat} {R:List Value->Prop} {I:Addr} (h:ItOk cx src s n R I s'):Kept s s':=⟨h.keep,h.toks,h.gens,h.os⟩
section
variable {cx:Cx} {A:Around} {s:Shared} {a:Addr} {oS:Obj}
theorem Kept.stp {g:G} {s s':Shared} (k:Kept s s') {own:List Addr}:Stp own g s g s':=⟨.refl g,k.toks,λ b o e _ _=>k.heap b o e,λ _ _ _ h=>h,λ _ _ _ h=>h,λ b o e=>⟨o,k.heap b o e⟩,k.gens,k.os⟩
theorem Kept.inv {g:G} {σ:Store} {s s':Shared} (k:Kept s s') (h:Inv cx g σ s):Inv cx g σ s':=
 ⟨λ a o e=>k.heap _ _ (h.sub a o e),h.base,h.len,h.nodup,h.apart,λ l o a e q=>(h.cells l o a e q).mono (.refl g) λ _ e=>k.heap _ _ e,jA h.one k.toks,λ x y e=>jC (h.tok x y e) k.toks⟩
theorem z9p {T:String} {src:List Addr} {n:Nat} {R:List Value->Prop} {Q:List Value->Shared->Prop} (hA:A.handled=none) (hT:s.TypeIs (.ref a) T) (h1:(Value.type T==Value.type "list")=false) (h2:(Value.type T==Value.type "tuple")=false) (hn:n<=sizeLine) (hsrc:∀b∈src,∃o,s.heap.get? b=some o)
  (iter:∀(A:Around) (s₁:Shared) (Q:Value->Shared->Prop),A.handled=none->Kept s s₁->(∀I s',ItOk cx src s₁ n R I s'->Q (.ref I) s')->wpAny cx.M A (pyIter (.ref a)) Q NoE s₁)
  (hint:∀(A:Around) (s₁:Shared) (Q:Bool->Shared->Prop),A.handled=none->Kept s s₁->(∀b s',Kept s₁ s'->Q b s')->wpAny cx.M A (Builtin.List.listLengthHint (.ref a)) Q NoE s₁)
  (h:∀vs s',R vs->vs.length=n->Kept s s'->Q vs s'):wpAny cx.M A (collect (.ref a)) Q NoE s:=by
 rcases _:hT with⟨oa,hoa,hca⟩
 have hal:=Heap.lt_size hoa
 refine wpAny_bind (wpAny_runValue (codeAny_builtin F.entry_proto_collect ?_))
 dsimp only[Around.under_plainId F.plain_proto_collect _]
 refine wpAny_bind (wpAny_newObj_type ?_)
 refine wpAny_pure ⟨plainId_quiet F.plain_list_iadd _,codeAny_builtin F.entry_list_iadd ?_⟩
 dsimp only[Around.under_plainId F.plain_list_iadd _]
 have hS1:(s.heap.push { cls:=.type "list",data:=.seq ([]:List Value).toArray }).get? s.heap.objs.size=some { cls:=.type "list",data:=.seq ([]:List Value).toArray }:=Heap.get?_push_size _ rfl
 have hne:s.heap.objs.size≠a:=Nat.ne_of_gt hal
 have hsr:Builtin.List.listSameRef (.ref s.heap.objs.size) (.ref a)=false:=by simp[Builtin.List.listSameRef,hne]
 have k1:Kept s { s with heap:=s.heap.push { cls:=.type "list",data:=.seq ([]:List Value).toArray } }:=⟨λ b o e=>Heap.get?_push_of_some _ e,jD _,rfl,rfl⟩
 show wpAny _ A.in1 (Builtin.List.listExtendWith (.ref s.heap.objs.size) (.ref a) (.ref s.heap.objs.size)) _ _ _
 refine wpAny_bind (wpAny_typeOf (T:=T) ⟨oa,k1.heap _ _ hoa,hca⟩ ?_)
 rw[if_neg (by simp only[hsr,h1,h2];trivial)]
 have hA1:A.in1.handled=none:=by exact hA
 refine wpAny_bind (wpAny_mono (iter A.in1 _ _ hA1 k1 λ I s₂ ht=>?_) (λ _ _ x=>x) λ _ _ x=>x.elim)
 have hI:s.heap.objs.size≠I:=λ e=>by simp only[<-e,]at ht;rw[ht.new]at hS1;contradiction
 refine wpAny_bind (wpAny_holding (wpAny_mono (hint A.in1 s₂ _ hA1 (k1.trans ht.kept) λ room s3 k3=>?_) (λ _ _ x=>x) λ _ _ x=>x.elim))
 rcases _:ht.walk with⟨fp,P,St,w1,w2,w3,w4,w5⟩
 have hSf:s.heap.objs.size∉fp:=λ hm=>by
  rcases _:w3 _ hm with q|q
  ·rw[hS1]at q;contradiction
  ·obtain⟨o,ho⟩:=hsrc _ q
   exact absurd (Heap.lt_size ho) (Nat.lt_irrefl _)
 have W:=(w1 A.in1 hA1).toS
 have hS3:s3.heap.get? s.heap.objs.size=some { cls:=.type "list",data:=.seq #[] }:=k3.heap _ _ (ht.kept.heap _ _ hS1)
 have hst3:St 0 s3.heap:=(w1 A hA).frame 0 s₂.heap s3.heap w2 λ b _ o e=>k3.heap b o e
 have kk:Kept s s3:=(k1.trans ht.kept).trans k3
 have isn:s.heap.get? s.heap.objs.size=none:=q0m s
 have loop:∀(h4:Heap) (c:Nat),(∀b o,b≠s.heap.objs.size->s3.heap.get? b=some o->h4.get? b=some o)->h4.get? s.heap.objs.size=some { cls:=.type "list",data:=.seq #[] c }->
   codeAny cx.M A (.builtin "list.extend.loop" ⟨[.ref s.heap.objs.size,.ref I,.ref s.heap.objs.size],[]⟩) (λ r s'=>match r with
    | .ok (.ret v)=>wpAny cx.M A (match v with
     | .ref a=>do
      let o <-load a
      match o.data with
      | .seq xs _=>pure xs.toList
      | _=>unsupported "internal:collect"
     | _=>unsupported "internal:collect") Q NoE s'
    | .ok _=>False
    | .error e=>NoE e s') { s3 with heap:=h4 }:=by
  intro h4 c hk4 hS4
  refine codeAny_extend_loopS W hn s.heap.objs.size hSf _ n 0 _ _ _ rfl (Nat.zero_le _) ((w1 A hA).frame 0 s3.heap h4 hst3 λ b hb o e=>hk4 b o (λ z=>hSf (z▸hb)) e) hS4 (ItemsOf.nil P) λ s' acc' c' hm hS' hacc=>?_
  refine wpAny_bind (wpAny_load hS' ?_)
  refine wpAny_pure (h _ _ (w5 acc'.toList (by exact hacc)) (by exact hacc.1) ⟨λ b o e=>?_,?_,?_,?_⟩)
  ·have hb:b≠s.heap.objs.size:=λ z=>by rw[z,isn]at e;contradiction
   have hbI:b≠I:=λ z=>by rw[z]at e;have:=k1.heap _ _ e;rw[ht.new]at this;contradiction
   exact hm.heap b o (by simp only[List.mem_cons,List.not_mem_nil,or_false,not_or];exact⟨hb,hbI⟩) (hk4 b o hb (kk.heap b o e))
  ·exact jA kk.toks hm.toks
  ·exact(hm.gens:s'.gens=_).trans kk.gens
  ·exact hm.os.trans kk.os
 have lp:∀(h4:Heap) (c:Nat),(∀b o,b≠s.heap.objs.size->s3.heap.get? b=some o->h4.get? b=some o)->h4.get? s.heap.objs.size=some { cls:=.type "list",data:=.seq #[] c }->_:=λ h4 c x y=>And.intro (plainId_quiet F.plain_extend_loop ⟨[.ref s.heap.objs.size,.ref I,.ref s.heap.objs.size],[]⟩) (loop h4 c x y)
 dsimp only
 refine wpAny_ite_split (λ _=>?_) λ _=>?_
 ·refine wpAny_bind (wpAny_rule (wpAny_bind ?_))
  (refine Classical.byContradiction λ kk0=>?_;obtain⟨e1,g1⟩:∃e1,(s3.heap.update s.heap.objs.size (Obj.mapSeq (·.push .none))).get? s.heap.objs.size=some { cls:=.type "list",data:=.seq #[.none] e1 }:=⟨_,get?_update_seq hS3 (·.push .none)⟩<;>(refine kk0 ?_;clear kk0))
  refine wpAny_bind (listUpdate_at hS3 rfl ?_ (Nat.zero_le _) (by trivial))
  obtain⟨e2,g2⟩:∃e2,((s3.heap.update s.heap.objs.size (Obj.mapSeq (·.push .none))).update s.heap.objs.size (Obj.mapSeq (·.pop))).get? s.heap.objs.size=some { cls:=.type "list",data:=.seq #[] e2 }:=⟨_,get?_update_seq g1 (·.pop)⟩
  refine listUpdate_at g1 rfl ?_ (by trivial) (by trivial)
  refine wpAny_pure (lp _ e2 (λ b o hb e=>?_) g2)
  rw[Heap.get?_update_ne _ _ _ _ hb,Heap.get?_update_ne _ _ _ _ hb];exact e
 ·exact wpAny_pure (lp s3.heap _ (λ b o _ e=>e) hS3)
end
theorem z4t:isSubtype (.type "set") (.type "set")=pure true:=by rw[isSubtype_type];kernel_rfl
section
variable {cx:Cx} {A:Around} {s:Shared} {a:Addr} {oS:Obj} {E:Value->Shared->Prop}
theorem j3z {T id:String} {Q:Bool->Shared->Prop} (hT:s.TypeIs (.ref a) T) (hl:typeLookup (.type T) "__len__" = pure (some (.builtin id))) (hs:splitId id=some (T,"__len__")) (hsub:isSubtype (.type T) (.type T)=pure true)
  (hid:id = "set.__len__"\/id = "dict_items.__len__"\/id = "dict.__len__") (h:Q false s):wpAny cx.M A (Builtin.List.listLengthHint (.ref a)) Q E s:=by
 refine wpAny_bind (wpAny_specialOf hT hl ?_)
 dsimp only
 rw[hs]
 refine wpAny_bind (wpAny_isInstance hT hsub ?_)
 rw[if_neg (by trivial)]
 refine wpAny_ite_split (λ _=>?_) λ q=>?_
 ·refine wpAny_bind (wpAny_typeOf hT ?_)
  exact wpAny_pure h
 ·exfalso
  refine q ?_
  rcases hid with rfl|rfl|rfl<;>rfl
theorem z5h {S:Str->Bool} {n:Nat} {Q:List Value->Shared->Prop} (hA:A.handled=none) (ho:s.heap.get? a=some oS) (hs:oS.SetObjOf cx.sk S n) (hl:z7g cx oS) (hb:n<scanBound)
  (h:∀es ep t,oS.data = .set es ep t->∀vs s',vs.Perm (es.toList.map (·.2))->Kept s s'->Q vs s'):wpAny cx.M A (collect (.ref a)) Q NoE s:=by
 rcases _:id hs with⟨hex,es,ep,t,hd,hel,hmem,hn,hf⟩
 have hT:s.TypeIs (.ref a) "set":=⟨_,ho,hex.1⟩
 refine z9p (src:=[a]) (n:=es.size) (R:=λ vs=>vs.Perm (es.toList.map (·.2))) hA hT (by rfl) (by rfl) (by rw[hn];exact fits_of_scanBound hb) (λ b hb=>by simp at hb;subst hb;exact⟨_,ho⟩)
  (λ A s₁ Q hA k hq=>?_) (λ A s₁ Q hA k hq=>?_) λ vs s' hp _ k=>h es ep t hd vs s' hp k
 ·refine k8q (k.heap _ _ ho) hs hl hb λ es' ep' t' hd' I s' hi _=>hq I s' ?_
  rw[hd]at hd';rcases hd';exact hi
 ·exact j3z (T:="set") ⟨_,k.heap _ _ ho,hex.1⟩ F.slot_set_len.lookup (by rfl) z4t (.inl rfl) (hq _ _ (.refl _))
end
structure z4w (cx:Cx) (T:Tab):Prop where
 gA:cx.gA=mainGlobals
 bA:cx.bA=builtinsNs
 code:CodeHd cx.h₀ cx.lc cx.lP
 lp:cx.lp=T.lam
 bm:∃bm o,cx.mg "__builtins__" = some (.ref bm)/\bm≠builtinsNs/\bm≠mainGlobals/\cx.h₀.get? bm=some o/\o.cls = .type "module"/\o.dict=some builtinsNs/\o.data = .plain
 out:cx.h₀.get? cx.lP=none
noncomputable abbrev q3p (cx:Cx) (la:Arguments) (lb:Expr) (sc:Scope) (c':Addr) (ctv:Value):Obj:=kla_obj "<lambda>" (cx.lq++"<lambda>") la lb sc [] ((cx.mg "__name__").getD .none) c' ctv
section
variable {cx:Cx} {T:Tab} {n:Nat} {r:Ev} {C:q0a} {ks:Kinds} {ns:List Str} {env:Env} {g g':G} {vs vs':Vs} {σ σ' σ'':Store} {s s':Shared} {A:Around} {v:AV} {u uf:Value} {ex:Expr} {x:Str}
theorem z9x (h:w2q σ=true):σ[0]? = some .code:=by
 unfold w2q at h
 split at h
 ·assumption
 ·exact Bool.noConfusion h
theorem w2i {sc:Scope} (h:∀p∈sc.names,p.2≠.free):closureFor sc env=pure []:=by
 unfold closureFor
 dsimp only
 rw[forIn_yield_id [] (λ x hx c=>by
  obtain⟨name,kind⟩:=x
  have:(kind==NameKind.free)=false:=by simpa using h _ hx
  simp only[this,Bool.false_eq_true,if_false])]
 rfl
inductive j1y (cx:Cx) (g:G) (s:Shared) (σ:Store) (la:Arguments) (lb:Expr) (sc:Scope) (u:Value) (s':Shared):Prop
 | mk (g':G) (f c':Addr) (ctv:Value) (oc:Obj) (fs:Array Value) (t:Tok) (e:u = .ref f) (a:Stp [] g s g' s') (i:Inv cx g' σ s') (hf:g'.I f=some (q3p cx la lb sc c' ctv)) (hc:g'.I c'=some oc) (hd:oc.data = .fields fs) (h1:fs[1]? = some (.str (cx.lq++"<lambda>") t))
theorem j8d (L:z4w cx T) (H:GlOk cx T) (i:Inv cx g σ s) (E:ER cx ks ns env g vs s) {la:Arguments} {lb:Expr} {sc:Scope} {lp:Pos} (hd:la.kw_defaults=[]/\la.defaults=[]) (hfree:∀p∈sc.names,p.2≠.free) (hk:(ks.lookup ("resolved_names" : Str)).isSome=true) (hc:w2q σ=true) (hp:lp=T.lam) :
  wpAny cx.M A (eval (.Lambda la lb sc lp) env) (j1y cx g s σ la lb sc) NoE s:=by
 rcases _:E.code.2 hk with⟨hcode,hqual⟩
 have h0:=z9x hc
 rcases _:i.cell h0 with⟨P,hP,rfl,ps,hps,htr,hor⟩
 have hgl:env.globals=mainGlobals:=E.gl.trans L.gA
 have hg:s.heap.Ns mainGlobals cx.mg:=by rw[<-L.gA];exact i.nsAt H.gns
 have hmem:cx.lP∈g.ρ:=List.mem_of_getElem? hP
 rcases _:L.bm with⟨bm,ob,b1,b2,b3,b4,b5,b6,b7⟩
 have nb:∀{b:Addr} {o:Obj},cx.h₀.get? b=some o->b≠cx.lP:=λ e z=>by rw[z,L.out]at e;contradiction
 have hgP:mainGlobals≠cx.lP:=by
  rcases _:H.gns with⟨o,es,ep,e,_⟩
  rw[<-L.gA];exact nb e
 have hdef:defaultsOf la env=([],[]):=by
  obtain⟨p1,p2,p3,p4,p5,p6,p7⟩:=la
  obtain⟨rfl,rfl⟩:=hd
  rfl
 have hB:s.heap.BuiltinsAt cx.mg cx.lP:=⟨bm,ob,b1,b2,b3,nb b4,i.keeps0 _ _ b4,b5,b6,b7⟩
 refine q4y (kla_eval hdef ?_)
 rw[hqual]
 rcases _:hor with hnf|⟨c',oc,fs,t,hhit,hI,hdat,hf1⟩
 ·refine kla_makeFunction (mg:=cx.mg) (w2i hfree) hgl hg hcode (L.code.keeps i.keeps0) hps htr (by rw[hp,<-L.lp];exact hnf) hgP hB λ c' ctv h' tk hx hge hlt hrec htab=>?_
  intro ht
  rcases _:hrec with⟨c2,oc,fs,t,e2,hoc,hdat,hf1⟩
  rcases e2
  have big:∀{b:Addr},s.heap.objs.size<=b->s.heap.get? b=none:=λ{b} hb=>by
   cases q:s.heap.get? b with
   | none=>rfl
   | some o=>exact absurd (Heap.lt_size q) (Nat.not_lt.mpr hb)
  have hcn:s.heap.get? c'=none:=big hge
  have hfn:s.heap.get? h'.objs.size=none:=big (jF (jB hge hlt))
  have hfc:h'.objs.size≠c':=Nat.ne_of_gt hlt
  obtain⟨n1,n2⟩:=i.fresh hcn
  obtain⟨m1,m2⟩:=i.fresh hfn
  have hPl:s.heap.get? cx.lP=some (tabObj ps):=hps
  have hcP:c'≠cx.lP:=λ z=>by rw[z,hPl]at hcn;contradiction
  have hfP:h'.objs.size≠cx.lP:=λ z=>by rw[z,hPl]at hfn;contradiction
  have keep:∀b o,b≠cx.lP->s.heap.get? b=some o->(h'.push (q3p cx la lb sc c' ctv)).get? b=some o:=λ b o hb e=>Heap.get?_push_of_some _ (hx b o hb e)
  let g1:=g.freeze c' oc
  have m1':g1.I h'.objs.size=none:=by show(if _=c' then _ else g.I _)=none;rw[if_neg hfc];exact m1
  let g2:=g1.freeze h'.objs.size (q3p cx la lb sc c' ctv)
  have le:g.le g2:=(G.freeze_le n1).trans (G.freeze_le m1')
  have hI2:g2.I h'.objs.size=some (q3p cx la lb sc c' ctv):=G.freeze_self _ _ _
  have hIc:g2.I c'=some oc:=(G.freeze_le m1').I _ _ (G.freeze_self g c' oc)
  have other:∀b,b≠c'->b≠h'.objs.size->g2.I b=g.I b:=λ b h1 h2=>by
   show(if b=h'.objs.size then _ else if b=c' then _ else g.I b)=_
   rw[if_neg h2,if_neg h1]
  have getf:(h'.push (q3p cx la lb sc c' ctv)).get? h'.objs.size=some (q3p cx la lb sc c' ctv):=Heap.get?_push_size _ rfl
  have getc:(h'.push (q3p cx la lb sc c' ctv)).get? c'=some oc:=Heap.get?_push_of_some _ hoc
  have ne:∀{b:Addr} {o:Obj},s.heap.get? b=some o->b≠c'/\b≠h'.objs.size:=by
   intro b o e
   constructor
   ·intro z;rw[z,hcn]at e;contradiction
   ·intro z;rw[z,hfn]at e;contradiction
  have i2:Inv cx g2 σ { s with heap:=h'.push (q3p cx la lb sc c' ctv),toks:=tk }:=by
   refine⟨λ b o e=>?_,λ b o e=>le.I _ _ (i.base b o e),i.len,i.nodup,λ b hb=>?_,λ l o b e q=>?_,jA i.one ht,λ x y e=>jC (i.tok x y e) ht⟩
   ·by_cases h1:b=h'.objs.size
    ·subst h1;rw[hI2]at e;obtain rfl:=jI e;exact getf
    ·by_cases h2:b=c'
     ·cases h2;rw[hIc]at e;obtain rfl:=jI e;exact getc
     ·rw[other b h2 h1]at e
      exact keep b o (λ z=>i.notCell e (z▸hmem)) (i.sub b o e)
   ·have hb:b∈g.ρ:=hb
    obtain⟨l,hl,rfl⟩:=List.getElem_of_mem hb
    have hs:l<σ.length:=by simp only[<-i.len];exact hl
    obtain⟨ob',hob'⟩:=(i.cells l σ[l] g.ρ[l] (by simp[hs]) (by simp[hl])).there
    obtain⟨x1,x2⟩:=ne hob'
    rw[other _ x1 x2];exact i.apart _ hb
   ·by_cases hb:b=cx.lP
    ·subst hb
     have hl0:l=0:=((List.getElem?_inj (List.getElem?_eq_some_iff.mp hP).1 i.nodup).mp (hP.trans q.symm)).symm
     subst hl0
     rw[h0]at e;obtain rfl:=jI e
     refine⟨rfl,_,Heap.get?_push_of_some _ htab,?_,.inr ⟨c',oc,fs,t,?_,hIc,hdat,hf1⟩⟩
     ·have:(ps++#[rawInt lp.line,rawInt lp.col,.ref c']).toList=ps.toList++[rawInt lp.line,rawInt lp.col,.ref c']:=by simp
      simp only[this];exact TriplesOk_snoc _ _ _ _ htr
     ·have:(ps++#[rawInt lp.line,rawInt lp.col,.ref c']).toList=ps.toList++[rawInt lp.line,rawInt lp.col,.ref c']:=by simp
      rw[this,hp,<-L.lp]
      exact codeAmong_snoc _ htr hnf
    ·exact(i.cells l o b e q).mono le λ ob eo=>keep b ob hb eo
  have a2:Stp [] g s g2 { s with heap:=h'.push (q3p cx la lb sc c' ctv),toks:=tk }:=by
   refine⟨le,ht,λ b o e q _=>keep b o (λ z=>q (z▸hmem)) e,λ b o e q=>q,λ b o e q=>?_,λ b o e=>?_,rfl,rfl⟩
   ·obtain⟨x1,x2⟩:=ne e
    rw[other _ x1 x2];exact q
   ·by_cases hb:b=cx.lP
    ·subst hb;exact⟨_,Heap.get?_push_of_some _ htab⟩
    ·exact⟨o,keep b o hb e⟩
  exact⟨g2,_,c',ctv,oc,fs,t,rfl,a2,i2,hI2,hIc,hdat,hf1⟩
 ·refine kla_makeFunctionHit (mg:=cx.mg) (cv:=.ref c') (w2i hfree) hgl hg hcode (L.code.keeps i.keeps0) hps htr (by rw[hp,<-L.lp];exact hhit) hB λ ctv h' tk hk' hsz=>?_
  intro ht
  have ht:s.toks<=tk:=ht
  have hfn:s.heap.get? h'.objs.size=none:=by
   generalize q:s.heap.get? h'.objs.size=zzy
   induction zzy with
   | none=>rfl
   | some o=>exact absurd (Heap.lt_size (hk' _ _ q)) (Nat.lt_irrefl _)
  have k:∀b o,s.heap.get? b=some o->(h'.push (q3p cx la lb sc c' ctv)).get? b=some o:=λ b o e=>Heap.get?_push_of_some _ (hk' b o e)
  have a2:Stp [] g s (g.freeze h'.objs.size (q3p cx la lb sc c' ctv)) { s with heap:=h'.push (q3p cx la lb sc c' ctv),toks:=tk }:=.freeze i ht hfn k
  exact⟨_,_,c',ctv,oc,fs,t,rfl,a2,i.freeze ht hfn (Heap.get?_push_size _ rfl) k,G.freeze_self _ _ _,a2.le.I _ _ hI,hdat,hf1⟩
end
end Mine
end
section
set_option tactic.hygienic false
namespace Mine
theorem z9u {l:List Nat} {c i:Nat} (h:l[i]? = some c) (hn:∀k,k<i->l[k]?≠some c):l.takeWhile (· !=c)=l.take i/\l.dropWhile (· !=c)=l.drop i:=by
 induction l generalizing i with
 | nil=>trivial
 | cons a l ih=>
  induction i with
  | zero=>simp at h;subst h;simp
  | succ j=>
   have ha:a≠c:=λ z=>hn 0 (by exact Nat.succ_pos _) (by simp[z])
   obtain⟨h1,h2⟩:=ih (i:=j) (by simpa using h) λ k hk=>by simpa using hn (k+1) (by exact Nat.lt_succ_of_le ‹_›)
   simp[ha,h1,h2]
theorem w4t (x:Str) (i j:Nat):(Builtin.Str.strSub x i j).cps.toList=(x.cps.toList.take j).drop i:=by
 unfold Builtin.Str.strSub
 rw[Array.toList_extract]
 simp only[List.extract_eq_take_drop]
 rw[List.drop_take]
theorem k4c (x:Str):limitOf x 1=1:=by
 unfold limitOf
 rfl
theorem w1f (x:Str) (c:Nat) (hc:c<256):(Txt.splitMax x ⟨#[c]⟩ 1).map (·.cps.toList) =
  if x.cps.toList.contains c then[x.cps.toList.takeWhile (· !=c),(x.cps.toList.dropWhile (· !=c)).drop 1]else[x.cps.toList]:=by
 have hk:Builtin.Str.strKind ⟨#[c]⟩=1:=by unfold Builtin.Str.strKind;simp[hc]
 have hk1:1<=Builtin.Str.strKind x:=by unfold Builtin.Str.strKind;split<;>(try split)<;>exact Nat.succ_pos _
 have hl1:(⟨#[c]⟩:Str).length=1:=rfl
 unfold Txt.splitMax
 rw[hk,k4c]
 rcases _:StrLaws.occ_head x ⟨#[c]⟩ 1 (Nat.le_refl _)with⟨h0,hn⟩|⟨i,r,h0,hi,hn⟩
 ·have hno:x.cps.toList.contains c=false:=by
   rw[<-Bool.not_eq_true,List.contains_iff_mem,List.mem_iff_getElem?]
   rintro⟨i,hi⟩
   exact hn i ((StrLaws.subAt_one x c i).mpr hi)
  rw[hno,h0]
  simp
 ·have hi':=(StrLaws.subAt_one x c i).mp hi
  have hyes:x.cps.toList.contains c=true:=by rw[List.contains_iff_mem];exact List.mem_of_getElem? hi'
  have hr:r=[]:=by
   have:=StrLaws.occ_length_le x ⟨#[c]⟩ 0 x.length 1
   rw[h0]at this
   simpa using this
  subst hr
  have hlen:1<=x.length:=by have:=(List.getElem?_eq_some_iff.mp hi').1;skip;decreasing_trivial
  rw[hyes,h0]
  rw[if_neg (by rw[hl1];simp;lia),if_neg (by simp)]
  obtain⟨f1,f2⟩:=z9u hi' λ k hk hx=>hn k hk ((StrLaws.subAt_one x c k).mpr hx)
  simp only[if_true,Builtin.Str.partsBetween,List.map_cons,List.map_nil,List.cons_append,List.nil_append,List.zip_cons_cons,List.zip_nil_left]
  simp only[w4t,w4t,f1,f2]
  rw[List.take_of_length_le (show x.cps.toList.length<=x.length by simp[Str.length])]
  simp[hl1]
end Mine
end
section
set_option tactic.hygienic false
open PySem.SeqAt
namespace Mine
section
variable {cx:Cx} {T:Tab} {n:Nat} {r:Ev} {C:q0a} {ks:Kinds} {ns:List Str} {env:Env} {g g':G} {vs vs':Vs} {σ σ' σ'':Store} {s s':Shared} {A:Around} {v:AV} {u uf a b:Value} {ex:Expr} {x:Str}
theorem z6z {p c:Str} {k:Int} {d:Value} (i:Inv cx g σ s) (hc:c.length≠0) (hk:k.natAbs<2 ^ 30) (hz:(Txt.splitMax p c k).length<=sizeLine) (ra:VR cx g (.str p) a) (rb:VR cx g (.str c) b) (rd:VR cx g (.int k) d) :
  wpAny cx.M A (call (.builtin "str.split") [a,b,d]) (PE cx g s σ (.fl ((Txt.splitMax p c k).map .str))) NoE s:=by
 obtain⟨t,rfl,z⟩:=ra.of_str
 obtain⟨u,rfl,_⟩:=rb.of_str
 obtain⟨w',rfl⟩:=rd.of_int
 have hy:(c.length==0)=false:=by simpa using hc
 have hk':(decide (k < -(2 ^ 63:Int))||decide (k≥2 ^ 63))=false:=w9b hk
 have zz:∀q∈Txt.splitMax p c k,q.length<=sizeLine:=λ q hq=>jA (partMax_short hq) z
 rcases h1:(decide (p.length<c.length)||decide (Builtin.Str.strKind p<Builtin.Str.strKind c))
 ·rcases hf:(Builtin.Str.occurrences p c 0 p.length (limitOf p k)).isEmpty
  ·have e:Txt.splitMax p c k=Builtin.Str.partsBetween p (Builtin.Str.occurrences p c 0 p.length (limitOf p k)) c.length:=by unfold Txt.splitMax;rw[if_neg (by rw[h1];simp),if_neg (by rw[hf];simp)]
   refine call_meets F.slot_str_split (typeIs_str _ _ _) F.entry_str_split (F.args_str_split_3 _ _ _) (meets_str_split_sep_max p c k t u w' hk' h1 hy hf z (by rw[<-e];exact hz)) ?_
   rw[strsFrom_eq]
   exact PE.texts i ((numbered_texts _ _).trans e.symm) zz hz
  ·have e:Txt.splitMax p c k=[p]:=by unfold Txt.splitMax;rw[if_neg (by rw[h1];simp),if_pos hf]
   exact call_meets F.slot_str_split (typeIs_str _ _ _) F.entry_str_split (F.args_str_split_3 _ _ _) (meets_str_split_max_not_found p c k t u w' hk' h1 hy hf) (PE.texts (l:=[(p,t)]) (t:=s.toks) i e.symm zz hz)
 ·have e:Txt.splitMax p c k=[p]:=by unfold Txt.splitMax;rw[if_pos h1]
  exact call_meets F.slot_str_split (typeIs_str _ _ _) F.entry_str_split (F.args_str_split_3 _ _ _) (meets_str_split_max_cannot_occur p c k t u w' hk' h1) (PE.texts (l:=[(p,t)]) (t:=s.toks) i e.symm zz hz)
structure w1n (la:Arguments) (lb:Expr) (sc:Scope) (y:Str):Prop where
 args:∃p,la=⟨[],[⟨y,none,p⟩],none,[],[],none,[]⟩
 body:∃np ap cp k1 k2 q1 q2,lb = .Call (.Attribute (.Name y np) "split" ap) [.Constant (.str "}") k1 q1,.Constant (.int 1) k2 q2] [] cp/\ap.endLine=cp.line
 sok:ScOk sc
 loc:sc.names.lookup y=some .local
 res:sc.names.lookup ("resolved_names" : Str)=none
 d1:(y==("__debug__" : Str))=false
 d2:(y==("__classdict__" : Str))=false
 nm:y = "n"
theorem anyE {α:Type} {o:Option α} {f:α->Bool} {P:Prop} (h:o.any f=true) (k:∀x,o=some x->f x=true->P):P:=match o,h with
 | some x,h=>k x rfl h
theorem q6l {a b:Bool} {P:Prop} (h:(a&&b)=true) (k:a=true->b=true->P):P:=match a,h with
 | true,h=>k rfl h
theorem j2g {la:Arguments} {a b:List Arg} {c:Option Arg} {d:List Arg} {e:List (Option Expr)} {f:Option Arg} {g:List Expr} (h1:la.posonlyargs=a) (h2:la.args=b) (h3:la.vararg=c) (h4:la.kwonlyargs=d) (h5:la.kw_defaults=e) (h6:la.kwarg=f) (h7:la.defaults=g):la=⟨a,b,c,d,e,f,g⟩:=by
 rcases la;subst h1 h2 h3 h4 h5 h6 h7;rfl
set_option backward.match.sparseCases false in
theorem j2e {as:List Arg} {y:Str} (h:(match as with | [a]=>if a.annotation.isNone then some a.arg else none|_=>none)=some y):∃p,as=[⟨y,none,p⟩]:=match as,h with
 | [⟨z,an,p⟩],h=>q0o h λ k h=>⟨p,by rw[show an=none from Option.isNone_iff_eq_none.mp k,show z=y from jI h]⟩
 | [],h=>nope h
 | _::_::_,h=>nope h
theorem j2f {la:Arguments} {y:Str} (h:argP la=some y):∃p,la=⟨[],[⟨y,none,p⟩],none,[],[],none,[]⟩:=
 q0o h λ q h=>q6l q λ q q7=>q6l q λ q q6=>q6l q λ q q5=>q6l q λ q q4=>q6l q λ q1 q2=>(j2e h).elim λ p e=>
  ⟨p,j2g (List.isEmpty_iff.mp q1) e (Option.isNone_iff_eq_none.mp q2) (List.isEmpty_iff.mp q4) (List.isEmpty_iff.mp q5) (Option.isNone_iff_eq_none.mp q6) (List.isEmpty_iff.mp q7)⟩
theorem k9t {la:Arguments} {lb:Expr} {sc:Scope} (h:w2t la lb sc=true):∃y,w1n la lb sc y:=by
 refine anyE h λ y hy h=>q6l h λ hb h=>?_
 simp only[Bool.and_eq_true,beq_iff_eq,Bool.not_eq_true',List.all_eq_true,Bool.or_eq_true,Option.isNone_iff_eq_none]at h
 rcases _:h with⟨⟨⟨⟨⟨⟨⟨⟨h5,h6⟩,h7⟩,h8⟩,h9⟩,h10⟩,h11⟩,h12⟩,h13⟩
 refine⟨y,j2f hy,?_,⟨h5,λ q hq=>by rcases h10 q hq with z|z<;>(rw[z];decide),h7,h6⟩,h8,h9,h11,h12,h13⟩
 refine anyE hb λ⟨f,as,kws,cp⟩ e1 hb=>q6l hb λ hb h=>q6l hb λ hk hb=>anyE hb λ⟨a,b⟩ e2 hb=>q6l hb λ e3 e4=>anyE h λ⟨o,sp,ap⟩ e5 h=>q6l h λ h e7=>q6l h λ e8 e9=>?_
 rcases _:w1s (beq_iff_eq.mp e7)with⟨np,rfl⟩
 rcases _:q8z (beq_iff_eq.mp e3)with⟨k1,q1,rfl⟩
 rcases _:q8z (beq_iff_eq.mp e4)with⟨k2,q2,rfl⟩
 obtain rfl:=beq_iff_eq.mp e8
 obtain rfl:=z7j e5
 obtain rfl:=k6w e2
 obtain rfl:=List.isEmpty_iff.mp hk
 exact⟨np,ap,cp,k1,k2,q1,q2,k7n e1,beq_iff_eq.mp e9⟩
theorem j6t {n q:Str} {y:Str} (hy:y = "n") {p:Pos} {lb:Expr} {sc:Scope} {m cv ct:Value}:bindArgs (kla_fn n q ⟨[],[⟨y,none,p⟩],none,[],[],none,[]⟩ lb sc [] m cv ct) ⟨[u],[]⟩=pure [(y,u)]:=by
 subst hy
 kernel_rfl
theorem k8x (L:z4w cx T) (hlim:cx.h₀.NoLimit) {f c':Addr} {ctv:Value} {oc:Obj} {fs:Array Value} {t:Tok} {la:Arguments} {lb:Expr} {sc:Scope} {y x:Str} (S:w1n la lb sc y) (hA:A.handled=none) (hd:A.depth+2<recursionLimit) (i:Inv cx g σ s)
  (hf:g.I f=some (q3p cx la lb sc c' ctv)) (hc:g.I c'=some oc) (hdat:oc.data = .fields fs) (hf1:fs[1]? = some (.str (cx.lq++"<lambda>") t)) (rx:VR cx g (.str x) u) :
  wpAny cx.M A (call (.ref f) [u]) (PX cx g s σ (.fl ((Txt.splitMax x "}" 1).map .str))) NoE s:=by
 rcases _:S.args with⟨p1,rfl⟩
 rcases _:S.body with⟨np,ap,cp,k1,k2,q1,q2,rfl,hl⟩
 have qw:VRs cx g [AV.str x] [u]:=.cons rx .nil
 refine q2d (kla_callFunE (by decreasing_trivial) (i.sub _ _ hf) rfl S.sok.co S.sok.gen rfl ⟨c',oc,fs,t,rfl,i.sub _ _ hc,hdat,hf1⟩ (BindsTo.of_eq (j6t (u:=u) S.nm) cx.M A.in1 NoE _ ?_))
 show wpAny cx.M A.in1 (newFunctionEnv sc mainGlobals [] _ _ _ _ none builtinsNs) _ _ _
 rw[<-L.gA,<-L.bA]
 have hst:∀p∈[(y,AV.str x)],q1v sc.names p.1=true:=λ p hp=>by simp at hp;subst hp;simp[q1v,S.loc]
 refine z8d S.sok ⟨⟨c',oc,fs,rfl,hc,hdat⟩,λ h=>by rw[S.res]at h;contradiction⟩ hst i qw λ env g1 s₁ hown a1 i1 E1=>⟨hlim.keeps i1.keeps0,kla_codeExpr ?_⟩
 have hmem:y∈q0f sc:=E1.mem y (.inl S.loc)
 have hlk:q5r (q0f sc) ([(y,AV.str x)].foldl (λ vs (x,v)=>putV (q0f sc) vs x v) ((q0f sc).map λ _=>none)) y=some (.str x):=q2h (by simp) hmem
 refine wpAny_mono (Q:=PX cx g1 s₁ σ (.fl ((Txt.splitMax x "}" 1).map .str))) (E:=NoE) ?_ (λ v s₂ ⟨g2,a2,i2,r2⟩=>⟨g2,(a1.trans a2.own).fresh hown,i2,r2⟩) λ _ _ x=>x.elim
 refine wpAny_bind (w8s (by rfl) (PX.then (z5k E1 i1 (.inl S.loc) S.d1 S.d2 hlk) λ g2 s₂ u2 a2 i2 r2=>wpAny_bind (wpAny_standAt ?_)))
 have hpos:methodCallPos true (Expr.Name y np) env ap cp=pure cp:=by dsimp only[methodCallPos];simp[hl]
 refine wpAny_bind (wpAny_holding ?_)
 obtain⟨t2,rfl,tz⟩:=r2.of_str
 refine k0f ?_
 refine wpAny_bind (wpAny_of_eq hpos ?_)
 refine callWith_of (P:=λ _=>True) (by rfl) (λ h _=>q3i h) ?_
 refine Calls.evalArgs_plain (w4q (a:=.Constant (.str "}") k1 q1) (b:=.Constant (.int 1) k2 q2) ?_)
 have hz1:("}" : Str).length<=sizeLine:=by trivial
 refine PX.then (w8x (v:=.str "}") (by simp only[z7q];rw[if_pos hz1]) i2) λ g3 s3 u3 a3 i3 r3=>PX.then (w8x (v:=.int 1) rfl i3) λ g4 s4 u4 a4 i4 r4=>⟨trivial,?_⟩
 have h2:(Txt.splitMax x "}" 1).length<=sizeLine:=by
  have:=congrArg List.length (w1f x 125 (by decide))
  rw[List.length_map]at this
  have e125:(⟨#[125]⟩:Str)=("}" : Str):=by rfl
  rw[e125]at this
  simp only[this,sizeLine_eq];split<;>simp
 exact PE.up' ((a2.trans a3).trans a4) (z6z i4 (by trivial) (by decide) h2 ((VR.str_ t2 tz)) (r3.mono a4.le) r4)
end
end Mine
end
section
set_option tactic.hygienic false
open PySem.SeqAt PySem.MeetsSeq PySem.MeetsSeq3
namespace Mine
noncomputable def q6h:List Str->List Str->Bool
 | _,[]=>false
 | [],_::_=>true
 | x::xs,y::ys=>if x=y then q6h xs ys else decide (x.cps.toList<y.cps.toList)
section
variable {prog:Program} {w:World} {A:Around} {E:Value->Shared->Prop} {s:Shared}
theorem q4u {vs:List Value} {i:Nat} {xs:List Str} (h:StrsAre (vs.drop i) xs):(vs.drop i=[]/\xs=[])\/∃x t rest,vs[i]? = some (.str x t)/\xs=x::rest/\StrsAre (vs.drop (i+1)) rest:=by
 generalize hd:vs.drop i=zzy
 induction zzy with
 | nil=>rw[hd]at h;cases h;exact .inl ⟨rfl,rfl⟩
 | cons v r=>
  rw[hd]at h
  have h1:vs[i]? = some v:=by have:=congrArg (·[0]?) hd;simpa using this
  have h2:vs.drop (i+1)=r:=by have:=congrArg (·.drop 1) hd;simpa using this
  cases h with
  | cons x t hr=>exact .inr ⟨x,t,_,h1,rfl,by rw[h2];exact hr⟩
theorem j4k (l b:Addr) (items items2:Array Value) (n n2:Nat) (k:Nat) :
  ∀(i:Nat) (xs ys:List Str),items.size - i=k->(StrsAre (items.toList.drop i) xs)->(StrsAre (items2.toList.drop i) ys)->i<=items.size->i<=items2.size->
   Meets (Builtin.«list.__eq__.loop» ⟨[.ref l,.ref b,rawInt i,rawInt 0],[]⟩)
   (λ A R s=>s.heap.get? l=some { cls:=.type "list",data:=.seq items n }/\s.heap.get? b=some { cls:=.type "list",data:=.seq items2 n2 }/\
    R (.ok (.ret (.bool (q6h xs ys)))) s):=by
 induction k with
 | zero=>
  intro i xs ys hk h1 h2 hi1 hi2 prog w A R s h
  obtain⟨hp,g,d,tk,os⟩:=s;obtain⟨hl,hb,h⟩:=h
  have hie:i=items.size:=Nat.le_antisymm hi1 (Nat.le_of_sub_eq_zero hk)
  have hx:xs=[]:=by
   rcases q4u h1 with⟨_,e⟩|⟨x,t,r,e,_⟩
   ·exact e
   ·have:=(List.getElem?_eq_some_iff.mp e).1;rw[Array.length_toList,hie]at this;exact absurd this (Nat.lt_irrefl _)
  subst hx
  wp_walk using wpAny_loadPart' hl,wpAny_loadPart' hb
  have hi1:items[((i:Nat):Int).toNat]? = none:=Array.getElem?_eq_none (Nat.le_of_eq hie.symm)
  rw[hi1]
  dsimp only
  wp_walk using wpAny_loadPart' hl,wpAny_loadPart' hb
  show R (.ok (.ret (.bool (decide (items.size<items2.size))))) _
  have:q6h [] ys=decide (items.size<items2.size):=by
   rcases q4u h2 with⟨e1,e⟩|⟨x,t,r,e,e2,_⟩
   ·subst e
    have:=congrArg List.length e1
    rw[List.length_drop,Array.length_toList]at this
    rw[decide_eq_false (Nat.not_lt.mpr (by rw[<-hie];exact Nat.le_of_sub_eq_zero this))];rfl
   ·have:=(List.getElem?_eq_some_iff.mp e).1
    rw[Array.length_toList,hie]at this
    rw[e2,decide_eq_true this];rfl
  rw[<-this];exact h
 | succ k ih=>
  intro i xs ys hk h1 h2 hi1 hi2 prog w A R s h
  obtain⟨hp,g,d,tk,os⟩:=s;obtain⟨hl,hb,h⟩:=h
  wp_walk using wpAny_loadPart' hl,wpAny_loadPart' hb
  dsimp only[Int.toNat_natCast]
  rcases q4u h1 with⟨e1,_⟩|⟨x,tx,r1,e1,rfl,q1⟩
  ·exact absurd (congrArg List.length e1) (by rw[List.length_drop,Array.length_toList,hk];exact Nat.succ_ne_zero k)
  rw[Array.getElem?_toList]at e1
  rw[e1]
  rcases q4u h2 with⟨e2,rfl⟩|⟨y,ty,r2,e2,rfl,q2⟩
  ·have hlen:=congrArg List.length e2
   simp at hlen
   rw[Array.getElem?_eq_none (Nat.le_of_sub_eq_zero hlen)]
   dsimp only
   wp_walk using wpAny_loadPart' hl,wpAny_loadPart' hb
   show R (.ok (.ret (.bool (decide (items.size<items2.size))))) _
   have:decide (items.size<items2.size)=false:=decide_eq_false (Nat.not_lt.mpr (Nat.le_trans (Nat.le_of_sub_eq_zero hlen) hi1))
   rw[this]
   simpa [q6h]using h
  ·rw[Array.getElem?_toList]at e2
   rw[e2]
   dsimp only
   refine wpAny_bind (EqAt.str_str x tx y ty prog w _ _ ?_)
   have hlt2:i<items2.size:=(Array.getElem?_eq_some_iff.mp e2).1
   by_cases hxy:x=y
   ·subst hxy
    rw[if_pos (by simp)]
    have hc:((i:Int)+1)=((i+1:Nat):Int):=by push_cast;rfl
    rw[hc]
    refine wpAny_pure ⟨plainId_quiet plain_eq_loop _,codeAny_builtin entry_eq_loop ?_⟩
    rw[Around.under_plainId plain_eq_loop _]
    exact ih (i+1) r1 r2 (by rw[Nat.sub_succ,hk];rfl) q1 q2 (Array.getElem?_eq_some_iff.mp e1).1 hlt2 prog w A R _ ⟨hl,hb,by simpa [q6h]using h⟩
   ·rw[if_neg (by simpa using hxy)]
    wp_walk using wpAny_loadPart' hl,wpAny_loadPart' hb
    rw[e1,e2]
    dsimp only
    refine wpAny_bind ?_
    show wpAny _ _ (compareOp .Lt (.str x tx) (.str y ty)) _ _ _
    refine PyProof.Rows.lt_str (wpAny_pure ?_)
    simpa [q6h,hxy]using h
theorem w9h (l b:Addr) (items items2:Array Value) (n n2:Nat) (xs ys:List Str) (h1:StrsAre items.toList xs) (h2:StrsAre items2.toList ys) :
  Meets (Builtin.«list.__lt__» ⟨[.ref l,.ref b],[]⟩)
   (λ A R s=>s.heap.get? l=some { cls:=.type "list",data:=.seq items n }/\s.heap.get? b=some { cls:=.type "list",data:=.seq items2 n2 }/\R (.ok (.ret (.bool (q6h xs ys)))) s):=by
 intro prog w A R s h
 obtain⟨hp,g,d,tk,os⟩:=s;obtain⟨hl,hb,h⟩:=h
 have f3:=AutoSeq1.sub_list_list
 wp_walk using wpAny_loadPart' hl,wpAny_loadPart' hb
 exact⟨plainId_quiet plain_eq_loop _,codeAny_builtin entry_eq_loop (by
  rw[Around.under_plainId plain_eq_loop _]
  exact j4k l b items items2 n n2 _ 0 xs ys rfl (by simpa using h1) (by simpa using h2) (Nat.zero_le _) (Nat.zero_le _) prog w A R _ ⟨hl,hb,h⟩)⟩
theorem k0i {l b:Addr} {items items2:Array Value} {n n2:Nat} {xs ys:List Str} {Q:Bool->Shared->Prop} (hu:A.units<cLine) (hl:s.heap.get? l=some { cls:=.type "list",data:=.seq items n }) (hb:s.heap.get? b=some { cls:=.type "list",data:=.seq items2 n2 })
  (h1:StrsAre items.toList xs) (h2:StrsAre items2.toList ys) (h:Q (q6h xs ys) s):wpAny (model prog w) A (oneLt' true (.ref l) (.ref b)) Q E s:=by
 dsimp only[oneLt'_eq]
 refine wpAny_bind (wpAny_cRoomFor hu ?_)
 refine wpAny_bind (wpAny_callSpecialIfBound?_slot (T:="list") ⟨_,hl,rfl⟩ F.slot_list_lt (call_meets F.slot_list_lt ⟨_,hl,rfl⟩ F.entry_list_lt (F.args_list_lt_2 _ _) (w9h l b items items2 n n2 xs ys h1 h2) ⟨hl,hb,?_⟩))
 exact wpAny_truthy_bool h
end
noncomputable def lexB (O:KeyOrd):List O.α->List O.α->Bool
 | _,[]=>false
 | [],_::_=>true
 | x::xs,y::ys=>O.blt x y||(!O.blt y x&&lexB O xs ys)
section
variable {O:KeyOrd}
theorem k1v {a b:O.α} (h:O.blt a b=true):O.blt b a=false:=by
 generalize q:O.blt b a=zzy
 induction zzy with
 | false=>rfl
 | true=>have:=O.trans a b a h q;rw[O.irrefl]at this;cases this
theorem w7q:∀a:List O.α,lexB O a a=false
 | []=>rfl
 | x::xs=>by simp[lexB,O.irrefl,w7q xs]
theorem w2x:∀a b:List O.α,lexB O a b=false->lexB O b a=false->a=b
 | [],[],_,_=>rfl
 | [],_::_,h,_=>by simp[lexB]at h
 | _::_,[],_,h=>by simp[lexB]at h
 | x::xs,y::ys,h,k=>by
  simp only[lexB,Bool.or_eq_false_iff,Bool.and_eq_false_iff,Bool.not_eq_false']at h k
  have e:=O.total x y h.1 k.1
  subst e
  rcases h.2 with z|z
  ·rw[h.1]at z;contradiction
  ·rcases k.2 with q|q
   ·rw[h.1]at q;contradiction
   ·rw[w2x xs ys z q]
theorem w2u {x y:O.α} {xs ys:List O.α} (h:lexB O (x::xs) (y::ys)=true):O.blt x y=true\/(x=y/\lexB O xs ys=true):=by
 simp only[lexB,Bool.or_eq_true,Bool.and_eq_true,Bool.not_eq_true']at h
 rcases h with h|⟨h1,h2⟩
 ·exact .inl h
 ·generalize q:O.blt x y=zzy
  induction zzy with
  | true=>exact .inl rfl
  | false=>exact .inr ⟨O.total x y q h1,h2⟩
theorem w2w {x y:O.α} {xs ys:List O.α} (h:O.blt x y=true):lexB O (x::xs) (y::ys)=true:=by simp[lexB,h]
theorem k4b {x:O.α} {xs ys:List O.α} (h:lexB O xs ys=true):lexB O (x::xs) (x::ys)=true:=by simp[lexB,h,O.irrefl]
theorem w2y:∀a b c:List O.α,lexB O a b=true->lexB O b c=true->lexB O a c=true
 | _,_,[],_,h=>by cases ‹List O.α›<;>trivial
 | _,[],_::_,h,_=>by rcases ‹List O.α›<;>simp[lexB]at h
 | [],_::_,_::_,_,_=>rfl
 | x::xs,y::ys,z::zs,h,k=>by
  rcases w2u h with h1|⟨e1,h1⟩
  ·rcases _:w2u k with k1|⟨e2,k1⟩
   ·exact w2w (O.trans _ _ _ h1 k1)
   ·rw[<-e2];exact w2w h1
  ·rcases w2u k with k1|⟨e2,k1⟩
   ·rw[e1];exact w2w k1
   ·rw[e1,e2];exact k4b (w2y xs ys zs h1 k1)
theorem j4i (a b c:List O.α) (h:lexB O a c=true):lexB O a b=true\/lexB O b c=true:=by
 cases q:lexB O a b with
 | true=>exact .inl rfl
 | false=>
  right
  generalize p:lexB O b a=zzy
  induction zzy with
  | true=>exact w2y _ _ _ p h
  | false=>rw[<-w2x a b q p];exact h
end
noncomputable abbrev q3q (O:KeyOrd):KeyOrd:=⟨List O.α,lexB O,w7q,w2y,j4i,w2x⟩
noncomputable abbrev q0s:KeyOrd:=PyProof.Rows.strKind.toKeyOrd
noncomputable abbrev q1q (x:Str):q0s.α:=x.cps.toList
theorem k1e (x y:Str):q0s.blt (q1q x) (q1q y)=decide (x.cps.toList<y.cps.toList):=rfl
theorem q2y {x y:Str} (h:q1q x=q1q y):x=y:=by
 cases x;cases y
 simp only[q1q]at h
 congr
 exact Array.toList_inj.mp h
theorem w8j:∀xs ys:List Str,q6h xs ys=(q3q q0s).blt (xs.map q1q) (ys.map q1q)
 | _,[]=>by cases ‹List Str›<;>rfl
 | [],_::_=>rfl
 | x::xs,y::ys=>by
  have ih:q6h xs ys=lexB q0s (xs.map q1q) (ys.map q1q):=w8j xs ys
  show q6h (x::xs) (y::ys)=lexB q0s (q1q x::xs.map q1q) (q1q y::ys.map q1q)
  rw[q6h,lexB,<-ih]
  by_cases h:x=y
  ·subst h;rw[if_pos rfl,q0s.irrefl];rfl
  ·rw[if_neg h,<-k1e]
   cases q:q0s.blt (q1q x) (q1q y)with
   | true=>rfl
   | false=>
    generalize p:q0s.blt (q1q y) (q1q x)=zzy
    induction zzy with
    | true=>rfl
    | false=>exact absurd (q2y (q0s.total _ _ q p)) h
end Mine
end
section
set_option tactic.hygienic false
open PySem.SeqAt
namespace Mine
noncomputable def w0f (t:Str):List Str:=Txt.splitMax t "}" 1
noncomputable def k8u (t:Str):AV:=.fl ((w0f t).map .str)
noncomputable abbrev keyO (t:Str):(q3q q0s).α:=(w0f t).map q1q
section
variable {cx:Cx} {T:Tab} {n:Nat} {r:Ev} {C:q0a} {ks:Kinds} {ns:List Str} {env:Env} {g g':G} {vs vs':Vs} {σ σ' σ'':Store} {s s':Shared} {A:Around} {v:AV} {u uf a b:Value} {ex:Expr} {x:Str}
theorem Stp.less {own own':List Addr} (a:Stp own g s g' s') (h:∀b∈own,b∈own'\/s.heap.get? b=none):Stp own' g s g' s':=
 ⟨a.le,a.toks,λ b o e p q=>a.keep b o e p λ z=>(h b z).elim q λ w=>(by rw[w]at e;contradiction),a.new,a.newI,a.stay,a.gens,a.os⟩
theorem w4u:∀{ts:List Str} {us:List Value},VRs cx g (ts.map .str) us->StrsAre us ts
 | [],us,q=>by rw[VRs.of_nil q];exact .nil
 | t::ts,us,q=>by
  obtain⟨u,us,rfl,h1,h2⟩:=VRs.uncons (show VRs cx g (AV.str t::ts.map .str) us from q)
  obtain⟨tk,rfl,_⟩:=h1.of_str
  exact .cons _ _ (w4u h2)
theorem k0a {t:Str} (i:Inv cx g σ s) (q:VR cx g (k8u t) u):∃p items k,u = .ref p/\s.heap.get? p=some { cls:=.type "list",data:=.seq items k }/\StrsAre items.toList (w0f t)/\p∉g.ρ:=by
 unfold k8u at q
 rcases _:q with⟨p,o,us,rfl,hi,⟨k,rfl⟩,hq,_⟩
 exact⟨p,us.toArray,k,rfl,i.sub _ _ hi,w4u hq,i.notCell hi⟩
theorem k8v (L:z4w cx T) (hlim:cx.h₀.NoLimit) {f c' D:Addr} {ctv:Value} {oc:Obj} {fs:Array Value} {t:Tok} {la:Arguments} {lb:Expr} {sc:Scope} {y:Str} (S:w1n la lb sc y) (hA:A.handled=none) (hd:A.depth+2<recursionLimit) (hu:A.units<cLine) (i:Inv cx g σ s)
  (hf:g.I f=some (q3p cx la lb sc c' ctv)) (hc:g.I c'=some oc) (hdat:oc.data = .fields fs) (hf1:fs[1]? = some (.str (cx.lq++"<lambda>") t))
  {ts:List Str} {us:List Value} {n0:Nat} {P:PySem.Fin->Shared->Prop} (q:VRs cx g (ts.map .str) us) (h64:ts.length<5) (hD:s.heap.get? D=some (seqObj "list" us.toArray n0)) (hD1:D∉g.ρ) (hD2:g.I D=none)
  (h:∀(p:Array Nat) (g':G) (s':Shared) (c:Nat),q6j ts.length p->Up (O:=q3q q0s) (λ i=>keyO (ts.getD i Str.empty)) p ts.length->Stp [D] g s g' s'->Inv cx g' σ s'->D∉g'.ρ->g'.I D=none->s'.heap.get? D=some (seqObj "list" (p.toList.map λ i=>us.getD i Value.none).toArray c)->P (.done (.ret .none)) s') :
  wpAny cx.M A (ksk_tree D (.ref f) false) P NoE s:=by
 have hlen:us.length=ts.length:=q.length.symm.trans (List.length_map ..)
 have hz:us.length<=4:=by rw[hlen];exact Nat.le_of_lt_succ h64
 have hDl:D<s.heap.objs.size:=Heap.lt_size hD
 have s1:=Heap.SameBut.update s.heap D (Obj.mapSeq λ _=>(#[]:Array Value))
 obtain⟨e1,ho1⟩:∃e1,(s.heap.update D (Obj.mapSeq λ _=>(#[]:Array Value))).get? D=some (seqObj "list" #[] e1):=⟨_,get?_update_seq hD λ _=>#[]⟩
 refine wpAny_bind (listItems_at hD rfl ?_)
 refine wpAny_bind (listUpdate_at hD rfl ?_ (by rw[List.size_toArray,sizeLine_eq];exact jA hz (by decide)) (Nat.zero_le _))
 refine wpAny_bind (seqEpoch_at ho1 rfl ?_)
 refine wpAny_bind (wpAny_newTuple ?_ (by show us.length<=_;rw[sizeLine_eq];exact jA hz (by decide)))
 refine wpAny_bind (wpAny_newList ?_ (Nat.zero_le _))
 refine wpAny_holding ?_
 have hsz2:((s.heap.update D (Obj.mapSeq λ _=>(#[]:Array Value))).push (seqObj "tuple" us.toArray 0)).objs.size=s.heap.objs.size+1:=by rw[size_push',Heap.size_update]
 show wpAny _ _ (ksk_rest D (.ref f) false us.toArray e1 (.ref ((s.heap.update D (Obj.mapSeq λ _=>(#[]:Array Value))).push (seqObj "tuple" us.toArray 0)).objs.size)) _ _ { s with heap:=((s.heap.update D (Obj.mapSeq λ _=>(#[]:Array Value))).push (seqObj "tuple" us.toArray 0)).push (seqObj "list" #[] 0) }
 rw[hsz2]
 generalize hH:(((s.heap.update D (Obj.mapSeq λ _=>(#[]:Array Value))).push (seqObj "tuple" us.toArray 0)).push (seqObj "list" #[] 0))=H
 have hkS:H.get? (s.heap.objs.size+1)=some (seqObj "list" #[] 0):=by rw[<-hH,<-hsz2];exact Heap.get?_push_size _ rfl
 have hDH:H.get? D=some (seqObj "list" #[] e1):=by rw[<-hH];exact Heap.get?_push_of_some _ (Heap.get?_push_of_some _ ho1)
 have kH:∀b o,s.heap.get? b=some o->b≠D->H.get? b=some o:=λ b o e hb=>by
  rw[<-hH];exact Heap.get?_push_of_some _ (Heap.get?_push_of_some _ ((s1.2 b hb).trans e))
 have nk:s.heap.get? (s.heap.objs.size+1)=none:=by
  generalize q:s.heap.get? (s.heap.objs.size+1)=zzy
  induction zzy with
  | none=>rfl
  | some o=>exact absurd (Heap.lt_size q) (Nat.not_lt.mpr (Nat.le_succ _))
 have aH:Stp [D] g s g { s with heap:=H }:=⟨.refl g,jD _,λ b o e _ hb=>kH b o e (by simpa using hb),λ _ _ _ h=>h,λ _ _ _ h=>h,λ b o e=>by
  by_cases hb:b=D
  ·rw[hb];exact⟨_,hDH⟩
  ·exact⟨o,kH b o e hb⟩,rfl,rfl⟩
 have iH:Inv cx g σ { s with heap:=H }:=i.writeI (t:=s.toks) (jD _) hD1 hD2 kH
 have hDk:D≠s.heap.objs.size+1:=Nat.ne_of_lt (Nat.lt_succ_of_lt hDl)
 refine wpAny_bind (wpAny_rule ?_)
 first
  | rw[List.forIn_toArray]
  | (rw[<-Array.forIn_toList];simp only[List.toList_toArray])
  | rw[<-Array.forIn_toList]
 refine wpAny_bind (wpAny_forIn_list _ (λ rest _ s'=>∃done kk g' e,us=done++rest/\done.length=kk.length/\s'.heap.get? (s.heap.objs.size+1)=some (seqObj "list" (List.toArray kk) e)/\s'.heap.get? D=some (seqObj "list" #[] e1)/\
   Stp [D,s.heap.objs.size+1] g s g' s'/\Inv cx g' σ s'/\VRs cx g' ((ts.take done.length).map k8u) kk/\D∉g'.ρ/\g'.I D=none/\(s.heap.objs.size+1)∉g'.ρ/\g'.I (s.heap.objs.size+1)=none) _ ?turn ?fin us _
   ⟨[],[],g,0,rfl,rfl,hkS,hDH,aH.wider (by simp),iH,.nil,hD1,hD2,(i.fresh nk).2,(i.fresh nk).1⟩)
 case turn=>
  rintro x rest _ s₁ ⟨done,kk,g1,e,hus,hdl,hk1,hd1,a1,i1,q1,n1,n2,n3,n4⟩
  have hx:us[done.length]? = some x:=by rw[hus];simp
  have hlt:done.length<ts.length:=by rw[<-hlen,hus,List.length_append];exact Nat.lt_add_of_pos_right (Nat.succ_pos _)
  obtain⟨tt,htt⟩:∃tt,ts[done.length]? = some tt:=⟨ts[done.length],List.getElem?_eq_getElem hlt⟩
  rcases _:q.get (i:=done.length) (x:=.str tt) (by rw[List.getElem?_map,htt];rfl)with⟨x',hx',rx⟩
  rw[hx]at hx';obtain rfl:=jI hx'
  (refine wpAny_bind (wpAny_attempt (wpAny_mono (k8x L hlim S hA hd i1 (a1.le.I _ _ hf) (a1.le.I _ _ hc) hdat hf1 (rx.mono a1.le)) (λ k s₂ zz0=>?_) λ _ _ x=>x.elim));rcases _:zz0 with⟨g2,a2,i2,r2⟩)
  dsimp only
  have hk2:s₂.heap.get? (s.heap.objs.size+1)=some (seqObj "list" (List.toArray kk) e):=a2.keep _ _ hk1 n3 (by simp)
  have hd2:s₂.heap.get? D=some (seqObj "list" #[] e1):=a2.keep _ _ hd1 n1 (by simp)
  have s2:=Heap.SameBut.update s₂.heap (s.heap.objs.size+1) (Obj.mapSeq (·.push k))
  have ea:(List.toArray kk).push k=List.toArray (kk++[k]):=by simp
  obtain⟨c2,hc2⟩:∃c2,(s₂.heap.update (s.heap.objs.size+1) (Obj.mapSeq (·.push k))).get? (s.heap.objs.size+1)=some (seqObj "list" (List.toArray (kk++[k])) c2):=⟨_,by rw[<-ea];exact get?_update_seq hk2 (·.push k)⟩
  have hkl:kk.length<64:=by rw[<-hdl];exact Nat.lt_trans hlt (Nat.lt_trans h64 (by decide))
  refine wpAny_bind (listUpdate_at hk2 rfl ?_ (by rw[List.size_toArray,sizeLine_eq];exact jA (jF hkl) (by decide)) (jA (jE (Array.size_push ..)) (by rw[List.size_toArray,sizeLine_eq];exact jA hkl (by decide))))
  have m1:D∉g2.ρ:=a2.new _ _ hd1 n1
  have m2:g2.I D=none:=a2.newI _ _ hd1 n2
  have m3:(s.heap.objs.size+1)∉g2.ρ:=a2.new _ _ hk1 n3
  have m4:g2.I (s.heap.objs.size+1)=none:=a2.newI _ _ hk1 n4
  have a3:Stp [D,s.heap.objs.size+1] g2 s₂ g2 { s₂ with heap:=s₂.heap.update (s.heap.objs.size+1) (Obj.mapSeq (·.push k)) }:=.write (t:=s₂.toks) (jD _) (by simp) s2 ⟨_,hc2⟩
  have i3:Inv cx g2 σ { s₂ with heap:=s₂.heap.update (s.heap.objs.size+1) (Obj.mapSeq (·.push k)) }:=i2.write (t:=s₂.toks) (jD _) m3 m4 s2
  refine wpAny_pure ⟨done++[x],kk++[k],g2,c2,by rw[hus];simp,by simp[hdl],hc2,(s2.2 D hDk).trans hd2,(a1.trans a2.own).trans a3,i3,?_,m1,m2,m3,m4⟩
  have htk:ts.take (done++[x]).length=ts.take done.length++[tt]:=by rw[List.length_append,List.length_singleton,List.take_add_one,htt];rfl
  rw[htk,List.map_append]
  exact(q1.mono a2.le).append (.cons r2 .nil)
 case fin=>
  rintro _ s₁ ⟨done,kk,g1,e,hus,hdl,hk1,hd1,a1,i1,q1,n1,n2,n3,n4⟩
  rw[List.append_nil]at hus
  subst hus
  have hkl:kk.length=ts.length:=hdl.symm.trans hlen
  rw[List.take_of_length_le (jE hlen.symm)]at q1
  refine wpAny_bind (listItems_at hk1 rfl ?_)
  unfold ksk_end
  dsimp only
  rw[if_neg Bool.false_ne_true]
  have tail:∀(st:SortSt) (p:Array Nat) (tk:Nat),s₁.toks<=tk->q6j ts.length p->Up (O:=q3q q0s) (λ i=>keyO (ts.getD i Str.empty)) p ts.length->(arrOf st).map (·.2)=List.toArray (p.toList.map λ i=>us.getD i Value.none)->failedOf st=none->
    wpAny cx.M A (ksk_tail D false e1 (.ref (s.heap.objs.size+1)) st) P NoE { s₁ with toks:=tk }:=by
   intro st p tk htk hp hup hout hfail
   unfold ksk_tail
   dsimp only
   rw[hout]
   obtain⟨ck,hck⟩:∃ck,(s₁.heap.update (s.heap.objs.size+1) (Obj.mapSeq λ _=>(#[]:Array Value))).get? (s.heap.objs.size+1)=some (seqObj "list" #[] ck):=⟨_,get?_update_seq hk1 λ _=>#[]⟩
   have t1:=Heap.SameBut.update s₁.heap (s.heap.objs.size+1) (Obj.mapSeq λ _=>(#[]:Array Value))
   have hd2:=(t1.2 D hDk).trans hd1
   refine wpAny_bind (listUpdate_at hk1 rfl ?_ (by rw[List.size_toArray,hkl,sizeLine_eq];exact jA (jF h64) (by decide)) (Nat.zero_le _))
   refine wpAny_bind (wpAny_letGo ?_)
   refine wpAny_bind (seqEpoch_at hd2 rfl ?_)
   have hpz:(p.toList.map λ i=>us.getD i Value.none).length=ts.length:=by rw[List.length_map,Array.length_toList,hp.size]
   rw[if_neg Bool.false_ne_true]
   refine wpAny_bind (listUpdate_at hd2 rfl ?_ (Nat.zero_le _) (jA (jE (show _=ts.length from hpz)) (by rw[sizeLine_eq];exact jA (jF h64) (by decide))))
   rw[hfail]
   simp only[bne_self_eq_false,Bool.false_eq_true,if_false]
   (refine Classical.byContradiction λ kk0=>?_;obtain⟨cd,hcd⟩:∃cd,((s₁.heap.update (s.heap.objs.size+1) (Obj.mapSeq λ _=>(#[]:Array Value))).update D (Obj.mapSeq λ _=>List.toArray (p.toList.map λ i=>us.getD i Value.none))).get? D=some (seqObj "list" (List.toArray (p.toList.map λ i=>us.getD i Value.none)) cd):=⟨_,get?_update_seq hd2 λ _=>List.toArray (p.toList.map λ i=>us.getD i Value.none)⟩<;>(refine kk0 ?_;clear kk0))
   have t2:=Heap.SameBut.update (s₁.heap.update (s.heap.objs.size+1) (Obj.mapSeq λ _=>(#[]:Array Value))) D (Obj.mapSeq λ _=>List.toArray (p.toList.map λ i=>us.getD i Value.none))
   have kk2:∀b o,s₁.heap.get? b=some o->b≠D->b≠s.heap.objs.size+1->((s₁.heap.update (s.heap.objs.size+1) (Obj.mapSeq λ _=>(#[]:Array Value))).update D (Obj.mapSeq λ _=>List.toArray (p.toList.map λ i=>us.getD i Value.none))).get? b=some o:=λ b o eb h1 h2=>(t2.2 b h1).trans ((t1.2 b h2).trans eb)
   refine wpAny_pure (h p g1 _ cd hp hup (Stp.less (own:=[D,s.heap.objs.size+1]) ?_ λ b hb=>?_) ?_ n1 n2 hcd)
   ·refine a1.trans ⟨.refl _,htk,λ b o eb _ hb=>kk2 b o eb (λ z=>hb (by simp[z])) (λ z=>hb (by simp[z])),λ _ _ _ h=>h,λ _ _ _ h=>h,λ b o eb=>?_,rfl,rfl⟩
    by_cases h1:b=D
    ·rw[h1];exact⟨_,hcd⟩
    ·by_cases h2:b=s.heap.objs.size+1
     ·rw[h2];exact⟨_,(t2.2 _ hDk.symm).trans hck⟩
     ·exact⟨o,kk2 b o eb h1 h2⟩
   ·simp only[List.mem_cons,List.not_mem_nil,or_false]at hb
    rcases hb with rfl|rfl
    ·exact .inl (by simp)
    ·exact .inr nk
   ·have i2:=i1.write (t:=tk) htk n3 n4 t1
    exact i2.write (t:=tk) (jD _) n1 n2 t2
  by_cases h2:us.toArray.size<2
  ·rw[if_pos h2,if_pos h2]
   refine wpAny_bind (wpAny_pure ?_)
   rw[StateT.run_pure]
   refine wpAny_bind (wpAny_pure ?_)
   have hts:ts.length<2:=by rw[<-hlen];exact h2
   have hp0:q6j ts.length (List.range ts.length).toArray:=Array.Perm.refl _
   have hu0:Up (O:=q3q q0s) (λ i=>keyO (ts.getD i Str.empty)) (List.range ts.length).toArray ts.length:=z9e hts
   refine tail _ _ s₁.toks (jD _) hp0 hu0 ?_ rfl
   show((kk.toArray.zip us.toArray).map (·.2))=_
   exact k6g hlen hkl
  ·rw[if_neg h2,if_neg h2]
   have h2':2<=us.length:=Nat.le_of_not_lt h2
   have hke:kk.length=us.length:=hkl.trans hlen.symm
   have keyAt:∀j,j<ts.length->∃p items k,kk.getD j Value.none = .ref p/\s₁.heap.get? p=some { cls:=.type "list",data:=.seq items k }/\StrsAre items.toList (w0f (ts.getD j Str.empty)):=λ j hj=>by
    rcases _:q1.get (i:=j) (x:=k8u ts[j]) (by rw[List.getElem?_map,List.getElem?_eq_getElem hj];rfl)with⟨k,hk,rk⟩
    rcases _:k0a i1 rk with⟨p,items,kz,rfl,hp,hs,_⟩
    refine⟨p,items,kz,by rw[List.getD_eq_getElem?_getD,hk];rfl,hp,?_⟩
    rw[List.getD_eq_getElem?_getD,List.getElem?_eq_getElem hj];exact hs
   refine wpAny_bind (kas_kind (T:=.type "list") (by rw[hke];exact h2') (λ k hk=>?_) (by decide) (by decide) ?_)
   ·obtain⟨j,hj,rfl⟩:=List.getElem_of_mem hk
    obtain⟨p,items,kz,hp,hg,_⟩:=keyAt j (by rw[<-hkl];exact hj)
    rw[List.getD_eq_getElem?_getD,List.getElem?_eq_getElem hj]at hp
    rw[show kk[j] = .ref p from hp]
    exact(Looks.ld hg).andThen .now
   ·refine wpAny_bind (wpAny_mono (kat_run (ks:=kk) (vs:=us) (κ:=oneType') (Q:=λ st' s'=>∃(p:Array Nat) (t:Nat),s'={ s₁ with toks:=t }/\s₁.toks<=t/\q6j ts.length p/\Up (O:=q3q q0s) (λ i=>keyO (ts.getD i Str.empty)) p ts.length/\arrOf st'=p.map (kas_item (kk.toArray.zip us.toArray))/\failedOf st'=none)
     (G:=λ p s'=>q6j ts.length p/\Up (O:=q3q q0s) (λ i=>keyO (ts.getD i Str.empty)) p ts.length/\∃t,s₁.toks<=t/\s'={ s₁ with toks:=t }) hke h2' (jB hz (by decide)) (λ p st' s' a1 a2 a3 a4=>⟨p,a4.2.2.choose,a4.2.2.choose_spec.2,a4.2.2.choose_spec.1,a4.1,a4.2.1,a2,a3⟩)
     ?run) ?_ λ _ _ e=>e)
    case run=>
     rw[hlen]
     refine z1z (O:=q3q q0s) (key:=λ i=>keyO (ts.getD i Str.empty)) (I:=λ s'=>∃t,s₁.toks<=t/\s'={ s₁ with toks:=t }) ?asks (by rw[<-hlen];exact h2') h64 ⟨s₁.toks,jD _,rfl⟩ λ p s' is hp hu=>⟨hp,hu,is⟩
     rintro i j C _ hi hj ⟨tk,htk,rfl⟩ hC
     rcases _:keyAt i hi with⟨p,items,kz,hp,hgp,hsp⟩
     rcases _:keyAt j hj with⟨p2,items2,kz2,hp2,hgp2,hsp2⟩
     show wpAny cx.M A (keyLt' oneType' (kk.getD i Value.none) (kk.getD j Value.none)) C _ { s₁ with toks:=tk }
     rw[hp,hp2,keyLt'_oneType]
     refine k0i (s:={ s₁ with toks:=tk }) hu hgp hgp2 hsp hsp2 ?_
     rw[w8j]
     exact hC _ ⟨tk,htk,rfl⟩
    ·rintro⟨⟨⟩,st'⟩ s' ⟨p,tk,rfl,htk,hp,hup,har,hfl⟩
     exact tail st' p tk htk hp hup (kat_snds hke har) hfl
end
theorem w7v:∀{xs l:List Str},xs.Nodup->(∀x∈xs,x∈l)->l.length=xs.length->xs.Perm l
 | [],l,_,_,h=>by rw[List.length_eq_zero_iff.mp h]
 | x::xs,l,hn,hs,h=>by
  rw[List.nodup_cons]at hn
  have hx:x∈l:=hs x (by simp)
  have hp:=List.perm_cons_erase hx
  have hl:(l.erase x).length=xs.length:=by have:=hp.length_eq;simp at this h;simp +arith [*]
  refine((w7v hn.2 (λ y hy=>?_) hl).cons x).trans hp.symm
  have hne:y≠x:=λ e=>hn.1 (e▸hy)
  exact(List.mem_erase_of_ne hne).mpr (hs y (by simp[hy]))
theorem z4n {α:Type} {le:α->α->Prop} (anti:∀a b,le a b->le b a->a=b):∀{l1 l2:List α},l1.Perm l2->l1.Pairwise le->l2.Pairwise le->l1=l2
 | [],l2,hp,_,_=>(List.nil_perm.mp hp).symm
 | a::l1,[],hp,_,_=>by simpa using hp.length_eq
 | a::l1,b::l2,hp,h1,h2=>by
  rw[List.pairwise_cons]at h1 h2
  have hab:a=b:=by
   rcases List.mem_cons.mp (hp.mem_iff.mp (jL (a:=a) (l:=l1)))with e|ha
   ·exact e
   ·rcases _:List.mem_cons.mp (hp.mem_iff.mpr (jL (a:=b) (l:=l2)))with e|hb
    ·exact e.symm
    ·exact anti _ _ (h1.1 b hb) (h2.1 a ha)
  subst hab
  rw[z4n anti (List.Perm.cons_inv hp) h1.2 h2.2]
theorem q9z {l:List Nat} {p:Nat->Bool} (h:∀a∈l,p a=true):l.takeWhile p=l:=by
 induction l with
 | nil=>rfl
 | cons a l ih=>simp only[List.takeWhile_cons,h a (by simp)];simp only[if_true];rw[ih λ b hb=>h b (by simp[hb])]
theorem w8w {l:List Nat} {p:Nat->Bool} (h:l.dropWhile p=[]):∀a∈l,p a=true:=by
 induction l with
 | nil=>simp
 | cons a l ih=>
  rw[List.dropWhile_cons]at h
  split at h
  ·intro b hb
   rcases List.mem_cons.mp hb with rfl|hb
   ·assumption
   ·exact ih h b hb
  ·contradiction
theorem k7m:(⟨#[125]⟩:Str)=("}" : Str):=by decide +kernel
set_option tactic.hygienic true in theorem w1r (t:Str):keyO t=match w5e t with|(x,none)=>[x]|(x,some r)=>[x,r]:=by
 show((w0f t).map λ x=>x.cps.toList)=_
 delta w0f w5e
 rw[<-k7m,w1f t 125 (by decide)]
 split
 ·rename_i h
  rfl
 ·rename_i h
  have:t.cps.toList.takeWhile (· !=125)=t.cps.toList:=by
   refine q9z λ a ha=>?_
   simp only[bne_iff_ne,ne_eq]
   rintro rfl
   exact h (List.contains_iff_mem.mpr ha)
  simp[this]
theorem q5q {O:KeyOrd} {x:O.α} {r1 r2:List O.α}:lexB O (x::r1) (x::r2)=lexB O r1 r2:=by rw[lexB,O.irrefl];rfl
theorem q3u (p q:List Nat):(!(decide (q<p)))=decide (p<=q):=by rw[Bool.eq_iff_iff];simp[List.not_lt]
theorem w2v {x y:List Nat} (h:¬ x=y) (r1 r2:List (List Nat)):(!lexB q0s (y::r1) (x::r2))=decide (x<=y):=by
 rw[lexB]
 cases h1:q0s.blt y x with
 | true=>
  simp only[decide_eq_true_eq]at h1
  simp[List.not_le.mpr h1]
 | false=>
  generalize h2:q0s.blt x y=zzy
  induction zzy with
  | true=>
   simp only[decide_eq_false_iff_not]at h1
   simp[List.not_lt.mp h1]
  | false=>exact absurd (q0s.total _ _ h2 h1) h
theorem w9f (p q:List Nat):(!lexB q0s [q] [p])=decide (p<=q):=by
 rw[lexB]
 have:lexB q0s [] []=false:=rfl
 simp only[this,Bool.and_false,Bool.or_false]
 exact q3u _ _
theorem z2a (a b:Str):k3w a b = !(q3q q0s).blt (keyO b) (keyO a):=by
 rw[w1r,w1r]
 unfold k3w
 rcases w5e a with⟨x,u⟩
 rcases w5e b with⟨y,v⟩
 dsimp only
 by_cases hxy:x=y
 ·subst hxy
  rw[if_pos rfl]
  cases u with
  | none=>induction v with
   | none=>show true = !lexB q0s [x] [x];rw[q5q];rfl
   | some q=>show true = !lexB q0s [x,q] [x];rw[q5q];rfl
  | some p=>induction v with
   | none=>show false = !lexB q0s [x] [x,p];rw[q5q];rfl
   | some q=>show decide (p<=q) = !lexB q0s [x,q] [x,p];rw[q5q,w9f]
 ·rw[if_neg hxy]
  rcases u<;>rcases v<;>exact(w2v hxy _ _).symm
noncomputable abbrev w3d (p:Str×Str):(q3q q0s).α:=[q1q p.1,q1q p.2]
theorem q7o (a b:Str×Str):w0v a b = !(q3q q0s).blt (w3d b) (w3d a):=by
 unfold w0v
 by_cases h:a.1=b.1
 ·rw[if_pos h]
  exact(w9f _ _).symm.trans (congrArg not (show _=lexB q0s [q1q b.1,q1q b.2] [q1q a.1,q1q a.2]from by rw[h];exact q5q.symm))
 ·rw[if_neg h]
  exact(w2v (λ e=>h (q2y e)) _ _).symm
theorem z2o {a b:Str×Str} (h:w3d a=w3d b):a=b:=by
 obtain⟨h1,h2⟩:=List.cons.inj h
 exact Prod.ext (q2y h1) (q2y (List.cons.inj h2).1)
set_option tactic.hygienic true in theorem z8k {a b:Str} (h:keyO a=keyO b):a=b:=by
 simp only[w1r,w1r]at h
 have back:∀t:Str,t.cps.toList=match w5e t with|(x,none)=>x|(x,some r)=>x++125::r:=λ t=>by
  unfold w5e
  have e:=List.takeWhile_append_dropWhile (p:=(· !=125)) (l:=t.cps.toList)
  split
  ·rename_i x hx
   simp only[Prod.mk.injEq,ite_eq_right_iff,reduceCtorEq,imp_false]at hx
   obtain⟨rfl,hc⟩:=hx
   refine(q9z λ a ha=>?_).symm
   simp only[bne_iff_ne,ne_eq]
   rintro rfl
   exact hc (List.contains_iff_mem.mpr ha)
  ·rename_i x r hx
   simp only[Prod.mk.injEq]at hx
   obtain⟨rfl,hc⟩:=hx
   split at hc
   ·rename_i hm
    obtain rfl:=jI hc
    have hd:t.cps.toList.dropWhile (· !=125)=125::(t.cps.toList.dropWhile (· !=125)).drop 1:=by
     generalize hdw:t.cps.toList.dropWhile (· !=125)=zzy
     induction zzy with
     | nil=>
      exfalso
      have:=w8w hdw 125 (List.contains_iff_mem.mp hm)
      trivial
     | cons c r=>
      have:(c !=125)=false:=by
       have:=List.head_dropWhile_not (p:=(· !=125)) (l:=t.cps.toList) (by rw[hdw];simp)
       simpa [hdw]using this
      have hc:c=125:=by simpa using this
      rw[hc];rfl
    simp only[<-hd,e]
   ·contradiction
 have ha:=back a
 have hb:=back b
 refine q2y (show a.cps.toList=b.cps.toList from ?_)
 simp only[ha,hb]
 generalize w5e a=ca at h
 generalize w5e b=cb at h
 rcases ca with⟨x,_|u⟩<;>rcases cb with⟨y,_|v⟩<;>simp at h ⊢
 ·exact h
 ·simp only[h.1,h.2]
theorem q9f {α:Type} {O:KeyOrd} {ko:α->O.α} {le:α->α->Bool} (hle:∀a b,le a b = !O.blt (ko b) (ko a)) (inj:∀{a b},ko a=ko b->a=b) {xs rs:List α} (hp:rs.Perm xs) (hs:rs.Pairwise λ a b=>le a b=true):rs=xs.mergeSort le:=by
 have k:∀a b,le a b=true↔O.kle (ko a) (ko b):=λ a b=>by rw[hle,Bool.not_eq_true'];rfl
 refine z4n (le:=λ a b=>le a b=true) (λ a b h1 h2=>inj (KeyOrd.kle_antisymm ((k a b).mp h1) ((k b a).mp h2))) (hp.trans (List.mergeSort_perm xs le).symm) hs ?_
 refine List.pairwise_mergeSort (λ a b c h1 h2=>(k a c).mpr (KeyOrd.kle_trans ((k a b).mp h1) ((k b c).mp h2))) (λ a b=>?_) xs
 rw[hle,hle]
 cases q:O.blt (ko b) (ko a)with
 | false=>rfl
 | true=>rw[k1v (O:=O) q];rfl
theorem q6j.lt {n:Nat} {p:Array Nat} (h:q6j n p) {j:Nat} (hj:j∈p.toList):j<n:=by
 have hpl:p.toList.Perm (List.range n):=by simpa using Array.Perm.toList h
 have:=hpl.mem_iff.mp hj;simpa using this
theorem z8s {α:Type} {O:KeyOrd} {ko:α->O.α} {le:α->α->Bool} (hle:∀a b,le a b = !O.blt (ko b) (ko a)) (inj:∀{a b},ko a=ko b->a=b) {xs ys:List α} {d:α} {p:Array Nat} (hx:xs.Perm ys) (hp:q6j xs.length p) (hu:Up (O:=O) (λ i=>ko (xs.getD i d)) p xs.length) :
  (p.toList.map λ i=>xs.getD i d).Perm ys/\(p.toList.map λ i=>xs.getD i d)=ys.mergeSort le:=by
 have hpl:p.toList.Perm (List.range xs.length):=by simpa using Array.Perm.toList hp
 have h1:(p.toList.map λ i=>xs.getD i d).Perm ys:=by
  refine List.Perm.trans ?_ hx
  refine(hpl.map _).trans (List.Perm.of_eq (List.ext_getElem? λ j=>?_))
  rw[List.getElem?_map]
  by_cases hj:j<xs.length
  ·rw[List.getElem?_range hj,List.getElem?_eq_getElem hj];simp[hj]
  ·rw[List.getElem?_eq_none (by rw[List.length_range];exact Nat.le_of_not_lt hj),List.getElem?_eq_none (Nat.le_of_not_lt hj)];rfl
 refine⟨h1,q9f hle inj h1 ?_⟩
 rw[List.pairwise_map,List.pairwise_iff_getElem]
 intro j k hj hk hjk
 have hz:=hp.size
 have hk':k<p.size:=by simpa using hk
 have hj':j<p.size:=by simpa using hj
 have:=hu j k (jF hjk) (hz▸hk')
 rw[hle,Bool.not_eq_true']
 have e1:p.getD j 0=p.toList[j]:=by simp[Array.getD,hj']
 have e2:p.getD k 0=p.toList[k]:=by simp[Array.getD,hk']
 unfold Kp at this
 rw[e1,e2]at this
 exact this
theorem w2a (x q:Addr):argsOk "sorted" ⟨[.ref x],[(Str.ofString "key",.ref q)]⟩:=by unfold argsOk;kernel_rfl
theorem w8o (x q:Addr):argsOk "list.sort" ⟨[.ref x],[(Str.ofString "key",.ref q)]⟩:=by unfold argsOk;kernel_rfl
section
variable {cx:Cx} {T:Tab} {n:Nat} {r:Ev} {C:q0a} {ks:Kinds} {ns:List Str} {env:Env} {g g':G} {vs vs':Vs} {σ σ' σ'':Store} {s s':Shared} {A:Around} {v:AV} {u uf a b:Value} {ex:Expr} {x:Str}
theorem q9x:∀{es:List (Int×Value)},ElemsOf cx.sk es->∃ts:List Str,StrsAre (es.map (·.2)) ts/\∀k,k∈ts↔∃e∈es,cx.sk.is k e.2=true
 | [],_=>⟨[],.nil,λ k=>by simp⟩
 | e::es,h=>by
  obtain⟨ts,h1,h2⟩:=q9x h.tail
  obtain⟨⟨k,hk,_⟩,_⟩:=h.head
  obtain⟨t,ht⟩:=q6q hk
  refine⟨k::ts,by rw[List.map_cons,ht];exact .cons _ _ h1,λ k'=>?_⟩
  rw[List.mem_cons,h2]
  constructor
  ·rintro(rfl|⟨e',he',q⟩)
   ·exact⟨e,by simp,hk⟩
   ·exact⟨e',by simp[he'],q⟩
  ·rintro⟨e',he',q⟩
   rcases List.mem_cons.mp he' with rfl|he'
   ·exact .inl (cx.sk.inj _ _ _ q hk)
   ·exact .inr ⟨e',he',q⟩
theorem z4r {us vs:List Value} {ts:List Str} (hp:vs.Perm us) (h:StrsAre us ts):∃ts',StrsAre vs ts'/\ts'.Perm ts:=by
 induction hp generalizing ts with
 | nil=>cases h;exact⟨[],.nil,.refl _⟩
 | cons x hp ih=>
  cases h with
  | cons y t hr=>obtain⟨ts',h1,h2⟩:=ih hr;exact⟨y::ts',.cons _ _ h1,h2.cons y⟩
 | swap x y l=>
  cases h with
  | cons a t hr=>cases hr with
   | cons b t' hr'=>exact⟨b::a::_,.cons _ _ (.cons _ _ hr'),.swap _ _ _⟩
 | trans _ _ ih1 ih2=>
  obtain⟨ts2,h1,h2⟩:=ih2 h
  obtain⟨ts1,h3,h4⟩:=ih1 h1
  exact⟨ts1,h3,h4.trans h2⟩
theorem z1u {us:List Value} {ts:List Str} (h:StrsAre us ts):∀{is:List Nat},(∀i∈is,i<ts.length)->StrsAre (is.map λ i=>us.getD i Value.none) (is.map λ i=>ts.getD i Str.empty)
 | [],_=>.nil
 | i::is,hi=>by
  have hl:us.length=ts.length:=by
   clear hi
   induction h with
   | nil=>rfl
   | cons _ _ _ ih=>simp[ih]
  have h1:=hi i (by simp)
  obtain⟨t,ht⟩:∃t,us.getD i Value.none = .str (ts.getD i Str.empty) t:=by
   clear hi
   induction h generalizing i with
   | nil=>simp at h1
   | cons y t hr ih=>
    induction i with
    | zero=>exact⟨t,rfl⟩
    | succ j=>exact ih j (by simp at hl;exact hl) (by simp at h1;exact h1)
  simp only[List.map_cons,List.map_cons,ht]
  exact .cons _ _ (z1u h λ j hj=>hi j (by simp[hj]))
theorem k1c (L:z4w cx T) (hlim:cx.h₀.NoLimit) {f c':Addr} {ctv:Value} {oc:Obj} {fs:Array Value} {t:Tok} {la:Arguments} {lb:Expr} {sc:Scope} {y:Str} (S:w1n la lb sc y) (hA:AOk n A) (i:Inv cx g σ s)
  (hf:g.I f=some (q3p cx la lb sc c' ctv)) (hc:g.I c'=some oc) (hdat:oc.data = .fields fs) (hf1:fs[1]? = some (.str (cx.lq++"<lambda>") t)) {xs:List Str} (rx:VR cx g (.ws xs) u) (h64:xs.length<5) :
  wpAny cx.M A (call (.builtin "sorted") [u] [(Str.ofString "key",.ref f)]) (PX cx g s σ (.fl ((q4b xs).map .str))) NoE s:=by
 obtain⟨p,o,rfl,hi,hso,hb,hnd,hz,hled⟩:=rx
 have ho:=i.sub _ _ hi
 have hh:A.in1.handled=none:=by simpa using hA.handled
 refine call_function_entry_kw kind_sorted plain_sorted entry_sorted (w2a _ _) ?_
 unfold Builtin.«sorted»
 refine wpAny_bind (m:=checkCount "sorted" 1 1 _) (wpAny_pure ?_)
 refine wpAny_bind (wpAny_mono (z5h hh ho hso hled hb λ es ep tb hd us s₁ hp k1=>?_) (λ _ _ x=>x) λ _ _ x=>x.elim)
 obtain⟨hex,es',ep',t',hd',hel,hmem,hn,hft⟩:=hso
 rw[hd]at hd';cases hd'
 obtain⟨te,hte1,hte2⟩:=q9x hel
 obtain⟨ts,hts1,hts2⟩:=z4r hp hte1
 have hel':te.length=es.size:=by have:=hte1.length;rw[List.length_map,Array.length_toList]at this;exact this.symm
 have hperm:ts.Perm xs:=by
  refine hts2.trans (w7v hnd (λ x hx=>?_) (by rw[hel',hn])).symm
  exact(hte2 x).mpr ((hmem x).mp (List.contains_iff_mem.mpr hx))
 have hlen:ts.length=xs.length:=hperm.length_eq
 have hul:us.length=ts.length:=hts1.length
 have h4:us.length<=4:=by rw[hul,hlen];exact Nat.le_of_lt_succ h64
 have i1:=k1.inv i
 have q1:VRs cx g (ts.map .str) us:=VRs.strs hts1 λ x hx=>hz x (hperm.mem_iff.mp hx)
 refine wpAny_bind (wpAny_newList ?_ (by rw[sizeLine_eq];exact jA h4 (by decide)))
 have hD:(s₁.heap.push (seqObj "list" us.toArray 0)).get? s₁.heap.objs.size=some (seqObj "list" us.toArray 0):=Heap.get?_push_size _ rfl
 have hDn:=q0m s₁
 have kD:∀b o,s₁.heap.get? b=some o->(s₁.heap.push (seqObj "list" us.toArray 0)).get? b=some o:=λ b o e=>Heap.get?_push_of_some _ e
 have a2:Stp [] g s g { s₁ with heap:=s₁.heap.push (seqObj "list" us.toArray 0) }:=(k1.stp).trans (.keeps (t:=s₁.toks) (jD _) kD)
 have i2:Inv cx g σ { s₁ with heap:=s₁.heap.push (seqObj "list" us.toArray 0) }:=i1.keep (t:=s₁.toks) (jD _) kD
 refine wpAny_bind (wpAny_holding (wpAny_call_entry_kw slot_list_sort ⟨_,hD,rfl⟩ entry_list_sort ?_ (w8o _ _)))
 rw[show Builtin.«list.sort» ⟨Value.ref s₁.heap.objs.size::[],[(Str.ofString "key",Value.ref f)]⟩=ksk_tree s₁.heap.objs.size (.ref f) false from ksk_t1 f s₁.heap.objs.size]
 refine k8v L hlim S (A:=A.in1.in1) (by simpa using hA.handled) (jB (jH (jG A.depth (4 * n)) (by decide:2<=8)) hA.depth) (jB (show A.units+2<=A.units+60 * n+100 from jH (jG A.units (60 * n)) (by decide)) hA.units) i2 hf hc hdat hf1 q1 (by rw[hlen];exact h64) hD (i1.fresh hDn).2 (i1.fresh hDn).1 λ p g3 s3 c hpm hup a3 i3 n1 n2 hg3=>⟨_,rfl,wpAny_pure ⟨_,rfl,?_⟩⟩
 have hrs:=z1u hts1 λ j hj=>hpm.lt hj
 obtain⟨hrp,hso⟩:=z8s z2a z8k hperm hpm hup
 rw[show xs.mergeSort k3w=q4b xs from rfl]at hso
 rw[hso]at hrs
 have a3':Stp [] g s g3 s3:=(a2.own.trans a3).fresh λ b hb=>by
  simp at hb;subst hb
  cases q:s.heap.get? s₁.heap.objs.size with
  | none=>rfl
  | some o=>exact absurd (Heap.lt_size (k1.heap _ _ q)) (Nat.lt_irrefl _)
 have hDs:s.heap.get? s₁.heap.objs.size=none:=by
  generalize q:s.heap.get? s₁.heap.objs.size=zzy
  induction zzy with
  | none=>rfl
  | some o=>exact absurd (Heap.lt_size (k1.heap _ _ q)) (Nat.lt_irrefl _)
 have hlz:∀x∈q4b xs,x.length<=sizeLine:=λ x hx=>hz x (hrp.mem_iff.mp (by rw[hso];exact hx))
 have hll:(q4b xs).length=xs.length:=by rw[<-hso];exact hrp.length_eq
 refine⟨g3.freeze s₁.heap.objs.size _,a3'.addFz hDs n2,i3.add hg3 n1 n2,?_⟩
 exact RFl.mk _ _ _ rfl (G.freeze_self _ _ _) ⟨c,rfl⟩ ((VRs.strs hrs hlz).mono (G.freeze_le n2)) (by rw[List.length_map,hll,sizeLine_eq];exact jA (jF h64) (by decide))
end
section
variable {cx:Cx} {T:Tab} {n:Nat} {r:Ev} {C:q0a} {ks:Kinds} {ns:List Str} {env:Env} {g g':G} {vs vs':Vs} {σ σ' σ'':Store} {s s':Shared} {A:Around} {v:AV} {u uf a b:Value} {ex:Expr} {x:Str}
inductive j6a (w:AV) (σ1:Store) (v:AV) (σ':Store):Prop
 | mk (xs:List Str) (h1:w = .ws xs) (h:xs.length<5/\w2q σ1=true) (h2:σ1=σ') (h3:v = .fl ((q4b xs).map .str))
theorem k9w {w:AV} {σ1:Store} (e:k1a w σ1=some (v,σ')):j6a w σ1 v σ':=by
 induction w using AV.casesOn with
 | ws xs=>exact q0o e λ h e=>⟨xs,rfl,h,congrArg (·.2) (jI e),(congrArg (·.1) (jI e)).symm⟩
 | _=>exact nope e
theorem k2x (H:GlOk cx T) (L:z4w cx T) (hlim:cx.h₀.NoLimit) (R:EOk cx n r.e) (hA:AOk n A) (i:Inv cx g σ s) (E:ER cx ks ns env g vs s) {f kw:Str} {e lb:Expr} {la:Arguments} {lsc:Scope} {lp np cp kp:Pos}
  (e0:(if z8g (T.gl.lookup f)&&!q9c e&&ks.lookup f==some .globalImplicit&&kw==("key" : Str)&&w2t la lb lsc&&lp==T.lam&&(ks.lookup ("resolved_names" : Str)).isSome&&!(f==("__debug__" : Str))then do
    let (x,σ) <-r.e ks ns e vs σ
    k1a x σ
   else none)=some (v,σ')):wpAny cx.M A (eval (.Call (.Name f np) [e] [⟨some kw,.Lambda la lb lsc lp,kp⟩] cp) env) (PX cx g s σ' v) NoE s:=by
 refine q0o e0 λ h e0=>q0h e0 λ w σ1 e1 e2=>q6l h λ h hdbg=>q6l h λ h hres=>q6l h λ h hlp=>q6l h λ h hsk=>q6l h λ h hkw=>q6l h λ h hk=>q6l h λ h hst=>?_
 have hgl':T.gl.lookup f=some (.bf .sorted):=by
  revert h
  cases T.gl.lookup f with
  | none=>exact nob
  | some w=>cases w with
   | bf b=>exact λ h=>congrArg (λ b=>some (AV.bf b)) (beq_iff_eq.mp h)
   | _=>exact nob
 have hst:¬ q9c e=true:=by simpa using hst
 have hk:ks.lookup f=some .globalImplicit:=by simpa using hk
 obtain rfl:=beq_iff_eq.mp hkw
 obtain rfl:=beq_iff_eq.mp hlp
 obtain⟨xs,rfl,h64,rfl,rfl⟩:=k9w e2
 obtain⟨y,S⟩:=k9t hsk
 refine wpAny_bind (PX.then (z7s H E i hk (by simpa using hdbg) hgl') λ g1 s₁ u1 a1 i1 r1=>?_)
 subst r1
 have E1:=E.go a1
 have st:starEach [e] env=[(false,eval e env)]:=by rw[q1k (q7i hst)];rfl
 refine callWith_of (P:=λ _=>True) (by rw[st];rfl) (λ h _=>q3i h) ?_
 refine evalArgs_kw2 (by rfl) ?_ (q1k (q7i hst))
 simp only[st]
 refine Calls.spliced_cons (q0y R hA i1 E1 e1 λ g2 s₂ u2 a2 i2 E2 r2=>Calls.spliced_nil (kwAll_cons ?_))
 (refine wpAny_mono (j8d L H i2 E2 (la:=la) (lb:=lb) (sc:=lsc) (lp:=T.lam) (by obtain⟨p,rfl⟩:=S.args;exact⟨rfl,rfl⟩) S.sok.free hres h64.2 rfl) (λ u3 s3 zz0=>?_) λ _ _ x=>x;rcases _:zz0 with⟨g3,f3,c',ctv,oc,fs,t,hu3,a3,i3,hf,hc,hdat,hf1⟩)
 subst hu3
 refine kwAll_nil ⟨trivial,?_⟩
 exact PX.lift ((a1.trans a2).trans a3) (k1c L hlim S hA i3 hf hc hdat hf1 (r2.mono a3.le) h64.1)
end
structure All (cx:Cx) (T:Tab):Prop where
 gl:GlOk cx T
 cls:q6i cx T
 make:w0l cx T
 fn:FnOk cx T
 lam:z4w cx T
 few:cx.an.length<=100
section
variable {cx:Cx} {T:Tab} {n:Nat} {r:Ev} {C:q0a} {ks:Kinds} {ns:List Str} {env:Env} {g g':G} {vs vs':Vs} {σ σ' σ'':Store} {s s':Shared} {A:Around} {v:AV} {u uf a b:Value} {ex:Expr} {x:Str}
theorem j7i (R:EOk cx n r.e) (hA:AOk n A) (i:Inv cx g σ s) (E:ER cx ks ns env g vs s) {o j:Expr} {p:Pos} (e:subE r ks ns o j vs σ=some (v,σ')):wpAny cx.M A (eval (.Subscript o j p) env) (PX cx g s σ' v) NoE s:=
 optM e (λ q h e=>(z2q h).elim λ p' h'=>h'▸j3m R hA i E e) λ _ e=>v0r R hA i E e
theorem v0q (R:EOk cx n r.e) (hA:AOk n A) (i:Inv cx g σ s) (E:ER cx ks ns env g vs s) {es:List Expr} {k:Nat} {p:Pos} (e:setE T r ks ns es k p vs σ=some (v,σ')):wpAny cx.M A (eval (.Set es k p) env) (PX cx g s σ' v) NoE s:=by
 refine q0o e λ hk e=>?_
 subst hk
 rcases es with _|⟨x,_|⟨y,_|_⟩⟩
 ·exact nope e
 ·exact nope e
 ·refine optE e λ d h e=>?_
  obtain⟨q,rfl⟩:=k9z h
  exact j7h (T:=T) R hA i E e
 ·exact nope e
theorem j7g (R:EOk cx n r.e) (hA:AOk n A) (i:Inv cx g σ s) (E:ER cx ks ns env g vs s) {o:Expr} {args:List Expr} {kws:List Keyword} {ap cp:Pos} (h1:q5t o=true) (h2:ap.endLine=cp.line) (hx:x=("replace" : Str))
  (e:j9c r ks ns o args kws vs σ=some (v,σ')):wpAny cx.M A (eval (.Call (.Attribute o x ap) args kws cp) env) (PX cx g s σ' v) NoE s:=by
 subst hx
 refine q0h e λ w σ1 e1 e=>optE e λ y h3 e=>optE e λ ab h4 e=>q0o e λ h5 e=>optE e λ p h6 e=>optE e λ q h7 e=>q0o e λ hc e9=>?_
 obtain⟨a,b⟩:=ab
 obtain rfl:=k6r h3
 obtain rfl:=k6w h4
 obtain rfl:=List.isEmpty_iff.mp h5
 cases e9
 exact k2w R hA i E h1 h2 e1 h6 h7 hc
theorem v0p (W:All cx T) (B:BiOk cx n) (Cf:CfOk cx n C) (R:EvOk cx n r) (hA:AOk n A) (i:Inv cx g σ s) (E:ER cx ks ns env g vs s) {f:Expr} {args:List Expr} {kws:List Keyword} {cp:Pos}
  (e:j6d T C r ks ns f args kws cp vs σ=some (v,σ')):wpAny cx.M A (eval (.Call f args kws cp) env) (PX cx g s σ' v) NoE s:=by
 refine optM e (λ q h e=>ifNo e λ hc e9=>?_) λ h e=>optM e (λ l h2 e=>optE h2 λ kw h3 h4=>optE e λ f' h5 e=>optE e λ a h6 e9=>?_) λ _ e9=>?_
 ·obtain⟨o,x,ap⟩:=q
  obtain rfl:=z7j h
  simp only[Bool.or_eq_true,Bool.not_eq_true',bne_iff_ne,ne_eq,decide_eq_true_eq,not_or,Decidable.not_not,Nat.not_le,Bool.not_eq_false]at hc
  exact ifE e9 (λ hx e=>j7g R.e hA i E hc.1.1 hc.1.2 (beq_iff_eq.mp hx) e) λ _ e=>k7v W.cls W.make B Cf W.few R.e hA i E hc.1.1 hc.1.2 hc.2 e
 ·obtain⟨np,rfl⟩:=w1s h5
  obtain rfl:=w3b h6
  obtain rfl:=w3b h3
  obtain⟨kn,kv,kp⟩:=kw
  rcases kn with _|kn
  ·exact nope h4
  ·induction kv using Expr.casesOn with
   | Lambda la lb sc lp=>obtain rfl:=jI h4;exact k2x W.gl W.lam W.fn.lim R.e hA i E e9
   | _=>exact nope h4
 ·exact j7c W.cls W.make B Cf W.few R.e hA i E (λ a b c q=>by rw[q]at h;exact nope h.symm) e9
set_option maxHeartbeats 2000000 in
theorem j7m (W:All cx T) (B:BiOk cx n) (Cf:CfOk cx n C) (R:EvOk cx n r):EOk cx n (evE T C r):=by
 intro ks ns ex vs σ v σ' e A env g s hA i E
 induction ex using Expr.casesOn with
 | Constant c k p=>exact mapQ e λ w h q=>by rcases q;exact w8x h i
 | Name x p=>exact j7f W.gl E i e
 | BoolOp op es p=>rw[arm_eval_BoolOp];exact k2t R.e hA i E e
 | BinOp a op b p=>exact j3k R.e hA i E e
 | UnaryOp op a p=>exact e_un R.e hA i E e
 | IfExp t a b p=>exact j3l R hA i E e
 | Compare a ops bs p=>exact optE e λ op h1 e=>optE e λ b h2 e=>w3b h1▸w3b h2▸k2u R.e hA i E e
 | List es p=>exact j7e R.e hA i E e
 | Tuple es k p=>exact j3n R.e hA i E e
 | ListComp elt gens sc p=>exact(w7r W.gl R hA i E e).1
 | DictComp k x gens sc p=>exact(w7i W.gl R hA i E e).1
 | Dict kk vv p=>exact j7d W.gl R.e hA i E e
 | Set es k p=>exact v0q R.e hA i E e
 | Subscript o j p=>exact j7i R.e hA i E e
 | Attribute o x p=>exact j7b W.cls R.e hA i E e
 | JoinedStr es p=>exact k7u R.e hA i E e
 | Call f args kws cp=>exact v0p W B Cf R hA i E e
 | _=>exact nope e
theorem j3q (W:All cx T) (R:EvOk cx n r):COk cx n (evE T C r):=by
 intro ks ns ex vs σ v σ' hc e A env g s use vs' σ'' hA i E hu
 cases ex<;>simp[w0s]at hc
 ·exact(w7r W.gl R hA i E e).2 hu
 ·cases e
 ·exact(w7i W.gl R hA i E e).2 hu
theorem k3i (W:All cx T) (B:BiOk cx n) (Cf:CfOk cx n C):∀k,EvOk cx n (evN T C k)
 | 0=>EvOk.mk (λ e=>nomatch e) (λ _ e=>nomatch e) (λ e=>nomatch e) (λ e=>nomatch e) (λ e=>nomatch e)
 | k+1=>by
  have R:=k3i W B Cf k
  exact⟨j7m W B Cf R,j3q W R,j7q R,j7l W.cls R,j7o W.cls R⟩
theorem z5c (W:All cx T) (B:∀n,BiOk cx n) (n:Nat):CfOk cx n (q0e T n):=z7m W.fn (λ n Cf=>k3i W (B n) Cf 40) n
end
end Mine
end
section
set_option tactic.hygienic false
set_option backward.match.sparseCases false
namespace Mine
noncomputable def bnd {α β:Type} (m:Option (α×Store)) (f:α->Store->Option β):Option β:=m.bind λ p=>f p.1 p.2
noncomputable def w5l (vs:Vs) (k:Nat):Option AV:=match vs[k]? with|some (some v)=>some v|_=>none
noncomputable def setI (vs:Vs) (k:Nat) (v:AV):Vs:=vs.set k (some v)
noncomputable def nm (vs:Vs) (k:Nat) (σ:Store):Res:=(w5l vs k).map λ v=>(norm v,σ)
noncomputable def andE (m:Res) (rest:Store->Res):Res:=bnd m λ v σ=>(q3g σ v).bind λ b=>match BoolOp.And,b with | .And,false=>some (v,σ) | .Or,true=>some (v,σ)|_,_=>rest σ
noncomputable abbrev ResT:=Option (Bool×Store)
noncomputable def andT (m:ResT) (rest:Store->ResT):ResT:=bnd m λ b σ=>match BoolOp.And,b with | .And,false=>some (false,σ) | .Or,true=>some (true,σ)|_,_=>rest σ
noncomputable def orT (m:ResT) (rest:Store->ResT):ResT:=bnd m λ b σ=>match BoolOp.Or,b with | .And,false=>some (false,σ) | .Or,true=>some (true,σ)|_,_=>rest σ
noncomputable def notE (m:Res):Res:=bnd m λ x σ=>(q3g σ x).bind λ b=>some (.bool (!b),σ)
noncomputable def negE (m:Res):Res:=bnd m λ x σ=>(intV x).bind λ i=>some (.int (-i),σ)
noncomputable def notT (m:ResT):ResT:=bnd m λ b σ=>some (!b,σ)
noncomputable def binR (σ:Store) (op:Operator) (x y:AV):Res:=(binA σ op x y).bind λ v=>some (v,σ)
noncomputable def cmpR (σ:Store) (op:CmpOp) (x y:AV):Res:=(cmpA σ op x y).bind λ v=>some (.bool v,σ)
noncomputable def cmpT (σ:Store) (op:CmpOp) (x y:AV):ResT:=(cmpA σ op x y).bind λ v=>some (v,σ)
noncomputable def trT (σ:Store) (x:AV):ResT:=(q3g σ x).bind λ b=>some (b,σ)
noncomputable def evC (m:Res) (rest:Store->Option (List AV×Store)):Option (List AV×Store):=bnd m λ v σ=>bnd (rest σ) λ xs σ=>some (v::xs,σ)
noncomputable def kwC (n:Str) (m:Res) (rest:Store->Option (List (Str×AV)×Store)):Option (List (Str×AV)×Store):=bnd m λ v σ=>bnd (rest σ) λ xs σ=>some ((n,v)::xs,σ)
noncomputable def q4c (acc:List AV) (m:Res):Option (List AV×Store):=bnd m λ v σ=>if acc.length<sizeLine then some (acc++[v],σ)else none
noncomputable def w5f (acc:List (Str×AV)) (x y:AV) (σ:Store):Option (List (Str×AV)×Store):=(strV x).bind λ s=>if acc.length<sizeLine then some (q1a s y acc,σ)else none
noncomputable def dictK (x y:AV) (σ:Store) (rest:Store->Option (List (Str×AV)×Store)):Option (List (Str×AV)×Store):=match x with
 | .str s=>bnd (rest σ) λ r σ=>some ((s,y)::r,σ)
 | _=>none
noncomputable def set2 (mu:Bool) (x y:AV) (σ:Store):Res:=(strV x).bind λ s=>(q0k σ y).bind λ kvs=>if kvs.length<=3 then k9h mu (q1i [s] (kvs.map (·.1))) σ else none
noncomputable def q2l (σ:Store) (x l h t:AV):Res:=(k6d σ x l h t).bind λ v=>some (v,σ)
noncomputable def getR (σ:Store) (x y:AV):Res:=(getA σ x y).bind λ v=>some (norm v,σ)
noncomputable def q1l (acc:Str) (σ:Store):Option (Str×Store):=if acc.length<=sizeLine then some (acc,σ)else none
noncomputable def q5o (acc:Str) (x:AV) (k:Str->Option (Str×Store)):Option (Str×Store):=(fmtV x).bind λ s=>(catA acc s).bind k
noncomputable def w1i (x:AV) (p q:Str) (σ:Store):Res:=(strV x).bind λ s=>if p≠q/\s.length+(s.length+1) * q.length<=sizeLine then some (.str (PySem.Txt.replace s p q),σ)else none
noncomputable def k5r (x:AV) (p q:Option Str) (σ:Store):Res:=(strV x).bind λ s=>p.bind λ p=>q.bind λ q=>if p≠q/\s.length+(s.length+1) * q.length<=sizeLine then some (.str (PySem.Txt.replace s p q),σ)else none
noncomputable def putS (u y v:AV) (vs:Vs) (σ:Store):Option (Vs×Store):=(locV u).bind λ l=>(strV y).bind λ k=>(w0c σ l).bind λ kvs=>if kvs.length<sizeLine then some (vs,σ.set l (.dict (q1a k v kvs)))else none
noncomputable def goT (x:AV):Bool:=goOk x (.Tuple [] 0 ⟨0,0,0,0⟩)
noncomputable def goN (x:AV):Bool:=goOk x (.Name "" ⟨0,0,0,0⟩)
noncomputable def delR (v:AV) (vs:Vs) (σ:Store):ResS:=(locV v).bind λ l=>(q1j σ l).bind λ _=>some (.next,vs,σ.set l (.list []))
set_option tactic.hygienic true in noncomputable def sq (m:ResS) (k:Vs->Store->ResS):ResS:=m.bind λ p=>match p.1 with
 | .next=>k p.2.1 p.2.2
 | .ret v=>some (.ret v,p.2.1,p.2.2)
noncomputable def z7r (n:Str):List Stmt->Option (Arguments×List Stmt×Scope)
 | []=>none
 | .FunctionDef m a b _ _ _ sc _ _ _::r=>if m=n then some (a,b,sc)else z7r n r
 | _::r=>z7r n r
noncomputable def z5g (n:Str):List Stmt->List Stmt
 | []=>[]
 | .ClassDef m _ _ b _ _ _ _ _ _ _::r=>if m=n then b else z5g n r
 | _::r=>z5g n r
noncomputable def mkFn (d:Option (Arguments×List Stmt×Scope)) (qual:Str) (dfl:List AV) (kwd:List (Str×AV)) (kws:List Str):Fn:=match d with
 | some (a,b,sc)=>⟨qual,a.args.map (·.arg),b,sc,dfl,kwd,kws⟩
 | none=>⟨qual,[],[],default,[],[],[]⟩
end Mine
end
section
set_option tactic.hygienic false
namespace Mine
noncomputable def body:List Stmt:=PySem.Challenge.pw_dr0133_04.main.body
noncomputable def cb:List Stmt:=z5g "C14NWriterTarget" body
noncomputable def meth (n:String) (dfl:List AV) (kwd:List (Str×AV)) (kws:List Str:=[]):Fn:=mkFn (z7r (Str.ofString n) cb) (Str.ofString ("C14NWriterTarget."++n)) dfl kwd kws
noncomputable def top (n:String):Fn:=mkFn (z7r (Str.ofString n) body) (Str.ofString n) [] [] []
noncomputable def T:Tab where
 gl:=[("C14NWriterTarget",.fn 150),("_law_walk",.fn 173),("_law_key",.fn 180),("_law_uri",.fn 187),("_escape_cdata_c14n",.fn 161),("_escape_attrib_c14n",.fn 168),("sum",.bf .sum),("len",.bf .len),("chr",.bf .chr),("list",.bf .list),("range",.bf .range),("set",.bf .set),("sorted",.bf .sorted),("str",.bf .str),("dict",.bf .dict)]
 fn:=[(161,top "_escape_cdata_c14n"),(168,top "_escape_attrib_c14n"),(173,top "_law_walk"),(180,top "_law_key"),(187,top "_law_uri"),(192,top "law"),
  (67,meth "__init__" [] [("with_comments",.bool false),("strip_text",.bool false),("rewrite_prefixes",.bool false),("qname_aware_tags",.none),("qname_aware_attrs",.none),("exclude_attrs",.none),("exclude_tags",.none)] ["rewrite_prefixes"]),
  (90,meth "_qname" [.none] []),(97,meth "data" [] []),(106,meth "_flush" [.bm .sJoin (.str "")] []),(113,meth "start_ns" [] []),(120,meth "start" [] []),(126,meth "_start" [.none] []),(133,meth "end" [] [])]
 C:=150
 ini:=67
 an:=["_write","_data","_with_comments","_strip_text","_exclude_attrs","_exclude_tags","_rewrite_prefixes","_qname_aware_tags","_find_qname_aware_attrs","_declared_ns_stack","_ns_stack","_prefix_map","_preserve_space","_pending_start","_root_seen","_root_done","_ignored_depth","_iter_namespaces"]
 ms:=[("_qname",90),("data",97),("_flush",106),("start_ns",113),("start",120),("_start",126),("end",133)]
 mu:=λ n=>[15,29,30,33,34,35,111,141,144,161,220,222,228,233,247].contains n
 lits:=λ n=>[219,253].contains n
 lam:=⟨139,71,139,96⟩
noncomputable def fnOf (a:Addr):Fn:=(T.fn.lookup a).getD ⟨default,[],[],default,[],[],[]⟩
noncomputable def q1b (σ:Store) (x:AV) (a:Str):Res:=(w1p T σ x a).bind λ u=>some (norm u,σ)
end Mine
end
section
set_option tactic.hygienic false
set_option maxHeartbeats 8000000
namespace Mine
noncomputable def oAt (K:Frag) (a:Addr):Obj:=(K.lookup a).getD ⟨.none,none,.plain,#[]⟩
noncomputable def fdAt (K:Frag) (a:Addr):FuncData:=match (oAt K a).data with | .func fd=>fd|_=>default
noncomputable def csAt (K:Frag) (c:Addr):Array Value:=match (oAt K c).data with | .fields vs=>vs|_=>#[]
noncomputable def tkAt (K:Frag) (c:Addr):Tok:=match ((csAt K c)[1]? : Option Value)with|some (.str _ t)=>t|_=>0
theorem ME {α β:Type} {l:List α} {x:α} (m:x∈l) {f g:α->β} (h:l.map f=l.map g):f x=g x:=List.map_inj_left.mp h x m
theorem j9t (l:List Value) {n:Nat} (h:l.length=n):∃φ,l=(List.range n).map φ:=⟨_,h▸j1p l⟩
end Mine
end
section
set_option tactic.hygienic false
open PySem.SeqAt
namespace Mine
theorem w7x:∀{l:List Str} {p:Str},risingS p l=true->(p::l).Pairwise λ a b=>decide (a.cps.toList<=b.cps.toList)=true
 | [],p,_=>List.pairwise_singleton _ _
 | x::r,p,h=>by
  obtain⟨h1,h2⟩:=(Bool.and_eq_true ..).mp h
  have k:=w7x h2
  have hp:p.cps.toList<=x.cps.toList:=of_decide_eq_true ((q3u _ _).symm.trans (by rw[<-PyProof.Rows.ltCps_eq];exact h1))
  refine List.pairwise_cons.mpr ⟨λ y hy=>?_,k⟩
  rcases List.mem_cons.mp hy with rfl|hy
  ·exact decide_eq_true hp
  ·exact decide_eq_true (List.le_trans hp (of_decide_eq_true ((List.pairwise_cons.mp k).1 y hy)))
theorem k1b:∀{l:List Str},sortedS l=true->l.Pairwise λ a b=>decide (a.cps.toList<=b.cps.toList)=true
 | [],_=>.nil
 | _::_,h=>w7x h
theorem k9x {rs ts:List Str} (hp:rs.Perm ts) (h:sortedS rs=true):rs=q5k ts:=
 q9f (O:=q0s) (ko:=q1q) (λ a b=>(q3u _ _).symm) q2y hp (k1b h)
section
variable {cx:Cx} {g:G} {σ:Store} {s:Shared} {A:Around} {x:Value} {xs ys:List AV} {us:List Value}
inductive Gath (cx:Cx) (g:G) (s:Shared) (σ:Store) (xs:List AV) (vs:List Value) (s₁:Shared):Prop
 | mk (g':G) (a:Stp [] g s g' s₁) (i:Inv cx g' σ s₁) (r:VRs cx g' xs vs)
noncomputable def w8n (cx:Cx) (xs ys:List AV):Prop:=ys.length=xs.length/\∀(g:G) (A:Around) (s:Shared) (D:Addr) (us:List Value) (n:Nat) (Q:Value->Shared->Prop),VRs cx g xs us->(∀b o,g.I b=some o->s.heap.get? b=some o)->g.I D=none->s.heap.get? D=some (seqObj "list" us.toArray n)->
 (∀us' h' t c,VRs cx g ys us'->q2t D s.heap h'->h'.get? D=some (seqObj "list" us'.toArray c)->Q .none { s with heap:=h',toks:=t })->wpAny cx.M A (call (.builtin "list.sort") [.ref D]) Q NoE s
theorem q7s (S:w8n cx xs ys) (hz:xs.length<=sizeLine) (hc:wpAny cx.M A.in1 (collect x) (Gath cx g s σ xs) NoE s):wpAny cx.M A (call (.builtin "sorted") [x]) (PE cx g s σ (.fl ys)) NoE s:=by
 refine k6m (wpAny_mono hc (λ vs s₁ q=>?_) λ _ _ x=>x.elim)
 obtain⟨g',a,i,r⟩:=q
 refine⟨r.length▸hz,λ A'=>?_⟩
 have hn:=q0m s₁
 have kk:∀b o,s₁.heap.get? b=some o->(s₁.heap.push (seqObj "list" vs.toArray 0)).get? b=some o:=λ b o e=>Heap.get?_push_of_some _ e
 refine q4y (S.2 g' A' _ _ vs 0 _ r (λ b o e=>kk b o (i.sub b o e)) (i.fresh hn).1 (Heap.get?_push_size _ rfl) λ us' h' t c r' k1 k2 ht _=>?_)
 have k2':∀b o,s₁.heap.get? b=some o->h'.get? b=some o:=λ b o e=>k1 b o (λ z=>by rw[z,hn]at e;cases e) (kk b o e)
 refine(⟨_,.freeze i ht hn k2',i.freeze ht hn k2 k2',?_⟩:PX cx g' s₁ σ _ _ _).up a
 exact RFl.mk _ _ us' rfl (G.freeze_self _ _ _) ⟨c,rfl⟩ (r'.mono (G.freeze_le (i.fresh hn).1)) (S.1▸hz)
theorem k9b (S:w8n cx xs ys) {l:Nat} (i:Inv cx g σ s) (e:σ[l]? = some (.list xs)) (r:VR cx g (.loc l) x):wpAny cx.M A (call (.builtin "list.sort") [x]) (PE cx g s (σ.set l (.list ys)) .none) NoE s:=by
 obtain⟨p,rfl,hl⟩:=r.of_loc
 obtain⟨vs,⟨k,hv⟩,q,z⟩:=i.cells _ _ _ e hl
 exact S.2 g A s p vs k _ q i.sub (i.apart p (List.mem_of_getElem? hl)) hv λ us' h' t c r' k1 k2 ht=>
  ⟨g,.setCellK ht hl k1 ⟨_,k2⟩,i.setCellK ht hl ⟨us',⟨c,k2⟩,r',S.1▸z⟩ k1,.none_⟩
theorem z4o {ts:List Str} (h:q1f xs=some ts) (h64:ts.length<64):w8n cx xs ((q5k ts).map .str):=by
 have hlen:∀{xs:List AV} {ts:List Str},q1f xs=some ts->ts.length=xs.length:=by
  intro xs
  induction xs with
  | nil=>intro ts h;obtain rfl:=jI h;rfl
  | cons x xs ih=>
   intro ts h
   induction x using AV.casesOn with
   | str t=>obtain⟨ts,he,rfl⟩:=Option.map_eq_some_iff.mp h;exact congrArg (· + 1) (ih he)
   | lit t=>obtain⟨ts,he,rfl⟩:=Option.map_eq_some_iff.mp h;exact congrArg (· + 1) (ih he)
   | _=>exact nope h
 have hp:=List.mergeSort_perm ts λ a b=>decide (a.cps.toList<=b.cps.toList)
 refine⟨by rw[List.length_map];exact hp.length_eq.trans (hlen h),λ g A s D us n Q r _ _ ho k=>?_⟩
 obtain⟨hz,hS⟩:=q3e h r
 refine wpAny_call_entry slot_list_sort ⟨_,ho,rfl⟩ entry_list_sort (list_sort_treeK strKind_oneLt ho hS.keysOf (λ v1 v2 rest e=>keyKind_strs (by rw[<-e];exact hS)) (hS.length▸h64) λ st' hp' hs=>⟨_,rfl,?_⟩) (args_list_sort _)
 obtain⟨ss',h1,h2,h3⟩:=sorted_out_str hS hp' hs
 obtain rfl:=k9x h2 h3
 obtain⟨c,hc⟩:=sortedHeap_at (vs:=us) (out:=(arrOf st').map (·.2)) ho
 exact k _ _ _ c (VRs.strs h1 λ t ht=>hz t (hp.mem_iff.mp ht)) (λ b o hb e=>(sortedHeap_old hb (Heap.lt_size e)).trans e) hc
theorem VRs.pick {d:AV} (r:VRs cx g xs us):∀{p:List Nat},(∀j∈p,j<xs.length)->VRs cx g (p.map λ i=>xs.getD i d) (p.map λ i=>us.getD i Value.none)
 | [],_=>.nil
 | j::p,h=>by
  have hj:=h j (by simp)
  obtain⟨v,hv,q⟩:=r.get (List.getElem?_eq_getElem hj)
  simp only[List.map_cons,List.map_cons,List.getD_eq_getElem?_getD,List.getD_eq_getElem?_getD,List.getElem?_eq_getElem hj,hv]
  exact .cons q (VRs.pick r λ k hk=>h k (by simp[hk]))
theorem z6e {p:Str×Str} {h:Heap} {u:Value} (k:∀b o,g.I b=some o->h.get? b=some o) (r:VR cx g (q0c p) u):∃a t t' n,u = .ref a/\h.get? a=some { cls:=.type "tuple",data:=.seq #[.str p.1 t,.str p.2 t'] n }:=by
 obtain⟨a,o,us,rfl,hi,⟨n,rfl⟩,q,_⟩:=r
 refine q.e2 (P:=λ us=>g.I a=some { cls:=.type "tuple",data:=.seq us.toArray n }->_) (λ u w r1 r2 hi=>?_) hi
 obtain⟨t,rfl,_⟩:=r1.of_str
 obtain⟨t',rfl,_⟩:=r2.of_str
 exact⟨a,t,t',n,rfl,k _ _ hi⟩
theorem k6v {h:Heap} (k:∀b o,g.I b=some o->h.get? b=some o):∀{ps:List (Str×Str)} {us:List Value},VRs cx g (ps.map q0c) us->∃fs,KatTups h us fs/\fs.length=ps.length/\∀f∈fs,∃x t,f=Value.str x t
 | [],us,r=>by rw[VRs.of_nil r];exact⟨[],.nil,rfl,λ _ h=>nomatch h⟩
 | p::ps,us,r=>by
  obtain⟨u,us,rfl,r1,r2⟩:=VRs.uncons (show VRs cx g (q0c p::ps.map q0c) us from r)
  obtain⟨fs,h1,h2,h3⟩:=k6v k r2
  obtain⟨a,t,t',n,rfl,ha⟩:=z6e k r1
  exact⟨.str p.1 t::fs,.cons ha rfl rfl rfl h1,congrArg (· + 1) h2,λ f hf=>(List.mem_cons.mp hf).elim (λ e=>⟨_,_,e⟩) (h3 f)⟩
theorem j4v {p q:Str×Str} {u v:Value} {C:Bool->Shared->Prop} (k:∀b o,g.I b=some o->s.heap.get? b=some o) (r1:VR cx g (q0c p) u) (r2:VR cx g (q0c q) v) (h:C ((q3q q0s).blt (w3d p) (w3d q)) s) :
  wpAny cx.M A (keyLt' (tuples' true) u v) C NoE s:=by
 obtain⟨a,t,t',n,rfl,ha⟩:=z6e k r1
 obtain⟨b,w,w',m,rfl,hb⟩:=z6e k r2
 refine kat_lt ha rfl hb rfl (kat_cons (wpAny_eqBool_str ?_))
 by_cases h1:p.1=q.1
 ·rw[decide_eq_true h1]
  refine kat_yes (kat_cons (wpAny_eqBool_str ?_))
  have e1:(q3q q0s).blt (w3d p) (w3d q)=lexB q0s [q1q p.2] [q1q q.2]:=by
   show lexB q0s [q1q p.1,q1q p.2] [q1q q.1,q1q q.2]=_
   rw[h1,q5q]
  rw[e1]at h
  by_cases h2:p.2=q.2
  ·rw[decide_eq_true h2]
   refine kat_yes (kat_nil ?_)
   rw[h2,q5q]at h
   exact h
  ·rw[decide_eq_false h2]
   refine kat_no (kat_one _ _ (PyProof.Rows.lt_str ?_))
   rw[show lexB q0s [q1q p.2] [q1q q.2]=decide (p.2.cps.toList<q.2.cps.toList)from Bool.not_inj ((w9f _ _).trans (q3u _ _).symm)]at h
   exact h
 ·rw[decide_eq_false h1]
  refine kat_no (oneLt_str ?_)
  rw[show(q3q q0s).blt (w3d p) (w3d q)=decide (p.1.cps.toList<q.1.cps.toList)from Bool.not_inj ((w2v (λ e=>h1 (q2y e.symm)) _ _).trans (q3u _ _).symm)]at h
  exact h
theorem z2p:∀{xs:List AV} {ps:List (Str×Str)},w9r xs=some ps->xs=ps.map q0c
 | [],ps,h=>by obtain rfl:=jI h;rfl
 | x::xs,ps,h=>optE h λ p h1 h=>mapQ h λ r h2 e=>by simp only[<-e,k9n h1,z2p h2];rfl
theorem q9g:∀ps:List (Str×Str),w9r (ps.map q0c)=some ps
 | []=>rfl
 | p::ps=>by show(w9r (ps.map q0c)).map (p :: ·)=_;rw[q9g ps];rfl
theorem w4r {ps:List (Str×Str)} (h:w9r xs=some ps) (h5:ps.length<5):w8n cx xs ((q0u ps).map q0c):=by
 obtain rfl:=z2p h
 have hp:=List.mergeSort_perm ps w0v
 refine⟨by rw[List.length_map,List.length_map];exact hp.length_eq,λ g A s D us n Q r hk hD ho k=>?_⟩
 have hl:us.length=ps.length:=by have:=r.length;rw[List.length_map]at this;exact this.symm
 have kb:∀h',q2t D s.heap h'->∀b o,g.I b=some o->h'.get? b=some o:=λ h' q b o e=>q b o (λ z=>by rw[z,hD]at e;cases e) (hk b o e)
 have at_:∀i,i<us.length->VR cx g (q0c (ps.getD i (Str.empty,Str.empty))) (us.getD i Value.none):=λ i hi=>by
  obtain⟨v,hv,q⟩:=r.get (i:=i) (x:=q0c (ps.getD i (Str.empty,Str.empty))) (by rw[List.getElem?_map,List.getD_eq_getElem?_getD,List.getElem?_eq_getElem (hl▸hi)];rfl)
  rw[show us.getD i Value.none=v from by rw[List.getD_eq_getElem?_getD,hv];rfl];exact q
 refine k6j (O:=q3q q0s) (key:=λ i=>w3d (ps.getD i (Str.empty,Str.empty))) (κ:=tuples' true) ho (hl▸h5) (λ h2 A' h' Q' kh hq=>?_) (λ A' h' t i j C hi hj kh hC=>?_) λ p h' t c hpm hup kh hg=>?_
 ·obtain⟨fs,f1,f2,f3⟩:=k6v (kb h' kh) r
  refine kat_kind (s:={ s with heap:=h' }) (T:=.type "str") f1 (by rw[f2,<-hl];exact jC (by decide) h2) (λ f hf=>?_) (by decide) hq
  obtain⟨x,t,rfl⟩:=f3 f hf
  exact Looks.of_pure rfl
 ·exact j4v (s:={ s with heap:=h',toks:=t }) (kb h' kh) (at_ i hi) (at_ j hj) (hC t)
 ·rw[hl]at hpm hup
  obtain⟨_,e⟩:=z8s q7o z2o (.refl ps) hpm hup
  refine k _ h' t c ?_ kh hg
  have q:=r.pick (d:=q0c (Str.empty,Str.empty)) (p:=p.toList) λ j hj=>by rw[List.length_map];exact hpm.lt hj
  have e2:(p.toList.map λ i=>(ps.map q0c).getD i (q0c (Str.empty,Str.empty)))=(q0u ps).map q0c:=by
   simp only[q0u,<-e,List.map_map]
   exact List.map_congr_left λ i _=>by show(ps.map q0c).getD i _=q0c (ps.getD i _);simp only[List.getD_eq_getElem?_getD,List.getD_eq_getElem?_getD,List.getElem?_map];cases ps[i]?<;>rfl
  rw[e2]at q
  exact q
end
theorem w3e (is:List Int):∀k,k<=is.length->preSum (λ i=>is.getD i 0) k=(is.take k).sum
 | 0,_=>rfl
 | k+1,h=>by
  dsimp only[preSum]
  rw[w3e is k (by exact jF ‹_›)]
  have hk:k<is.length:=by assumption
  simp only[show is.take (k+1)=is.take k++[is[k]] by simp only[List.take_add_one,List.getElem?_eq_getElem hk];rfl,List.sum_append]
  simp[hk]
theorem k0k (is:List Int):preSum (λ i=>is.getD i 0) is.length=is.sum:=by rw[w3e is _ (jD _),List.take_length]
section
variable {cx:Cx} {T:Tab} {n:Nat} {r:Ev} {C:q0a} {ks:Kinds} {ns:List Str} {env:Env} {g g':G} {vs vs':Vs} {σ σ' σ'':Store} {s s':Shared} {A:Around} {v:AV} {u uf a b:Value} {ex:Expr} {x:Str}
theorem Kept.px (k:Kept s s') (i:Inv cx g σ s) (r:VR cx g v u):PX cx g s σ v u s':=⟨g,k.stp,k.inv i,r⟩
theorem Kept.moved {wr:List Addr} {s₁:Shared} (k:Kept s s₁) (hm:Moved wr (λ a b=>b=a) s₁ s') (hw:∀b∈wr,s.heap.get? b=none):Kept s s':=
 ⟨λ b o e=>hm.heap b o (λ h=>by rw[hw b h]at e;contradiction) (k.heap b o e),jA k.toks hm.toks,(show s'.gens=s₁.gens from hm.gens).trans k.gens,hm.os.trans k.os⟩
theorem Kept.push (o:Obj):Kept s { s with heap:=s.heap.push o }:=⟨λ b o e=>Heap.get?_push_of_some _ e,jD _,rfl,rfl⟩
set_option tactic.hygienic true in theorem z1x:∀{xs:List AV} {is:List Int} {vs:List Value},w0r xs=some is->VRs cx g xs vs->is.length=vs.length/\∀(i:Nat) (v:Value),vs[i]? = some v->∃t,v=Value.int (is.getD i 0) t
 | [],is,vs,h,r=>by obtain rfl:=jI h;rw[r.of_nil];exact⟨rfl,λ i v e=>by trivial⟩
 | x::xs,is,vs,h,r=>by
  unfold w0r at h
  split at h
  ·rename_i e;contradiction
  ·rename_i k rr e
   rcases e
   obtain⟨w,wr,rfl,hw,hr⟩:=r.uncons
   obtain⟨is',h',rfl⟩:=Option.map_eq_some_iff.mp h
   obtain⟨l,q⟩:=z1x h' hr
   obtain⟨t,rfl⟩:=hw.of_int
   refine⟨by simp[l],λ i v e=>?_⟩
   induction i with
   | zero=>simp at e;exact⟨t,by rw[<-e];rfl⟩
   | succ j=>simp at e;obtain⟨t,rfl⟩:=q j v e;exact⟨t,by rfl⟩
  ·contradiction
theorem j9s {xs:List AV} {is:List Int} (hA:A.handled=none) (i:Inv cx g σ s) (e:q0r σ v=some xs) (h:w0r xs=some is) (ra:VR cx g v a) :
  wpAny cx.M A (call (.builtin "sum") [a]) (PX cx g s σ (.int is.sum)) NoE s:=by
 rcases _:q0x i e ra with⟨p,vs,rfl,hp,rp,zp⟩
 obtain⟨hl,hv⟩:=z1x h rp
 have hpl:p<s.heap.objs.size:=let ⟨_,e⟩:=hp;Heap.lt_size e
 refine call_sum_walkAnyS (wpAny_pyIter_list hp.isList ⟨s.heap.objs.size,[s.heap.objs.size,p],[s.heap.objs.size],_,vs.toArray.size,_,_,λ i=>is.getD i 0,rfl,(Walks.list (by exact hA) _ p (Nat.ne_of_lt hpl) vs.toArray).toS,⟨⟨_,Heap.get?_push_size _ rfl,rfl,rfl⟩,hp.isList.push _⟩,?_,?_,?_⟩)
 ·intro b hb
  simp only[List.mem_cons,List.not_mem_nil,or_false]at hb
  simp only[Heap.size_push]
  rcases hb with rfl|rfl
  ·exact Nat.lt_succ_self _
  ·exact Nat.lt_succ_of_lt hpl
 ·intro j v hj
  exact hv j v (by simpa using hj)
 ·intro s' t' hm
  have e2:preSum (λ i=>is.getD i 0) vs.toArray.size=is.sum:=by simp only[List.size_toArray,<-hl];exact k0k is
  rw[e2]
  exact((Kept.push _).moved hm λ b hb=>by simp at hb;rw[hb];exact q0m s).px i (.int_ _)
theorem k5o {k:Int} (i:Inv cx g σ s) (ra:VR cx g (.int k) a):wpAny cx.M A (call (.type "range") [a]) (PE cx g s σ (.rng 0 k)) NoE s:=by
 obtain⟨t,rfl⟩:=ra.of_int
 exact call_range_1 (PE.alloc i rfl (λ g' le hi=>by exact⟨_,_,rfl,hi,_,_,_,rfl⟩) _)
theorem k5p {k l:Int} (i:Inv cx g σ s) (ra:VR cx g (.int k) a) (rb:VR cx g (.int l) b):wpAny cx.M A (call (.type "range") [a,b]) (PE cx g s σ (.rng k l)) NoE s:=by
 obtain⟨t,rfl⟩:=ra.of_int
 obtain⟨t',rfl⟩:=rb.of_int
 exact call_range_2 (PE.alloc i rfl (λ g' le hi=>by exact⟨_,_,rfl,hi,_,_,_,rfl⟩) _)
theorem VRs.ofGet:∀{xs:List AV} {vs:List Value},xs.length=vs.length->(∀(j:Nat) (v:Value),vs[j]? = some v->∃x,xs[j]? = some x/\VR cx g x v)->VRs cx g xs vs
 | [],[],_,_=>.nil
 | x::xs,w::ws,hl,h=>by
  obtain⟨y,hy,ry⟩:=h 0 w rfl
  simp at hy;subst hy
  exact .cons ry (VRs.ofGet (by simpa using hl) λ j v e=>by simpa using h (j+1) v (by exact e))
theorem G.freeze_I {g:G} {a b:Addr} {o:Obj}:(g.freeze a o).I b=if b=a then some o else g.I b:=rfl
theorem w7m {s0:Shared}:∀(as:List Addr) {g0 g:G},Stp [] g0 s0 g s->Inv cx g σ s->as.Nodup->(∀a∈as,s0.heap.get? a=none/\a∉g.ρ/\g.I a=none/\∃o,s.heap.get? a=some o)->
  ∃g',Stp [] g0 s0 g' s/\Inv cx g' σ s/\g.le g'/\(∀a∈as,∀o,s.heap.get? a=some o->g'.I a=some o)/\g'.ρ=g.ρ/\∀b,b∉as->g'.I b=g.I b
 | [],g0,g,a,i,_,_=>⟨g,a,i,.refl _,by simp,rfl,λ _ _=>rfl⟩
 | p::ps,g0,g,a,i,hn,h=>by
  rcases _:h p (by simp)with⟨h1,h2,h3,o,h4⟩
  obtain⟨hp,hn⟩:=List.nodup_cons.mp hn
  obtain⟨g',a',i',le,hq,hr,hb⟩:=w7m ps (a.addFz (o:=o) h1 h3) (i.add h4 h2 h3) hn λ b hb=>by
   rcases _:h b (by simp[hb])with⟨q1,q2,q3,q4⟩
   exact⟨q1,q2,by rw[G.freeze_I,if_neg (λ z:b=p=>hp (z▸hb))];exact q3,q4⟩
  refine⟨g',a',i',(G.freeze_le h3).trans le,λ b hb' o' e=>?_,hr,λ b hb'=>?_⟩
  ·rcases _:List.mem_cons.mp hb' with rfl|hb'
   ·rw[h4]at e;obtain rfl:=jI e
    rw[hb _ hp,G.freeze_I,if_pos rfl]
   ·exact hq b hb' o' e
  ·rw[hb b λ z=>hb' (by simp[z]),G.freeze_I,if_neg λ z=>hb' (by simp[z])]
theorem k1f {xs:List AV} {us:List Value} {ts:List Str} (h:q1f xs=some ts) (r:VRs cx g xs us):VRs cx g (ts.map .str) us:=let ⟨z,q⟩:=q3e h r;.strs q z
theorem w8i:∀ts:List Str,q1f (ts.map .str)=some ts
 | []=>rfl
 | t::ts=>by show(q1f (ts.map .str)).map (t :: ·)=_;rw[w8i ts];rfl
theorem k9o {kts ts:List Str} {us:List Value} {h':Heap} {tk:Nat} {as:List Addr} (i:Inv cx g σ s) (hk:∀b o,s.heap.get? b=some o->h'.get? b=some o) (ht:s.toks<=tk) (rq:VRs cx g (ts.map .str) us) (hkt:kts.length=ts.length) (hz:∀k∈kts,k.length<=sizeLine)
  (hl:as.length=kts.length) (hG:KdxG cx.sk (kts.zip us) s.heap.objs.size h' as):Gath cx g s σ ((kts.zip ts).map q0c) (as.map Value.ref) { s with heap:=h',toks:=tk }:=by
 have hfr:∀a∈as,s.heap.get? a=none:=λ a ha=>by
  generalize q:s.heap.get? a=zzy
  induction zzy with
  | none=>rfl
  | some o=>exact absurd (Heap.lt_size q) (Nat.not_lt_of_lt (hG.above a ha))
 obtain⟨g',a',i',le,hI,hr,hb⟩:=w7m (cx:=cx) (σ:=σ) (s:={ s with heap:=h',toks:=tk }) as (.keeps (t:=tk) ht hk:Stp [] g s g _) (i.keep ht hk) (hG.rise.imp λ h=>Nat.ne_of_lt h) λ a ha=>by
  refine⟨hfr a ha,(i.fresh (hfr a ha)).2,(i.fresh (hfr a ha)).1,?_⟩
  rcases _:List.mem_iff_getElem?.mp ha with⟨j,hj⟩
  rcases _:hG.pairs j a hj with⟨_,_,_,_,_,e⟩
  exact⟨_,e⟩
 refine⟨g',a',i',VRs.ofGet (by simp only[List.length_map,List.length_map,List.length_zip,hl,<-hkt,Nat.min_self]) λ j v e=>?_⟩
 rw[List.getElem?_map]at e
 obtain⟨p,hp,rfl⟩:=Option.map_eq_some_iff.mp e
 rcases _:hG.pairs j p hp with⟨key,k,x,hkx,hkey,ho⟩
 obtain⟨e1,e2⟩:=List.getElem?_zip_eq_some.mp hkx
 have hjt:j<ts.length:=hkt▸(List.getElem?_eq_some_iff.mp e1).1
 refine⟨q0c (k,ts[j]),by rw[List.getElem?_map,show(kts.zip ts)[j]? = some (k,ts[j])from List.getElem?_zip_eq_some.mpr ⟨e1,List.getElem?_eq_getElem hjt⟩];rfl,?_⟩
 obtain⟨w,hw,rw'⟩:=rq.get (i:=j) (x:=.str ts[j]) (by rw[List.getElem?_map,List.getElem?_eq_getElem hjt];rfl)
 rw[e2]at hw;obtain rfl:=jI hw
 obtain⟨t,rfl⟩:=q6q hkey
 exact RTup.mk p _ [.str k t,x] rfl (hI p (List.mem_of_getElem? hp) _ ho) ⟨0,rfl⟩ (.cons (.str_ _ (hz k (List.mem_of_getElem? e1))) (.cons (rw'.mono le) .nil)) (by simp only[sizeLine_eq];simp)
theorem z1h {xs:List AV} (i:Inv cx g σ s) (e:q0r σ v=some xs) (ra:VR cx g v a):wpAny cx.M A (collect a) (Gath cx g s σ xs) NoE s:=by
 obtain⟨p,vs,rfl,hp,rp,zp⟩:=q0x i e ra
 refine collect_list hp.isList ?_ (rp.length▸zp)
 have k:∀b o,s.heap.get? b=some o->((s.heap.push (seqObj "list" #[] 0)).update s.heap.objs.size (Obj.mapSeq (·++vs.toArray))).get? b=some o:=λ b o q=>by
  rw[Heap.get?_update_ne _ _ _ _ (Nat.ne_of_lt (Heap.lt_size q))];exact Heap.get?_push_of_some _ q
 exact⟨g,.keeps (t:=s.toks) (jD _) k,i.keep (t:=s.toks) (jD _) k,rp⟩
theorem w5a {kts:List Str} {us:List Value} (hl:us.length=kts.length):(kts.zip us).length=kts.length:=by rw[List.length_zip,hl,Nat.min_self]
theorem z8l {kts:List Str} {us:List Value} {acc:Array Value} (hl:us.length=kts.length) (hz:∀k∈kts,k.length<=sizeLine) (h:ItemsOf (λ i v=>∃k x,(kts.zip us)[i]? = some (k,x)/\cx.sk.is k v=true) acc (kts.zip us).length) :
  VRs cx g (kts.map .str) acc.toList:=by
 refine VRs.ofGet ((List.length_map ..).trans ((h.1.trans (w5a hl)).symm.trans Array.length_toList.symm)) λ j v e=>?_
 obtain⟨k,x,q,hk⟩:=h.2 j v (by rw[<-Array.getElem?_toList];exact e)
 have e1:=(List.getElem?_zip_eq_some.mp q).1
 obtain⟨t,rfl⟩:=q6q hk
 exact⟨.str k,by rw[List.getElem?_map,e1];rfl,.str_ _ (hz k (List.mem_of_getElem? e1))⟩
theorem w9i {kvs:List (Str×AV)} (y:∀kv∈kvs,kv.1.length<=sizeLine):∀k∈kvs.map (·.1),k.length<=sizeLine:=λ k hk=>by
 obtain⟨kv,h,rfl⟩:=List.mem_map.mp hk
 exact y kv h
theorem k2k {kvs:List (Str×AV)} (hA:A.handled=none) (i:Inv cx g σ s) (e:q0k σ v=some kvs) (ra:VR cx g v a):wpAny cx.M A (collect a) (Gath cx g s σ ((kvs.map (·.1)).map .str)) NoE s:=by
 obtain⟨q,us,rfl,hq,rq,hsys,hz,hkz⟩:=q1g i e ra
 obtain⟨ep,hda⟩:=hq.dictAt
 have hl:us.length=(kvs.map (·.1)).length:=by have:=rq.length;rw[List.length_map]at this ⊢;exact this.symm
 refine q4y (kdu_collect (kdl_dict hsys) hA hda (by rw[w5a hl,List.length_map];exact hz) λ h' tk acc hk hacc ht=>?_)
 exact⟨g,.keeps (t:=tk) ht hk,i.keep ht hk,z8l hl (w9i hkz) hacc⟩
theorem z2f {kvs:List (Str×AV)} (hA:A.handled=none) (i:Inv cx g σ s) (e:q0k σ v=some kvs) (ra:VR cx g v a):wpAny cx.M A (call (.type "list") [a]) (PE cx g s σ (.fl (kvs.map λ kv=>.str kv.1))) NoE s:=by
 obtain⟨q,us,rfl,hq,rq,hsys,hz,hkz⟩:=q1g i e ra
 obtain⟨ep,hda⟩:=hq.dictAt
 have hl:us.length=(kvs.map (·.1)).length:=by have:=rq.length;rw[List.length_map]at this ⊢;exact this.symm
 refine kdl_call (kdl_dict hsys) hA hda (by rw[w5a hl,List.length_map];exact hz) λ h' tk acc c hk ho hacc=>?_
 refine PE.held (v:=.fl (kvs.map λ kv=>.str kv.1)) i (q0m s) ho hk (λ g' le hi=>RFl.mk _ _ acc.toList rfl hi ⟨c,by rfl⟩ ?_ (by rw[List.length_map];exact hz)) tk
 have:=z8l (g:=g') hl (w9i hkz) hacc
 rw[List.map_map]at this
 exact this
theorem j3e {d:AV} {kvs:List (Str×AV)} {ts:List Str} (hA:A.handled=none) (i:Inv cx g σ s) (e:q0k σ d=some kvs) (h:q1f (kvs.map (·.2))=some ts) (ra:VR cx g (.iv d) a) :
  wpAny cx.M A (collect a) (Gath cx g s σ (((kvs.map (·.1)).zip ts).map q0c)) NoE s:=by
 obtain⟨p,o,q,rfl,hi,hc,hf,rd⟩:=ra
 obtain⟨q',us,hq',hq,rq,hsys,hz,hkz⟩:=q1g i e rd
 rcases hq'
 obtain⟨ep,hda⟩:=hq.dictAt
 have hl:us.length=(kvs.map (·.1)).length:=by have:=rq.length;rw[List.length_map]at this ⊢;exact this.symm
 have rt:=k1f h rq
 have hlt:(kvs.map (·.1)).length=ts.length:=by have:=rt.length;rw[List.length_map]at this;rw[this,hl]
 exact q4y (kdx_collect hA ⟨o,i.sub _ _ hi,hc,hf⟩ hda (by rw[w5a hl,List.length_map];exact hz) λ h' tk as hk hl' hG ht=>k9o i hk ht rt hlt (w9i hkz) (by rw[hl',w5a hl]) hG)
theorem v0y {x d:AV} (h:ivV x=some d):x = .iv d:=by rcases x<;>first|exact nope h|exact congrArg _ (jI h)
theorem k6l {w:AV} (hA:A.handled=none) (i:Inv cx g σ s) (ra:VR cx g w a) (e:z6x w σ=some (v,σ')):wpAny cx.M A (call (.builtin "sorted") [a]) (PX cx g s σ' v) NoE s:=by
 refine optM e (λ d h1 e=>optE e λ kvs h2 e=>optE e λ ps h3 e=>q0o e λ h4 e=>?_) λ _ e=>optM e (λ kvs h2 e=>q0o e λ h3 e=>?_) λ _ e=>optE e λ xs h2 e=>optM e (λ ts h3 e=>q0o e λ h4 e=>?_) λ _ e=>optE e λ ps h3 e=>q0o e λ h4 e=>?_
 ·refine mapQ h3 λ ts h5 h6=>?_
  subst h6
  rw[v0y h1]at ra
  exact pxE e (PE.x (q7s (w4r (q9g _) h4) (by rw[List.length_map];exact jA (jF h4) (by decide)) (j3e hA i h2 h5 ra)))
 ·exact pxE e (PE.x (q7s (z4o (w8i _) h3) (by rw[List.length_map];exact jA (jF h3) (by decide)) (k2k hA i h2 ra)))
 ·exact pxE e (PE.x (q7s (z4o h3 h4) (by obtain⟨_,_,_,_,_,z⟩:=q0x i h2 ra;exact z) (z1h i h2 ra)))
 ·exact pxE e (PE.x (q7s (w4r h3 h4) (by obtain⟨_,_,_,_,_,z⟩:=q0x i h2 ra;exact z) (z1h i h2 ra)))
theorem k3j {l:Nat} {xs ys:List AV} (i:Inv cx g σ s) (hx:σ[l]? = some (.list xs)) (hy:q0r σ v=some ys) (hz:xs.length+ys.length<=sizeLine) (ra:VR cx g (.loc l) a) (rb:VR cx g v b) :
  wpAny cx.M A (call (.builtin "list.extend") [a,b]) (PE cx g s (σ.set l (.list (xs++ys))) .none) NoE s:=by
 obtain⟨p,rfl,hl⟩:=ra.of_loc
 obtain⟨vs,⟨k,hv⟩,q,z⟩:=i.cells _ _ _ hx hl
 obtain⟨p2,us,rfl,⟨k2,hp2⟩,rp,zp⟩:=q0x i hy rb
 have h1:vs.length+us.length<=sizeLine:=by simp only[<-q.length,<-rp.length];exact hz
 refine call_meets F.slot_list_extend ⟨_,hv,rfl⟩ F.entry_list_extend (F.args_list_extend_2 _ _) (AutoSeq1.list_extend_list_list_0 p vs.toArray k p2 us.toArray k2 (extend_door (by simpa using h1)) (by simpa using jA (jG _ _) h1) (by simpa using Nat.le_succ_of_le h1)) ⟨hv,hp2,?_⟩
 have hg:(s.heap.update p (Obj.mapSeq λ x=>x++us.toArray)).PlainList p (vs++us).toArray:=⟨_,by rw[show(vs++us).toArray=vs.toArray++us.toArray by simp];exact get?_update_seq hv λ x=>x++us.toArray⟩
 exact PE.set (o:=.list (xs++ys)) (t:=s.toks) i hl ⟨vs++us,hg,q.append rp,by rw[List.length_append];exact hz⟩ (Heap.SameBut.update ..) .none_
theorem k8n {k:Str} {vs:List Value} {ts:List Str} (h:StrsAre vs ts):∀(m:Nat) (hm:m<vs.length),isStrOf k vs[m]=(ts.getD m Str.empty==k):=by
 induction h with
 | nil=>intro m hm;exact absurd hm (Nat.not_lt_zero _)
 | cons y t h ih=>intro m hm;exact match m,hm with
  | 0,_=>rfl
  | m+1,hm=>ih m (Nat.lt_of_succ_lt_succ hm)
theorem k8k {l:Nat} {xs:List AV} {ts:List Str} {k:Str} (i:Inv cx g σ s) (hx:σ[l]? = some (.list xs)) (h:q1f xs=some ts) (hk:ts.contains k=true) (ra:VR cx g (.loc l) a) (rb:VR cx g (.str k) b) :
  wpAny cx.M A (call (.builtin "list.index") [a,b]) (PE cx g s σ (.int (ts.idxOf k:Nat))) NoE s:=by
 obtain⟨p,rfl,hl⟩:=ra.of_loc
 obtain⟨t,rfl,_⟩:=rb.of_str
 obtain⟨vs,⟨n,hv⟩,q,z⟩:=i.cells _ _ _ hx hl
 obtain⟨_,hS⟩:=q3e h q
 have hj:ts.idxOf k<ts.length:=List.idxOf_lt_length_of_mem (List.contains_iff_mem.mp hk)
 have hvl:=hS.length
 have get:=k8n (k:=k) hS
 refine call_meets F.slot_list_index ⟨_,hv,rfl⟩ F.entry_list_index (F.args_list_index_2 _ _) (MeetsSeq.list_index p vs.toArray n (.str k t) (isStrOf k) (λ y hy=>eq_isStrOf k t hS y (by simpa using hy)) (ts.idxOf k) (by rw[List.size_toArray,hvl];exact hj) ?_ ?_ ?_) ⟨hv,PE.tok i (.int_ _) _⟩
 ·have:ts.idxOf k<sizeLine:=jC hj (by rw[<-hvl,<-q.length];exact z)
  exact Int.lt_of_le_of_lt (Int.ofNat_le.mpr (jF this)) (by rw[sizeLine_eq];decide)
 ·simp only[List.getElem_toArray,get];exact beq_iff_eq.mpr (by rw[List.getD_eq_getElem?_getD,List.getElem?_eq_getElem hj];exact List.getElem_idxOf hj)
 ·intro m hm hlt
  rw[List.getElem_toArray,get]
  rw[List.getD_eq_getElem?_getD,List.getElem?_eq_getElem (Nat.lt_trans hlt hj)]
  exact List.not_of_lt_findIdx (xs:=ts) (p:=(·==k)) hlt
theorem j9r {k:Int} (i:Inv cx g σ s) (h:k.natAbs<10 ^ 6) (ra:VR cx g (.int k) a):wpAny cx.M A (call (.type "str") [a]) (PE cx g s σ (.str (q1e k))) NoE s:=by
 obtain⟨t,rfl⟩:=ra.of_int
 have hz:(q1e k).length<=sizeLine:=by
  have:=len_str_of_int k
  unfold q1e
  exact Int.ofNat_le.mp (Int.le_trans this (Int.le_trans (Int.add_le_add_right (Int.ofNat_le.mpr (jF h)) 2) (by rw[sizeLine_eq];decide)))
 exact str_of_int_fit (N:=10 ^ 6) (Int.lt_of_lt_of_le (Int.lt_of_le_of_lt (by split;rw[Int.zero_sub,<-Int.natAbs_neg];exact Int.le_natAbs;exact Int.le_natAbs) (Int.ofNat_lt.mpr h)) (by decide)) (by decide) λ _=>PE.tok i (.str_ _ hz) _
theorem j3i {kvs:List (Str×AV)} (hm:∃b o,sysModules<=b/\cx.h₀.get? b=some o) (i:Inv cx g σ s) (e:q0k σ v=some kvs) (ra:VR cx g v a):wpAny cx.M A (call (.type "dict") [a]) (PE cx g s (σ++[.dict kvs]) (.loc σ.length)) NoE s:=by
 obtain⟨q,us,rfl,hq,rq,hsys,hz,hkz⟩:=q1g i e ra
 have hl:us.length=(kvs.map (·.1)).length:=by have:=rq.length;rw[List.length_map]at this ⊢;exact this.symm
 refine kt_call_dict hsys hq (by rw[w5a hl,List.length_map];exact hz) λ h' hd sb=>?_
 refine PE.cell (t:=s.toks) (o:=.dict kvs) i (q0m s) ⟨us,hd,rq.mono (G.cell_le ..),?_,hz,hkz⟩ λ b o e=>(sb.2 b (Nat.ne_of_lt (Heap.lt_size e))).trans (Heap.get?_push_of_some _ e)
 obtain⟨b,o,hb,ho⟩:=hm
 exact beq_false_of_ne (Nat.ne_of_gt (jB hb (Heap.lt_size (i.keeps0 _ _ ho))))
theorem z5u {kvs:List (Str×AV)} (i:Inv cx g σ s) (e:q0k σ v=some kvs) (ra:VR cx g v a):wpAny cx.M A (call (.builtin "len") [a]) (PE cx g s σ (.int kvs.length)) NoE s:=by
 obtain⟨q,us,rfl,hq,rq,hsys,hz,hkz⟩:=q1g i e ra
 have hl:us.length=(kvs.map (·.1)).length:=by have:=rq.length;rw[List.length_map]at this ⊢;exact this.symm
 have e1:((kvs.map (·.1)).zip us).length=kvs.length:=by rw[w5a hl,List.length_map]
 refine call_len_dict hsys hq (by rw[e1];exact w0h hz) ?_
 rw[e1]
 exact PE.tok i (.int_ _) _
theorem z7a (x y:Str):∀p∈Txt.split x y,p.length<=x.length:=by
 intro p hp
 unfold Txt.split at hp
 split at hp
 ·rw[jJ hp];exact jD _
 ·split at hp
  ·rw[jJ hp];exact jD _
  ·simp only[Builtin.Str.partsBetween,List.mem_map]at hp
   obtain⟨⟨i,j⟩,_,rfl⟩:=hp
   exact strSub_length_le ..
theorem k9y {p c:Str} (i:Inv cx g σ s) (hc:c.length≠0) (hz:(Txt.split p c).length<=sizeLine) (ra:VR cx g (.str p) a) (rb:VR cx g (.str c) b) :
  wpAny cx.M A (call (.builtin "str.split") [a,b]) (PE cx g s σ (.fl ((Txt.split p c).map .str))) NoE s:=by
 obtain⟨t,rfl,z⟩:=ra.of_str
 obtain⟨u,rfl,_⟩:=rb.of_str
 have hy:(c.length==0)=false:=by simpa using hc
 have zz:∀q∈Txt.split p c,q.length<=sizeLine:=λ q hq=>jA (z7a p c q hq) z
 rcases h1:(decide (p.length<c.length)||decide (Builtin.Str.strKind p<Builtin.Str.strKind c))
 ·rcases hf:(Builtin.Str.occurrences p c 0 p.length (p.length+1)).isEmpty
  ·have e:Txt.split p c=Builtin.Str.partsBetween p (Builtin.Str.occurrences p c 0 p.length (p.length+1)) c.length:=by unfold Txt.split;rw[if_neg (by rw[h1];simp),if_neg (by rw[hf];simp)]
   refine call_meets F.slot_str_split (typeIs_str _ _ _) F.entry_str_split (F.args_str_split_2 _ _) (meets_str_split_sep p c t u h1 hy hf z (by rw[<-e];exact hz)) ?_
   rw[strsFrom_eq]
   exact PE.texts i ((numbered_texts _ _).trans e.symm) zz hz
  ·have e:Txt.split p c=[p]:=by unfold Txt.split;rw[if_neg (by rw[h1];simp),if_pos hf]
   exact call_meets F.slot_str_split (typeIs_str _ _ _) F.entry_str_split (F.args_str_split_2 _ _) (meets_str_split_not_found p c t u h1 hy hf) (PE.texts (l:=[(p,t)]) (t:=s.toks) i e.symm zz hz)
 ·have e:Txt.split p c=[p]:=by unfold Txt.split;rw[if_pos h1]
  exact call_meets F.slot_str_split (typeIs_str _ _ _) F.entry_str_split (F.args_str_split_2 _ _) (meets_str_split_cannot_occur p c t u h1) (PE.texts (l:=[(p,t)]) (t:=s.toks) i e.symm zz hz)
theorem j5c (i:Inv cx g σ s):wpAny cx.M A (call (.type "set") []) (PE cx g s (σ++[.set []]) (.loc σ.length)) NoE s:=by
 refine call_set_0 λ led=>?_
 refine PE.cell (t:=s.toks) (o:=.set []) i (q0m s) ⟨?_,.nil⟩ λ b o e=>Heap.get?_push_of_some _ e
 exact SetOf_congr ((setObjOf_fresh (knd:=cx.sk) led).setOf (Heap.get?_push_size _ rfl) (by exact Nat.succ_pos _)) (λ _=>rfl) rfl
end
section
variable {cx:Cx} {T:Tab} {n:Nat}
section
variable {g:G} {σ σ':Store} {s:Shared} {A:Around} {v x:AV} {u:Value} {xs:List AV} {us:List Value}
theorem v0v (i:Inv cx g σ s) (R:VRs cx g xs us) (h:(getP xs).bind (λ(x,y,z)=>j7s x y z σ)=some (v,σ')):wpAny cx.M A (call (.builtin "dict.get") us) (PX cx g s σ' v) NoE s:=match xs,R,h with
 | [],_,h=>nope h
 | [_],_,h=>nope h
 | [_,_],R,h=>R.e2 (P:=λ us=>wpAny cx.M A (call _ us) _ _ _) λ u w r q=>w7b q h λ k q h=>pxM h λ kvs e1=>PE.x (j7t i e1 r q)
 | [_,_,_],R,h=>R.e3 (P:=λ us=>wpAny cx.M A (call _ us) _ _ _) λ u w t r q q'=>w7b q h λ k q h=>pxM h λ kvs e1=>PE.x (j3v i e1 r q q')
 | _::_::_::_::_,_,h=>nope h
theorem j4z (i:Inv cx g σ s) (R:VRs cx g xs us) (h:(rngP xs).bind (λ(x,y)=>(intV x).bind λ a=>(intV y).bind λ b=>some (AV.rng a b,σ))=some (v,σ')):wpAny cx.M A (call (.type "range") us) (PX cx g s σ' v) NoE s:=match xs,R,h with
 | [],_,h=>nope h
 | [_],R,h=>R.e1 (P:=λ us=>wpAny cx.M A (call _ us) _ _ _) λ u r=>z9y r h λ b r h=>pxE h (PE.x (k5o i r))
 | [_,_],R,h=>R.e2 (P:=λ us=>wpAny cx.M A (call _ us) _ _ _) λ u w r q=>z9y r h λ a r h=>z9y q h λ b q h=>pxE h (PE.x (k5p i r q))
 | _::_::_::_,_,h=>nope h
theorem v1b (i:Inv cx g σ s) (r:VR cx g x u) {n:Nat} (h:lenA x σ=some n):wpAny cx.M A (call (.builtin "len") [u]) (PE cx g s σ (.int n)) NoE s:=by
 unfold lenA at h
 generalize hl:q0r σ x=o at h
 induction o with
 | some xs=>obtain rfl:=jI h;exact z5v i hl r
 | none=>exact mapQ (show(q0k σ x).map (·.length)=some n from h) λ kvs hd e=>e▸z5u i hd r
end
theorem j6s (G:GlOk cx T) (n:Nat):BiOk cx n:=λ{b args σ v σ'} e A g s us hA i R=>by
 have hh:=hA.handled
 clear hA
 exact match b,e with
 | .lAppend,e=>k1h (Q:=λ us=>wpAny cx.M A (call (.builtin "list.append") us) _ _ _) R e λ x y u w r q e=>z5x r e λ l r e=>q5f e λ xs hx e=>q0o e λ hz e=>pxE e (PE.x (k1t i hx hz r q))
 | .lPop,e=>w5n (Q:=λ us=>wpAny cx.M A (call (.builtin "list.pop") us) _ _ _) R e λ x u r e=>z5x r e λ l r e=>q5f e λ xs hx e=>pxM e λ p hp=>PE.x (j8x i hx hp r)
 | .sJoin,e=>k1h (Q:=λ us=>wpAny cx.M A (call (.builtin "str.join") us) _ _ _) R e λ x y u w r q e=>w7b r e λ c r e=>optE e λ xs e1 e=>optE e λ ts e2 e=>q0o e λ hz e=>pxE e (PE.x (j4e i e1 e2 hz r q))
 | .lExtend,e=>k1h (Q:=λ us=>wpAny cx.M A (call (.builtin "list.extend") us) _ _ _) R e λ x y u w r q e=>z5x r e λ l r e=>q5f e λ xs hx e=>optE e λ ys hy e=>q0o e λ hz e=>pxE e (PE.x (k3j i hx hy hz r q))
 | .lIndex,e=>k1h (Q:=λ us=>wpAny cx.M A (call (.builtin "list.index") us) _ _ _) R e λ x y u w r q e=>z5x r e λ l r e=>q5f e λ xs hx e=>w7b q e λ k q e=>optE e λ ts ht e=>q0o e λ hc e=>pxE e (PE.x (k8k i hx ht hc r q))
 | .lSort,e=>w5n (Q:=λ us=>wpAny cx.M A (call (.builtin "list.sort") us) _ _ _) R e λ x u r e=>z5x r e λ l r e=>q5f e λ xs hx e=>optE e λ ps hp e=>q0o e λ hz e=>pxE e (PE.x (k9b (w4r hp hz) i hx r))
 | .sSplit,e=>k1h (Q:=λ us=>wpAny cx.M A (call (.builtin "str.split") us) _ _ _) R e λ x y u w r q e=>w7b r e λ c r e=>w7b q e λ d q e=>q0o e λ hc e=>pxE e (PE.x (k9y i hc.1 hc.2 r q))
 | .str,e=>w5n (Q:=λ us=>wpAny cx.M A (call (.type "str") us) _ _ _) R e λ x u r e=>z9y r e λ k r e=>q0o e λ hz e=>pxE e (PE.x (j9r i hz r))
 | .dict,e=>w5n (Q:=λ us=>wpAny cx.M A (call (.type "dict") us) _ _ _) R e λ x u r e=>optE e λ kvs hd e=>q0o e λ _ e=>pxE e (PE.x (j3i G.mods i hd r))
 | .sRsplit,e=>j5o (Q:=λ us=>wpAny cx.M A (call (.builtin "str.rsplit") us) _ _ _) R e λ x y z u w t r q q' e=>w7b r e λ c r e=>w7b q e λ d q e=>z9y q' e λ k q' e=>q0o e λ hc e=>pxE e (PE.x (k5t i hc.1 hc.2.1 hc.2.2 r q q'))
 | .dItems,e=>w5n (Q:=λ us=>wpAny cx.M A (call (.builtin "dict.items") us) _ _ _) R e λ x u r e=>pxM e λ kvs e1=>PE.x (k8p i e1 r)
 | .dGet,e=>v0v i R e
 | .eAdd,e=>k1h (Q:=λ us=>wpAny cx.M A (call (.builtin "set.add") us) _ _ _) R e λ x y u w r q e=>z5x r e λ l r e=>w7b q e λ k q e=>v1r e λ xs hx e=>q0o e λ hz e=>pxE e (PE.x (j6c i hx hz r q))
 | .len,e=>w5n (Q:=λ us=>wpAny cx.M A (call (.builtin "len") us) _ _ _) R e λ x u r e=>pxM e λ n e1=>PE.x (v1b i r e1)
 | .chr,e=>w5n (Q:=λ us=>wpAny cx.M A (call (.builtin "chr") us) _ _ _) R e λ x u r e=>z9y r e λ k r e=>q0o e λ hz e=>pxE e (PE.x (j6w i hz r))
 | .sum,e=>w5n (Q:=λ us=>wpAny cx.M A (call (.builtin "sum") us) _ _ _) R e λ x u r e=>optE e λ xs e1 e=>optE e λ is e2 e=>pxE e (j9s hh i e1 e2 r)
 | .range,e=>j4z i R e
 | .list,e=>w5n (Q:=λ us=>wpAny cx.M A (call (.type "list") us) _ _ _) R e λ x u r e=>optE e λ kvs hd e=>pxE e (PE.x (z2f hh i hd r))
 | .sorted,e=>w5n (Q:=λ us=>wpAny cx.M A (call (.builtin "sorted") us) _ _ _) R e λ x u r e=>k6l hh i r e
 | .set,e=>q0o e λ hz e=>by
  obtain rfl:=List.isEmpty_iff.mp hz
  rw[R.of_nil]
  exact pxE e (PE.x (j5c i))
theorem sound (W:All cx T) (n:Nat):CfOk cx n (q0e T n):=z5c W (j6s W.gl) n
end
section
variable {cx:Cx} {T:Tab} {n:Nat} {r:Ev} {C:q0a} {ks:Kinds} {ns:List Str} {env:Env} {g g':G} {vs vs':Vs} {σ σ' σ'':Store} {s s':Shared} {A:Around} {v:AV} {u uf:Value} {ex:Expr} {x:Str}
theorem k6p {x:Str} {v:AV} {u:Value} {A:Around} {E':Value->Shared->Prop} {Q:Unit->Shared->Prop} (i:Inv cx g σ { s with toks:=s.toks+1 }) (E:ER cx ks ns env g vs s) (k:ks.lookup x=some .local) (r:VR cx g v u)
  (h:∀s',Stp (ownK ks env) g s g s'->Inv cx g σ s'->ER cx ks ns env g (putV ns vs x v) s'->Q () s'):wpAny cx.M A (storeName env x u) Q E' s:=by
 have hx:x∈ns:=E.mem x (.inl k)
 have hp:(env.scope.kind==.class||(env.scope.kind==.module&&env.locals !=env.globals))=false:=by rw[E.fn];rfl
 obtain⟨m,hm,hv⟩:=E.loc
 refine wpAny_storeName_local (w0g E k) hm (λ h' hn hs=>h _ (.write (Nat.le_succ _) (jL ..) hs (q6e hn)) (i.write (jD _) E.locA.1 E.locA.2 hs) ?_) hp
 refine⟨E.fn,E.gl,E.bl,E.code,by rw[q8e];exact E.len,E.kinds,E.mem,⟨_,hn,λ y w ky e=>?_⟩,E.locA,λ y ky=>?_,E.apart⟩
 ·by_cases q:y=x
  ·cases q;rw[q2h E.len hx]at e;obtain rfl:=jI e;exact⟨u,by simp,r⟩
  ·rw[q1x hx q]at e;rcases _:hv y w ky e with⟨u',p,q'⟩;exact⟨u',by simp[q,p],q'⟩
 ·obtain⟨c,hc,c1,c2,c3,o,co,cv⟩:=E.cel y ky
  have q:y≠x:=λ z=>by subst z;rcases ky with ky|ky<;>(rw[k]at ky;contradiction)
  exact⟨c,hc,c1,c2,c3,o,co.sameBut hs c3,λ w e=>by rw[q1x hx q]at e;exact cv w e⟩
theorem k2d {P:PUnit->Shared->Prop} (f:Str×Value->PUnit->Sem (ForInStep PUnit)) (hf:∀n v u,f (n,v) u=(do storeName env n v;pure (.yield ⟨⟩))) {y:Str} {w:AV} {u:Value} (hy:ks.lookup y=some .local)
  (i:Inv cx g σ { s with toks:=s.toks+1 }) (E:ER cx ks ns env g vs s) (q:VR cx g w u) (h:∀s',Stp (ownK ks env) g s g s'->Inv cx g σ s'->ER cx ks ns env g (putV ns vs y w) s'->P ⟨⟩ s'):wpAny cx.M A (forIn [(y,u)] ⟨⟩ f) P NoE s:=by
 rw[List.forIn_cons,hf]
 exact wpAny_bind (wpAny_bind (k6p i E hy q λ s₁ a1 i1 E1=>wpAny_pure (wpAny_pure (h s₁ a1 i1 E1))))
theorem k3p {sc:Scope} (S:ScOk sc) {qual:Str} {func:Option Addr} {code:Value} (hcd:w7e g code/\((sc.names.lookup ("resolved_names" : Str)).isSome=true->code = .ref cx.lc/\qual=cx.lq)) {y:Str} {w:AV} {u:Value} {P:Env->Shared->Prop} (hy:sc.names.lookup y=some .local) (i:Inv cx g σ { s with toks:=s.toks+1 }) (q:VR cx g w u)
  (h:∀env s',(∀b∈ownK sc.names env,s.heap.get? b=none)->Stp (ownK sc.names env) g s g s'->Inv cx g σ s'->ER cx sc.names (q0f sc) env g (putV (q0f sc) ((q0f sc).map λ _=>none) y w) s'->P env s') :
  wpAny cx.M A (newFunctionEnv sc cx.gA [] [(y,u)] qual func code none cx.bA) P NoE s:=by
 have hn:=q0m s
 simp only[newFunctionEnv,Option.isSome_none,Bool.false_eq_true,if_false]
 refine wpAny_bind (wpAny_alloc ?_)
 refine wpAny_bind (wpAny_layCells _ (λ name kind cells=>by rcases hkc:kind==NameKind.cell<;>dsimp[hkc]) _ _ _ _ ?_)
 have ok:=cellsFrom_ok sc.names (s.heap.push { cls:=.type "frame",data:=.dict #[] }) (s.heap.objs.size+1) [] ⟨λ _ _ hm=>(nomatch hm),List.Pairwise.nil⟩ (by simp only[Heap.size_push];exact jD _)
 have k:∀b o,s.heap.get? b=some o->(pushCells (s.heap.push { cls:=.type "frame",data:=.dict #[] }) sc.names).get? b=some o:=λ b o e=>pushCells_keeps _ _ b o (Heap.get?_push_of_some _ e)
 have hns:(pushCells (s.heap.push { cls:=.type "frame",data:=.dict #[] }) sc.names).Ns s.heap.objs.size (λ _=>none):=(Heap.Ns.new s.heap (.type "frame")).keeps (pushCells_keeps _ _)
 have hbig:∀{b:Addr},s.heap.objs.size<=b->s.heap.get? b=none:=λ{b} hb=>by
  generalize q:s.heap.get? b=zzy
  induction zzy with
  | none=>rfl
  | some o=>exact absurd (Heap.lt_size q) (Nat.not_lt.mpr hb)
 generalize hcs:cellsFrom (s.heap.push { cls:=.type "frame",data:=.dict #[] }).objs.size sc.names []=cs at ok
 generalize hh:pushCells (s.heap.push { cls:=.type "frame",data:=.dict #[] }) sc.names=hp at ok k hns
 have a0:Stp [] g s g { s with heap:=hp }:=.keeps (t:=s.toks) (jD _) k
 have i0:Inv cx g σ { s with heap:=hp,toks:=s.toks+1 }:=i.keep (t:=s.toks+1) (jD _) k
 let env:Env:={ scope:=sc,locals:=s.heap.objs.size,globals:=cx.gA,cells:=cs,qual:=qual,func:=func,code:=code,frame:=some s.heap.objs.size,builtins:=cx.bA }
 have E0:ER cx sc.names (q0f sc) env g ((q0f sc).map λ _=>none) { s with heap:=hp }:=by
  refine⟨S.kind,rfl,rfl,hcd,by simp,λ x=>.inl rfl,λ x hx=>?_,⟨_,hns,λ x v _ e=>by rw[q7m]at e;contradiction⟩,⟨(i.fresh hn).2,(i.fresh hn).1⟩,λ x hx=>?_,λ x y c hx hy=>?_⟩
  ·skip
   rcases hx with hx|hx
   ·exact List.mem_map.mpr ⟨_,List.mem_filter.mpr ⟨mem_of_lookup hx,by rfl⟩,rfl⟩
   ·exact List.mem_map.mpr ⟨_,List.mem_filter.mpr ⟨mem_of_lookup hx,by rfl⟩,rfl⟩
  ·rcases hx with hx|hx
   ·obtain⟨c,hc⟩:=q2b sc.names (s.heap.push { cls:=.type "frame",data:=.dict #[] }).objs.size [] x (.inl (mem_of_lookup hx))
    rw[hcs]at hc
    obtain⟨o1,o2⟩:=ok.empty x c (mem_of_lookup hc)
    have hb:=hbig (b:=c) (jF o2)
    exact⟨c,hc,(i.fresh hb).2,(i.fresh hb).1,(Nat.ne_of_lt o2).symm,none,o1,λ v e=>by rw[q7m]at e;contradiction⟩
   ·exact absurd rfl (S.free _ (mem_of_lookup hx))
  ·exact name_of_addr ok.apart (mem_of_lookup hx) (mem_of_lookup hy)
 refine wpAny_bind (k2d (env:=env) _ (λ _ _ _=>rfl) hy i0 E0 q λ s₁ a1 i1 E1=>wpAny_pure (h env s₁ (λ b hb=>?_) (a0.own.trans a1) i1 E1))
 rcases List.mem_cons.mp hb with rfl|hb
 ·exact hn
 ·rcases _:List.mem_filterMap.mp hb with⟨⟨y,kk⟩,_,e⟩
  split at e
  ·exact hbig (jF (ok.empty y b (mem_of_lookup e)).2)
  ·contradiction
set_option tactic.hygienic true in theorem j9u (W:All cx T) (n:Nat) {a:Addr} {f:Fn} {y:Str} {w:AV} (e1:T.fn.lookup a=some f) (hf:f.pars=[y]) (hkw:f.kwd=[]) (hdf:f.dfl=[]) (hks:f.kws=[]) (hy:f.scope.names.lookup y=some .local)
  (e:q0e T (n+1) a [w] [] σ=some (v,σ')) (hA:w8k (n+1) A) (i:Inv cx g σ { s with toks:=s.toks+1 }) (q:VR cx g w u) :
  codeAny cx.M A (.call (.ref a) ⟨[u],[]⟩) (λ r s'=>match r with | .ok (.ret u)=>PX cx g s σ' v u s' | _=>False) s:=by
 have R:=k3i W (j6s W.gl n) (sound W n) 40
 rcases _:bind_some e with⟨f',e1',e⟩
 rw[e1]at e1'
 obtain rfl:=jI e1'
 obtain⟨bs,e2,e⟩:=bind_some e
 rcases _:bind_some e with⟨⟨fl,vs',σ1⟩,e3,e⟩
 rcases _:W.fn.fn a f e1 with⟨o,fd,ho,hd,hb,hsc,S,hg,hbl,hcl,hcode,_,_,hlam,hst,B⟩
 have room:A.depth<recursionLimit:=hA.droom
 have hbs:bs=[(y,w)]:=by
  have:k2b f [w] []=some [(y,w)]:=by
   unfold k2b
   simp only[hf,hkw,hdf,hks]
   rfl
  rw[this]at e2
  exact(jI e2).symm
 subst hbs
 refine codeAny_call_function room (i.keeps0 _ _ ho) hd (by rw[hsc];exact S.co) (by rw[hsc];exact S.gen) hb (hcode.keeps i.keeps0) (k2c (s:=s) (A:=A.in1) (kws:=[]) (uk:=[]) B (show cx.K.In s.heap from W.fn.X.keeps i.keeps0) e2 i.base (.cons q .nil) .nil λ ws qw=>?_)
 rw[hsc,hg,hbl,hcl]
 rcases _:VRs.uncons (show VRs cx g (w::[]) ws from qw)with⟨w',r',rfl,q',qn⟩
 obtain rfl:=qn.of_nil
 refine k3p S ⟨let ⟨c,o,fs,_,h1,h2,h3,_⟩:=hcode;⟨c,o,fs,h1,i.base _ _ h2,h3⟩,hlam⟩ hy i q' λ env s₁ hown a1 i1 E1=>⟨W.fn.lim.keeps i1.keeps0,codeAny_func ?_⟩
 have hA':AOk n (A.deeper env):=hA.deep env
 (refine wpAny_mono (q5n R.s hA' i1 E1 e3) (λ ff s₂ zz0=>?_) λ _ _ x=>x.elim;obtain⟨g2,a2,i2,E2,r2⟩:=zz0)
 have a12:=(a1.trans a2).fresh hown
 induction fl with
 | next=>obtain⟨rfl,rfl⟩:=Prod.mk.inj (jI e);subst r2;exact⟨g2,a12,i2,.none_⟩
 | ret w=>obtain⟨rfl,rfl⟩:=Prod.mk.inj (jI e);obtain⟨u,rfl,r3⟩:=r2;exact⟨g2,a12,i2,r3⟩
end
end Mine
end
section
set_option tactic.hygienic false
set_option maxHeartbeats 8000000
namespace Mine
noncomputable def erase (h:Heap) (a:Addr):Heap:={ h with objs:=h.objs.setIfInBounds a ⟨.none,none,.freed,#[]⟩ }
theorem w0d (h:Heap) (a:Addr):(erase h a).get? a=none:=by
 dsimp only[erase,Heap.get?]
 by_cases q:a<h.objs.size<;>simp[q]
theorem q9a (h:Heap) {a b:Addr} (hb:a≠b):(erase h a).get? b=h.get? b:=by
 dsimp only[erase,Heap.get?]
 simp only[Array.getElem?_setIfInBounds_ne hb]
theorem z1q {h:Heap} {a b:Addr} {o:Obj} (e:(erase h a).get? b=some o):h.get? b=some o:=by
 by_cases q:a=b
 ·subst q;rw[w0d]at e;cases e
 ·rw[q9a h q]at e;exact e
noncomputable def cx4 (K:Frag) (w:World) (h:Heap) (mg mb:Str->Option Value):Cx where
 prog:=PySem.Challenge.rw_dr0133_04.row.prog
 w:=w
 K:=K
 C:=150
 an:=T.an
 h₀:=erase h 123
 gA:=mainGlobals
 bA:=builtinsNs
 mg:=mg
 mb:=mb
 lc:=125
 lP:=123
 lp:=T.lam
 lq:=Str.ofString "C14NWriterTarget._start"++".<locals>."
section
variable {K:Frag} {w:World} {h:Heap} {mg mb:Str->Option Value}
theorem q7j (KX:K.In h) (k:K.lookup 123=none):K.In (erase h 123):=λ a o e=>by
 have hne:(123:Addr)≠a:=λ q=>by rw[<-q,k]at e;cases e
 rw[q9a h hne]
 exact KX a o e
theorem w9o {a:Addr} {m:Str->Option Value} (hn:h.Ns a m) (ha:(123:Addr)≠a):(erase h 123).Ns a m:=by
 rcases _:hn with⟨o,es,ep,e,r⟩
 exact⟨o,es,ep,(q9a h ha).trans e,r⟩
theorem z8r (X:K.In h) {a:Addr} {m:Str->Option Value} (hn:h.Ns a m) (ho:K.lookup a=some (oAt K a)) {x:Str} {r:Option Value} (e:lookIn x (oAt K a)=some r):m x=r:=by
 rcases _:k5b hn with⟨o,e1,e2⟩
 rw[X _ _ ho]at e1
 obtain rfl:=jI e1
 rw[e2 x]at e
 exact jI e
end
noncomputable def kn:Nat->AV
 | 0=>.none
 | 1=>.bool false
 | _=>.bm .sJoin (.str "")
noncomputable def vn:Nat->Value
 | 0=>.none
 | 1=>.bool false
 | _=>.ref 98
noncomputable def dcs (a:Addr):List Nat:=(List.lookup a [(90,[0]),(106,[2]),(126,[0])]).getD []
noncomputable def kcs (a:Addr):List Nat:=(List.lookup a [(67,[1,1,1,0,0,0,0])]).getD []
theorem j2a {cx:Cx} {g:G} (h:∀n,VR cx g (kn n) (vn n)):∀l:List Nat,VRs cx g (l.map kn) (l.map vn)
 | []=>.nil
 | n::l=>.cons (h n) (j2a h l)
theorem z2i {β:Type}:∀{l:List (Addr×β)} {a:Addr} {b:β},l.lookup a=some b->(a,b)∈l
 | (x,y)::l,a,b,h=>by
  dsimp only[List.lookup_cons]at h
  by_cases q:a==x
  ·rw[q]at h
   obtain rfl:=jI h
   rw[eq_of_beq q]
   simp
  ·simp only[Bool.not_eq_true]at q
   rw[q]at h
   exact jK _ (z2i h)
noncomputable def glA:List (Str×Addr):=[("C14NWriterTarget",150),("_law_walk",173),("_law_key",180),("_law_uri",187),("_escape_cdata_c14n",161),("_escape_attrib_c14n",168)]
noncomputable def glB:List (Str×BI):=[("sum",.sum),("len",.len),("chr",.chr),("list",.list),("range",.range),("set",.set),("sorted",.sorted),("str",.str),("dict",.dict)]
noncomputable def cAt (K:Frag) (a:Addr):Addr:=match (fdAt K a).code with | .ref c=>c|_=>0
section
variable {w:World} {h:Heap} {mg mb:Str->Option Value}
theorem gl4 (KX:(hd.heap_1 w.params).In h) (hg:h.Ns mainGlobals mg) (hb:h.Ns builtinsNs mb) (bi:∀x:Str,x≠"__name__"->mb x=bootBuiltins x):GlOk (cx4 (hd.heap_1 w.params) w h mg mb) T where
 mods:=⟨3,_,by decide,q7j KX (by kernel_rfl) 3 (oAt (hd.heap_1 w.params) 3) (by kernel_rfl)⟩
 gns:=w9o hg (by show(123:Addr)≠mainGlobals;decide)
 bns:=w9o hb (by show(123:Addr)≠builtinsNs;decide)
 names:=λ x v e=>by
  have X:=q7j KX (by kernel_rfl)
  have m:(x,v)∈T.gl:=mem_of_lookup e
  have k3:(hd.heap_1 w.params).lookup mainGlobals=some (oAt (hd.heap_1 w.params) mainGlobals):=by kernel_rfl
  have m:(x,v)∈glA.map (λ p=>(p.1,AV.fn p.2))++glB.map (λ p=>(p.1,AV.bf p.2)):=m
  rcases List.mem_append.mp m with m|m<;>obtain⟨p,hp,q⟩:=List.mem_map.mp m<;>obtain⟨rfl,rfl⟩:=Prod.mk.inj q
  ·exact⟨.ref p.2,.inl (z8r KX hg k3 (ME hp (f:=λ p=>lookIn p.1 (oAt (hd.heap_1 w.params) mainGlobals)) (g:=λ p=>some (some (.ref p.2))) (by kernel_rfl))),λ g _=>by rfl⟩
  ·exact⟨BI.val p.2,.inr ⟨z8r KX hg k3 (ME hp (f:=λ p=>lookIn p.1 (oAt (hd.heap_1 w.params) mainGlobals)) (g:=λ p=>some none) (by kernel_rfl)),
    (bi _ (of_decide_eq_false (ME hp (f:=λ p=>decide (p.1 = "__name__")) (g:=λ p=>false) (by kernel_rfl)))).trans (ME hp (f:=λ p=>bootBuiltins p.1) (g:=λ p=>some (BI.val p.2)) (by kernel_rfl))⟩,λ g _=>by rfl⟩
theorem cls4 (KX:(hd.heap_1 w.params).In h):q6i (cx4 (hd.heap_1 w.params) w h mg mb) T where
 X:=q7j KX (by kernel_rfl)
 C:=rfl
 an:=rfl
 ga:=by kernel_rfl
 gh:=by kernel_rfl
 sa:=by kernel_rfl
 over:=by kernel_rfl
 dict:=by kernel_rfl
 attr:=λ x hx=>by
  refine⟨ME hx (f:=λ x=>takerIn (hd.heap_1 w.params) 150 x) (g:=λ _=>some none) (by kernel_rfl),?_⟩
  have m:x∈T.an.take 17++[("_iter_namespaces" : Str)]:=hx
  rcases List.mem_append.mp m with m|m
  ·exact .inl (ME m (f:=λ x=>findIn (hd.heap_1 w.params) (.ref 150) x) (g:=λ _=>some none) (by kernel_rfl))
  ·obtain rfl:=jJ m
   exact .inr ⟨75,_,by kernel_rfl,by kernel_rfl,(by kernel_rfl:specialIn (hd.heap_1 w.params) (.ref 75) "__get__" = some (some (.builtin "function.__get__"))),by kernel_rfl⟩
 ms:=λ x f _ e=>by
  have m:(x,f)∈T.ms:=mem_of_lookup e
  exact⟨ME m (f:=λ p=>findIn (hd.heap_1 w.params) (.ref 150) p.1) (g:=λ p=>some (some (.ref p.2))) (by kernel_rfl),ME m (f:=λ p=>typeIn (hd.heap_1 w.params) (.ref p.2)) (g:=λ p=>some (.type "function")) (by kernel_rfl),
   ME m (f:=λ p=>fnIn (hd.heap_1 w.params) p.2) (g:=λ p=>true) (by kernel_rfl),ME m (f:=λ p=>specialIn (hd.heap_1 w.params) (.ref p.2) "__get__") (g:=λ p=>some (some (.builtin "function.__get__"))) (by kernel_rfl),
   ME m (f:=λ p=>takesIn (hd.heap_1 w.params) (.ref p.2)) (g:=λ p=>some false) (by kernel_rfl),ME m (f:=λ p=>copiedNames.contains p.1) (g:=λ p=>false) (by kernel_rfl)⟩
theorem v1f:w0l (cx4 (hd.heap_1 w.params) w h mg mb) T where
 makes:=by kernel_rfl
 ini:=by kernel_rfl
 iniFn:=by kernel_rfl
 keep:=by kernel_rfl
theorem lam4 (KX:(hd.heap_1 w.params).In h) (hg:h.Ns mainGlobals mg) (bm:∃bm ob,mg "__builtins__" = some (.ref bm)/\bm≠builtinsNs/\h.get? bm=some ob/\ob.cls = .type "module"/\ob.dict=some builtinsNs/\ob.data = .plain):z4w (cx4 (hd.heap_1 w.params) w h mg mb) T where
 gA:=rfl
 bA:=rfl
 code:=codeHd_of_K (q7j KX (by kernel_rfl)) (by kernel_rfl)
 lp:=rfl
 bm:=by
  rcases _:bm with⟨b,ob,e1,e2,e3,e4,e5,e6⟩
  have k3:(hd.heap_1 w.params).lookup mainGlobals=some (oAt (hd.heap_1 w.params) mainGlobals):=by kernel_rfl
  have e0:mg "__builtins__" = some (.ref 4):=z8r KX hg k3 (by kernel_rfl)
  rw[e0]at e1
  rcases e1
  exact⟨4,ob,e0,e2,by decide,(q9a h (by decide)).trans e3,e4,e5,e6⟩
 out:=w0d h 123
theorem fn4 (KX:(hd.heap_1 w.params).In h) (lim:h.NoLimit):FnOk (cx4 (hd.heap_1 w.params) w h mg mb) T where
 X:=q7j KX (by kernel_rfl)
 lim:=let ⟨mc,a,b⟩:=lim;⟨mc,w9o a (by decide),b⟩
 fn:=λ a f e=>by
  have X:=q7j KX (by kernel_rfl)
  have m:(a,f)∈T.fn:=z2i e
  have free:=ME m (f:=λ p=>p.2.scope.names.all (λ p=>match p.2 with | .free=>false|_=>true)) (g:=λ p=>true) (by kernel_rfl)
  have st:=ME m (f:=λ p=>(p.2.pars++p.2.kwd.map (·.1)).all (q1v p.2.scope.names)) (g:=λ p=>true) (by kernel_rfl)
  refine FnIs.mk (oAt (hd.heap_1 w.params) a) (fdAt (hd.heap_1 w.params) a) (X _ _ (ME m (f:=λ p=>(hd.heap_1 w.params).lookup p.1) (g:=λ p=>some (oAt (hd.heap_1 w.params) p.1)) (by kernel_rfl))) (ME m (f:=λ p=>(oAt (hd.heap_1 w.params) p.1).data) (g:=λ p=>.func (fdAt (hd.heap_1 w.params) p.1)) (by kernel_rfl))
   (ME m (f:=λ p=>(fdAt (hd.heap_1 w.params) p.1).body) (g:=λ p=>.stmts p.2.body) (by kernel_rfl)) (ME m (f:=λ p=>(fdAt (hd.heap_1 w.params) p.1).scope) (g:=λ p=>p.2.scope) (by kernel_rfl))
   ⟨ME m (f:=λ p=>p.2.scope.kind) (g:=λ p=>.function) (by kernel_rfl),λ p hp q=>?_,ME m (f:=λ p=>p.2.scope.isCoroutine) (g:=λ p=>false) (by kernel_rfl),ME m (f:=λ p=>p.2.scope.isGenerator) (g:=λ p=>false) (by kernel_rfl)⟩
   (ME m (f:=λ p=>(fdAt (hd.heap_1 w.params) p.1).globals) (g:=λ p=>mainGlobals) (by kernel_rfl)) (ME m (f:=λ p=>(fdAt (hd.heap_1 w.params) p.1).builtins) (g:=λ p=>builtinsNs) (by kernel_rfl)) (ME m (f:=λ p=>(fdAt (hd.heap_1 w.params) p.1).closure) (g:=λ p=>[]) (by kernel_rfl))
   ⟨cAt (hd.heap_1 w.params) a,_,_,_,ME m (f:=λ p=>(fdAt (hd.heap_1 w.params) p.1).code) (g:=λ p=>.ref (cAt (hd.heap_1 w.params) p.1)) (by kernel_rfl),X _ _ (ME m (f:=λ p=>(hd.heap_1 w.params).lookup (cAt (hd.heap_1 w.params) p.1)) (g:=λ p=>some (oAt (hd.heap_1 w.params) (cAt (hd.heap_1 w.params) p.1))) (by kernel_rfl)),ME m (f:=λ p=>(oAt (hd.heap_1 w.params) (cAt (hd.heap_1 w.params) p.1)).data) (g:=λ p=>.fields (csAt (hd.heap_1 w.params) (cAt (hd.heap_1 w.params) p.1))) (by kernel_rfl),
    ME m (f:=λ p=>(csAt (hd.heap_1 w.params) (cAt (hd.heap_1 w.params) p.1))[1]?) (g:=λ p=>some (.str (fdAt (hd.heap_1 w.params) p.1).qualname (tkAt (hd.heap_1 w.params) (cAt (hd.heap_1 w.params) p.1)))) (by kernel_rfl)⟩
   (ME m (f:=λ p=>keepIn (hd.heap_1 w.params) (.ref p.1)) (g:=λ p=>true) (by kernel_rfl)) (ME m (f:=λ p=>fnIn (hd.heap_1 w.params) p.1) (g:=λ p=>true) (by kernel_rfl)) (λ q=>?_) (λ p hp=>List.all_eq_true.mp st p hp)
   ⟨(dcs a).map vn,(kcs a).map vn,λ g hI=>?_,λ us uk h1 h2 s Xs=>kp_binds Xs λ S=>?_⟩
  ·have:=List.all_eq_true.mp free p hp
   rw[q]at this
   exact Bool.noConfusion this
  ·have e:=ME m (f:=λ p=>if(p.2.scope.names.lookup ("resolved_names" : Str)).isSome then((fdAt (hd.heap_1 w.params) p.1).code,(fdAt (hd.heap_1 w.params) p.1).qualname++".<locals>.")else(.ref 125,Str.ofString "C14NWriterTarget._start"++".<locals>.")) (g:=λ p=>(.ref 125,Str.ofString "C14NWriterTarget._start"++".<locals>.")) (by kernel_rfl)
   dsimp only at e
   rw[if_pos q]at e
   exact Prod.mk.inj e
  ·have e1:=ME m (f:=λ p=>p.2.dfl) (g:=λ p=>(dcs p.1).map kn) (by kernel_rfl)
   have e2:=ME m (f:=λ p=>p.2.kwd.map (·.2)) (g:=λ p=>(kcs p.1).map kn) (by kernel_rfl)
   dsimp only at e1 e2
   rw[e1,e2]
   have b:∀n,VR (cx4 (hd.heap_1 w.params) w h mg mb) g (kn n) (vn n)
    | 0=>.none_
    | 1=>.bool_
    | _+2=>⟨98,.str "" 437,rfl,hI 98 _ (X 98 _ (by kernel_rfl)),⟨_,rfl,Nat.zero_le _⟩⟩
   exact⟨j2a b _,j2a b _⟩
  ·obtain⟨φ,rfl⟩:=j9t us (Nat.eq_sub_of_add_eq h1)
   obtain⟨ψ,rfl⟩:=j9t uk h2
   exact ME m (f:=λ p=>peek (hd.heap_1 w.params) S (bindArgs (fdAt (hd.heap_1 w.params) p.1) ⟨(List.range (p.2.pars.length - p.2.dfl.length)).map φ,p.2.kws.zip ((List.range p.2.kws.length).map ψ)⟩)) (g:=λ p=>some (p.2.pars.zip ((List.range (p.2.pars.length - p.2.dfl.length)).map φ++(dcs p.1).map vn)++pick (p.2.kwd.map (·.1)) ((kcs p.1).map vn) (p.2.kws.zip ((List.range p.2.kws.length).map ψ)))) (by kernel_rfl)
theorem all4 (KX:(hd.heap_1 w.params).In h) (hg:h.Ns mainGlobals mg) (hb:h.Ns builtinsNs mb) (lim:h.NoLimit) (bi:∀x:Str,x≠"__name__"->mb x=bootBuiltins x)
  (bm:∃bm ob,mg "__builtins__" = some (.ref bm)/\bm≠builtinsNs/\h.get? bm=some ob/\ob.cls = .type "module"/\ob.dict=some builtinsNs/\ob.data = .plain):All (cx4 (hd.heap_1 w.params) w h mg mb) T:=
 ⟨gl4 KX hg hb bi,cls4 KX,v1f,fn4 KX lim,lam4 KX hg bm,by show T.an.length<=100;decide⟩
end
end Mine
end
section
set_option tactic.hygienic false
set_option backward.match.sparseCases false
set_option maxHeartbeats 4000000
namespace Mine
set_option tactic.hygienic true in noncomputable def z6k (C:q0a) (vs:Vs) (σ:Store):ResS:=
 (sq (bnd (nm vs 1 σ) λ a b=>bnd (bnd (bnd (nm vs 0 b) λ c d=>((q0q T d c "_write" a).bind λ z=>some (vs,z))) λ e f=>(some (e,f))) λ g h=>some (q0b.next,g,h)) λ i j=>(sq (bnd (bnd (some ([],j)) λ k l=>if k.length<=sizeLine then q0j true k l else none) λ m n=>bnd (bnd (bnd (nm i 0 n) λ o p=>((q0q T p o "_data" m).bind λ z=>some (i,z))) λ q r=>(some (q,r))) λ s t=>some (q0b.next,s,t)) λ u v=>(sq (bnd (nm u 2 v) λ w x=>bnd (bnd (bnd (nm u 0 x) λ y A=>((q0q T A y "_with_comments" w).bind λ z=>some (u,z))) λ B D=>(some (B,D))) λ E F=>some (q0b.next,E,F)) λ G H=>(sq (bnd (nm G 3 H) λ I J=>bnd (bnd (bnd (nm G 0 J) λ K L=>((q0q T L K "_strip_text" I).bind λ z=>some (G,z))) λ M N=>(some (M,N))) λ O P=>some (q0b.next,O,P)) λ Q R=>(sq (bnd (bnd (bnd (nm Q 7 R) λ S U=>(trT U S)) λ V W=>if V=true then(bnd (some ((.bf .set),W)) λ X Y=>bnd (evC (nm Q 7 Y) λ Z=>(some ([],Z))) λ aa ab=>bnd (some ([],ab)) λ ac ad=>q0i T C X aa ac ad)else(some (.none,W))) λ ae af=>bnd (bnd (bnd (nm Q 0 af) λ ag ah=>((q0q T ah ag "_exclude_attrs" ae).bind λ z=>some (Q,z))) λ ai aj=>(some (ai,aj))) λ ak al=>some (q0b.next,ak,al)) λ am an=>(sq (bnd (bnd (bnd (nm am 8 an) λ ao ap=>(trT ap ao)) λ aq ar=>if aq=true then(bnd (some ((.bf .set),ar)) λ au av=>bnd (evC (nm am 8 av) λ aw=>(some ([],aw))) λ ax ay=>bnd (some ([],ay)) λ az aA=>q0i T C au ax az aA)else(some (.none,ar))) λ aB aC=>bnd (bnd (bnd (nm am 0 aC) λ aD aE=>((q0q T aE aD "_exclude_tags" aB).bind λ z=>some (am,z))) λ aF aG=>(some (aF,aG))) λ aH aI=>some (q0b.next,aH,aI)) λ aJ aK=>(sq (bnd (nm aJ 4 aK) λ aL aM=>bnd (bnd (bnd (nm aJ 0 aM) λ aN aO=>((q0q T aO aN "_rewrite_prefixes" aL).bind λ z=>some (aJ,z))) λ aP aQ=>(some (aP,aQ))) λ aR aS=>some (q0b.next,aR,aS)) λ aU aV=>(sq (bnd (bnd (nm aU 5 aV) λ aW aX=>(trT aX aW)) λ aY aZ=>if aY=true then(sq (bnd (bnd (some ((.bf .set),aZ)) λ ba bb=>bnd (evC (nm aU 5 bb) λ bc=>(some ([],bc))) λ bd be=>bnd (some ([],be)) λ bg bh=>q0i T C ba bd bg bh) λ bi bj=>bnd (bnd (bnd (nm aU 0 bj) λ bk bl=>((q0q T bl bk "_qname_aware_tags" bi).bind λ z=>some (aU,z))) λ bm bn=>(some (bm,bn))) λ bo bp=>some (q0b.next,bo,bp)) λ bq br=>(some (q0b.next,bq,br)))else(sq (bnd (some (.none,aZ)) λ bs bt=>bnd (bnd (bnd (nm aU 0 bt) λ bu bv=>((q0q T bv bu "_qname_aware_tags" bs).bind λ z=>some (aU,z))) λ bw bx=>(some (bw,bx))) λ bz bA=>some (q0b.next,bz,bA)) λ bB bC=>(some (q0b.next,bB,bC)))) λ bD bE=>(sq (bnd (bnd (nm bD 6 bE) λ bF bG=>(trT bG bF)) λ bH bI=>if bH=true then(sq (bnd (bnd (bnd (some ((.bf .set),bI)) λ bJ bK=>bnd (evC (nm bD 6 bK) λ bL=>(some ([],bL))) λ bM bN=>bnd (some ([],bN)) λ bO bP=>q0i T C bJ bM bO bP) λ bQ bR=>(q1b bR bQ "intersection")) λ bS bU=>bnd (bnd (bnd (nm bD 0 bU) λ bV bW=>((q0q T bW bV "_find_qname_aware_attrs" bS).bind λ z=>some (bD,z))) λ bX bY=>(some (bX,bY))) λ bZ ca=>some (q0b.next,bZ,ca)) λ cb cc=>(some (q0b.next,cb,cc)))else(sq (bnd (some (.none,bI)) λ cd ce=>bnd (bnd (bnd (nm bD 0 ce) λ cf cg=>((q0q T cg cf "_find_qname_aware_attrs" cd).bind λ z=>some (bD,z))) λ ch ci=>(some (ch,ci))) λ cj ck=>some (q0b.next,cj,ck)) λ cl cm=>(some (q0b.next,cl,cm)))) λ cn co=>(sq (bnd (bnd (evC (bnd (evC (bnd (evC (some ((.str "http://www.w3.org/XML/1998/namespace"),co)) λ cq=>(evC (some ((.str "xml"),cq)) λ cr=>(some ([],cr)))) λ cs ct=>if cs.length<=sizeLine then some (.tup cs,ct)else none) λ cu=>(some ([],cu))) λ cv cw=>if cv.length<=sizeLine then q0j true cv cw else none) λ cx=>(some ([],cx))) λ cy cz=>if cy.length<=sizeLine then q0j true cy cz else none) λ cA cB=>bnd (bnd (bnd (nm cn 0 cB) λ cC cD=>((q0q T cD cC "_declared_ns_stack" cA).bind λ z=>some (cn,z))) λ cE cF=>(some (cE,cF))) λ cG cH=>some (q0b.next,cG,cH)) λ cI cJ=>(sq (bnd (bnd (some ([],cJ)) λ cK cL=>if cK.length<=sizeLine then q0j true cK cL else none) λ cM cN=>bnd (bnd (bnd (nm cI 0 cN) λ cO cP=>((q0q T cP cO "_ns_stack" cM).bind λ z=>some (cI,z))) λ cQ cR=>(some (cQ,cR))) λ cS cU=>some (q0b.next,cS,cU)) λ cV cW=>(sq (bnd (notT (bnd (nm cV 4 cW) λ cX cY=>(trT cY cX))) λ cZ da=>if cZ=true then(sq (bnd (bnd (bnd (nm cV 0 da) λ db dc=>(q1b dc db "_ns_stack")) λ dd de=>(q0l T de dd "append").bind λ df=>bnd (evC (bnd (some ((.bf .list),de)) λ dg dh=>bnd (evC (bnd none λ di dj=>(q0l T dj di "items").bind λ dk=>bnd (some ([],dj)) λ dl dm=>bnd (some ([],dm)) λ dn dp=>q0g T C dk dl dn dp) λ dq=>(some ([],dq))) λ dr ds=>bnd (some ([],ds)) λ dt du=>q0i T C dg dr dt du) λ dv=>(some ([],dv))) λ dw dx=>bnd (some ([],dx)) λ dy dz=>q0g T C df dw dy dz) λ dA dB=>some (q0b.next,cV,dB)) λ dC dD=>(some (q0b.next,dC,dD)))else(some (q0b.next,cV,da))) λ dE dF=>(sq (bnd (bnd (bnd (nm dE 0 dF) λ dG dH=>(q1b dH dG "_ns_stack")) λ dI dJ=>(q0l T dJ dI "append").bind λ dK=>bnd (evC (bnd (some ([],dJ)) λ dL dM=>if dL.length<=sizeLine then q0j true dL dM else none) λ dN=>(some ([],dN))) λ dO dP=>bnd (some ([],dP)) λ dQ dR=>q0g T C dK dO dQ dR) λ dS dU=>some (q0b.next,dE,dU)) λ dV dW=>(sq (bnd (bnd (some ([],dW)) λ dX dY=>q1z true (q2n dX) dY) λ dZ ea=>bnd (bnd (bnd (nm dV 0 ea) λ eb ec=>((q0q T ec eb "_prefix_map" dZ).bind λ z=>some (dV,z))) λ ed ee=>(some (ed,ee))) λ ef eg=>some (q0b.next,ef,eg)) λ eh ei=>(sq (bnd (bnd (evC (some ((.bool false),ei)) λ ej=>(some ([],ej))) λ ek el=>if ek.length<=sizeLine then q0j true ek el else none) λ em en=>bnd (bnd (bnd (nm eh 0 en) λ eo ep=>((q0q T ep eo "_preserve_space" em).bind λ z=>some (eh,z))) λ eq er=>(some (eq,er))) λ es et=>some (q0b.next,es,et)) λ eu ev=>(sq (bnd (some (.none,ev)) λ ew ex=>bnd (bnd (bnd (nm eu 0 ex) λ ey ez=>((q0q T ez ey "_pending_start" ew).bind λ z=>some (eu,z))) λ eA eB=>(some (eA,eB))) λ eC eD=>some (q0b.next,eC,eD)) λ eE eF=>(sq (bnd (some ((.bool false),eF)) λ eG eH=>bnd (bnd (bnd (nm eE 0 eH) λ eI eJ=>((q0q T eJ eI "_root_seen" eG).bind λ z=>some (eE,z))) λ eK eL=>(some (eK,eL))) λ eM eN=>some (q0b.next,eM,eN)) λ eO eP=>(sq (bnd (some ((.bool false),eP)) λ eQ eR=>bnd (bnd (bnd (nm eO 0 eR) λ eS eU=>((q0q T eU eS "_root_done" eQ).bind λ z=>some (eO,z))) λ eV eW=>(some (eV,eW))) λ eX eY=>some (q0b.next,eX,eY)) λ eZ fa=>(sq (bnd (some ((.int 0),fa)) λ fb fc=>bnd (bnd (bnd (nm eZ 0 fc) λ fd fe=>((q0q T fe fd "_ignored_depth" fb).bind λ z=>some (eZ,z))) λ ff fg=>(some (ff,fg))) λ fh fi=>some (q0b.next,fh,fi)) λ fj fk=>(some (q0b.next,fj,fk)))))))))))))))))))))
theorem k6y (C:q0a) (vs:Vs) (σ:Store):q0w (evN T C 40) (fnOf 67).scope.names (q0f (fnOf 67).scope) (fnOf 67).body vs σ=z6k C vs σ:=by kernel_rfl
noncomputable def w5x (C:q0a) (vs:Vs) (σ:Store):ResS:=
 (bnd (bnd (bnd (bnd (nm vs 1 σ) λ a b=>(bnd (some (.none,b)) λ c d=>(bnd (some ((.int 1),d)) λ e f=>(bnd (some (.none,f)) λ g h=>(q2l h a c e g))))) λ i j=>(bnd (some ((.str "{"),j)) λ k l=>(cmpT l .Eq i k))) λ m n=>if m=true then(bnd (bnd (nm vs 1 n) λ o p=>(bnd (some ((.int 1),p)) λ q r=>(bnd (some (.none,r)) λ s t=>(bnd (some (.none,t)) λ u v=>(q2l v o q s u))))) λ w x=>(q0l T x w "rsplit").bind λ y=>bnd (evC (some ((.str "}"),x)) λ z=>(evC (some ((.int 1),z)) λ A=>(some ([],A)))) λ B D=>bnd (some ([],D)) λ E F=>q0g T C y B E F)else(bnd (evC (some ((.str ""),n)) λ G=>(evC (nm vs 1 G) λ H=>(some ([],H)))) λ I J=>if I.length<=sizeLine then some (.tup I,J)else none)) λ K L=>bnd (bnd ((q1n L K).bind λ M=>(asC M λ N O=>bnd (some (setI vs 2 N,L)) λ P Q=>(asC O λ R S=>bnd (some (setI P 3 R,Q)) λ U V=>(asE S U V)))) λ W X=>(some (W,X))) λ Y Z=>some (q0b.next,Y,Z))
noncomputable def z3e (C:q0a) (a:Vs) (b:Store):ResS:=
 (sq (w5x C a b) λ c d=>(some (q0b.next,c,d)))
noncomputable def w5y (C:q0a) (vs:Vs) (σ:Store):ResS:=
 (bnd (nm vs 1 σ) λ a b=>bnd (bnd (some (setI vs 3 a,b)) λ c d=>(some (c,d))) λ e f=>some (q0b.next,e,f))
noncomputable def z3f (C:q0a) (a:Vs) (b:Store):ResS:=
 (sq (w5y C a b) λ c d=>(some (q0b.next,c,d)))
noncomputable def q3k (C:q0a) (vs:Vs) (σ:Store):ResS:=
 (bnd (bnd (nm vs 2 σ) λ a b=>(bnd (some (.none,b)) λ c d=>(cmpT d .Is a c))) λ e f=>if e=true then(z3e C vs f)else(z3f C vs f))
noncomputable def q9k (C:q0a) (vs:Vs) (σ:Store):ResS:=
 (bnd (bnd (some ((.bf .set),σ)) λ a b=>bnd (some ([],b)) λ c d=>bnd (some ([],d)) λ e f=>q0i T C a c e f) λ g h=>bnd (bnd (some (setI vs 4 g,h)) λ i j=>(some (i,j))) λ k l=>some (q0b.next,k,l))
noncomputable def w5z (C:q0a) (vs:Vs) (σ:Store):ResS:=
 (bnd (bnd (evC (bnd (bnd (nm vs 6 σ) λ a b=>(trT b a)) λ c d=>if c=true then(bnd (bnd (nm vs 6 d) λ e f=>q5o Str.empty e λ g=>((catA g ":").bind λ h=>(bnd (nm vs 3 f) λ i j=>q5o h i λ k=>(q1l k j)))) λ l m=>some (.str l,m))else(nm vs 3 d)) λ n=>(evC (nm vs 3 n) λ o=>(evC (nm vs 2 o) λ p=>(some ([],p))))) λ q r=>if q.length<=sizeLine then some (.tup q,r)else none) λ s t=>some (q0b.ret s,vs,t))
noncomputable def q6v (C:q0a) (a:Vs) (b:Store):ResS:=
 (sq (w5z C a b) λ c d=>(some (q0b.next,c,d)))
noncomputable def z6r (C:q0a) (vs:Vs) (σ:Store):ResS:=
 (bnd (andT (bnd (nm vs 5 σ) λ a b=>(bnd (nm vs 2 b) λ c d=>(cmpT d .Eq a c))) λ e=>(andT (bnd (nm vs 6 e) λ f g=>(bnd (nm vs 4 g) λ h i=>(cmpT i .NotIn f h))) λ j=>(some (true,j)))) λ k l=>if k=true then(q6v C vs l)else(some (q0b.next,vs,l)))
noncomputable def q8j (C:q0a) (vs:Vs) (σ:Store):ResS:=
 (bnd (bnd (nm vs 4 σ) λ a b=>(q0l T b a "add").bind λ c=>bnd (evC (nm vs 6 b) λ d=>(some ([],d))) λ e f=>bnd (some ([],f)) λ g h=>q0g T C c e g h) λ i j=>some (q0b.next,vs,j))
noncomputable def q3d (C:q0a) (a:AV) (b:Vs) (c:Store):ResS:=
 bnd ((q1n c a).bind λ d=>(asC d λ e f=>bnd (some (setI b 5 e,c)) λ g h=>(asC f λ i j=>bnd (some (setI g 6 i,h)) λ k l=>(asE j k l)))) λ m n=>(sq (z6r C m n) λ o p=>(sq (q8j C o p) λ q r=>(some (q0b.next,q,r))))
noncomputable def q9l (C:q0a) (vs:Vs) (σ:Store):ResS:=
 (bnd (bnd (nm vs 0 σ) λ a b=>(q0l T b a "_iter_namespaces").bind λ c=>bnd (evC (bnd (nm vs 0 b) λ d e=>(q1b e d "_declared_ns_stack")) λ f=>(some ([],f))) λ g h=>bnd (some ([],h)) λ i j=>q0g T C c g i j) λ k l=>if frozen k=true then(q2g l k).bind λ m=>forA (q3d C) m vs l else none)
noncomputable def w6b (C:q0a) (vs:Vs) (σ:Store):ResS:=
 (bnd (bnd (bnd (nm vs 0 σ) λ a b=>(q1b b a "_prefix_map")) λ c d=>(bnd (nm vs 2 d) λ e f=>(getR f c e))) λ g h=>bnd (bnd (some (setI vs 6 g,h)) λ i j=>(some (i,j))) λ k l=>some (q0b.next,k,l))
noncomputable def q4e (C:q0a) (a:Vs) (b:Store):ResS:=
 (sq (w6b C a b) λ c d=>(some (q0b.next,c,d)))
noncomputable def w6c (C:q0a) (vs:Vs) (σ:Store):ResS:=
 (bnd (bnd ((catA Str.empty "n").bind λ a=>(bnd (bnd (some ((.bf .len),σ)) λ b c=>bnd (evC (bnd (nm vs 0 c) λ d e=>(q1b e d "_prefix_map")) λ f=>(some ([],f))) λ g h=>bnd (some ([],h)) λ i j=>q0i T C b g i j) λ k l=>q5o a k λ m=>(q1l m l))) λ o p=>some (.str o,p)) λ q r=>bnd (bnd (some (setI vs 6 q,r)) λ s t=>(bnd (bnd (bnd (nm s 0 t) λ u v=>(q1b v u "_prefix_map")) λ w x=>(bnd (nm s 2 x) λ y z=>(putS w y q s z))) λ A B=>(some (A,B)))) λ D E=>some (q0b.next,D,E))
noncomputable def q4f (C:q0a) (a:Vs) (b:Store):ResS:=
 (sq (w6c C a b) λ c d=>(some (q0b.next,c,d)))
noncomputable def w6a (C:q0a) (vs:Vs) (σ:Store):ResS:=
 (bnd (bnd (nm vs 2 σ) λ a b=>(bnd (bnd (nm vs 0 b) λ c d=>(q1b d c "_prefix_map")) λ e f=>(cmpT f .In a e))) λ g h=>if g=true then(q4e C vs h)else(q4f C vs h))
noncomputable def q2v (C:q0a) (vs:Vs) (σ:Store):ResS:=
 (bnd (bnd (bnd (bnd (nm vs 0 σ) λ a b=>(q1b b a "_declared_ns_stack")) λ c d=>(bnd (negE (some ((.int 1),d))) λ e f=>(getR f c e))) λ g h=>(q0l T h g "append").bind λ i=>bnd (evC (bnd (evC (nm vs 2 h) λ j=>(evC (nm vs 6 j) λ k=>(some ([],k)))) λ l m=>if l.length<=sizeLine then some (.tup l,m)else none) λ n=>(some ([],n))) λ o p=>bnd (some ([],p)) λ q r=>q0g T C i o q r) λ s t=>some (q0b.next,vs,t))
noncomputable def q2w (C:q0a) (vs:Vs) (σ:Store):ResS:=
 (bnd (bnd (evC (bnd (bnd (nm vs 6 σ) λ a b=>q5o Str.empty a λ c=>((catA c ":").bind λ d=>(bnd (nm vs 3 b) λ e f=>q5o d e λ g=>(q1l g f)))) λ h i=>some (.str h,i)) λ j=>(evC (nm vs 3 j) λ k=>(evC (nm vs 2 k) λ l=>(some ([],l))))) λ m n=>if m.length<=sizeLine then some (.tup m,n)else none) λ o p=>some (q0b.ret o,vs,p))
noncomputable def z3g (C:q0a) (a:Vs) (b:Store):ResS:=
 (sq (w6a C a b) λ c d=>(sq (q2v C c d) λ e f=>(sq (q2w C e f) λ g h=>(some (q0b.next,g,h)))))
noncomputable def w9y (C:q0a) (vs:Vs) (σ:Store):ResS:=
 (bnd (bnd (bnd (nm vs 0 σ) λ a b=>(q1b b a "_rewrite_prefixes")) λ c d=>(trT d c)) λ e f=>if e=true then(z3g C vs f)else(some (q0b.next,vs,f)))
noncomputable def w6d (C:q0a) (vs:Vs) (σ:Store):ResS:=
 (bnd (bnd (evC (nm vs 3 σ) λ a=>(evC (nm vs 3 a) λ b=>(evC (nm vs 2 b) λ c=>(some ([],c))))) λ d e=>if d.length<=sizeLine then some (.tup d,e)else none) λ f g=>some (q0b.ret f,vs,g))
noncomputable def z3h (C:q0a) (a:Vs) (b:Store):ResS:=
 (sq (w6d C a b) λ c d=>(some (q0b.next,c,d)))
noncomputable def w9z (C:q0a) (vs:Vs) (σ:Store):ResS:=
 (bnd (andT (notT (bnd (nm vs 2 σ) λ a b=>(trT b a))) λ c=>(andT (bnd (some ((.str ""),c)) λ d e=>(bnd (nm vs 4 e) λ f g=>(cmpT g .NotIn d f))) λ h=>(some (true,h)))) λ i j=>if i=true then(z3h C vs j)else(some (q0b.next,vs,j)))
noncomputable def w6e (C:q0a) (vs:Vs) (σ:Store):ResS:=
 (bnd (bnd (bnd (bnd (nm vs 0 σ) λ a b=>(q1b b a "_declared_ns_stack")) λ c d=>(bnd (negE (some ((.int 1),d))) λ e f=>(getR f c e))) λ g h=>(q0l T h g "append").bind λ i=>bnd (evC (bnd (evC (nm vs 2 h) λ j=>(evC (nm vs 6 j) λ k=>(some ([],k)))) λ l m=>if l.length<=sizeLine then some (.tup l,m)else none) λ n=>(some ([],n))) λ o p=>bnd (some ([],p)) λ q r=>q0g T C i o q r) λ s t=>some (q0b.next,vs,t))
noncomputable def w6f (C:q0a) (vs:Vs) (σ:Store):ResS:=
 (bnd (bnd (evC (bnd (bnd (nm vs 6 σ) λ a b=>(trT b a)) λ c d=>if c=true then(bnd (bnd (nm vs 6 d) λ e f=>q5o Str.empty e λ g=>((catA g ":").bind λ h=>(bnd (nm vs 3 f) λ i j=>q5o h i λ k=>(q1l k j)))) λ l m=>some (.str l,m))else(nm vs 3 d)) λ n=>(evC (nm vs 3 n) λ o=>(evC (nm vs 2 o) λ p=>(some ([],p))))) λ q r=>if q.length<=sizeLine then some (.tup q,r)else none) λ s t=>some (q0b.ret s,vs,t))
noncomputable def z3i (C:q0a) (a:Vs) (b:Store):ResS:=
 (sq (w6e C a b) λ c d=>(sq (w6f C c d) λ e f=>(some (q0b.next,e,f))))
noncomputable def z6s (C:q0a) (vs:Vs) (σ:Store):ResS:=
 (bnd (bnd (nm vs 5 σ) λ a b=>(bnd (nm vs 2 b) λ c d=>(cmpT d .Eq a c))) λ e f=>if e=true then(z3i C vs f)else(some (q0b.next,vs,f)))
noncomputable def k6c (C:q0a) (a:AV) (b:Vs) (c:Store):ResS:=
 bnd ((q1n c a).bind λ d=>(asC d λ e f=>bnd (some (setI b 5 e,c)) λ g h=>(asC f λ i j=>bnd (some (setI g 6 i,h)) λ k l=>(asE j k l)))) λ m n=>(sq (z6s C m n) λ o p=>(some (q0b.next,o,p)))
noncomputable def z0a (C:q0a) (vs:Vs) (σ:Store):ResS:=
 (bnd (bnd (nm vs 0 σ) λ a b=>(q0l T b a "_iter_namespaces").bind λ c=>bnd (evC (bnd (nm vs 0 b) λ d e=>(q1b e d "_ns_stack")) λ f=>(some ([],f))) λ g h=>bnd (some ([],h)) λ i j=>q0g T C c g i j) λ k l=>if frozen k=true then(q2g l k).bind λ m=>forA (k6c C) m vs l else none)
noncomputable def w6g (C:q0a) (vs:Vs) (σ:Store):ResS:=
 (bnd (bnd (evC (nm vs 3 σ) λ a=>(evC (nm vs 3 a) λ b=>(evC (nm vs 2 b) λ c=>(some ([],c))))) λ d e=>if d.length<=sizeLine then some (.tup d,e)else none) λ f g=>some (q0b.ret f,vs,g))
noncomputable def z3j (C:q0a) (a:Vs) (b:Store):ResS:=
 (sq (w6g C a b) λ c d=>(some (q0b.next,c,d)))
noncomputable def z0b (C:q0a) (vs:Vs) (σ:Store):ResS:=
 (bnd (notT (bnd (nm vs 2 σ) λ a b=>(trT b a))) λ c d=>if c=true then(z3j C vs d)else(some (q0b.next,vs,d)))
noncomputable def z0c (C:q0a) (vs:Vs) (σ:Store):ResS:=
 none
noncomputable def z3p (C:q0a) (vs:Vs) (σ:Store):ResS:=
 (sq (z0c C vs σ) λ v s=>(some (q0b.next,v,s)))
noncomputable def z3o (C:q0a) (vs:Vs) (σ:Store):ResS:=
 (sq (z0b C vs σ) λ v s=>(z3p C v s))
noncomputable def z3n (C:q0a) (vs:Vs) (σ:Store):ResS:=
 (sq (z0a C vs σ) λ v s=>(z3o C v s))
noncomputable def w0z (C:q0a) (vs:Vs) (σ:Store):ResS:=
 (sq (w9z C vs σ) λ v s=>(z3n C v s))
noncomputable def q4g (C:q0a) (vs:Vs) (σ:Store):ResS:=
 (sq (w9y C vs σ) λ v s=>(w0z C v s))
noncomputable def z3m (C:q0a) (vs:Vs) (σ:Store):ResS:=
 (sq (q9l C vs σ) λ v s=>(q4g C v s))
noncomputable def w0y (C:q0a) (vs:Vs) (σ:Store):ResS:=
 (sq (q9k C vs σ) λ v s=>(z3m C v s))
noncomputable def z3l (C:q0a) (vs:Vs) (σ:Store):ResS:=
 (sq (q3k C vs σ) λ v s=>(w0y C v s))
noncomputable def w3k (C:q0a) (vs:Vs) (σ:Store):ResS:=
 (z3l C vs σ)
theorem z3k (C:q0a) (vs:Vs) (σ:Store):q0w (evN T C 40) (fnOf 90).scope.names (q0f (fnOf 90).scope) (fnOf 90).body vs σ=w3k C vs σ:=by kernel_rfl
set_option tactic.hygienic true in noncomputable def z6l (C:q0a) (vs:Vs) (σ:Store):ResS:=
 (sq (bnd (notT (bnd (bnd (nm vs 0 σ) λ a b=>(q1b b a "_ignored_depth")) λ c d=>(trT d c))) λ e f=>if e=true then(sq (bnd (bnd (bnd (nm vs 0 f) λ g h=>(q1b h g "_data")) λ i j=>(q0l T j i "append").bind λ k=>bnd (evC (nm vs 1 j) λ l=>(some ([],l))) λ m n=>bnd (some ([],n)) λ o p=>q0g T C k m o p) λ q r=>some (q0b.next,vs,r)) λ s t=>(some (q0b.next,s,t)))else(some (q0b.next,vs,f))) λ u v=>(some (q0b.next,u,v)))
theorem k0m (C:q0a) (vs:Vs) (σ:Store):q0w (evN T C 40) (fnOf 97).scope.names (q0f (fnOf 97).scope) (fnOf 97).body vs σ=z6l C vs σ:=by kernel_rfl
noncomputable def w9t (C:q0a) (vs:Vs) (σ:Store):ResS:=
 (bnd (bnd (nm vs 1 σ) λ a b=>bnd (evC (bnd (nm vs 0 b) λ c d=>(q1b d c "_data")) λ e=>(some ([],e))) λ f g=>bnd (some ([],g)) λ h i=>q0i T C a f h i) λ j k=>bnd (bnd (some (setI vs 2 j,k)) λ l m=>(some (l,m))) λ n o=>some (q0b.next,n,o))
noncomputable def w9u (C:q0a) (vs:Vs) (σ:Store):ResS:=
 (bnd (bnd (nm vs 0 σ) λ a b=>(q1b b a "_data")) λ c d=>(delR c vs d))
noncomputable def w5o (C:q0a) (vs:Vs) (σ:Store):ResS:=
 (bnd (bnd (nm vs 2 σ) λ a b=>(q0l T b a "strip").bind λ c=>bnd (some ([],b)) λ d e=>bnd (some ([],e)) λ f g=>q0g T C c d f g) λ h i=>bnd (bnd (some (setI vs 2 h,i)) λ j k=>(some (j,k))) λ l m=>some (q0b.next,l,m))
noncomputable def z2w (C:q0a) (a:Vs) (b:Store):ResS:=
 (sq (w5o C a b) λ c d=>(some (q0b.next,c,d)))
noncomputable def w9v (C:q0a) (vs:Vs) (σ:Store):ResS:=
 (bnd (andT (bnd (bnd (nm vs 0 σ) λ a b=>(q1b b a "_strip_text")) λ c d=>(trT d c)) λ e=>(andT (notT (bnd (bnd (bnd (nm vs 0 e) λ f g=>(q1b g f "_preserve_space")) λ h i=>(bnd (negE (some ((.int 1),i))) λ j k=>(getR k h j))) λ l m=>(trT m l))) λ n=>(some (true,n)))) λ o p=>if o=true then(z2w C vs p)else(some (q0b.next,vs,p)))
noncomputable def w5p (C:q0a) (vs:Vs) (σ:Store):ResS:=
 (bnd (bnd (evC (bnd (nm vs 0 σ) λ a b=>(q1b b a "_pending_start")) λ c=>(evC (some (.none,c)) λ d=>(some ([],d)))) λ e f=>if e.length<=sizeLine then some (.tup e,f)else none) λ g h=>bnd (bnd ((q1n h g).bind λ i=>(asC i λ j k=>bnd (some (setI vs 3 j,h)) λ l m=>(asC k λ n o=>bnd (bnd (nm l 0 m) λ p q=>((q0q T q p "_pending_start" n).bind λ z=>some (l,z))) λ r s=>(asE o r s)))) λ t u=>(some (t,u))) λ v w=>some (q0b.next,v,w))
noncomputable def w5q (C:q0a) (vs:Vs) (σ:Store):ResS:=
 (bnd (bnd (andT (bnd (nm vs 2 σ) λ a b=>(trT b a)) λ c=>(andT (bnd (bnd none λ d e=>bnd (evC (nm vs 2 e) λ f=>(some ([],f))) λ g h=>bnd (some ([],h)) λ i j=>q0i T C d g i j) λ k l=>(trT l k)) λ m=>(some (true,m)))) λ n o=>if n=true then(nm vs 2 o)else(some (.none,o))) λ p q=>bnd (bnd (some (setI vs 4 p,q)) λ r s=>(some (r,s))) λ t u=>some (q0b.next,t,u))
noncomputable def w5r (C:q0a) (vs:Vs) (σ:Store):ResS:=
 (bnd (bnd (nm vs 0 σ) λ a b=>(q0l T b a "_start").bind λ c=>bnd none λ d e=>bnd (some ([],e)) λ f g=>q0g T C c d f g) λ h i=>some (q0b.next,vs,i))
noncomputable def w5t (C:q0a) (vs:Vs) (σ:Store):ResS:=
 (some (q0b.ret .none,vs,σ))
noncomputable def z2y (C:q0a) (a:Vs) (b:Store):ResS:=
 (sq (w5t C a b) λ c d=>(some (q0b.next,c,d)))
noncomputable def w5s (C:q0a) (vs:Vs) (σ:Store):ResS:=
 (bnd (bnd (nm vs 4 σ) λ a b=>(bnd (some (.none,b)) λ c d=>(cmpT d .IsNot a c))) λ e f=>if e=true then(z2y C vs f)else(some (q0b.next,vs,f)))
noncomputable def z2x (C:q0a) (a:Vs) (b:Store):ResS:=
 (sq (w5p C a b) λ c d=>(sq (w5q C c d) λ e f=>(sq (w5r C e f) λ g h=>(sq (w5s C g h) λ i j=>(some (q0b.next,i,j))))))
noncomputable def w9w (C:q0a) (vs:Vs) (σ:Store):ResS:=
 (bnd (bnd (bnd (nm vs 0 σ) λ a b=>(q1b b a "_pending_start")) λ c d=>(bnd (some (.none,d)) λ e f=>(cmpT f .IsNot c e))) λ g h=>if g=true then(z2x C vs h)else(some (q0b.next,vs,h)))
noncomputable def w5u (C:q0a) (vs:Vs) (σ:Store):ResS:=
 (bnd (bnd (nm vs 0 σ) λ a b=>(q0l T b a "_write").bind λ c=>bnd (evC (bnd (some ((.fn 161),b)) λ d e=>bnd (evC (nm vs 2 e) λ f=>(some ([],f))) λ g h=>bnd (some ([],h)) λ i j=>q0i T C d g i j) λ k=>(some ([],k))) λ l m=>bnd (some ([],m)) λ n o=>q0g T C c l n o) λ p q=>some (q0b.next,vs,q))
noncomputable def w0x (C:q0a) (a:Vs) (b:Store):ResS:=
 (sq (w5u C a b) λ c d=>(some (q0b.next,c,d)))
noncomputable def w9x (C:q0a) (vs:Vs) (σ:Store):ResS:=
 (bnd (andT (bnd (nm vs 2 σ) λ a b=>(trT b a)) λ c=>(andT (bnd (bnd (nm vs 0 c) λ d e=>(q1b e d "_root_seen")) λ f g=>(trT g f)) λ h=>(some (true,h)))) λ i j=>if i=true then(w0x C vs j)else(some (q0b.next,vs,j)))
noncomputable def z3d (C:q0a) (vs:Vs) (σ:Store):ResS:=
 (sq (w9x C vs σ) λ v s=>(some (q0b.next,v,s)))
noncomputable def z3c (C:q0a) (vs:Vs) (σ:Store):ResS:=
 (sq (w9w C vs σ) λ v s=>(z3d C v s))
noncomputable def z3b (C:q0a) (vs:Vs) (σ:Store):ResS:=
 (sq (w9v C vs σ) λ v s=>(z3c C v s))
noncomputable def q6t (C:q0a) (vs:Vs) (σ:Store):ResS:=
 (sq (w9u C vs σ) λ v s=>(z3b C v s))
noncomputable def z3a (C:q0a) (vs:Vs) (σ:Store):ResS:=
 (sq (w9t C vs σ) λ v s=>(q6t C v s))
noncomputable def w3g (C:q0a) (vs:Vs) (σ:Store):ResS:=
 (z3a C vs σ)
theorem z2z (C:q0a) (vs:Vs) (σ:Store):q0w (evN T C 40) (fnOf 106).scope.names (q0f (fnOf 106).scope) (fnOf 106).body vs σ=w3g C vs σ:=by kernel_rfl
noncomputable def w1j (C:q0a) (vs:Vs) (σ:Store):ResS:=
 (some (q0b.ret .none,vs,σ))
noncomputable def w6x (C:q0a) (a:Vs) (b:Store):ResS:=
 (sq (w1j C a b) λ c d=>(some (q0b.next,c,d)))
noncomputable def w4n (C:q0a) (vs:Vs) (σ:Store):ResS:=
 (bnd (bnd (bnd (nm vs 0 σ) λ a b=>(q1b b a "_ignored_depth")) λ c d=>(trT d c)) λ e f=>if e=true then(w6x C vs f)else(some (q0b.next,vs,f)))
noncomputable def w1k (C:q0a) (vs:Vs) (σ:Store):ResS:=
 (bnd (bnd (nm vs 0 σ) λ a b=>(q0l T b a "_flush").bind λ c=>bnd (some ([],b)) λ d e=>bnd (some ([],e)) λ f g=>q0g T C c d f g) λ h i=>some (q0b.next,vs,i))
noncomputable def q5b (C:q0a) (a:Vs) (b:Store):ResS:=
 (sq (w1k C a b) λ c d=>(some (q0b.next,c,d)))
noncomputable def w4o (C:q0a) (vs:Vs) (σ:Store):ResS:=
 (bnd (bnd (bnd (nm vs 0 σ) λ a b=>(q1b b a "_data")) λ c d=>(trT d c)) λ e f=>if e=true then(q5b C vs f)else(some (q0b.next,vs,f)))
noncomputable def w4p (C:q0a) (vs:Vs) (σ:Store):ResS:=
 (bnd (bnd (bnd (bnd (nm vs 0 σ) λ a b=>(q1b b a "_ns_stack")) λ c d=>(bnd (negE (some ((.int 1),d))) λ e f=>(getR f c e))) λ g h=>(q0l T h g "append").bind λ i=>bnd (evC (bnd (evC (nm vs 2 h) λ j=>(evC (nm vs 1 j) λ k=>(some ([],k)))) λ l m=>if l.length<=sizeLine then some (.tup l,m)else none) λ n=>(some ([],n))) λ o p=>bnd (some ([],p)) λ q r=>q0g T C i o q r) λ s t=>some (q0b.next,vs,t))
noncomputable def q5c (C:q0a) (vs:Vs) (σ:Store):ResS:=
 (sq (w4p C vs σ) λ v s=>(some (q0b.next,v,s)))
noncomputable def w7a (C:q0a) (vs:Vs) (σ:Store):ResS:=
 (sq (w4o C vs σ) λ v s=>(q5c C v s))
noncomputable def w6z (C:q0a) (vs:Vs) (σ:Store):ResS:=
 (sq (w4n C vs σ) λ v s=>(w7a C v s))
noncomputable def q8q (C:q0a) (vs:Vs) (σ:Store):ResS:=
 (w6z C vs σ)
theorem w6y (C:q0a) (vs:Vs) (σ:Store):q0w (evN T C 40) (fnOf 113).scope.names (q0f (fnOf 113).scope) (fnOf 113).body vs σ=q8q C vs σ:=by kernel_rfl
noncomputable def z0k (C:q0a) (vs:Vs) (σ:Store):ResS:=
 none
noncomputable def z0l (C:q0a) (vs:Vs) (σ:Store):ResS:=
 (some (q0b.ret .none,vs,σ))
noncomputable def z6t (C:q0a) (a:Vs) (b:Store):ResS:=
 (sq (z0k C a b) λ c d=>(sq (z0l C c d) λ e f=>(some (q0b.next,e,f))))
noncomputable def z4h (C:q0a) (vs:Vs) (σ:Store):ResS:=
 (bnd (andT (bnd (bnd (nm vs 0 σ) λ a b=>(q1b b a "_exclude_tags")) λ c d=>(bnd (some (.none,d)) λ e f=>(cmpT f .IsNot c e))) λ g=>(andT (orT (bnd (bnd (nm vs 0 g) λ h i=>(q1b i h "_ignored_depth")) λ j k=>(trT k j)) λ l=>(orT (bnd (nm vs 1 l) λ m n=>(bnd (bnd (nm vs 0 n) λ o p=>(q1b p o "_exclude_tags")) λ q r=>(cmpT r .In m q))) λ s=>(some (false,s)))) λ t=>(some (true,t)))) λ u v=>if u=true then(z6t C vs v)else(some (q0b.next,vs,v)))
noncomputable def z0m (C:q0a) (vs:Vs) (σ:Store):ResS:=
 (bnd (bnd (nm vs 0 σ) λ a b=>(q0l T b a "_flush").bind λ c=>bnd (some ([],b)) λ d e=>bnd (some ([],e)) λ f g=>q0g T C c d f g) λ h i=>some (q0b.next,vs,i))
noncomputable def q8k (C:q0a) (a:Vs) (b:Store):ResS:=
 (sq (z0m C a b) λ c d=>(some (q0b.next,c,d)))
noncomputable def z4i (C:q0a) (vs:Vs) (σ:Store):ResS:=
 (bnd (bnd (bnd (nm vs 0 σ) λ a b=>(q1b b a "_data")) λ c d=>(trT d c)) λ e f=>if e=true then(q8k C vs f)else(some (q0b.next,vs,f)))
noncomputable def z4j (C:q0a) (vs:Vs) (σ:Store):ResS:=
 (bnd (bnd (some ([],σ)) λ a b=>if a.length<=sizeLine then q0j true a b else none) λ c d=>bnd (bnd (some (setI vs 3 c,d)) λ e f=>(some (e,f))) λ g h=>some (q0b.next,g,h))
noncomputable def z4k (C:q0a) (vs:Vs) (σ:Store):ResS:=
 (bnd (bnd (bnd (nm vs 0 σ) λ a b=>(q1b b a "_declared_ns_stack")) λ c d=>(q0l T d c "append").bind λ e=>bnd (evC (nm vs 3 d) λ f=>(some ([],f))) λ g h=>bnd (some ([],h)) λ i j=>q0g T C e g i j) λ k l=>some (q0b.next,vs,l))
noncomputable def z0n (C:q0a) (vs:Vs) (σ:Store):ResS:=
 (bnd (bnd (evC (nm vs 1 σ) λ a=>(evC (nm vs 2 a) λ b=>(evC (nm vs 3 b) λ c=>(some ([],c))))) λ d e=>if d.length<=sizeLine then some (.tup d,e)else none) λ f g=>bnd (bnd (bnd (nm vs 0 g) λ h i=>((q0q T i h "_pending_start" f).bind λ z=>some (vs,z))) λ j k=>(some (j,k))) λ l m=>some (q0b.next,l,m))
noncomputable def z0o (C:q0a) (vs:Vs) (σ:Store):ResS:=
 (some (q0b.ret .none,vs,σ))
noncomputable def z6u (C:q0a) (a:Vs) (b:Store):ResS:=
 (sq (z0n C a b) λ c d=>(sq (z0o C c d) λ e f=>(some (q0b.next,e,f))))
noncomputable def z4l (C:q0a) (vs:Vs) (σ:Store):ResS:=
 (bnd (andT (bnd (bnd (nm vs 0 σ) λ a b=>(q1b b a "_qname_aware_tags")) λ c d=>(bnd (some (.none,d)) λ e f=>(cmpT f .IsNot c e))) λ g=>(andT (bnd (nm vs 1 g) λ h i=>(bnd (bnd (nm vs 0 i) λ j k=>(q1b k j "_qname_aware_tags")) λ l m=>(cmpT m .In h l))) λ n=>(some (true,n)))) λ o p=>if o=true then(z6u C vs p)else(some (q0b.next,vs,p)))
noncomputable def z4m (C:q0a) (vs:Vs) (σ:Store):ResS:=
 (bnd (bnd (nm vs 0 σ) λ a b=>(q0l T b a "_start").bind λ c=>bnd (evC (nm vs 1 b) λ d=>(evC (nm vs 2 d) λ e=>(evC (nm vs 3 e) λ f=>(some ([],f))))) λ g h=>bnd (some ([],h)) λ i j=>q0g T C c g i j) λ k l=>some (q0b.next,vs,l))
noncomputable def q8p (C:q0a) (vs:Vs) (σ:Store):ResS:=
 (sq (z4m C vs σ) λ v s=>(some (q0b.next,v,s)))
noncomputable def q8o (C:q0a) (vs:Vs) (σ:Store):ResS:=
 (sq (z4l C vs σ) λ v s=>(q8p C v s))
noncomputable def q8n (C:q0a) (vs:Vs) (σ:Store):ResS:=
 (sq (z4k C vs σ) λ v s=>(q8o C v s))
noncomputable def q8m (C:q0a) (vs:Vs) (σ:Store):ResS:=
 (sq (z4j C vs σ) λ v s=>(q8n C v s))
noncomputable def q8l (C:q0a) (vs:Vs) (σ:Store):ResS:=
 (sq (z4i C vs σ) λ v s=>(q8m C v s))
noncomputable def z6w (C:q0a) (vs:Vs) (σ:Store):ResS:=
 (sq (z4h C vs σ) λ v s=>(q8l C v s))
noncomputable def z0j (C:q0a) (vs:Vs) (σ:Store):ResS:=
 (z6w C vs σ)
theorem z6v (C:q0a) (vs:Vs) (σ:Store):q0w (evN T C 40) (fnOf 120).scope.names (q0f (fnOf 120).scope) (fnOf 120).body vs σ=z0j C vs σ:=by kernel_rfl
noncomputable def z3x (C:q0a) (a:AV) (b:Vs×List (Str×AV)) (c:Store):Option ((Vs×List (Str×AV))×Store):=
 bnd ((q1n c a).bind λ d=>(asC d λ e f=>bnd (some (setI b.1 1 e,c)) λ g h=>(asC f λ i j=>bnd (some (setI g 2 i,h)) λ k l=>(asE j k l)))) λ m n=>bnd (bnd (bnd (nm m 1 n) λ o p=>(bnd (bnd (nm m 3 p) λ q r=>(q1b r q "_exclude_attrs")) λ s t=>(cmpT t .NotIn o s))) λ u v=>if u=true then(some (true,v))else some (false,v)) λ w x=>if w=true then bnd (bnd (nm m 1 x) λ y z=>(bnd (nm m 2 z) λ A B=>(w5f b.2 y A B))) λ D E=>some ((m,D),E)else some ((m,b.2),x)
noncomputable def w6h (C:q0a) (vs:Vs) (σ:Store):ResS:=
 (bnd (bnd (bnd (bnd (nm vs 2 σ) λ a b=>(q0l T b a "items").bind λ c=>bnd (some ([],b)) λ d e=>bnd (some ([],e)) λ f g=>q0g T C c d f g) λ h i=>bnd (if(!goT h)=true then none else q1h h (z3x C) ((none::none::none::vs),[]) i) λ j k=>some (j.2,k)) λ l m=>q1z false l m) λ n o=>bnd (bnd (some (setI vs 2 n,o)) λ p q=>(some (p,q))) λ r s=>some (q0b.next,r,s))
noncomputable def z3q (C:q0a) (a:Vs) (b:Store):ResS:=
 (sq (w6h C a b) λ c d=>(some (q0b.next,c,d)))
noncomputable def q9n (C:q0a) (vs:Vs) (σ:Store):ResS:=
 (bnd (andT (bnd (bnd (nm vs 0 σ) λ a b=>(q1b b a "_exclude_attrs")) λ c d=>(bnd (some (.none,d)) λ e f=>(cmpT f .IsNot c e))) λ g=>(andT (bnd (nm vs 2 g) λ h i=>(trT i h)) λ j=>(some (true,j)))) λ k l=>if k=true then(z3q C vs l)else(some (q0b.next,vs,l)))
noncomputable def q9o (C:q0a) (vs:Vs) (σ:Store):ResS:=
 (bnd (bnd (nm vs 1 σ) λ a b=>(bnd (nm vs 2 b) λ c d=>(set2 false a c d))) λ e f=>bnd (bnd (some (setI vs 7 e,f)) λ g h=>(some (g,h))) λ i j=>some (q0b.next,i,j))
noncomputable def q9p (C:q0a) (vs:Vs) (σ:Store):ResS:=
 (bnd (bnd (some ([],σ)) λ a b=>q1z false (q2n a) b) λ c d=>bnd (bnd (some (setI vs 8 c,d)) λ e f=>(some (e,f))) λ g h=>some (q0b.next,g,h))
noncomputable def w6i (C:q0a) (vs:Vs) (σ:Store):ResS:=
 (bnd (bnd (nm vs 0 σ) λ a b=>(q0l T b a "_resolve_prefix_name").bind λ c=>bnd (evC (nm vs 4 b) λ d=>(some ([],d))) λ e f=>bnd (some ([],f)) λ g h=>q0g T C c e g h) λ i j=>bnd (bnd (some (setI vs 9 i,j)) λ k l=>(bnd (bnd (nm k 8 l) λ m n=>(bnd (nm k 4 n) λ o p=>(putS m o i k p))) λ q r=>(some (q,r)))) λ s t=>some (q0b.next,s,t))
noncomputable def w6j (C:q0a) (vs:Vs) (σ:Store):ResS:=
 (bnd (bnd (nm vs 7 σ) λ a b=>(q0l T b a "add").bind λ c=>bnd (evC (nm vs 9 b) λ d=>(some ([],d))) λ e f=>bnd (some ([],f)) λ g h=>q0g T C c e g h) λ i j=>some (q0b.next,vs,j))
noncomputable def z3r (C:q0a) (a:Vs) (b:Store):ResS:=
 (sq (w6i C a b) λ c d=>(sq (w6j C c d) λ e f=>(some (q0b.next,e,f))))
noncomputable def q9q (C:q0a) (vs:Vs) (σ:Store):ResS:=
 (bnd (bnd (nm vs 4 σ) λ a b=>(bnd (some (.none,b)) λ c d=>(cmpT d .IsNot a c))) λ e f=>if e=true then(z3r C vs f)else(some (q0b.next,vs,f)))
noncomputable def w6k (C:q0a) (vs:Vs) (σ:Store):ResS:=
 (bnd (bnd (nm vs 0 σ) λ a b=>(q0l T b a "_find_qname_aware_attrs").bind λ c=>bnd (evC (nm vs 2 b) λ d=>(some ([],d))) λ e f=>bnd (some ([],f)) λ g h=>q0g T C c e g h) λ i j=>bnd (bnd (some (setI vs 10 i,j)) λ k l=>(some (k,l))) λ m n=>some (q0b.next,m,n))
noncomputable def z4a (C:q0a) (vs:Vs) (σ:Store):ResS:=
 (bnd (bnd (nm vs 2 σ) λ a b=>(bnd (nm vs 11 b) λ c d=>(getR d a c))) λ e f=>bnd (bnd (some (setI vs 12 e,f)) λ g h=>(some (g,h))) λ i j=>some (q0b.next,i,j))
noncomputable def w6n (C:q0a) (vs:Vs) (σ:Store):ResS:=
 (bnd (bnd (nm vs 0 σ) λ a b=>(q0l T b a "_resolve_prefix_name").bind λ c=>bnd (evC (nm vs 12 b) λ d=>(some ([],d))) λ e f=>bnd (some ([],f)) λ g h=>q0g T C c e g h) λ i j=>bnd (bnd (some (setI vs 9 i,j)) λ k l=>(bnd (bnd (nm k 8 l) λ m n=>(bnd (nm k 12 n) λ o p=>(putS m o i k p))) λ q r=>(some (q,r)))) λ s t=>some (q0b.next,s,t))
noncomputable def w6o (C:q0a) (vs:Vs) (σ:Store):ResS:=
 (bnd (bnd (nm vs 7 σ) λ a b=>(q0l T b a "add").bind λ c=>bnd (evC (nm vs 9 b) λ d=>(some ([],d))) λ e f=>bnd (some ([],f)) λ g h=>q0g T C c e g h) λ i j=>some (q0b.next,vs,j))
noncomputable def z3u (C:q0a) (a:Vs) (b:Store):ResS:=
 (sq (w6n C a b) λ c d=>(sq (w6o C c d) λ e f=>(some (q0b.next,e,f))))
noncomputable def z4b (C:q0a) (vs:Vs) (σ:Store):ResS:=
 (bnd (bnd (bnd none λ a b=>bnd (evC (nm vs 12 b) λ c=>(some ([],c))) λ d e=>bnd (some ([],e)) λ f g=>q0i T C a d f g) λ h i=>(trT i h)) λ j k=>if j=true then(z3u C vs k)else(some (q0b.next,vs,k)))
noncomputable def k0u (C:q0a) (a:AV) (b:Vs) (c:Store):ResS:=
 bnd (some (setI b 11 a,c)) λ d e=>(sq (z4a C d e) λ f g=>(sq (z4b C f g) λ h i=>(some (q0b.next,h,i))))
noncomputable def w6m (C:q0a) (vs:Vs) (σ:Store):ResS:=
 (bnd (nm vs 10 σ) λ a b=>if frozen a=true then(q2g b a).bind λ c=>forA (k0u C) c vs b else none)
noncomputable def z3t (C:q0a) (a:Vs) (b:Store):ResS:=
 (sq (w6m C a b) λ c d=>(some (q0b.next,c,d)))
noncomputable def w6p (C:q0a) (vs:Vs) (σ:Store):ResS:=
 (bnd (some (.none,σ)) λ a b=>bnd (bnd (some (setI vs 10 a,b)) λ c d=>(some (c,d))) λ e f=>some (q0b.next,e,f))
noncomputable def z3v (C:q0a) (a:Vs) (b:Store):ResS:=
 (sq (w6p C a b) λ c d=>(some (q0b.next,c,d)))
noncomputable def w6l (C:q0a) (vs:Vs) (σ:Store):ResS:=
 (bnd (bnd (nm vs 10 σ) λ a b=>(trT b a)) λ c d=>if c=true then(z3t C vs d)else(z3v C vs d))
noncomputable def z3s (C:q0a) (a:Vs) (b:Store):ResS:=
 (sq (w6k C a b) λ c d=>(sq (w6l C c d) λ e f=>(some (q0b.next,e,f))))
noncomputable def w6q (C:q0a) (vs:Vs) (σ:Store):ResS:=
 (bnd (some (.none,σ)) λ a b=>bnd (bnd (some (setI vs 10 a,b)) λ c d=>(some (c,d))) λ e f=>some (q0b.next,e,f))
noncomputable def z3w (C:q0a) (a:Vs) (b:Store):ResS:=
 (sq (w6q C a b) λ c d=>(some (q0b.next,c,d)))
noncomputable def q9r (C:q0a) (vs:Vs) (σ:Store):ResS:=
 (bnd (andT (bnd (bnd (nm vs 0 σ) λ a b=>(q1b b a "_find_qname_aware_attrs")) λ c d=>(bnd (some (.none,d)) λ e f=>(cmpT f .IsNot c e))) λ g=>(andT (bnd (nm vs 2 g) λ h i=>(trT i h)) λ j=>(some (true,j)))) λ k l=>if k=true then(z3s C vs l)else(z3w C vs l))
noncomputable def q9s (C:q0a) (vs:Vs) (σ:Store):ResS:=
 (bnd (bnd (nm vs 0 σ) λ a b=>(q1b b a "_qname")) λ c d=>bnd (bnd (some (setI vs 13 c,d)) λ e f=>(some (e,f))) λ g h=>some (q0b.next,g,h))
noncomputable def q2e (C:q0a) (a:AV) (b:Vs×List (Str×AV)) (c:Store):Option ((Vs×List (Str×AV))×Store):=
 bnd (some (setI b.1 1 a,c)) λ d e=>bnd (some (true,e)) λ f g=>if f=true then bnd (bnd (nm d 1 g) λ h i=>(bnd (bnd (nm d 15 i) λ j k=>bnd (evC (nm d 1 k) λ l=>(some ([],l))) λ m n=>bnd (some ([],n)) λ o p=>q0i T C j m o p) λ q r=>(w5f b.2 h q r))) λ s t=>some ((d,s),t)else some ((d,b.2),g)
noncomputable def z0f (C:q0a) (vs:Vs) (σ:Store):ResS:=
 (bnd (bnd (bnd (bnd (nm vs 7 σ) λ a b=>k1a a b) λ c d=>bnd (if(!goN c)=true then none else q1h c (q2e C) ((none::none::vs),[]) d) λ e f=>some (e.2,f)) λ g h=>q1z false g h) λ i j=>bnd (bnd (some (setI vs 14 i,j)) λ k l=>(some (k,l))) λ m n=>some (q0b.next,m,n))
noncomputable def q4h (C:q0a) (a:AV) (b:Vs×List AV) (c:Store):Option ((Vs×List AV)×Store):=
 bnd ((q1n c a).bind λ d=>(asC d λ e f=>bnd (some (setI b.1 1 e,c)) λ g h=>(asC f λ i j=>bnd (some (setI g 2 i,h)) λ k l=>(asE j k l)))) λ m n=>bnd (some (true,n)) λ o p=>if o=true then bnd (q4c b.2 (bnd (evC (bnd (bnd (nm m 2 p) λ q r=>(trT r q)) λ s t=>if s=true then(bnd (some ((.str "xmlns:"),t)) λ u v=>(bnd (nm m 2 v) λ w x=>(binR x .Add u w)))else(some ((.str "xmlns"),t))) λ y=>(evC (nm m 1 y) λ z=>(some ([],z)))) λ A B=>if A.length<=sizeLine then some (.tup A,B)else none)) λ D E=>some ((m,D),E)else some ((m,b.2),p)
noncomputable def w6r (C:q0a) (vs:Vs) (σ:Store):ResS:=
 (bnd (bnd (bnd (nm vs 3 σ) λ a b=>bnd (if(!goT a)=true then none else q1h a (q4h C) ((none::none::none::vs),[]) b) λ c d=>some (c.2,d)) λ e f=>q0j true e f) λ g h=>bnd (bnd (some (setI vs 16 g,h)) λ i j=>(some (i,j))) λ k l=>some (q0b.next,k,l))
noncomputable def q2x (C:q0a) (vs:Vs) (σ:Store):ResS:=
 (bnd (bnd (nm vs 16 σ) λ a b=>(q0l T b a "sort").bind λ c=>bnd (some ([],b)) λ d e=>bnd (some ([],e)) λ f g=>q0g T C c d f g) λ h i=>some (q0b.next,vs,i))
noncomputable def q6x (C:q0a) (a:Vs) (b:Store):ResS:=
 (sq (w6r C a b) λ c d=>(sq (q2x C c d) λ e f=>(some (q0b.next,e,f))))
noncomputable def w6s (C:q0a) (vs:Vs) (σ:Store):ResS:=
 (bnd (bnd (some ([],σ)) λ a b=>if a.length<=sizeLine then q0j true a b else none) λ c d=>bnd (bnd (some (setI vs 16 c,d)) λ e f=>(some (e,f))) λ g h=>some (q0b.next,g,h))
noncomputable def q6y (C:q0a) (a:Vs) (b:Store):ResS:=
 (sq (w6s C a b) λ c d=>(some (q0b.next,c,d)))
noncomputable def z0g (C:q0a) (vs:Vs) (σ:Store):ResS:=
 (bnd (bnd (nm vs 3 σ) λ a b=>(trT b a)) λ c d=>if c=true then(q6x C vs d)else(q6y C vs d))
noncomputable def w3m (C:q0a) (vs:Vs) (σ:Store):ResS:=
 (bnd (bnd (bnd (nm vs 14 σ) λ a b=>(bnd (bnd (nm vs 8 b) λ c d=>(bnd (nm vs 6 d) λ e f=>(getR f c e))) λ g h=>(getR h a g))) λ i j=>(bnd (some ((.int 0),j)) λ k l=>(getR l i k))) λ m n=>bnd (bnd (some (setI vs 6 m,n)) λ o p=>(some (o,p))) λ q r=>some (q0b.next,q,r))
noncomputable def z0d (C:q0a) (a:Vs) (b:Store):ResS:=
 (sq (w3m C a b) λ c d=>(some (q0b.next,c,d)))
noncomputable def z4c (C:q0a) (vs:Vs) (σ:Store):ResS:=
 (bnd (andT (bnd (nm vs 10 σ) λ a b=>(bnd (some (.none,b)) λ c d=>(cmpT d .IsNot a c))) λ e=>(andT (bnd (nm vs 5 e) λ f g=>(bnd (nm vs 10 g) λ h i=>(cmpT i .In f h))) λ j=>(andT (bnd (nm vs 6 j) λ k l=>(bnd (nm vs 8 l) λ m n=>(cmpT n .In k m))) λ o=>(some (true,o))))) λ p q=>if p=true then(z0d C vs q)else(some (q0b.next,vs,q)))
noncomputable def q7d (C:q0a) (vs:Vs) (σ:Store):ResS:=
 (bnd (bnd (nm vs 14 σ) λ a b=>(bnd (nm vs 5 b) λ c d=>(getR d a c))) λ e f=>bnd (bnd ((q1n f e).bind λ g=>(asC g λ h i=>bnd (some (setI vs 17 h,f)) λ j k=>(asC i λ l m=>bnd (some (setI j 11 l,k)) λ n o=>(asC m λ p q=>bnd (some (setI n 15 p,o)) λ r s=>(asE q r s))))) λ t u=>(some (t,u))) λ v w=>some (q0b.next,v,w))
noncomputable def q7e (C:q0a) (vs:Vs) (σ:Store):ResS:=
 (bnd (bnd (nm vs 16 σ) λ a b=>(q0l T b a "append").bind λ c=>bnd (evC (bnd (evC (bnd (bnd (nm vs 15 b) λ d e=>(trT e d)) λ f g=>if f=true then(nm vs 17 g)else(nm vs 11 g)) λ h=>(evC (nm vs 6 h) λ i=>(some ([],i)))) λ j k=>if j.length<=sizeLine then some (.tup j,k)else none) λ l=>(some ([],l))) λ m n=>bnd (some ([],n)) λ o p=>q0g T C c m o p) λ q r=>some (q0b.next,vs,r))
noncomputable def q5h (C:q0a) (a:AV) (b:Vs) (c:Store):ResS:=
 bnd ((q1n c a).bind λ d=>(asC d λ e f=>bnd (some (setI b 5 e,c)) λ g h=>(asC f λ i j=>bnd (some (setI g 6 i,h)) λ k l=>(asE j k l)))) λ m n=>(sq (z4c C m n) λ o p=>(sq (q7d C o p) λ q r=>(sq (q7e C q r) λ s t=>(some (q0b.next,s,t)))))
noncomputable def w3l (C:q0a) (vs:Vs) (σ:Store):ResS:=
 (bnd (bnd (some ((.bf .sorted),σ)) λ a b=>bnd (evC (bnd (nm vs 2 b) λ c d=>(q0l T d c "items").bind λ e=>bnd (some ([],d)) λ f g=>bnd (some ([],g)) λ h i=>q0g T C e f h i) λ j=>(some ([],j))) λ k l=>bnd (some ([],l)) λ m n=>q0i T C a k m n) λ o p=>if frozen o=true then(q2g p o).bind λ q=>forA (q5h C) q vs p else none)
noncomputable def q5u (C:q0a) (a:Vs) (b:Store):ResS:=
 (sq (w3l C a b) λ c d=>(some (q0b.next,c,d)))
noncomputable def z0h (C:q0a) (vs:Vs) (σ:Store):ResS:=
 (bnd (bnd (nm vs 2 σ) λ a b=>(trT b a)) λ c d=>if c=true then(q5u C vs d)else(some (q0b.next,vs,d)))
noncomputable def z0i (C:q0a) (vs:Vs) (σ:Store):ResS:=
 (bnd (bnd (nm vs 2 σ) λ a b=>(q0l T b a "get").bind λ c=>bnd (evC (some ((.str "{http://www.w3.org/XML/1998/namespace}space"),b)) λ e=>(some ([],e))) λ f g=>bnd (some ([],g)) λ h i=>q0g T C c f h i) λ j k=>bnd (bnd (some (setI vs 18 j,k)) λ l m=>(some (l,m))) λ n o=>some (q0b.next,n,o))
noncomputable def w6t (C:q0a) (vs:Vs) (σ:Store):ResS:=
 (bnd (bnd (bnd (nm vs 0 σ) λ a b=>(q1b b a "_preserve_space")) λ c d=>(q0l T d c "append").bind λ e=>bnd (evC (bnd (bnd (nm vs 18 d) λ f g=>(trT g f)) λ h i=>if h=true then(bnd (nm vs 18 i) λ j k=>(bnd (some ((.str "preserve"),k)) λ l m=>(cmpR m .Eq j l)))else(bnd (bnd (nm vs 0 i) λ n o=>(q1b o n "_preserve_space")) λ p q=>(bnd (negE (some ((.int 1),q))) λ r s=>(getR s p r)))) λ t=>(some ([],t))) λ u v=>bnd (some ([],v)) λ w x=>q0g T C e u w x) λ y z=>some (q0b.next,vs,z))
noncomputable def q7u (C:q0a) (vs:Vs) (σ:Store):ResS:=
 (bnd (bnd (nm vs 0 σ) λ a b=>(q1b b a "_write")) λ c d=>bnd (bnd (some (setI vs 19 c,d)) λ e f=>(some (e,f))) λ g h=>some (q0b.next,g,h))
noncomputable def w6u (C:q0a) (vs:Vs) (σ:Store):ResS:=
 (bnd (bnd (nm vs 19 σ) λ a b=>bnd (evC (bnd (some ((.str "<"),b)) λ c d=>(bnd (bnd (bnd (nm vs 14 d) λ e f=>(bnd (nm vs 1 f) λ g h=>(getR h e g))) λ i j=>(bnd (some ((.int 0),j)) λ k l=>(getR l i k))) λ m n=>(binR n .Add c m))) λ o=>(some ([],o))) λ p q=>bnd (some ([],q)) λ r s=>q0i T C a p r s) λ t u=>some (q0b.next,vs,u))
noncomputable def q4i (C:q0a) (a:AV) (b:Vs×List AV) (c:Store):Option ((Vs×List AV)×Store):=
 bnd ((q1n c a).bind λ d=>(asC d λ e f=>bnd (some (setI b.1 1 e,c)) λ g h=>(asC f λ i j=>bnd (some (setI g 2 i,h)) λ k l=>(asE j k l)))) λ m n=>bnd (some (true,n)) λ o p=>if o=true then bnd (q4c b.2 (bnd ((catA Str.empty " ").bind λ q=>(bnd (nm m 1 p) λ r s=>q5o q r λ t=>((catA t "=\"").bind λ u=>(bnd (bnd (some ((.fn 168),s)) λ v w=>bnd (evC (nm m 2 w) λ x=>(some ([],x))) λ y z=>bnd (some ([],z)) λ A B=>q0i T C v y A B) λ D E=>q5o u D λ F=>((catA F "\"").bind λ G=>(q1l G E)))))) λ H I=>some (.str H,I))) λ J K=>some ((m,J),K)else some ((m,b.2),p)
noncomputable def w3n (C:q0a) (vs:Vs) (σ:Store):ResS:=
 (bnd (bnd (nm vs 19 σ) λ a b=>bnd (evC (bnd (some ((.str ""),b)) λ c d=>(q0l T d c "join").bind λ e=>bnd (evC (bnd (bnd (nm vs 16 d) λ f g=>bnd (if(!goT f)=true then none else q1h f (q4i C) ((none::none::none::vs),[]) g) λ h i=>some (h.2,i)) λ j k=>q0j false j k) λ l=>(some ([],l))) λ m n=>bnd (some ([],n)) λ o p=>q0g T C e m o p) λ q=>(some ([],q))) λ r s=>bnd (some ([],s)) λ t u=>q0i T C a r t u) λ v w=>some (q0b.next,vs,w))
noncomputable def q5v (C:q0a) (a:Vs) (b:Store):ResS:=
 (sq (w3n C a b) λ c d=>(some (q0b.next,c,d)))
noncomputable def w6v (C:q0a) (vs:Vs) (σ:Store):ResS:=
 (bnd (bnd (nm vs 16 σ) λ a b=>(trT b a)) λ c d=>if c=true then(q5v C vs d)else(some (q0b.next,vs,d)))
noncomputable def w6w (C:q0a) (vs:Vs) (σ:Store):ResS:=
 (bnd (bnd (nm vs 19 σ) λ a b=>bnd (evC (some ((.str ">"),b)) λ c=>(some ([],c))) λ d e=>bnd (some ([],e)) λ f g=>q0i T C a d f g) λ h i=>some (q0b.next,vs,i))
noncomputable def w3o (C:q0a) (vs:Vs) (σ:Store):ResS:=
 (bnd (bnd (nm vs 19 σ) λ a b=>bnd (evC (bnd (some ((.fn 161),b)) λ c d=>bnd (evC (bnd (bnd (nm vs 14 d) λ e f=>(bnd (bnd (nm vs 8 f) λ g h=>(bnd (nm vs 4 h) λ i j=>(getR j g i))) λ k l=>(getR l e k))) λ m n=>(bnd (some ((.int 0),n)) λ o p=>(getR p m o))) λ q=>(some ([],q))) λ r s=>bnd (some ([],s)) λ t u=>q0i T C c r t u) λ v=>(some ([],v))) λ w x=>bnd (some ([],x)) λ y z=>q0i T C a w y z) λ A B=>some (q0b.next,vs,B))
noncomputable def z0e (C:q0a) (a:Vs) (b:Store):ResS:=
 (sq (w3o C a b) λ c d=>(some (q0b.next,c,d)))
noncomputable def q7v (C:q0a) (vs:Vs) (σ:Store):ResS:=
 (bnd (bnd (nm vs 4 σ) λ a b=>(bnd (some (.none,b)) λ c d=>(cmpT d .IsNot a c))) λ e f=>if e=true then(z0e C vs f)else(some (q0b.next,vs,f)))
noncomputable def q7w (C:q0a) (vs:Vs) (σ:Store):ResS:=
 (bnd (some ((.bool true),σ)) λ a b=>bnd (bnd (bnd (nm vs 0 b) λ c d=>((q0q T d c "_root_seen" a).bind λ z=>some (vs,z))) λ e f=>(some (e,f))) λ g h=>some (q0b.next,g,h))
noncomputable def q7x (C:q0a) (vs:Vs) (σ:Store):ResS:=
 (bnd (bnd (bnd (nm vs 0 σ) λ a b=>(q1b b a "_ns_stack")) λ c d=>(q0l T d c "append").bind λ e=>bnd (evC (bnd (some ([],d)) λ f g=>if f.length<=sizeLine then q0j true f g else none) λ h=>(some ([],h))) λ i j=>bnd (some ([],j)) λ k l=>q0g T C e i k l) λ m n=>some (q0b.next,vs,n))
noncomputable def q3m (C:q0a) (vs:Vs) (σ:Store):ResS:=
 (sq (q7x C vs σ) λ v s=>(some (q0b.next,v,s)))
noncomputable def q9m (C:q0a) (vs:Vs) (σ:Store):ResS:=
 (sq (q7w C vs σ) λ v s=>(q3m C v s))
noncomputable def q5x (C:q0a) (vs:Vs) (σ:Store):ResS:=
 (sq (q7v C vs σ) λ v s=>(q9m C v s))
noncomputable def q2k (C:q0a) (vs:Vs) (σ:Store):ResS:=
 (sq (w6w C vs σ) λ v s=>(q5x C v s))
noncomputable def q2j (C:q0a) (vs:Vs) (σ:Store):ResS:=
 (sq (w6v C vs σ) λ v s=>(q2k C v s))
noncomputable def q2i (C:q0a) (vs:Vs) (σ:Store):ResS:=
 (sq (w6u C vs σ) λ v s=>(q2j C v s))
noncomputable def q5w (C:q0a) (vs:Vs) (σ:Store):ResS:=
 (sq (q7u C vs σ) λ v s=>(q2i C v s))
noncomputable def q3l (C:q0a) (vs:Vs) (σ:Store):ResS:=
 (sq (w6t C vs σ) λ v s=>(q5w C v s))
noncomputable def q3c (C:q0a) (vs:Vs) (σ:Store):ResS:=
 (sq (z0i C vs σ) λ v s=>(q3l C v s))
noncomputable def q3b (C:q0a) (vs:Vs) (σ:Store):ResS:=
 (sq (z0h C vs σ) λ v s=>(q3c C v s))
noncomputable def q3a (C:q0a) (vs:Vs) (σ:Store):ResS:=
 (sq (z0g C vs σ) λ v s=>(q3b C v s))
noncomputable def q7a (C:q0a) (vs:Vs) (σ:Store):ResS:=
 (sq (z0f C vs σ) λ v s=>(q3a C v s))
noncomputable def w1e (C:q0a) (vs:Vs) (σ:Store):ResS:=
 (sq (q9s C vs σ) λ v s=>(q7a C v s))
noncomputable def w1d (C:q0a) (vs:Vs) (σ:Store):ResS:=
 (sq (q9r C vs σ) λ v s=>(w1e C v s))
noncomputable def w1c (C:q0a) (vs:Vs) (σ:Store):ResS:=
 (sq (q9q C vs σ) λ v s=>(w1d C v s))
noncomputable def q6z (C:q0a) (vs:Vs) (σ:Store):ResS:=
 (sq (q9p C vs σ) λ v s=>(w1c C v s))
noncomputable def w1b (C:q0a) (vs:Vs) (σ:Store):ResS:=
 (sq (q9o C vs σ) λ v s=>(q6z C v s))
noncomputable def w1a (C:q0a) (vs:Vs) (σ:Store):ResS:=
 (sq (q9n C vs σ) λ v s=>(w1b C v s))
noncomputable def q6w (C:q0a) (vs:Vs) (σ:Store):ResS:=
 (w1a C vs σ)
theorem z3y (C:q0a) (vs:Vs) (σ:Store):q0w (evN T C 40) (fnOf 126).scope.names (q0f (fnOf 126).scope) (fnOf 126).body vs σ=q6w C vs σ:=by kernel_rfl
noncomputable def z6m (C:q0a) (vs:Vs) (σ:Store):ResS:=
 none
noncomputable def z6n (C:q0a) (vs:Vs) (σ:Store):ResS:=
 (some (q0b.ret .none,vs,σ))
noncomputable def k5w (C:q0a) (a:Vs) (b:Store):ResS:=
 (sq (z6m C a b) λ c d=>(sq (z6n C c d) λ e f=>(some (q0b.next,e,f))))
noncomputable def k0n (C:q0a) (vs:Vs) (σ:Store):ResS:=
 (bnd (bnd (bnd (nm vs 0 σ) λ a b=>(q1b b a "_ignored_depth")) λ c d=>(trT d c)) λ e f=>if e=true then(k5w C vs f)else(some (q0b.next,vs,f)))
noncomputable def z6o (C:q0a) (vs:Vs) (σ:Store):ResS:=
 (bnd (bnd (nm vs 0 σ) λ a b=>(q0l T b a "_flush").bind λ c=>bnd (some ([],b)) λ d e=>bnd (some ([],e)) λ f g=>q0g T C c d f g) λ h i=>some (q0b.next,vs,i))
noncomputable def w3p (C:q0a) (a:Vs) (b:Store):ResS:=
 (sq (z6o C a b) λ c d=>(some (q0b.next,c,d)))
noncomputable def k0o (C:q0a) (vs:Vs) (σ:Store):ResS:=
 (bnd (bnd (bnd (nm vs 0 σ) λ a b=>(q1b b a "_data")) λ c d=>(trT d c)) λ e f=>if e=true then(w3p C vs f)else(some (q0b.next,vs,f)))
noncomputable def k0p (C:q0a) (vs:Vs) (σ:Store):ResS:=
 (bnd (bnd (nm vs 0 σ) λ a b=>(q0l T b a "_write").bind λ c=>bnd (evC (bnd ((catA Str.empty "</").bind λ d=>(bnd (bnd (bnd (nm vs 0 b) λ e f=>(q0l T f e "_qname").bind λ g=>bnd (evC (nm vs 1 f) λ h=>(some ([],h))) λ i j=>bnd (some ([],j)) λ k l=>q0g T C g i k l) λ m n=>(bnd (some ((.int 0),n)) λ o p=>(getR p m o))) λ q r=>q5o d q λ s=>((catA s ">").bind λ t=>(q1l t r)))) λ u v=>some (.str u,v)) λ w=>(some ([],w))) λ x y=>bnd (some ([],y)) λ z A=>q0g T C c x z A) λ B D=>some (q0b.next,vs,D))
noncomputable def k0q (C:q0a) (vs:Vs) (σ:Store):ResS:=
 (bnd (bnd (bnd (nm vs 0 σ) λ a b=>(q1b b a "_preserve_space")) λ c d=>(q0l T d c "pop").bind λ e=>bnd (some ([],d)) λ f g=>bnd (some ([],g)) λ h i=>q0g T C e f h i) λ j k=>some (q0b.next,vs,k))
noncomputable def k0r (C:q0a) (vs:Vs) (σ:Store):ResS:=
 (bnd (bnd (bnd (some ((.bf .len),σ)) λ a b=>bnd (evC (bnd (nm vs 0 b) λ c d=>(q1b d c "_preserve_space")) λ e=>(some ([],e))) λ f g=>bnd (some ([],g)) λ h i=>q0i T C a f h i) λ j k=>(bnd (some ((.int 1),k)) λ l m=>(cmpR m .Eq j l))) λ n o=>bnd (bnd (bnd (nm vs 0 o) λ p q=>((q0q T q p "_root_done" n).bind λ z=>some (vs,z))) λ r s=>(some (r,s))) λ t u=>some (q0b.next,t,u))
noncomputable def k0s (C:q0a) (vs:Vs) (σ:Store):ResS:=
 (bnd (bnd (bnd (nm vs 0 σ) λ a b=>(q1b b a "_declared_ns_stack")) λ c d=>(q0l T d c "pop").bind λ e=>bnd (some ([],d)) λ f g=>bnd (some ([],g)) λ h i=>q0g T C e f h i) λ j k=>some (q0b.next,vs,k))
noncomputable def k0t (C:q0a) (vs:Vs) (σ:Store):ResS:=
 (bnd (bnd (bnd (nm vs 0 σ) λ a b=>(q1b b a "_ns_stack")) λ c d=>(q0l T d c "pop").bind λ e=>bnd (some ([],d)) λ f g=>bnd (some ([],g)) λ h i=>q0g T C e f h i) λ j k=>some (q0b.next,vs,k))
noncomputable def w3v (C:q0a) (vs:Vs) (σ:Store):ResS:=
 (sq (k0t C vs σ) λ v s=>(some (q0b.next,v,s)))
noncomputable def w3u (C:q0a) (vs:Vs) (σ:Store):ResS:=
 (sq (k0s C vs σ) λ v s=>(w3v C v s))
noncomputable def w3t (C:q0a) (vs:Vs) (σ:Store):ResS:=
 (sq (k0r C vs σ) λ v s=>(w3u C v s))
noncomputable def w3s (C:q0a) (vs:Vs) (σ:Store):ResS:=
 (sq (k0q C vs σ) λ v s=>(w3t C v s))
noncomputable def w3r (C:q0a) (vs:Vs) (σ:Store):ResS:=
 (sq (k0p C vs σ) λ v s=>(w3s C v s))
noncomputable def w3q (C:q0a) (vs:Vs) (σ:Store):ResS:=
 (sq (k0o C vs σ) λ v s=>(w3r C v s))
noncomputable def k5y (C:q0a) (vs:Vs) (σ:Store):ResS:=
 (sq (k0n C vs σ) λ v s=>(w3q C v s))
noncomputable def k5v (C:q0a) (vs:Vs) (σ:Store):ResS:=
 (k5y C vs σ)
theorem k5x (C:q0a) (vs:Vs) (σ:Store):q0w (evN T C 40) (fnOf 133).scope.names (q0f (fnOf 133).scope) (fnOf 133).body vs σ=k5v C vs σ:=by kernel_rfl
set_option tactic.hygienic true in noncomputable def q1s (C:q0a) (vs:Vs) (σ:Store):ResS:=
 (sq (sq (bnd (bnd (some ((.str "&"),σ)) λ a b=>(bnd (nm vs 0 b) λ c d=>(cmpT d .In a c))) λ e f=>if e=true then(sq (bnd (bnd (nm vs 0 f) λ g h=>(w1i g "&" "&amp;" h)) λ i j=>bnd (bnd (some (setI vs 0 i,j)) λ k l=>(some (k,l))) λ m n=>some (q0b.next,m,n)) λ o p=>(some (q0b.next,o,p)))else(some (q0b.next,vs,f))) λ q s=>(sq (bnd (bnd (some ((.str "<"),s)) λ t u=>(bnd (nm q 0 u) λ v w=>(cmpT w .In t v))) λ x y=>if x=true then(sq (bnd (bnd (nm q 0 y) λ z A=>(w1i z "<" "&lt;" A)) λ B D=>bnd (bnd (some (setI q 0 B,D)) λ E F=>(some (E,F))) λ G H=>some (q0b.next,G,H)) λ I J=>(some (q0b.next,I,J)))else(some (q0b.next,q,y))) λ K L=>(sq (bnd (bnd (some ((.str ">"),L)) λ M N=>(bnd (nm K 0 N) λ O P=>(cmpT P .In M O))) λ Q R=>if Q=true then(sq (bnd (bnd (nm K 0 R) λ S U=>(w1i S ">" "&gt;" U)) λ V W=>bnd (bnd (some (setI K 0 V,W)) λ X Y=>(some (X,Y))) λ Z aa=>some (q0b.next,Z,aa)) λ ab ac=>(some (q0b.next,ab,ac)))else(some (q0b.next,K,R))) λ ad ae=>(sq (bnd (bnd (some ((.str "\r"),ae)) λ af ag=>(bnd (nm ad 0 ag) λ ah ai=>(cmpT ai .In af ah))) λ aj ak=>if aj=true then(sq (bnd (bnd (nm ad 0 ak) λ al am=>(w1i al "\r" "&#xD;" am)) λ an ao=>bnd (bnd (some (setI ad 0 an,ao)) λ ap aq=>(some (ap,aq))) λ ar au=>some (q0b.next,ar,au)) λ av aw=>(some (q0b.next,av,aw)))else(some (q0b.next,ad,ak))) λ ax ay=>(sq (bnd (nm ax 0 ay) λ az aA=>some (q0b.ret az,ax,aA)) λ aB aC=>(some (q0b.next,aB,aC))))))) λ aD aE=>(some (q0b.next,aD,aE)))
theorem q5g (C:q0a) (vs:Vs) (σ:Store):q0w (evN T C 40) (fnOf 161).scope.names (q0f (fnOf 161).scope) (fnOf 161).body vs σ=q1s C vs σ:=by kernel_rfl
set_option tactic.hygienic true in noncomputable def q1o (C:q0a) (vs:Vs) (σ:Store):ResS:=
 (sq (sq (bnd (bnd (some ((.str "&"),σ)) λ a b=>(bnd (nm vs 0 b) λ c d=>(cmpT d .In a c))) λ e f=>if e=true then(sq (bnd (bnd (nm vs 0 f) λ g h=>(w1i g "&" "&amp;" h)) λ i j=>bnd (bnd (some (setI vs 0 i,j)) λ k l=>(some (k,l))) λ m o=>some (q0b.next,m,o)) λ p q=>(some (q0b.next,p,q)))else(some (q0b.next,vs,f))) λ s u=>(sq (bnd (bnd (some ((.str "<"),u)) λ v w=>(bnd (nm s 0 w) λ x y=>(cmpT y .In v x))) λ z A=>if z=true then(sq (bnd (bnd (nm s 0 A) λ B D=>(w1i B "<" "&lt;" D)) λ E F=>bnd (bnd (some (setI s 0 E,F)) λ G H=>(some (G,H))) λ I J=>some (q0b.next,I,J)) λ K L=>(some (q0b.next,K,L)))else(some (q0b.next,s,A))) λ M N=>(sq (bnd (bnd (some ((.str "\""),N)) λ O P=>(bnd (nm M 0 P) λ Q R=>(cmpT R .In O Q))) λ S U=>if S=true then(sq (bnd (bnd (nm M 0 U) λ V W=>(w1i V "\"" "&quot;" W)) λ X Y=>bnd (bnd (some (setI M 0 X,Y)) λ Z aa=>(some (Z,aa))) λ ab ac=>some (q0b.next,ab,ac)) λ ad ae=>(some (q0b.next,ad,ae)))else(some (q0b.next,M,U))) λ af ag=>(sq (bnd (bnd (some ((.str "\t"),ag)) λ ah ai=>(bnd (nm af 0 ai) λ aj ak=>(cmpT ak .In ah aj))) λ al am=>if al=true then(sq (bnd (bnd (nm af 0 am) λ an ao=>(w1i an "\t" "&#x9;" ao)) λ ap aq=>bnd (bnd (some (setI af 0 ap,aq)) λ ar au=>(some (ar,au))) λ av aw=>some (q0b.next,av,aw)) λ ax ay=>(some (q0b.next,ax,ay)))else(some (q0b.next,af,am))) λ az aA=>(sq (bnd (bnd (some ((.str "\n"),aA)) λ aB aC=>(bnd (nm az 0 aC) λ aD aE=>(cmpT aE .In aB aD))) λ aF aG=>if aF=true then(sq (bnd (bnd (nm az 0 aG) λ aH aI=>(w1i aH "\n" "&#xA;" aI)) λ aJ aK=>bnd (bnd (some (setI az 0 aJ,aK)) λ aL aM=>(some (aL,aM))) λ aN aO=>some (q0b.next,aN,aO)) λ aP aQ=>(some (q0b.next,aP,aQ)))else(some (q0b.next,az,aG))) λ aR aS=>(sq (bnd (bnd (some ((.str "\r"),aS)) λ aU aV=>(bnd (nm aR 0 aV) λ aW aX=>(cmpT aX .In aU aW))) λ aY aZ=>if aY=true then(sq (bnd (bnd (nm aR 0 aZ) λ ba bb=>(w1i ba "\r" "&#xD;" bb)) λ bc bd=>bnd (bnd (some (setI aR 0 bc,bd)) λ be bf=>(some (be,bf))) λ bg bh=>some (q0b.next,bg,bh)) λ bi bj=>(some (q0b.next,bi,bj)))else(some (q0b.next,aR,aZ))) λ bk bl=>(sq (bnd (nm bk 0 bl) λ bm bn=>some (q0b.ret bm,bk,bn)) λ bo bp=>(some (q0b.next,bo,bp))))))))) λ bq br=>(some (q0b.next,bq,br)))
theorem q5a (C:q0a) (vs:Vs) (σ:Store):q0w (evN T C 40) (fnOf 168).scope.names (q0f (fnOf 168).scope) (fnOf 168).body vs σ=q1o C vs σ:=by kernel_rfl
noncomputable def q3x (C:q0a) (a:AV) (b:Vs×List AV) (c:Store):Option ((Vs×List AV)×Store):=
 bnd (some (setI b.1 2 a,c)) λ d e=>bnd (some (true,e)) λ f g=>if f=true then bnd (q4c b.2 (nm d 2 g)) λ h i=>some ((d,h),i)else some ((d,b.2),g)
noncomputable def q3y (C:q0a) (a:AV) (b:Vs×List AV) (c:Store):Option ((Vs×List AV)×Store):=
 bnd (some (setI b.1 1 a,c)) λ d e=>bnd (some (true,e)) λ f g=>if f=true then bnd (nm d 1 g) λ h i=>(if(!goN h)=true then none else q1h h (q3x C) (d,b.2) i)else some ((d,b.2),g)
noncomputable def q6u (C:q0a) (vs:Vs) (σ:Store):ResS:=
 (sq (bnd (bnd (bnd (bnd (nm vs 0 σ) λ a b=>(bnd (some (.none,b)) λ c d=>(bnd (some (.none,d)) λ e f=>(bnd (negE (some ((.int 1),f))) λ g h=>(q2l h a c e g))))) λ i j=>bnd (if(!goN i)=true then none else q1h i (q3y C) ((none::none::none::vs),[]) j) λ k l=>some (k.2,l)) λ m n=>q0j false m n) λ o p=>some (q0b.ret o,vs,p)) λ q r=>(some (q0b.next,q,r)))
theorem w3j (C:q0a) (vs:Vs) (σ:Store):q0w (evN T C 40) (fnOf 173).scope.names (q0f (fnOf 173).scope) (fnOf 173).body vs σ=q6u C vs σ:=by kernel_rfl
noncomputable def w3h (C:q0a) (vs:Vs) (σ:Store):ResS:=
 (sq (bnd (bnd (bnd (nm vs 0 σ) λ a b=>(bnd (some ((.str ""),b)) λ c d=>(cmpT d .NotEq a c))) λ e f=>if e=true then(bnd (bnd (bnd (some ((.str "{"),f)) λ g h=>(bnd (nm vs 0 h) λ i j=>(binR j .Add g i))) λ k l=>(bnd (some ((.str "}"),l)) λ m n=>(binR n .Add k m))) λ o p=>(bnd (nm vs 1 p) λ q r=>(binR r .Add o q)))else(nm vs 1 f)) λ s t=>some (q0b.ret s,vs,t)) λ u v=>(some (q0b.next,u,v)))
theorem w5v (C:q0a) (vs:Vs) (σ:Store):q0w (evN T C 40) (fnOf 180).scope.names (q0f (fnOf 180).scope) (fnOf 180).body vs σ=w3h C vs σ:=by kernel_rfl
noncomputable def w3i (C:q0a) (vs:Vs) (σ:Store):ResS:=
 (sq (bnd (bnd (bnd (bnd (nm vs 0 σ) λ a b=>(bnd (some (.none,b)) λ c d=>(bnd (some ((.int 1),d)) λ e f=>(bnd (some (.none,f)) λ g h=>(q2l h a c e g))))) λ i j=>(bnd (some ((.str "{"),j)) λ k l=>(cmpT l .Eq i k))) λ m n=>if m=true then(bnd (bnd (bnd (nm vs 0 n) λ o p=>(bnd (some ((.int 1),p)) λ q r=>(bnd (some (.none,r)) λ s t=>(bnd (some (.none,t)) λ u v=>(q2l v o q s u))))) λ w x=>(q0l T x w "split").bind λ y=>bnd (evC (some ((.str "}"),x)) λ z=>(some ([],z))) λ A B=>bnd (some ([],B)) λ D E=>q0g T C y A D E) λ F G=>(bnd (some ((.int 0),G)) λ H I=>(getR I F H)))else(some ((.str ""),n))) λ J K=>some (q0b.ret J,vs,K)) λ L M=>(some (q0b.next,L,M)))
theorem w5w (C:q0a) (vs:Vs) (σ:Store):q0w (evN T C 40) (fnOf 187).scope.names (q0f (fnOf 187).scope) (fnOf 187).body vs σ=w3i C vs σ:=by kernel_rfl
noncomputable def w7y (C:q0a) (vs:Vs) (σ:Store):ResS:=
 (bnd (some ((.str "http://www.w3.org/XML/1998/namespace"),σ)) λ b c=>bnd (bnd (some (setI vs 1 b,c)) λ d e=>(some (d,e))) λ f g=>some (q0b.next,f,g))
noncomputable def k6a (C:q0a) (a:AV) (b:Vs×List AV) (c:Store):Option ((Vs×List AV)×Store):=
 bnd (some (setI b.1 1 a,c)) λ d e=>bnd (some (true,e)) λ f g=>if f=true then bnd (q4c b.2 (bnd (some ((.str "k"),g)) λ h i=>(bnd (bnd (some ((.bf .str),i)) λ j l=>bnd (evC (nm d 1 l) λ m=>(some ([],m))) λ n o=>bnd (some ([],o)) λ p q=>q0i T C j n p q) λ r s=>(binR s .Add h r)))) λ t u=>some ((d,t),u)else some ((d,b.2),g)
noncomputable def w7z (C:q0a) (vs:Vs) (σ:Store):ResS:=
 (bnd (bnd (bnd (bnd (evC (some (.lit "",σ)) λ a=>(evC (nm vs 1 a) λ b=>(some ([],b)))) λ c d=>if c.length<=sizeLine then q0j false c d else none) λ e f=>(bnd (bnd (bnd (bnd (some ((.bf .range),f)) λ g h=>bnd (evC (some ((.int 11),h)) λ i=>(some ([],i))) λ j l=>bnd (some ([],l)) λ m n=>q0i T C g j m n) λ o p=>bnd (if(!goN o)=true then none else q1h o (k6a C) ((none::none::vs),[]) p) λ q s=>some (q.2,s)) λ t u=>q0j false t u) λ v w=>(binR w .Add e v))) λ x y=>(bnd (bnd (evC (some (.lit "k&\"<\r",y)) λ z=>(some ([],z))) λ A B=>if A.length<=sizeLine then q0j false A B else none) λ D E=>(binR E .Add x D))) λ F G=>bnd (bnd (some (setI vs 3 F,G)) λ H I=>(some (H,I))) λ J K=>some (q0b.next,J,K))
noncomputable def w8a (C:q0a) (vs:Vs) (σ:Store):ResS:=
 (bnd (bnd (evC (bnd (some ([],σ)) λ a b=>if a.length<=sizeLine then q0j true a b else none) λ c=>(evC (bnd (some ([],c)) λ d e=>if d.length<=sizeLine then q0j true d e else none) λ f=>(some ([],f)))) λ g h=>if g.length<=sizeLine then some (.tup g,h)else none) λ i j=>(q1n j i).bind λ k=>((asC k.reverse λ l m=>(asC m λ n o=>(putE o (setI (setI vs 5 l) 4 n))))).bind λ p=>some (q0b.next,p,j))
noncomputable def w8b (C:q0a) (vs:Vs) (σ:Store):ResS:=
 (bnd (bnd (some ((.fn 150),σ)) λ a b=>bnd (evC (bnd (nm vs 4 b) λ c d=>(q1b d c "append")) λ e=>(some ([],e))) λ f g=>bnd (kwC "rewrite_prefixes" (some ((.bool true),g)) λ h=>(some ([],h))) λ i j=>q0i T C a f i j) λ k l=>bnd (bnd (some (setI vs 6 k,l)) λ m n=>(some (m,n))) λ o p=>some (q0b.next,o,p))
noncomputable def w8c (C:q0a) (vs:Vs) (σ:Store):ResS:=
 (bnd (bnd (some ((.fn 150),σ)) λ a b=>bnd (evC (bnd (bnd (some ([],b)) λ c d=>if c.length<=sizeLine then q0j true c d else none) λ e f=>(q1b f e "append")) λ g=>(some ([],g))) λ h i=>bnd (kwC "rewrite_prefixes" (some ((.bool true),i)) λ j=>(some ([],j))) λ k l=>q0i T C a h k l) λ m n=>bnd (bnd (some (setI vs 7 m,n)) λ o p=>(some (o,p))) λ q r=>some (q0b.next,q,r))
noncomputable def w8d (C:q0a) (vs:Vs) (σ:Store):ResS:=
 (bnd (some ((.fn 173),σ)) λ a b=>bnd (bnd (bnd (nm vs 7 b) λ c d=>((q0q T d c "_iter_namespaces" a).bind λ z=>some (vs,z))) λ e f=>(some (e,f))) λ g h=>some (q0b.next,g,h))
noncomputable def w8e (C:q0a) (vs:Vs) (σ:Store):ResS:=
 (bnd (bnd (nm vs 7 σ) λ a b=>(q0l T b a "start").bind λ c=>bnd (evC (some ((.str "{z}z"),b)) λ d=>(evC (bnd (some ([],d)) λ e f=>q1z false (q2n e) f) λ g=>(some ([],g)))) λ h i=>bnd (some ([],i)) λ j k=>q0g T C c h j k) λ l m=>some (q0b.next,vs,m))
noncomputable def w8f (C:q0a) (vs:Vs) (σ:Store):ResS:=
 (bnd (bnd (some ((.fn 150),σ)) λ a b=>bnd (evC (bnd (nm vs 5 b) λ c d=>(q1b d c "append")) λ e=>(some ([],e))) λ f g=>bnd (kwC "rewrite_prefixes" (some ((.bool true),g)) λ h=>(some ([],h))) λ i j=>q0i T C a f i j) λ k l=>bnd (bnd (some (setI vs 8 k,l)) λ m n=>(some (m,n))) λ o p=>some (q0b.next,o,p))
noncomputable def w8g (C:q0a) (vs:Vs) (σ:Store):ResS:=
 (bnd (some ((.fn 173),σ)) λ a b=>bnd (bnd (bnd (nm vs 6 b) λ c d=>((q0q T d c "_iter_namespaces" a).bind λ z=>some (vs,z))) λ e f=>(some (e,f))) λ g h=>some (q0b.next,g,h))
noncomputable def w8h (C:q0a) (vs:Vs) (σ:Store):ResS:=
 (bnd (some ((.fn 173),σ)) λ a b=>bnd (bnd (bnd (nm vs 8 b) λ c d=>((q0q T d c "_iter_namespaces" a).bind λ z=>some (vs,z))) λ e f=>(some (e,f))) λ g h=>some (q0b.next,g,h))
noncomputable def w4m (C:q0a) (vs:Vs) (σ:Store):ResS:=
 (bnd (bnd (evC (bnd (some ([],σ)) λ a b=>if a.length<=sizeLine then q0j true a b else none) λ c=>(evC (bnd (some ([],c)) λ d e=>if d.length<=sizeLine then q0j true d e else none) λ f=>(evC (some ((.str ""),f)) λ g=>(some ([],g))))) λ h i=>if h.length<=sizeLine then some (.tup h,i)else none) λ j k=>bnd (bnd ((q1n k j).bind λ l=>(asC l λ m n=>bnd (some (setI vs 9 m,k)) λ o p=>(asC n λ q r=>bnd (some (setI o 10 q,p)) λ s t=>(asC r λ u v=>bnd (some (setI s 11 u,t)) λ w x=>(asE v w x))))) λ y z=>(some (y,z))) λ A B=>some (q0b.next,A,B))
noncomputable def q7c (C:q0a) (a:AV) (b:Vs×List AV) (c:Store):Option ((Vs×List AV)×Store):=
 bnd (some (setI b.1 1 a,c)) λ d e=>bnd (some (true,e)) λ f g=>if f=true then bnd (q4c b.2 (bnd (evC (bnd (nm d 1 g) λ h i=>(bnd (some ((.int 4),i)) λ j k=>(binR k .Mod h j))) λ l=>(evC (bnd (nm d 1 l) λ m n=>(bnd (some ((.int 4),n)) λ o p=>(binR p .FloorDiv m o))) λ q=>(some ([],q)))) λ r s=>if r.length<=sizeLine then some (.tup r,s)else none)) λ t u=>some ((d,t),u)else some ((d,b.2),g)
noncomputable def q3z (C:q0a) (vs:Vs) (σ:Store):ResS:=
 (bnd (bnd (bnd (bnd (bnd (evC (bnd (evC (some ((.int 0),σ)) λ a=>(evC (bnd (some ((.bf .sum),a)) λ b c=>bnd (evC (bnd (nm vs 0 c) λ d e=>(bnd (some (.none,e)) λ f g=>(bnd (some ((.int 1),g)) λ h i=>(bnd (some (.none,i)) λ j k=>(q2l k d f h j))))) λ l=>(some ([],l))) λ m n=>bnd (some ([],n)) λ o p=>q0i T C b m o p) λ q=>(some ([],q)))) λ r s=>if r.length<=sizeLine then some (.tup r,s)else none) λ t=>(some ([],t))) λ u v=>if u.length<=sizeLine then q0j false u v else none) λ w x=>(bnd (bnd (bnd (bnd (nm vs 0 x) λ y z=>(bnd (some ((.int 1),z)) λ A B=>(bnd (some (.none,B)) λ D E=>(bnd (some (.none,E)) λ F G=>(q2l G y A D F))))) λ H I=>bnd (if(!goN H)=true then none else q1h H (q7c C) ((none::none::vs),[]) I) λ J K=>some (J.2,K)) λ L M=>q0j false L M) λ N O=>(binR O .Add w N))) λ P Q=>(bnd (bnd (bnd (evC (bnd (evC (some ((.int 2),Q)) λ R=>(evC (some ((.int 0),R)) λ S=>(some ([],S)))) λ U V=>if U.length<=sizeLine then some (.tup U,V)else none) λ W=>(some ([],W))) λ X Y=>if X.length<=sizeLine then q0j false X Y else none) λ Z aa=>(bnd (bnd (some ((.bf .len),aa)) λ ab ac=>bnd (evC (nm vs 0 ac) λ ad=>(some ([],ad))) λ ae af=>bnd (some ([],af)) λ ag ah=>q0i T C ab ae ag ah) λ ai aj=>(binR aj .Mult Z ai))) λ ak al=>(binR al .Add P ak))) λ am an=>(bnd (bnd (evC (bnd (evC (some ((.int 4),an)) λ ao=>(evC (some ((.int 0),ao)) λ ap=>(some ([],ap)))) λ aq ar=>if aq.length<=sizeLine then some (.tup aq,ar)else none) λ au=>(some ([],au))) λ av aw=>if av.length<=sizeLine then q0j false av aw else none) λ ax ay=>(binR ay .Add am ax))) λ az aA=>bnd (bnd (some (setI vs 12 az,aA)) λ aB aC=>(some (aB,aC))) λ aD aE=>some (q0b.next,aD,aE))
noncomputable def w3w (C:q0a) (vs:Vs) (σ:Store):ResS:=
 (bnd (bnd (some ((.fn 180),σ)) λ c d=>bnd (evC (bnd (nm vs 3 d) λ e f=>(bnd (bnd (nm vs 14 f) λ g h=>(bnd (some ((.int 14),h)) λ i j=>(binR j .Mod g i))) λ k l=>(getR l e k))) λ m=>(evC (bnd (bnd (evC (some ((.str "a"),m)) λ n=>(evC (some ((.str "b"),n)) λ o=>(some ([],o)))) λ p q=>if p.length<=sizeLine then q0j false p q else none) λ r s=>(bnd (bnd (bnd (nm vs 14 s) λ t u=>(bnd (some ((.int 14),u)) λ v w=>(binR w .FloorDiv t v))) λ x y=>(bnd (some ((.int 2),y)) λ z A=>(binR A .Mod x z))) λ B D=>(getR D r B))) λ E=>(some ([],E)))) λ F G=>bnd (some ([],G)) λ H I=>q0i T C c F H I) λ J K=>bnd (bnd (some (setI vs 15 J,K)) λ L M=>(some (L,M))) λ N O=>some (q0b.next,N,O))
noncomputable def w3x (C:q0a) (vs:Vs) (σ:Store):ResS:=
 (bnd (bnd (some ([],σ)) λ a b=>q1z true (q2n a) b) λ c d=>bnd (bnd (some (setI vs 16 c,d)) λ e f=>(some (e,f))) λ g h=>some (q0b.next,g,h))
noncomputable def z4e (C:q0a) (vs:Vs) (σ:Store):ResS:=
 (bnd (bnd (bnd (nm vs 14 σ) λ a b=>(bnd (some ((.int 112),b)) λ c d=>(binR d .FloorDiv a c))) λ e f=>(bnd (bnd (bnd (bnd (evC (some ((.int 5),f)) λ g=>(evC (some ((.int 14),g)) λ h=>(some ([],h)))) λ i j=>if i.length<=sizeLine then q0j false i j else none) λ k l=>(bnd (bnd (nm vs 14 l) λ m n=>(bnd (some ((.int 2),n)) λ o p=>(binR p .Mod m o))) λ q r=>(getR r k q))) λ s t=>(bnd (nm vs 2 t) λ u v=>(binR v .Mult s u))) λ w x=>(binR x .Add e w))) λ y z=>bnd (bnd (some (setI vs 17 y,z)) λ A B=>(some (A,B))) λ D E=>some (q0b.next,D,E))
noncomputable def q7f (C:q0a) (vs:Vs) (σ:Store):ResS:=
 (bnd (bnd (bnd (nm vs 3 σ) λ c d=>(bnd (some ((.int 13),d)) λ e f=>(getR f c e))) λ g h=>(bnd (bnd (some ((.bf .str),h)) λ i j=>bnd (evC (nm vs 2 j) λ k=>(some ([],k))) λ l m=>bnd (some ([],m)) λ n o=>q0i T C i l n o) λ p q=>(binR q .Add g p))) λ r s=>bnd (bnd (bnd (nm vs 16 s) λ t u=>(bnd (bnd (some ((.fn 180),u)) λ v w=>bnd (evC (bnd (nm vs 3 w) λ x y=>(bnd (bnd (nm vs 17 y) λ z A=>(bnd (some ((.int 14),A)) λ B D=>(binR D .Mod z B))) λ E F=>(getR F x E))) λ G=>(evC (bnd (bnd (evC (some ((.str "a"),G)) λ H=>(evC (some ((.str "b"),H)) λ I=>(some ([],I)))) λ J K=>if J.length<=sizeLine then q0j false J K else none) λ L M=>(bnd (bnd (bnd (nm vs 17 M) λ N O=>(bnd (some ((.int 14),O)) λ P Q=>(binR Q .FloorDiv N P))) λ R S=>(bnd (some ((.int 2),S)) λ U V=>(binR V .Mod R U))) λ W X=>(getR X L W))) λ Y=>(some ([],Y)))) λ Z aa=>bnd (some ([],aa)) λ ab ac=>q0i T C v Z ab ac) λ ad ae=>(putS t ad r vs ae))) λ af ag=>(some (af,ag))) λ ah ai=>some (q0b.next,ah,ai))
noncomputable def q5i (C:q0a) (a:AV) (b:Vs) (c:Store):ResS:=
 bnd (some (setI b 2 a,c)) λ d e=>(sq (z4e C d e) λ f g=>(sq (q7f C f g) λ h i=>(some (q0b.next,h,i))))
noncomputable def q8f (C:q0a) (vs:Vs) (σ:Store):ResS:=
 (bnd (bnd (some ((.bf .range),σ)) λ a b=>bnd (evC (bnd (bnd (nm vs 14 b) λ c d=>(bnd (some ((.int 28),d)) λ e f=>(binR f .FloorDiv c e))) λ g h=>(bnd (some ((.int 4),h)) λ i j=>(binR j .Mod g i))) λ k=>(some ([],k))) λ l m=>bnd (some ([],m)) λ n o=>q0i T C a l n o) λ p q=>if frozen p=true then(q2g q p).bind λ r=>forA (q5i C) r vs q else none)
noncomputable def q8g (C:q0a) (vs:Vs) (σ:Store):ResS:=
 (bnd (bnd (some ((.bf .dict),σ)) λ a b=>bnd (evC (nm vs 16 b) λ c=>(some ([],c))) λ d e=>bnd (some ([],e)) λ f g=>q0i T C a d f g) λ h i=>bnd (bnd (some (setI vs 18 h,i)) λ j k=>(some (j,k))) λ l m=>some (q0b.next,l,m))
noncomputable def q8h (C:q0a) (vs:Vs) (σ:Store):ResS:=
 (bnd (bnd (nm vs 6 σ) λ a b=>(q0l T b a "start").bind λ c=>bnd (evC (nm vs 15 b) λ d=>(evC (nm vs 18 d) λ e=>(some ([],e)))) λ f g=>bnd (some ([],g)) λ h i=>q0g T C c f h i) λ j k=>some (q0b.next,vs,k))
noncomputable def z6p (C:q0a) (vs:Vs) (σ:Store):ResS:=
 (bnd (some ((.bool false),σ)) λ a b=>some (q0b.ret a,vs,b))
noncomputable def z3z (C:q0a) (a:Vs) (b:Store):ResS:=
 (sq (z6p C a b) λ c d=>(some (q0b.next,c,d)))
noncomputable def q5y (C:q0a) (vs:Vs) (σ:Store):ResS:=
 (bnd (bnd (nm vs 18 σ) λ a b=>(bnd (nm vs 16 b) λ c d=>(cmpT d .NotEq a c))) λ e f=>if e=true then(z3z C vs f)else(some (q0b.next,vs,f)))
noncomputable def q5z (C:q0a) (vs:Vs) (σ:Store):ResS:=
 (bnd (bnd (nm vs 8 σ) λ a b=>(q0l T b a "start_ns").bind λ c=>bnd (evC (bnd (some ((.str "n"),b)) λ d e=>(bnd (bnd (some ((.bf .str),e)) λ f g=>bnd (evC (bnd (nm vs 14 g) λ h i=>(bnd (some ((.int 5),i)) λ j k=>(binR k .Mod h j))) λ l=>(some ([],l))) λ m o=>bnd (some ([],o)) λ p q=>q0i T C f m p q) λ r s=>(binR s .Add d r))) λ t=>(evC (bnd (some ((.fn 187),t)) λ u v=>bnd (evC (nm vs 15 v) λ w=>(some ([],w))) λ x y=>bnd (some ([],y)) λ z A=>q0i T C u x z A) λ B=>(some ([],B)))) λ D E=>bnd (some ([],E)) λ F G=>q0g T C c D F G) λ H I=>some (q0b.next,vs,I))
noncomputable def q6a (C:q0a) (vs:Vs) (σ:Store):ResS:=
 (bnd (bnd (nm vs 7 σ) λ a b=>(q0l T b a "start").bind λ c=>bnd (evC (bnd (bnd (some ((.str "{y"),b)) λ d e=>(bnd (bnd (some ((.bf .str),e)) λ f g=>bnd (evC (bnd (some ((.bf .len),g)) λ h i=>bnd (evC (nm vs 10 i) λ j=>(some ([],j))) λ k l=>bnd (some ([],l)) λ m n=>q0i T C h k m n) λ o=>(some ([],o))) λ p q=>bnd (some ([],q)) λ r s=>q0i T C f p r s) λ t u=>(binR u .Add d t))) λ v w=>(bnd (some ((.str "}y"),w)) λ x z=>(binR z .Add v x))) λ A=>(evC (bnd (some ([],A)) λ B D=>q1z false (q2n B) D) λ E=>(some ([],E)))) λ F G=>bnd (some ([],G)) λ H I=>q0g T C c F H I) λ J K=>some (q0b.next,vs,K))
noncomputable def q9u (C:q0a) (a:AV) (b:Vs×List (Str×AV)) (c:Store):Option ((Vs×List (Str×AV))×Store):=
 bnd (some (setI b.1 1 a,c)) λ d e=>bnd (some (true,e)) λ f g=>if f=true then bnd (bnd (nm d 1 g) λ h i=>(bnd (bnd (nm d 18 i) λ j k=>(bnd (nm d 1 k) λ l m=>(getR m j l))) λ n o=>(w5f b.2 h n o))) λ p q=>some ((d,p),q)else some ((d,b.2),g)
noncomputable def q6b (C:q0a) (vs:Vs) (σ:Store):ResS:=
 (bnd (bnd (nm vs 8 σ) λ a b=>(q0l T b a "start").bind λ c=>bnd (evC (nm vs 15 b) λ d=>(evC (bnd (bnd (bnd (bnd (some ((.bf .list),d)) λ e f=>bnd (evC (nm vs 16 f) λ g=>(some ([],g))) λ h i=>bnd (some ([],i)) λ j k=>q0i T C e h j k) λ l m=>(bnd (some (.none,m)) λ n o=>(bnd (some (.none,o)) λ p q=>(bnd (negE (some ((.int 1),q))) λ r s=>(q2l s l n p r))))) λ t u=>bnd (if(!goN t)=true then none else q1h t (q9u C) ((none::none::vs),[]) u) λ v w=>some (v.2,w)) λ x y=>q1z false x y) λ z=>(some ([],z)))) λ A B=>bnd (some ([],B)) λ D E=>q0g T C c A D E) λ F G=>some (q0b.next,vs,G))
noncomputable def q9v (C:q0a) (a:AV) (b:Vs×List AV) (c:Store):Option ((Vs×List AV)×Store):=
 bnd (some (setI b.1 1 a,c)) λ d e=>bnd (some (true,e)) λ f g=>if f=true then bnd (q4c b.2 (bnd (some ((.fn 187),g)) λ h i=>bnd (evC (nm d 1 i) λ j=>(some ([],j))) λ k l=>bnd (some ([],l)) λ m n=>q0i T C h k m n)) λ o p=>some ((d,o),p)else some ((d,b.2),g)
noncomputable def q6c (C:q0a) (vs:Vs) (σ:Store):ResS:=
 (bnd (bnd (bnd (bnd (bnd (evC (nm vs 15 σ) λ a=>(some ([],a))) λ b c=>if b.length<=sizeLine then q0j false b c else none) λ d e=>(bnd (bnd (some ((.bf .list),e)) λ f g=>bnd (evC (nm vs 16 g) λ h=>(some ([],h))) λ i j=>bnd (some ([],j)) λ k l=>q0i T C f i k l) λ m n=>(binR n .Add d m))) λ o p=>bnd (if(!goN o)=true then none else q1h o (q9v C) ((none::none::vs),[]) p) λ q r=>some (q.2,r)) λ s t=>q0j false s t) λ u v=>bnd (bnd (some (setI vs 20 u,v)) λ w x=>(some (w,x))) λ y z=>some (q0b.next,y,z))
noncomputable def w4i (C:q0a) (a:AV) (b:Vs×List AV) (c:Store):Option ((Vs×List AV)×Store):=
 bnd (some (setI b.1 1 a,c)) λ d e=>bnd (bnd (andT (bnd (nm d 1 e) λ f g=>(bnd (nm d 22 g) λ h i=>(cmpT i .In f h))) λ j=>(andT (bnd (nm d 1 j) λ k l=>(bnd (nm d 3 l) λ m n=>(cmpT n .NotEq k m))) λ o=>(some (true,o)))) λ p q=>if p=true then(some (true,q))else some (false,q)) λ r s=>if r=true then bnd (q4c b.2 (nm d 1 s)) λ t u=>some ((d,t),u)else some ((d,b.2),s)
noncomputable def q4j (C:q0a) (vs:Vs) (σ:Store):ResS:=
 (bnd (bnd (bnd (bnd (some ((.bf .sorted),σ)) λ a b=>bnd (evC (nm vs 3 b) λ c=>(some ([],c))) λ d e=>bnd (some ([],e)) λ f g=>q0i T C a d f g) λ h i=>bnd (if(!goN h)=true then none else q1h h (w4i C) ((none::none::vs),[]) i) λ j k=>some (j.2,k)) λ l m=>q0j false l m) λ n o=>bnd (bnd (some (setI vs 20 n,o)) λ p q=>(some (p,q))) λ r s=>some (q0b.next,r,s))
noncomputable def w4j (C:q0a) (a:AV) (b:Vs×List AV) (c:Store):Option ((Vs×List AV)×Store):=
 bnd (some (setI b.1 1 a,c)) λ d e=>bnd (bnd (bnd (nm d 1 e) λ f g=>(bnd (nm d 11 g) λ h i=>(cmpT i .NotIn f h))) λ j k=>if j=true then(some (true,k))else some (false,k)) λ l m=>if l=true then bnd (q4c b.2 (nm d 1 m)) λ n o=>some ((d,n),o)else some ((d,b.2),m)
noncomputable def q4k (C:q0a) (vs:Vs) (σ:Store):ResS:=
 (bnd (bnd (nm vs 9 σ) λ a b=>(q0l T b a "extend").bind λ c=>bnd (evC (bnd (bnd (nm vs 20 b) λ d e=>bnd (if(!goN d)=true then none else q1h d (w4j C) ((none::none::vs),[]) e) λ f g=>some (f.2,g)) λ h i=>q0j false h i) λ j=>(some ([],j))) λ k l=>bnd (some ([],l)) λ m n=>q0g T C c k m n) λ o p=>some (q0b.next,vs,p))
noncomputable def q9w (C:q0a) (a:AV) (b:Vs×List (Str×AV)) (c:Store):Option ((Vs×List (Str×AV))×Store):=
 bnd (some (setI b.1 1 a,c)) λ d e=>bnd (some (true,e)) λ f g=>if f=true then bnd (bnd (nm d 1 g) λ h i=>(bnd (bnd (some ((.str "n"),i)) λ j k=>(bnd (bnd (some ((.bf .str),k)) λ l m=>bnd (evC (bnd (nm d 11 m) λ o p=>(q0l T p o "index").bind λ q=>bnd (evC (nm d 1 p) λ r=>(some ([],r))) λ s t=>bnd (some ([],t)) λ u v=>q0g T C q s u v) λ w=>(some ([],w))) λ x y=>bnd (some ([],y)) λ z A=>q0i T C l x z A) λ B D=>(binR D .Add j B))) λ E F=>(w5f b.2 h E F))) λ G H=>some ((d,G),H)else some ((d,b.2),g)
noncomputable def q4l (C:q0a) (vs:Vs) (σ:Store):ResS:=
 (bnd (bnd (bnd (nm vs 9 σ) λ a b=>bnd (if(!goN a)=true then none else q1h a (q9w C) ((none::none::vs),[]) b) λ c d=>some (c.2,d)) λ e f=>q1z true e f) λ g h=>bnd (bnd (some (setI vs 21 g,h)) λ i j=>(some (i,j))) λ k l=>some (q0b.next,k,l))
noncomputable def q4m (C:q0a) (vs:Vs) (σ:Store):ResS:=
 (bnd (some ((.str "xml"),σ)) λ a b=>bnd (bnd (bnd (nm vs 21 b) λ c d=>(bnd (nm vs 1 d) λ e f=>(putS c e a vs f))) λ g h=>(some (g,h))) λ i j=>some (q0b.next,i,j))
noncomputable def w4k (C:q0a) (a:AV) (b:Vs×List AV) (c:Store):Option ((Vs×List AV)×Store):=
 bnd (some (setI b.1 4 a,c)) λ d e=>bnd (some (true,e)) λ f g=>if f=true then bnd (q4c b.2 (nm d 4 g)) λ h i=>some ((d,h),i)else some ((d,b.2),g)
noncomputable def w4l (C:q0a) (a:AV) (b:Vs×List AV) (c:Store):Option ((Vs×List AV)×Store):=
 bnd ((q1n c a).bind λ d=>(asC d λ e f=>bnd (some (setI b.1 1 e,c)) λ g h=>(asC f λ i j=>bnd (some (setI g 2 i,h)) λ k l=>(asC j λ m n=>bnd (some (setI k 3 m,l)) λ o p=>(asE n o p))))) λ q r=>bnd (some (true,r)) λ s t=>if s=true then bnd (nm q 3 t) λ u v=>(if(!goN u)=true then none else q1h u (w4k C) (q,b.2) v)else some ((q,b.2),t)
noncomputable def q4n (C:q0a) (vs:Vs) (σ:Store):ResS:=
 (bnd (bnd (bnd (nm vs 10 σ) λ a b=>bnd (if(!goT a)=true then none else q1h a (w4l C) ((none::none::none::none::none::vs),[]) b) λ c d=>some (c.2,d)) λ e f=>q0j false e f) λ g h=>bnd (bnd (some (setI vs 23 g,h)) λ i j=>(some (i,j))) λ k l=>some (q0b.next,k,l))
noncomputable def q7p (C:q0a) (a:AV) (b:Vs×List AV) (c:Store):Option ((Vs×List AV)×Store):=
 bnd (some (setI b.1 1 a,c)) λ d e=>bnd (bnd (bnd (nm d 1 e) λ f g=>(bnd (nm d 25 g) λ h i=>(cmpT i .NotIn f h))) λ j k=>if j=true then(some (true,k))else some (false,k)) λ l m=>if l=true then bnd (q4c b.2 (bnd (evC (bnd (nm d 23 m) λ n o=>(bnd (nm d 1 o) λ p q=>(getR q n p))) λ r=>(evC (nm d 1 r) λ s=>(some ([],s)))) λ t u=>if t.length<=sizeLine then some (.tup t,u)else none)) λ v w=>some ((d,v),w)else some ((d,b.2),m)
noncomputable def q4o (C:q0a) (vs:Vs) (σ:Store):ResS:=
 (bnd (bnd (some ((.bf .sorted),σ)) λ a b=>bnd (evC (bnd (bnd (nm vs 20 b) λ c d=>bnd (if(!goN c)=true then none else q1h c (q7p C) ((none::none::vs),[]) d) λ e f=>some (e.2,f)) λ g h=>q0j false g h) λ i=>(some ([],i))) λ j k=>bnd (some ([],k)) λ l m=>q0i T C a j l m) λ n o=>bnd (bnd (some (setI vs 24 n,o)) λ p q=>(some (p,q))) λ r s=>some (q0b.next,r,s))
noncomputable def q4p (C:q0a) (vs:Vs) (σ:Store):ResS:=
 (bnd (bnd (bnd (bnd (nm vs 21 σ) λ a b=>(bnd (bnd (some ((.fn 187),b)) λ c d=>bnd (evC (nm vs 15 d) λ e=>(some ([],e))) λ f g=>bnd (some ([],g)) λ h i=>q0i T C c f h i) λ j k=>(getR k a j))) λ l m=>(bnd (some ((.str ":"),m)) λ n o=>(binR o .Add l n))) λ p q=>(bnd (bnd (bnd (nm vs 15 q) λ r s=>(q0l T s r "split").bind λ t=>bnd (evC (some ((.str "}"),s)) λ u=>(some ([],u))) λ v w=>bnd (some ([],w)) λ x y=>q0g T C t v x y) λ z A=>(bnd (negE (some ((.int 1),A))) λ B D=>(getR D z B))) λ E F=>(binR F .Add p E))) λ G H=>bnd (bnd (some (setI vs 22 G,H)) λ I J=>(some (I,J))) λ K L=>some (q0b.next,K,L))
noncomputable def q4q (C:q0a) (vs:Vs) (σ:Store):ResS:=
 (bnd (bnd (nm vs 10 σ) λ a b=>(q0l T b a "append").bind λ c=>bnd (evC (bnd (evC (nm vs 15 b) λ d=>(evC (nm vs 22 d) λ e=>(evC (nm vs 20 e) λ f=>(some ([],f))))) λ g h=>if g.length<=sizeLine then some (.tup g,h)else none) λ i=>(some ([],i))) λ j k=>bnd (some ([],k)) λ l m=>q0g T C c j l m) λ n o=>some (q0b.next,vs,o))
noncomputable def q7b (C:q0a) (vs:Vs) (σ:Store):ResS:=
 (bnd (some (.lit "k&amp;&quot;&lt;&#xD;",σ)) λ a b=>bnd (bnd (some (setI vs 25 a,b)) λ c d=>(some (c,d))) λ e f=>some (q0b.next,e,f))
noncomputable def q7q (C:q0a) (a:AV) (b:Vs×List AV) (c:Store):Option ((Vs×List AV)×Store):=
 bnd ((q1n c a).bind λ d=>(asC d λ e f=>bnd (some (setI b.1 1 e,c)) λ g h=>(asC f λ i j=>bnd (some (setI g 2 i,h)) λ k l=>(asE j k l)))) λ m n=>bnd (some (true,n)) λ o p=>if o=true then bnd (q4c b.2 (bnd (bnd (bnd (bnd (some ((.str " xmlns:"),p)) λ q r=>(bnd (nm m 1 r) λ s t=>(binR t .Add q s))) λ u w=>(bnd (some ((.str "=\""),w)) λ x y=>(binR y .Add u x))) λ z A=>(bnd (bnd (nm m 2 A) λ B D=>(k5r B ((w5l m 6).bind λ v=>(getA D v (.int 13)).bind litV) ((w5l m 28).bind litV) D)) λ E F=>(binR F .Add z E))) λ G H=>(bnd (some ((.str "\""),H)) λ I J=>(binR J .Add G I)))) λ K L=>some ((m,K),L)else some ((m,b.2),p)
noncomputable def q4r (C:q0a) (vs:Vs) (σ:Store):ResS:=
 ((w5l vs 11).bind λ a=>(bnd (bnd (bnd (some ((.str "<"),σ)) λ b c=>(bnd (nm vs 22 c) λ d e=>(binR e .Add b d))) λ f g=>(bnd (bnd (some ((.str ""),g)) λ h i=>(q0l T i h "join").bind λ j=>bnd (evC (bnd (bnd (nm vs 24 i) λ k l=>bnd (if(!goT k)=true then none else q1h k (q7q C) ((none::none::none::vs),[]) l) λ m n=>some (m.2,n)) λ o p=>q0j false o p) λ q=>(some ([],q))) λ r s=>bnd (some ([],s)) λ t u=>q0g T C j r t u) λ v w=>(binR w .Add f v))) λ x y=>(augA .Add (norm a) x).bind λ z=>some (q0b.next,setI vs 11 z,y)))
noncomputable def z4f (C:q0a) (vs:Vs) (σ:Store):ResS:=
 (bnd (bnd (bnd (bnd (nm vs 19 σ) λ a b=>(bnd (some (.none,b)) λ c d=>(bnd (some ((.int 1),d)) λ e f=>(bnd (some (.none,f)) λ g h=>(q2l h a c e g))))) λ i j=>(bnd (some ((.str "{"),j)) λ k l=>(cmpT l .Eq i k))) λ m n=>if m=true then(bnd (bnd (nm vs 21 n) λ o p=>(bnd (bnd (some ((.fn 187),p)) λ q r=>bnd (evC (nm vs 19 r) λ s=>(some ([],s))) λ t u=>bnd (some ([],u)) λ v w=>q0i T C q t v w) λ x y=>(getR y o x))) λ z A=>(bnd (some ((.str ":"),A)) λ B D=>(binR D .Add z B)))else(some ((.str ""),n))) λ E F=>bnd (bnd (some (setI vs 26 E,F)) λ G H=>(some (G,H))) λ I J=>some (q0b.next,I,J))
noncomputable def q7g (C:q0a) (vs:Vs) (σ:Store):ResS:=
 ((w5l vs 11).bind λ a=>(bnd (bnd (bnd (bnd (bnd (bnd (some ((.str " "),σ)) λ b c=>(bnd (nm vs 26 c) λ d e=>(binR e .Add b d))) λ f g=>(bnd (bnd (bnd (nm vs 19 g) λ h i=>(q0l T i h "split").bind λ j=>bnd (evC (some ((.str "}"),i)) λ k=>(some ([],k))) λ l m=>bnd (some ([],m)) λ n o=>q0g T C j l n o) λ p q=>(bnd (negE (some ((.int 1),q))) λ r s=>(getR s p r))) λ t u=>(binR u .Add f t))) λ w x=>(bnd (some ((.str "=\""),x)) λ y z=>(binR z .Add w y))) λ A B=>(bnd (bnd (bnd (nm vs 16 B) λ D E=>(bnd (nm vs 19 E) λ F G=>(getR G D F))) λ H I=>(k5r H ((w5l vs 3).bind λ v=>(getA I v (.int 13)).bind litV) ((w5l vs 25).bind litV) I)) λ J K=>(binR K .Add A J))) λ L M=>(bnd (some ((.str "\""),M)) λ N O=>(binR O .Add L N))) λ P Q=>(augA .Add (norm a) P).bind λ R=>some (q0b.next,setI vs 11 R,Q)))
noncomputable def q5j (C:q0a) (a:AV) (b:Vs) (c:Store):ResS:=
 bnd (some (setI b 19 a,c)) λ d e=>(sq (z4f C d e) λ f g=>(sq (q7g C f g) λ h i=>(some (q0b.next,h,i))))
noncomputable def q4s (C:q0a) (vs:Vs) (σ:Store):ResS:=
 (bnd (bnd (some ((.bf .sorted),σ)) λ a b=>bnd (evC (nm vs 16 b) λ c=>(some ([],c))) λ d e=>bnd (some ([],e)) λ f g=>q0i T C a d f g) λ h i=>if frozen h=true then(q2g i h).bind λ j=>forA (q5j C) j vs i else none)
noncomputable def q4t (C:q0a) (vs:Vs) (σ:Store):ResS:=
 ((w5l vs 11).bind λ a=>(bnd (some ((.str ">"),σ)) λ b c=>(augA .Add (norm a) b).bind λ d=>some (q0b.next,setI vs 11 d,c)))
noncomputable def q9t (C:q0a) (a:Vs) (b:Store):ResS:=
 (sq (w3w C a b) λ c d=>(sq (w3x C c d) λ e f=>(sq (q8f C e f) λ g h=>(sq (q8g C g h) λ i j=>(sq (q8h C i j) λ k l=>(sq (q5y C k l) λ m n=>(sq (q5z C m n) λ o p=>(sq (q6a C o p) λ q r=>(sq (q6b C q r) λ s t=>(sq (q6c C s t) λ u v=>(sq (q4j C u v) λ w x=>(sq (q4k C w x) λ y z=>(sq (q4l C y z) λ A B=>(sq (q4m C A B) λ D E=>(sq (q4n C D E) λ F G=>(sq (q4o C F G) λ H I=>(sq (q4p C H I) λ J K=>(sq (q4q C J K) λ L M=>(sq (q7b C L M) λ N O=>(sq (q4r C N O) λ P Q=>(sq (q4s C P Q) λ R S=>(sq (q4t C R S) λ U V=>(some (q0b.next,U,V))))))))))))))))))))))))
noncomputable def q8i (C:q0a) (vs:Vs) (σ:Store):ResS:=
 (bnd (bnd (nm vs 10 σ) λ a b=>(q0l T b a "pop").bind λ c=>bnd (some ([],b)) λ d e=>bnd (some ([],e)) λ f g=>q0g T C c d f g) λ h i=>bnd (bnd ((q1n i h).bind λ j=>(asC j λ k l=>bnd (some (setI vs 15 k,i)) λ m n=>(asC l λ o p=>bnd (some (setI m 22 o,n)) λ q r=>(asC p λ s t=>bnd (some (setI q 20 s,r)) λ u v=>(asE t u v))))) λ w x=>(some (w,x))) λ y z=>some (q0b.next,y,z))
noncomputable def w4a (C:q0a) (vs:Vs) (σ:Store):ResS:=
 (bnd (bnd (nm vs 6 σ) λ a b=>(q0l T b a "end").bind λ c=>bnd (evC (nm vs 15 b) λ d=>(some ([],d))) λ e f=>bnd (some ([],f)) λ g h=>q0g T C c e g h) λ i j=>some (q0b.next,vs,j))
noncomputable def w4b (C:q0a) (vs:Vs) (σ:Store):ResS:=
 (bnd (bnd (nm vs 8 σ) λ a b=>(q0l T b a "end").bind λ c=>bnd (evC (nm vs 15 b) λ d=>(some ([],d))) λ e f=>bnd (some ([],f)) λ g h=>q0g T C c e g h) λ i j=>some (q0b.next,vs,j))
noncomputable def w4c (C:q0a) (vs:Vs) (σ:Store):ResS:=
 ((w5l vs 11).bind λ a=>(bnd (bnd (bnd (some ((.str "</"),σ)) λ b c=>(bnd (nm vs 22 c) λ d e=>(binR e .Add b d))) λ f g=>(bnd (some ((.str ">"),g)) λ h i=>(binR i .Add f h))) λ j k=>(augA .Add (norm a) j).bind λ l=>some (q0b.next,setI vs 11 l,k)))
noncomputable def w3z (C:q0a) (a:Vs) (b:Store):ResS:=
 (sq (q8i C a b) λ c d=>(sq (w4a C c d) λ e f=>(sq (w4b C e f) λ g h=>(sq (w4c C g h) λ i j=>(some (q0b.next,i,j))))))
noncomputable def w4e (C:q0a) (vs:Vs) (σ:Store):ResS:=
 (bnd (bnd (some ((.str "<"),σ)) λ a b=>(bnd (bnd (some ((.bf .chr),b)) λ c d=>bnd (evC (bnd (some ((.int 97),d)) λ e f=>(bnd (bnd (nm vs 14 f) λ g h=>(bnd (some ((.int 26),h)) λ i j=>(binR j .Mod g i))) λ k l=>(binR l .Add e k))) λ m=>(some ([],m))) λ n o=>bnd (some ([],o)) λ p q=>q0i T C c n p q) λ r s=>(binR s .Add a r))) λ t u=>bnd (bnd (some (setI vs 27 t,u)) λ v w=>(some (v,w))) λ x y=>some (q0b.next,x,y))
noncomputable def w4f (C:q0a) (vs:Vs) (σ:Store):ResS:=
 (bnd (bnd (nm vs 6 σ) λ a b=>(q0l T b a "data").bind λ c=>bnd (evC (nm vs 27 b) λ d=>(some ([],d))) λ e f=>bnd (some ([],f)) λ g h=>q0g T C c e g h) λ i j=>some (q0b.next,vs,j))
noncomputable def z4g (C:q0a) (vs:Vs) (σ:Store):ResS:=
 (bnd (bnd (nm vs 8 σ) λ a b=>(q0l T b a "data").bind λ c=>bnd (evC (nm vs 28 b) λ d=>(some ([],d))) λ e f=>bnd (some ([],f)) λ g h=>q0g T C c e g h) λ i j=>some (q0b.next,vs,j))
noncomputable def q7r (C:q0a) (a:AV) (b:Vs) (c:Store):ResS:=
 bnd (some (setI b 28 a,c)) λ d e=>(sq (z4g C d e) λ f g=>(some (q0b.next,f,g)))
noncomputable def w4g (C:q0a) (vs:Vs) (σ:Store):ResS:=
 (bnd (nm vs 27 σ) λ a b=>if frozen a=true then(q2g b a).bind λ c=>forA (q7r C) c vs b else none)
noncomputable def w4h (C:q0a) (vs:Vs) (σ:Store):ResS:=
 ((w5l vs 11).bind λ a=>(bnd (bnd (some ((.str "&lt;"),σ)) λ b c=>(bnd (bnd (nm vs 27 c) λ d e=>(bnd (some ((.int 1),e)) λ f g=>(getR g d f))) λ h i=>(binR i .Add b h))) λ j k=>(augA .Add (norm a) j).bind λ l=>some (q0b.next,setI vs 11 l,k)))
noncomputable def w4d (C:q0a) (a:Vs) (b:Store):ResS:=
 (sq (w4e C a b) λ c d=>(sq (w4f C c d) λ e f=>(sq (w4g C e f) λ g h=>(sq (w4h C g h) λ i j=>(some (q0b.next,i,j))))))
noncomputable def z6q (C:q0a) (vs:Vs) (σ:Store):ResS:=
 (bnd (orT (bnd (nm vs 13 σ) λ a b=>(bnd (some ((.int 4),b)) λ c d=>(cmpT d .Eq a c))) λ e=>(orT (andT (bnd (nm vs 13 e) λ f g=>(bnd (some ((.int 2),g)) λ h i=>(cmpT i .Eq f h))) λ j=>(andT (bnd (bnd (some ((.bf .len),j)) λ k l=>bnd (evC (nm vs 10 l) λ m=>(some ([],m))) λ n o=>bnd (some ([],o)) λ p q=>q0i T C k n p q) λ r s=>(bnd (some ((.int 1),s)) λ t u=>(cmpT u .Gt r t))) λ v=>(some (true,v)))) λ w=>(some (false,w)))) λ x y=>if x=true then(w3z C vs y)else(w4d C vs y))
noncomputable def w3y (C:q0a) (a:Vs) (b:Store):ResS:=
 (sq (z6q C a b) λ c d=>(some (q0b.next,c,d)))
noncomputable def z4d (C:q0a) (vs:Vs) (σ:Store):ResS:=
 (bnd (bnd (nm vs 13 σ) λ a b=>(bnd (some ((.int 2),b)) λ c d=>(cmpT d .Lt a c))) λ e f=>if e=true then(q9t C vs f)else(w3y C vs f))
noncomputable def q2r (C:q0a) (a:AV) (b:Vs) (c:Store):ResS:=
 bnd ((q1n c a).bind λ d=>(asC d λ e f=>bnd (some (setI b 13 e,c)) λ g h=>(asC f λ i j=>bnd (some (setI g 14 i,h)) λ k l=>(asE j k l)))) λ m n=>(sq (z4d C m n) λ o p=>(some (q0b.next,o,p)))
noncomputable def q6d (C:q0a) (vs:Vs) (σ:Store):ResS:=
 (bnd (nm vs 12 σ) λ a b=>if frozen a=true then(q2g b a).bind λ c=>forA (q2r C) c vs b else none)
noncomputable def q4a (C:q0a) (vs:Vs) (σ:Store):ResS:=
 (bnd (andE (bnd (bnd (some ((.str ""),σ)) λ a b=>(q0l T b a "join").bind λ c=>bnd (evC (nm vs 4 b) λ d=>(some ([],d))) λ e f=>bnd (some ([],f)) λ g h=>q0g T C c e g h) λ i j=>(bnd (nm vs 11 j) λ k l=>(cmpR l .Eq i k))) λ m=>(bnd (bnd (some ((.str ""),m)) λ n o=>(q0l T o n "join").bind λ p=>bnd (evC (nm vs 5 o) λ q=>(some ([],q))) λ r s=>bnd (some ([],s)) λ t u=>q0g T C p r t u) λ v w=>(bnd (nm vs 11 w) λ x y=>(cmpR y .Eq v x)))) λ z A=>some (q0b.ret z,vs,A))
noncomputable def k5z (C:q0a) (vs:Vs) (σ:Store):ResS:=
 (sq (w7y C vs σ) λ a b=>(sq (w7z C a b) λ c d=>(sq (w8a C c d) λ e f=>(sq (w8b C e f) λ g h=>(sq (w8c C g h) λ i j=>(sq (w8d C i j) λ k l=>(sq (w8e C k l) λ m n=>(sq (w8f C m n) λ o p=>(sq (w8g C o p) λ q r=>(sq (w8h C q r) λ s t=>(sq (w4m C s t) λ u v=>(sq (q3z C u v) λ w x=>(sq (q6d C w x) λ y z=>(sq (q4a C y z) λ A B=>(some (q0b.next,A,B))))))))))))))))
theorem k6b (C:q0a) (vs:Vs) (σ:Store):q0w (evN T C 40) (fnOf 192).scope.names (q0f (fnOf 192).scope) (fnOf 192).body vs σ=k5z C vs σ:=by kernel_rfl
set_option tactic.hygienic true in noncomputable def fin (r:ResS):Res:=r.bind λ p=>match p.1 with | .next=>some (.none,p.2.2) | .ret v=>some (v,p.2.2)
theorem q5e {m m1:ResS} {r:Res} (h:r=fin m) (e:m=m1):r=fin m1:=h.trans (congrArg fin e)
theorem q5m (n:Nat) (a0:AV) (σ:Store):q0e T (n+1) 161 [a0] [] σ=fin (q1s (q0e T n) [some a0] σ):=
 q5e (m:=q0w (evN T (q0e T n) 40) (fnOf 161).scope.names (q0f (fnOf 161).scope) (fnOf 161).body [some a0] σ) (by kernel_rfl) (q5g _ _ _)
theorem q5d (n:Nat) (a0:AV) (σ:Store):q0e T (n+1) 168 [a0] [] σ=fin (q1o (q0e T n) [some a0] σ):=
 q5e (m:=q0w (evN T (q0e T n) 40) (fnOf 168).scope.names (q0f (fnOf 168).scope) (fnOf 168).body [some a0] σ) (by kernel_rfl) (q5a _ _ _)
theorem w5b (n:Nat) (a0:AV) (σ:Store):q0e T (n+1) 173 [a0] [] σ=fin (q6u (q0e T n) [some a0] σ):=
 q5e (m:=q0w (evN T (q0e T n) 40) (fnOf 173).scope.names (q0f (fnOf 173).scope) (fnOf 173).body [some a0] σ) (by kernel_rfl) (w3j _ _ _)
theorem k7o (n:Nat) (a0 a1:AV) (σ:Store):q0e T (n+1) 180 [a0,a1] [] σ=fin (w3h (q0e T n) [some a0,some a1] σ):=
 q5e (m:=q0w (evN T (q0e T n) 40) (fnOf 180).scope.names (q0f (fnOf 180).scope) (fnOf 180).body [some a0,some a1] σ) (by kernel_rfl) (w5v _ _ _)
theorem k7p (n:Nat) (a0:AV) (σ:Store):q0e T (n+1) 187 [a0] [] σ=fin (w3i (q0e T n) [some a0] σ):=
 q5e (m:=q0w (evN T (q0e T n) 40) (fnOf 187).scope.names (q0f (fnOf 187).scope) (fnOf 187).body [some a0] σ) (by kernel_rfl) (w5w _ _ _)
theorem k7r (n:Nat) (a0:AV) (σ:Store):q0e T (n+1) 192 [a0] [] σ=fin (k5z (q0e T n) [some a0,none,none,none,none,none,none,none,none,none,none,none,none,none,none,none,none,none,none,none,none,none,none,none,none,none,none,none,none] σ):=
 q5e (m:=q0w (evN T (q0e T n) 40) (fnOf 192).scope.names (q0f (fnOf 192).scope) (fnOf 192).body [some a0,none,none,none,none,none,none,none,none,none,none,none,none,none,none,none,none,none,none,none,none,none,none,none,none,none,none,none,none] σ) (by kernel_rfl) (k6b _ _ _)
theorem w2g (n:Nat) (a0 a1:AV) (σ:Store):q0e T (n+1) 90 [a0,a1] [] σ=fin (w3k (q0e T n) [some a0,some a1,some .none,none,none,none,none] σ):=
 q5e (m:=q0w (evN T (q0e T n) 40) (fnOf 90).scope.names (q0f (fnOf 90).scope) (fnOf 90).body [some a0,some a1,some .none,none,none,none,none] σ) (by kernel_rfl) (z3k _ _ _)
theorem k2h (n:Nat) (a0 a1:AV) (σ:Store):q0e T (n+1) 97 [a0,a1] [] σ=fin (z6l (q0e T n) [some a0,some a1] σ):=
 q5e (m:=q0w (evN T (q0e T n) 40) (fnOf 97).scope.names (q0f (fnOf 97).scope) (fnOf 97).body [some a0,some a1] σ) (by kernel_rfl) (k0m _ _ _)
theorem z5d (n:Nat) (a0:AV) (σ:Store):q0e T (n+1) 106 [a0] [] σ=fin (w3g (q0e T n) [some a0,some (.bm .sJoin (.str (Str.ofString ""))),none,none,none] σ):=
 q5e (m:=q0w (evN T (q0e T n) 40) (fnOf 106).scope.names (q0f (fnOf 106).scope) (fnOf 106).body [some a0,some (.bm .sJoin (.str (Str.ofString ""))),none,none,none] σ) (by kernel_rfl) (z2z _ _ _)
theorem w8t (n:Nat) (a0 a1 a2:AV) (σ:Store):q0e T (n+1) 113 [a0,a1,a2] [] σ=fin (q8q (q0e T n) [some a0,some a1,some a2] σ):=
 q5e (m:=q0w (evN T (q0e T n) 40) (fnOf 113).scope.names (q0f (fnOf 113).scope) (fnOf 113).body [some a0,some a1,some a2] σ) (by kernel_rfl) (w6y _ _ _)
theorem z9n (n:Nat) (a0 a1 a2:AV) (σ:Store):q0e T (n+1) 120 [a0,a1,a2] [] σ=fin (z0j (q0e T n) [some a0,some a1,some a2,none] σ):=
 q5e (m:=q0w (evN T (q0e T n) 40) (fnOf 120).scope.names (q0f (fnOf 120).scope) (fnOf 120).body [some a0,some a1,some a2,none] σ) (by kernel_rfl) (z6v _ _ _)
theorem z5e (n:Nat) (a0 a1 a2 a3:AV) (σ:Store):q0e T (n+1) 126 [a0,a1,a2,a3] [] σ=fin (q6w (q0e T n) [some a0,some a1,some a2,some a3,some .none,none,none,none,none,none,none,none,none,none,none,none,none,none,none,none] σ):=
 q5e (m:=q0w (evN T (q0e T n) 40) (fnOf 126).scope.names (q0f (fnOf 126).scope) (fnOf 126).body [some a0,some a1,some a2,some a3,some .none,none,none,none,none,none,none,none,none,none,none,none,none,none,none,none] σ) (by kernel_rfl) (z3y _ _ _)
theorem k7q (n:Nat) (a0 a1:AV) (σ:Store):q0e T (n+1) 133 [a0,a1] [] σ=fin (k5v (q0e T n) [some a0,some a1] σ):=
 q5e (m:=q0w (evN T (q0e T n) 40) (fnOf 133).scope.names (q0f (fnOf 133).scope) (fnOf 133).body [some a0,some a1] σ) (by kernel_rfl) (k5x _ _ _)
theorem nr {α:Sort _} {a b:α} (h:a=b):a=b:=h
theorem q0d {α β:Type} (a:α) (σ:Store) (f:α->Store->Option β):bnd (some (a,σ)) f=f a σ:=nr rfl
theorem q0v (vs:Vs) (σ:Store) (k:Vs->Store->ResS):sq (some (.next,vs,σ)) k=k vs σ:=nr rfl
theorem z8z (v:AV) (vs:Vs) (σ:Store) (k:Vs->Store->ResS):sq (some (.ret v,vs,σ)) k=some (.ret v,vs,σ):=nr rfl
theorem k7f (σ:Store) (rest:Store->ResT):andT (some (true,σ)) rest=rest σ:=nr rfl
theorem k8a (vs:Vs) (σ:Store):fin (some (.next,vs,σ))=some (.none,σ):=nr rfl
theorem k3k (v:AV) (vs:Vs) (σ:Store):fin (some (.ret v,vs,σ))=some (v,σ):=nr rfl
section
variable {α β:Type} {m:Option (α×Store)} {v:α} {σ:Store} {X:Option β}
theorem stk (h:m=some (v,σ)) (f:α->Store->Option β) (e:X=bnd m f):X=f v σ:=e.trans (by rw[h];rfl)
theorem stb {o:Option α} (h:o=some v) (f:α->Option β) (e:X=o.bind f):X=f v:=e.trans (by rw[h];rfl)
theorem stq {m:ResS} {V:Vs} {X:ResS} (h:m=some (.next,V,σ)) (k:Vs->Store->ResS) (e:X=sq m k):X=k V σ:=e.trans (by rw[h,q0v])
theorem strr {m:ResS} {V:Vs} {v:AV} {X:ResS} (h:m=some (.ret v,V,σ)) (k:Vs->Store->ResS) (e:X=sq m k):X=some (.ret v,V,σ):=e.trans (by rw[h,z8z])
theorem z9t {m:ResS} {V:Vs} {r:Res} (e:r=fin m) (h:m=some (.next,V,σ)):r=some (.none,σ):=e.trans (by rw[h,k8a])
theorem j3r {m:ResS} {V:Vs} {v:AV} {r:Res} (e:r=fin m) (h:m=some (.ret v,V,σ)):r=some (v,σ):=e.trans (by rw[h,k3k])
end
inductive Who where|t|e|s
structure W where
 out:List AV
 data:List AV
 dl:List AV
 nl:List AV
 n0:List AV
 map:List (Str×AV)
 pres:List AV
 seen:Bool
 done:Bool
section
variable (w:W) (l:List AV)
noncomputable def W.wo:W:=⟨l,w.data,w.dl,w.nl,w.n0,w.map,w.pres,w.seen,w.done⟩
noncomputable def W.wd:W:=⟨w.out,l,w.dl,w.nl,w.n0,w.map,w.pres,w.seen,w.done⟩
noncomputable def W.wl:W:=⟨w.out,w.data,l,w.nl,w.n0,w.map,w.pres,w.seen,w.done⟩
noncomputable def W.wn:W:=⟨w.out,w.data,w.dl,l,w.n0,w.map,w.pres,w.seen,w.done⟩
noncomputable def W.wz:W:=⟨w.out,w.data,w.dl,w.nl,l,w.map,w.pres,w.seen,w.done⟩
noncomputable def W.wm (m:List (Str×AV)):W:=⟨w.out,w.data,w.dl,w.nl,w.n0,m,w.pres,w.seen,w.done⟩
noncomputable def W.wp:W:=⟨w.out,w.data,w.dl,w.nl,w.n0,w.map,l,w.seen,w.done⟩
noncomputable def W.ws (s d:Bool):W:=⟨w.out,w.data,w.dl,w.nl,w.n0,w.map,w.pres,s,d⟩
end
noncomputable def upd (w:Who->W):Who->W->Who->W
 | .t,v,.t=>v
 | .e,v,.e=>v
 | .s,v,.s=>v
 | _,_,j=>w j
noncomputable def obA:Who->Nat | .t=>3 | .e=>12 | .s=>24
noncomputable def ouA:Who->Nat | .t=>1 | .e=>11 | .s=>2
noncomputable def daA:Who->Nat | .t=>4 | .e=>13 | .s=>25
noncomputable def dlA:Who->Nat | .t=>6 | .e=>15 | .s=>27
noncomputable def nlA:Who->Nat | .t=>7 | .e=>16 | .s=>28
noncomputable def maA:Who->Nat | .t=>9 | .e=>18 | .s=>30
noncomputable def prA:Who->Nat | .t=>10 | .e=>19 | .s=>31
noncomputable def xmlS:Str:=Str.ofString "http://www.w3.org/XML/1998/namespace"
noncomputable abbrev xmlP:AV:=q0c (xmlS,Str.ofString "xml")
noncomputable def att (i:Who) (w:W):AObj:=
 .attrs [some (.bm .lAppend (.loc (ouA i))),some (.loc (daA i)),some (.bool false),some (.bool false),some .none,some .none,some (.bool true),some .none,some .none,
  some (.loc (dlA i)),some (.loc (nlA i)),some (.loc (maA i)),some (.loc (prA i)),some .none,some (.bool w.seen),some (.bool w.done),some (.int 0),some (.fn 173)]
noncomputable def Bs (w:Who->W) (nd pa:List AV) (x:Store):Store:=
 .code :: .list (w .t).out :: .list (w .s).out ::
 att .t (w .t) :: .list (w .t).data :: .list [xmlP] :: .list (w .t).dl :: .list (w .t).nl :: .list (w .t).n0 :: .dict (w .t).map :: .list (w .t).pres ::
 .list (w .e).out::att .e (w .e) :: .list (w .e).data :: .list [xmlP] :: .list (w .e).dl :: .list (w .e).nl :: .list (w .e).n0 :: .dict (w .e).map :: .list (w .e).pres ::
 .list [q0c (Str.ofString "z",Str.ofString "n0")] :: .set [Str.ofString "xml"] :: .list [q0c (Str.ofString "xmlns:n0",Str.ofString "z")] :: .list [] ::
 att .s (w .s) :: .list (w .s).data :: .list [xmlP] :: .list (w .s).dl :: .list (w .s).nl :: .list (w .s).n0 :: .dict (w .s).map :: .list (w .s).pres ::
 .list nd :: .list pa::x
noncomputable def trip {β:Type} (L:Who->β):β×β×β:=(L .t,L .e,L .s)
theorem tri {β:Type} {L R:Who->β} (h:trip L=trip R):∀i,L i=R i:=by
 obtain⟨h1,h2⟩:=Prod.mk.inj h
 obtain⟨h2,h3⟩:=Prod.mk.inj h2
 intro i
 cases i<;>assumption
theorem few {n:Nat} (h:n<100002):n<sizeLine:=Nat.lt_trans h (by decide)
noncomputable abbrev Bw (w:Who->W) (nd pa:List AV) (x:Store) (i:Who) (a:W):Store:=Bs (upd w i a) nd pa x
theorem j9x (w:Who->W) (i:Who):upd w i (w i)=w:=funext λ j=>by cases i<;>cases j<;>rfl
theorem q4v (w:Who->W) (i:Who) (a:W):upd w i a i=a:=by cases i<;>rfl
theorem z9f (w:Who->W) {i j:Who} (a:W) (h:i≠j):upd w i a j=w j:=by cases i<;>cases j<;>first|rfl|exact absurd rfl h
section
variable (w:Who->W) (nd pa:List AV) (x:Store) (a:W) (v:AV)
theorem j6e:∀i,biA .lAppend [.loc (ouA i),v] (Bw w nd pa x i a)=if a.out.length<sizeLine then some (.none,Bw w nd pa x i (a.wo (a.out++[v])))else none:=tri (nr (by kernel_rfl))
theorem j2c:∀i,biA .lAppend [.loc (daA i),v] (Bw w nd pa x i a)=if a.data.length<sizeLine then some (.none,Bw w nd pa x i (a.wd (a.data++[v])))else none:=tri (nr (by kernel_rfl))
theorem v0j:∀i,biA .lAppend [.loc (dlA i),v] (Bw w nd pa x i a)=if a.dl.length<sizeLine then some (.none,Bw w nd pa x i (a.wl (a.dl++[v])))else none:=tri (nr (by kernel_rfl))
theorem v0k:∀i,biA .lAppend [.loc (nlA i),v] (Bw w nd pa x i a)=if a.nl.length<sizeLine then some (.none,Bw w nd pa x i (a.wn (a.nl++[v])))else none:=tri (nr (by kernel_rfl))
theorem j2d:∀i,biA .lAppend [.loc (prA i),v] (Bw w nd pa x i a)=if a.pres.length<sizeLine then some (.none,Bw w nd pa x i (a.wp (a.pres++[v])))else none:=tri (nr (by kernel_rfl))
variable (i:Who)
theorem k5f (h:a.out.length<100000):biA .lAppend [.loc (ouA i),v] (Bw w nd pa x i a)=some (.none,Bw w nd pa x i (a.wo (a.out++[v]))):=(j6e ..).trans (if_pos (few (Nat.lt_trans h (by decide))))
theorem j6y (h:a.data.length<100000):biA .lAppend [.loc (daA i),v] (Bw w nd pa x i a)=some (.none,Bw w nd pa x i (a.wd (a.data++[v]))):=(j2c ..).trans (if_pos (few (Nat.lt_trans h (by decide))))
theorem dl_a (h:a.dl.length<100000):biA .lAppend [.loc (dlA i),v] (Bw w nd pa x i a)=some (.none,Bw w nd pa x i (a.wl (a.dl++[v]))):=(v0j ..).trans (if_pos (few (Nat.lt_trans h (by decide))))
theorem nl_a (h:a.nl.length<100000):biA .lAppend [.loc (nlA i),v] (Bw w nd pa x i a)=some (.none,Bw w nd pa x i (a.wn (a.nl++[v]))):=(v0k ..).trans (if_pos (few (Nat.lt_trans h (by decide))))
theorem j8y (h:a.pres.length<100000):biA .lAppend [.loc (prA i),v] (Bw w nd pa x i a)=some (.none,Bw w nd pa x i (a.wp (a.pres++[v]))):=(j2d ..).trans (if_pos (few (Nat.lt_trans h (by decide))))
end
end Mine
end
section
set_option tactic.hygienic false
namespace Mine
noncomputable abbrev lst (x:Str):List Nat:=x.cps.toList
theorem q5s {x y:Str} (h:lst x=lst y):x=y:=by
 cases x;cases y
 simp only[lst]at h
 congr
 exact Array.toList_inj.mp h
theorem q2q (x:Str):(lst x).length=x.length:=by simp[lst,Str.length]
theorem q0n (x y:Str):lst (x++y)=lst x++lst y:=by simp[lst,Str.cps_append]
noncomputable def sub1 (c:Nat) (z:List Nat) (l:List Nat):List Nat:=l.flatMap λ a=>if a=c then z else[a]
theorem q8u (c:Nat) (z a b:List Nat):sub1 c z (a++b)=sub1 c z a++sub1 c z b:=by simp[sub1]
theorem q9y (c:Nat) (z:List Nat):∀l:List Nat,c∉l->sub1 c z l=l
 | [],_=>rfl
 | k::r,h=>by
  have h1:¬ k=c:=λ e=>h (e▸jL ..)
  have ih:=q9y c z r λ m=>h (jK _ m)
  simp only[sub1,List.flatMap_cons,if_neg h1]at ih ⊢
  rw[ih];rfl
theorem j0d (c:Nat) (z:List Nat):sub1 c z [c]=z:=by simp[sub1]
theorem z4s (c:Nat) (z:Str):∀parts:List Str,(∀p∈parts,c∉p.cps.toList)->sub1 c (lst z) (lst (Str.join ⟨#[c]⟩ parts))=lst (Str.join z parts)
 | [],_=>rfl
 | [p],h=>q9y c _ _ (h p (List.mem_singleton.mpr rfl))
 | p::q::r,h=>by
  have ih:=z4s c z (q::r) λ a ha=>h a (jK _ ha)
  show sub1 c (lst z) (lst (p++⟨#[c]⟩++Str.join ⟨#[c]⟩ (q::r)))=lst (p++z++Str.join z (q::r))
  simp only[q0n,q0n,q0n,q0n,q8u,q8u,ih,q9y c _ _ (h p (jL ..))]
  rw[j0d]
theorem z6i (x z:Str) (c:Nat):lst (Txt.replace x ⟨#[c]⟩ z)=sub1 c (lst z) (lst x):=by
 rw[StrLaws.replace_one,<-z4s c z _ (StrLaws.split_free x c),StrLaws.join_split]
theorem z1m (x:Str) (c:Nat):Txt.contains x ⟨#[c]⟩=decide (c∈lst x):=StrLaws.found_one x c
noncomputable def esc1 (c:Nat) (z:Str) (t:Str):Str:=if Txt.contains t ⟨#[c]⟩=true then Txt.replace t ⟨#[c]⟩ z else t
set_option tactic.hygienic true in theorem z7v (c:Nat) (z t:Str):lst (esc1 c z t)=sub1 c (lst z) (lst t):=by
 unfold esc1
 split
 ·exact z6i _ _ _
 ·rename_i h
  rw[z1m,decide_eq_true_eq]at h
  exact(q9y c _ _ h).symm
theorem z9a (c:Nat) (z:List Nat) (m:Nat) (hz:z.length<=m) (hm:1<=m):∀l:List Nat,(sub1 c z l).length<=m * l.length
 | []=>by simp[sub1]
 | k::r=>by
  have ih:=z9a c z m hz hm r
  simp only[sub1,List.flatMap_cons,List.length_append,List.length_cons]at ih ⊢
  have:(if k=c then z else[k]).length<=m:=by
   split
   ·exact hz
   ·exact hm
  lia
theorem k7x (c:Nat) (z t:Str) (h:z.length<=6):(esc1 c z t).length<=6 * t.length:=by
 simp only[<-q2q,z7v,<-q2q]
 exact z9a c _ 6 (by exact h) (by exact Nat.succ_pos _) _
theorem k8r:∀ts:List Str,lst (Txt.join ⟨#[]⟩ ts)=(ts.map lst).flatten:=by
 intro ts
 show lst (Builtin.Str.glued ⟨#[]⟩ ts)=_
 rw[StrLaws.glued_eq_join]
 induction ts with
 | nil=>rfl
 | cons p r ih=>
  cases r with
  | nil=>simp[Str.join,lst]
  | cons q r=>
   show lst (p++⟨#[]⟩++Str.join ⟨#[]⟩ (q::r))=_
   simp only[q0n,q0n,ih]
   simp[lst]
end Mine
end
section
set_option tactic.hygienic false
set_option backward.match.sparseCases false
set_option maxHeartbeats 4000000
namespace Mine
noncomputable def es (V:Vs) (m:Res):ResS:=bnd m λ _ s=>some (.next,V,s)
noncomputable def asg (V:Vs) (k:Nat) (m:Res):ResS:=bnd m λ x s=>some (.next,setI V k x,s)
noncomputable def cal (C:q0a) (f:Callee) (m:Res):Res:=bnd (evC m λ s=>some ([],s)) λ xs s=>bnd (some ([],s)) λ kv s=>q0g T C f xs kv s
noncomputable def calA (C:q0a) (f:AV) (m:Res):Res:=bnd (evC m λ s=>some ([],s)) λ xs s=>bnd (some ([],s)) λ kv s=>q0i T C f xs kv s
noncomputable def iff (m:ResT) (a b:Store->ResS):ResS:=bnd m λ c s=>if c=true then a s else b s
noncomputable def ifn (V:Vs) (m:ResT) (a:Store->ResS):ResS:=bnd m λ c s=>if c=true then a s else some (.next,V,s)
section
variable {C:q0a} {m:Res} {mt:ResT} {v u y:AV} {V:Vs} {k:Nat} {σ σ':Store} {b:BI} {a:Addr}
theorem es_n (h:m=some (v,σ)):es V m=some (.next,V,σ):=by rw[h];rfl
theorem q7t (h:m=some (v,σ)):asg V k m=some (.next,setI V k v,σ):=by rw[h];rfl
theorem q3o (h:m=some (v,σ)) (h2:biA b [u,v] σ=some (y,σ')):cal C (.bi b u) m=some (y,σ'):=by rw[h];exact h2
theorem j0m (h:m=some (v,σ)) (h2:biA .lAppend [u,v] σ=some (y,σ')):cal C (.val (.bm .lAppend u)) m=some (y,σ'):=by rw[h];exact h2
theorem k2g (h:m=some (v,σ)) (h2:biA .lAppend [u,v] σ=some (y,σ')):calA C (.bm .lAppend u) m=some (y,σ'):=by rw[h];exact h2
theorem k2f {a:Addr} (h:m=some (v,σ)) (ha:(a==T.C)=false:=by decide):calA C (.fn a) m=C a [v] [] σ:=by rw[h];exact if_neg (λ e=>absurd (beq_iff_eq.mpr e) (by rw[ha];exact Bool.false_ne_true))
theorem k8h {a b:Store->ResS} (h:mt=some (true,σ)):iff mt a b=a σ:=by rw[h];rfl
theorem k8g {a b:Store->ResS} (h:mt=some (false,σ)):iff mt a b=b σ:=by rw[h];rfl
theorem k8i {a:Store->ResS} (h:mt=some (true,σ)):ifn V mt a=a σ:=by rw[h];rfl
theorem k3t {a:Store->ResS} (h:mt=some (false,σ)):ifn V mt a=some (.next,V,σ):=by rw[h];rfl
end
set_option tactic.hygienic true in theorem q2u {p z:Str} {c:Nat} (hp:p=⟨#[c]⟩) (hne:p≠z) (t:Str) (hz:t.length+(t.length+1) * z.length<=sizeLine) (σ:Store) (K:Vs->Store->ResS) :
  sq (bnd (bnd (some (AV.str p,σ)) λ x s=>(bnd (nm [some (.str t)] 0 s) λ y s=>(cmpT s .In x y))) λ c s=>if c=true then(sq (bnd (bnd (nm [some (.str t)] 0 s) λ x s=>(w1i x p z s)) λ x s=>bnd (bnd (some (setI [some (.str t)] 0 x,s)) λ vs s=>(some (vs,s))) λ vs s=>some (q0b.next,vs,s)) λ vs s=>(some (q0b.next,vs,s)))else(some (q0b.next,[some (.str t)],s))) K
   = K [some (.str (esc1 c z t))] σ:=by
 subst hp
 have e:cmpT σ .In (.str ⟨#[c]⟩) (.str t)=some (Txt.contains t ⟨#[c]⟩,σ):=rfl
 have n0:∀s,nm [some (AV.str t)] 0 s=some (.str t,s):=λ _=>rfl
 simp only[q0d,n0,e]
 unfold esc1
 split
 ·have r:w1i (.str t) ⟨#[c]⟩ z σ=some (.str (Txt.replace t ⟨#[c]⟩ z),σ):=by
   exact if_pos ⟨hne,hz⟩
  simp only[r,q0d,q0v]
  rfl
 ·rfl
noncomputable def escC (t:Str):Str:=esc1 13 (Str.ofString "&#xD;") (esc1 62 (Str.ofString "&gt;") (esc1 60 (Str.ofString "&lt;") (esc1 38 (Str.ofString "&amp;") t)))
noncomputable def escA (t:Str):Str:=esc1 13 (Str.ofString "&#xD;") (esc1 10 (Str.ofString "&#xA;") (esc1 9 (Str.ofString "&#x9;") (esc1 34 (Str.ofString "&quot;") (esc1 60 (Str.ofString "&lt;") (esc1 38 (Str.ofString "&amp;") t)))))
theorem room {t z:Str} {m:Nat} (ht:t.length<=m) (hm:m+(m+1) * 6<=sizeLine) (hz:z.length<=6):t.length+(t.length+1) * z.length<=sizeLine:=
 jA (jH ht (Nat.mul_le_mul (Nat.succ_le_succ ht) hz)) hm
theorem q4d (c:Nat) {z t:Str} {m:Nat} (hz:z.length<=6) (h:t.length<=m):(esc1 c z t).length<=6 * m:=jA (k7x c z t hz) (Nat.mul_le_mul_left 6 h)
theorem j3p (n:Nat) (t:Str) (h:t.length<=5000) (σ:Store):q0e T (n+1) 161 [.str t] [] σ=some (.str (escC t),σ):=by
 rw[q5m]
 unfold q1s
 have h1:=q4d 38 (z:=Str.ofString "&amp;") (by decide) h
 have h2:=q4d 60 (z:=Str.ofString "&lt;") (by decide) h1
 have h3:=q4d 62 (z:=Str.ofString "&gt;") (by decide) h2
 rw[q2u (p:=Str.ofString "&") (c:=38) (by rfl) (by decide) _ (room h (by decide) (by decide)),q2u (p:=Str.ofString "<") (c:=60) (by rfl) (by decide) _ (room h1 (by decide) (by decide)),
  q2u (p:=Str.ofString ">") (c:=62) (by rfl) (by decide) _ (room h2 (by decide) (by decide)),q2u (p:=Str.ofString "\r") (c:=13) (by rfl) (by decide) _ (room h3 (by decide) (by decide))]
 rfl
theorem k3h {t:Str} {m:Nat} (h:t.length<=m):(escA t).length<=46656 * m:=
 jA (q4d 13 (by decide) (q4d 10 (by decide) (q4d 9 (by decide) (q4d 34 (by decide) (q4d 60 (by decide) (q4d 38 (by decide) h)))))) (jE (by rw[<-Nat.mul_assoc,<-Nat.mul_assoc,<-Nat.mul_assoc,<-Nat.mul_assoc,<-Nat.mul_assoc]))
theorem j3o (n:Nat) (t:Str) (h:t.length<=50) (σ:Store):q0e T (n+1) 168 [.str t] [] σ=some (.str (escA t),σ):=by
 rw[q5d]
 unfold q1o
 have h1:=q4d 38 (z:=Str.ofString "&amp;") (by decide) h
 have h2:=q4d 60 (z:=Str.ofString "&lt;") (by decide) h1
 have h3:=q4d 34 (z:=Str.ofString "&quot;") (by decide) h2
 have h4:=q4d 9 (z:=Str.ofString "&#x9;") (by decide) h3
 have h5:=q4d 10 (z:=Str.ofString "&#xA;") (by decide) h4
 rw[q2u (p:=Str.ofString "&") (c:=38) (by rfl) (by decide) _ (room h (by decide) (by decide)),q2u (p:=Str.ofString "<") (c:=60) (by rfl) (by decide) _ (room h1 (by decide) (by decide)),
  q2u (p:=Str.ofString "\"") (c:=34) (by rfl) (by decide) _ (room h2 (by decide) (by decide)),q2u (p:=Str.ofString "\t") (c:=9) (by rfl) (by decide) _ (room h3 (by decide) (by decide)),
  q2u (p:=Str.ofString "\n") (c:=10) (by rfl) (by decide) _ (room h4 (by decide) (by decide)),q2u (p:=Str.ofString "\r") (c:=13) (by rfl) (by decide) _ (room h5 (by decide) (by decide))]
 rfl
section
variable (C:q0a) (w:Who->W) (nd pa:List AV) (x:Store) (i:Who) (a:W)
set_option tactic.hygienic true in theorem j3f (n:Nat) (d:Str) (h:a.data.length<100000):q0e T (n+1) 97 [.obj (obA i),.str d] [] (Bw w nd pa x i a)=some (.none,Bw w nd pa x i (a.wd (a.data++[.str d]))):=by
 have e:∀i,z6l (q0e T n) [some (.obj (obA i)),some (.str d)] (Bw w nd pa x i a)=sq (sq (es [some (.obj (obA i)),some (.str d)] (cal (q0e T n) (.bi .lAppend (.loc (daA i))) (some (.str d,Bw w nd pa x i a)))) λ v s=>some (.next,v,s)) λ v s=>some (.next,v,s):=tri (nr (by kernel_rfl))
 exact z9t (k2h ..) (stq (stq (es_n (q3o rfl (j6y w nd pa x a _ i h))) _ rfl) _ (e i))
noncomputable abbrev vF (i:Who) (y:Option AV):Vs:=[some (.obj (obA i)),some (.bm .sJoin (.str (Str.ofString ""))),y,none,none]
noncomputable def fl4 (V:Vs) (i:Who) (b:Bool) (σ:Store):ResS:=sq (ifn V (andT (some (b,σ)) λ s0=>andT (bnd (q1b s0 (.obj (obA i)) (Str.ofString "_root_seen")) λ y s=>trT s y) λ s=>some (true,s)) (w0x C V)) λ v s=>some (.next,v,s)
theorem W.seen_eq {a:W} (h:a.seen=true):a=a.ws true a.done:=by cases a;cases h;rfl
set_option tactic.hygienic true in theorem k8c (n:Nat) (ts:List Str) (ht:q1f a.data=some ts) (hz:(ts.map (·.length)).sum<=5000) (y:Str) (hx:Txt.join (Str.ofString "") ts=y) (hl:y.length<=5000) (hn:(y.length !=0)=true) (hs:a.seen=true) (ho:a.out.length<100000) :
  q0e T (n+2) 106 [.obj (obA i)] [] (Bw w nd pa x i a)=some (.none,Bw w nd pa x i ((a.wd []).wo (a.out++[.str (escC y)]))):=by
 have hh:=W.seen_eq hs
 generalize hq:q0e T (n+1)=C
 have e0:∀i,(w3g C (vF i none) (Bw w nd pa x i a))=sq (asg (vF i none) 2 ((q1f a.data).bind λ ts=>if(ts.map (·.length)).sum+ts.length * (Str.ofString "").length<=sizeLine then some (.str (Txt.join (Str.ofString "") ts),Bw w nd pa x i a)else none)) λ v s=>q6t C v s:=tri (nr (by kernel_rfl))
 have e1:=stq (q7t (σ:=Bw w nd pa x i a) (v:=.str y) (by rw[ht,<-hx];exact if_pos (jA hz (by decide)))) _ (e0 i)
 have e2:∀i,q6t C (vF i (some (.str y))) (Bw w nd pa x i a)=fl4 C (vF i (some (.str y))) i (y.length !=0) (Bw w nd pa x i (a.wd [])):=tri (nr (by kernel_rfl))
 have e3:∀i,fl4 C (vF i (some (.str y))) i true (Bw w nd pa x i ((a.ws true a.done).wd []))=sq (sq (es (vF i (some (.str y))) (cal C (.val (.bm .lAppend (.loc (ouA i)))) (calA C (.fn 161) (some (.str y,Bw w nd pa x i ((a.ws true a.done).wd [])))))) λ v s=>some (.next,v,s)) λ v s=>some (.next,v,s):=tri (nr (by kernel_rfl))
 rw[<-hh]at e3
 have e2:=e2 i
 rw[hn]at e2
 refine z9t (V:=vF i (some (.str y))) (z5d ..) ?_
 rw[hq]
 refine(e1.trans e2).trans (stq (stq (es_n (j0m ?_ (k5f w nd pa x (a.wd []) _ i ho))) _ rfl) _ (e3 i))
 rw[<-hq]
 exact(k2f rfl).trans (j3p n y hl _)
end
section
variable {α β:Type} {σ:Store} {f:AV->Vs×α->Store->Option ((Vs×α)×Store)} {e:β->AV} {ps:List β} {st:α->β->α} {a:α} {P:Vs->Prop}
inductive Got (P:Vs->Prop) (m:Option ((Vs×α)×Store)) (r:α) (σ:Store):Prop|mk (vs:Vs) (h:P vs) (e:m=some ((vs,r),σ))
noncomputable def Turn (f:AV->Vs×α->Store->Option ((Vs×α)×Store)) (σ:Store) (e:β->AV) (st:α->β->α) (a:α) (P:Vs->Prop) (ps:List β):Prop:=
 ∀my x fm vs,ps=my++x::fm->P vs->Got P (f (e x) (vs,my.foldl st a) σ) (st (my.foldl st a) x) σ
theorem j7v (h:Turn f σ e st a P ps):∀(fm my:List β) (vs:Vs),ps=my++fm->P vs->Got P (z5y f (fm.map e) (vs,my.foldl st a) σ) (ps.foldl st a) σ
 | [],my,vs,q,hv=>⟨vs,hv,by rw[q,List.append_nil];rfl⟩
 | x::fm,my,vs,q,hv=>by
  obtain⟨vs',hv',e'⟩:=h my x fm vs q hv
  obtain⟨vs2,hv2,e2⟩:=j7v h fm (my++[x]) vs' (by rw[q,List.append_assoc];rfl) hv'
  rw[List.foldl_append]at e2
  exact⟨vs2,hv2,(show(f (e x) (vs,my.foldl st a) σ).bind _=_ from by rw[e'];exact e2)⟩
theorem j7u {l:Nat} (hl:q1j σ l=some (ps.map e)) (h:Turn f σ e st a P ps):∀(fm my:List β) (vs:Vs),ps=my++fm->P vs->Got P (k4h l (ps.map e).length f fm.length (vs,my.foldl st a) σ) (ps.foldl st a) σ
 | [],my,vs,q,hv=>⟨vs,hv,(show(q1j σ l).bind _=_ from by rw[hl];exact(if_pos rfl).trans (by rw[q,List.append_nil]))⟩
 | x::fm,my,vs,q,hv=>by
  obtain⟨vs',hv',e'⟩:=h my x fm vs q hv
  obtain⟨vs2,hv2,e2⟩:=j7u hl h fm (my++[x]) vs' (by rw[q,List.append_assoc];rfl) hv'
  rw[List.foldl_append]at e2
  refine⟨vs2,hv2,(show(q1j σ l).bind _=_ from ?_)⟩
  rw[hl]
  refine(if_pos rfl).trans ?_
  have ei:(ps.map e)[(ps.map e).length - (fm.length+1)]? = some (e x):=by
   have:(ps.map e).length - (fm.length+1)=my.length:=by rw[List.length_map,q,List.length_append,List.length_cons,Nat.add_sub_cancel]
   rw[this,q];simp
  rw[ei]
  exact(show(f (e x) (vs,my.foldl st a) σ).bind _=_ from by rw[e'];exact e2)
theorem w5i {v:AV} (hv:q0r σ v=some (ps.map e)) (h:Turn f σ e st a P ps) {vs:Vs} (h0:P vs):Got P (q1h v f (vs,a) σ) (ps.foldl st a) σ:=by
 induction v using AV.casesOn with
 | fl ys=>obtain rfl:=jI hv;exact j7v h ps [] vs rfl h0
 | loc l=>
  have hl:q1j σ l=some (ps.map e):=hv
  obtain⟨vs',h',e'⟩:=j7u hl h ps [] vs rfl h0
  rw[List.length_map]at e'
  exact⟨vs',h',(show(q1j σ l).bind _=_ from by rw[hl];show k4h l (ps.map e).length f (ps.map e).length _ _=_;rw[List.length_map];exact e')⟩
 | _=>exact nope hv
end
noncomputable def app {β:Type} (g:β->List AV) (fr:List AV) (x:β):List AV:=fr++g x
theorem q1d {β:Type} (g:β->List AV):∀(xs:List β) (a:List AV),xs.foldl (app g) a=a++xs.flatMap g
 | [],a=>(List.append_nil a).symm
 | x::xs,a=>by show xs.foldl (app g) (a++g x)=_;simp only[q1d g xs,List.flatMap_cons,List.append_assoc]
theorem z8v {β:Type} {g:β->List AV} {my fm xs:List β} {x:β} {n:Nat} (e:xs=my++x::fm) (h:(xs.flatMap g).length<=n):(my.flatMap g).length+(g x).length<=n:=by
 refine jA ?_ h
 rw[e,List.flatMap_append,List.flatMap_cons,List.length_append,List.length_append]
 exact Nat.add_le_add_left (jG ..) _
theorem em_n {fr:List AV} {v:AV} {σ:Store} {m:Res} (h:m=some (v,σ)) (hz:fr.length<100000):q4c fr m=some (fr++[v],σ):=by
 rw[h];exact if_pos (few (Nat.lt_trans hz (by decide)))
noncomputable def w5k (σ:Store) (v:AV):List AV:=(q0r σ v).getD []
noncomputable abbrev own3 (V:Vs) (vs:Vs):Prop:=∃a b c,vs=a::b::c::V
noncomputable def k6z (L:List AV):Prop:=∃ps:List (Str×Str),L=ps.map q0c
theorem k6z.norm {L:List AV} (h:k6z L):(L.flatMap λ x=>[norm x])=L:=by
 obtain⟨ps,rfl⟩:=h
 induction ps with
 | nil=>rfl
 | cons p ps ih=>rw[List.map_cons,List.flatMap_cons,ih];rfl
theorem j5q (C:q0a) {σ:Store} {V:Vs} {L fr:List AV} {v:AV} {vs:Vs} (hv:q0r σ v=some L) (hn:k6z L) (hz:fr.length+L.length<100000) (h0:own3 V vs):Got (own3 V) (q1h v (q3x C) (vs,fr) σ) (fr++L) σ:=by
 have e:L.foldl (app λ x=>[norm x]) fr=fr++L:=by rw[q1d,hn.norm]
 rw[<-e]
 refine w5i (e:=id) (by rw[List.map_id];exact hv) (λ my x fm vs ex h=>?_) h0
 obtain⟨a,b,c,rfl⟩:=h
 have hp:=z8v (g:=λ x=>[norm x]) ex (jE (congrArg List.length hn.norm))
 have hl:(my.foldl (app λ x=>[norm x]) fr).length<100000:=by
  rw[q1d,List.length_append]
  exact jB (Nat.add_le_add_left (jA (jG ..) hp) _) hz
 refine⟨a::b::some x::V,⟨a,b,_,rfl⟩,?_⟩
 exact(stk (em_n rfl hl) _ (nr (by kernel_rfl):q3x C x (a::b::c::V,my.foldl (app λ x=>[norm x]) fr) σ=bnd (q4c (my.foldl (app λ x=>[norm x]) fr) (some (norm x,σ))) λ r s=>some ((a::b::some x::V,r),s)))
noncomputable def w1w (σ:Store) (dl:List AV):Prop:=∀v∈dl,(∃a,v = .loc a)/\∃L,q0r σ v=some L/\k6z L
noncomputable def q3v (σ:Store) (dl:List AV):List AV:=dl.reverse.flatMap (w5k σ)
theorem j5r (n:Nat) {σ:Store} {l:Nat} {dl:List AV} (h:q1j σ l=some dl) (hl:w1w σ dl) (hz:(q3v σ dl).length<100000):q0e T (n+1) 173 [.loc l] [] σ=some (.fl (q3v σ dl),σ):=by
 have ha:q0r σ (.loc l)=some dl:=h
 have e0:q2l σ (.loc l) .none .none (.int (-1))=some (.fl dl.reverse,σ):=by
  show(((q0r σ (.loc l)).map λ xs=>AV.fl xs.reverse).bind λ v=>some (v,σ))=_
  rw[ha];rfl
 have e1:q6u (q0e T n) [some (.loc l)] σ=sq (bnd (bnd (bnd (q2l σ (.loc l) .none .none (.int (-1))) λ v s=>bnd (if(!goN v)=true then none else q1h v (q3y (q0e T n)) ([none,none,none,some (.loc l)],[]) s) λ r s=>some (r.2,s)) λ fr s=>q0j false fr s) λ x s=>some (.ret x,[some (.loc l)],s)) λ v s=>some (.next,v,s):=nr (by kernel_rfl)
 have g:Got (own3 [some (.loc l)]) (q1h (.fl dl.reverse) (q3y (q0e T n)) ([none,none,none,some (.loc l)],[]) σ) (dl.reverse.foldl (app (w5k σ)) []) σ:=by
  refine w5i (e:=id) (ps:=dl.reverse) (by rw[List.map_id];rfl) (λ my v fm vs ex h=>?_) ⟨_,_,_,rfl⟩
  obtain⟨a,b,c,rfl⟩:=h
  have hv:v∈dl:=List.mem_reverse.mp (by rw[ex];simp)
  obtain⟨⟨d,rfl⟩,L,h1,h2⟩:=hl v hv
  have e2:w5k σ (.loc d)=L:=by unfold w5k;rw[h1];rfl
  obtain⟨vs',h',e'⟩:=j5q (q0e T n) (V:=[some (.loc l)]) (fr:=my.foldl (app (w5k σ)) []) (vs:=[a,some (.loc d),c,some (.loc l)]) h1 h2 (by
   simp only[q1d,List.nil_append,<-e2];exact jB (z8v ex (jD _)) hz) ⟨_,_,_,rfl⟩
  refine⟨vs',h',?_⟩
  simp only[app,e2,<-e']
  rfl
 obtain⟨vs',_,e'⟩:=g
 rw[q1d,List.nil_append]at e'
 refine j3r (w5b ..) (V:=[some (.loc l)]) ?_
 rw[e1,e0,q0d,show(!goN (.fl dl.reverse))=false from rfl,if_neg Bool.false_ne_true,e']
 rfl
theorem q6r (x y:Str):(x++y).length=x.length+y.length:=by rw[<-q2q,<-q2q,<-q2q,q0n,List.length_append]
theorem catB {x y:Str} {m k:Nat} (hx:x.length<=m) (hy:y.length<=k):(x++y).length<=m+k:=by rw[q6r];exact jH hx hy
theorem l_co:(Str.ofString ":").length<=1:=jD 1
theorem l_eq:(Str.ofString "=\"").length<=2:=jD 2
theorem l_qu:(Str.ofString "\"").length<=1:=jD 1
theorem l_bl:(Str.ofString " ").length<=1:=jD 1
theorem k3d (x:Str):Str.empty++x=x:=q5s (by rw[q0n];rfl)
theorem z7n {x y:Str} (h:x.length+y.length<=10000000):catA x y=some (x++y):=if_pos (by rw[sizeLine_eq];exact jA h (by decide))
theorem catO {x y:Str} {m k:Nat} (hx:x.length<=m) (hy:y.length<=k) (h:m+k<=10000000):catA x y=some (x++y):=z7n (jA (jH hx hy) h)
noncomputable def qtag (p t:Str) (σ:Store):Option (Str×Store):=q5o Str.empty (.str p) λ a=>(catA a (Str.ofString ":")).bind λ a=>bnd (some (AV.str t,σ)) λ x s=>q5o a x λ a=>q1l a s
noncomputable def tg (p t:Str):Str:=p++Str.ofString ":"++t
theorem j1q (p t:Str):(tg p t).length=p.length+1+t.length:=by rw[tg,q6r,q6r];rfl
theorem k5n {p t:Str} {σ:Store} (h:p.length+t.length<=1000):qtag p t σ=some (tg p t,σ):=by
 have hp:p.length<=1000:=jA (jG _ _) h
 have ht:t.length<=1000:=jA (Nat.le_add_left _ _) h
 have e1:q5o Str.empty (.str p) (λ a=>(catA a (Str.ofString ":")).bind λ a=>bnd (some (AV.str t,σ)) λ x s=>q5o a x λ a=>q1l a s)=(catA (Str.empty++p) (Str.ofString ":")).bind λ a=>bnd (some (AV.str t,σ)) λ x s=>q5o a x λ a=>q1l a s:=
  stb (catO (x:=Str.empty) (jD 0) hp (by decide)) _ rfl
 rw[k3d]at e1
 exact(stb (catO hp l_co (by decide)) _ e1).trans (stb (catO (catB hp l_co) ht (by decide)) (λ a=>q1l a σ) rfl |>.trans (if_pos (jA (catB (catB hp l_co) ht) (by rw[sizeLine_eq];decide))))
section
variable {C:q0a} {σ:Store} {l:Nat} {S:List Str} (h:σ[l]? = some (.set S))
include h
theorem j9f:q1j σ l=none:=by unfold q1j;rw[h]
theorem j1l:setC σ l=some S:=by unfold setC;rw[h]
theorem j8j:q0l T σ (.loc l) (Str.ofString "add")=some (.bi .eAdd (.loc l)):=by
 show optC (q1j σ l) _ (optC (setC σ l) _ _)=_
 rw[j9f h,j1l h]
 kernel_rfl
theorem j6r {x:Str} (hz:S.length<4000):biA .eAdd [.loc l,.str x] σ=some (.none,σ.set l (.set (addK x S))):=
 stb (j1l h) (λ ks=>if ks.length+1<scanBound then some (AV.none,σ.set l (.set (addK x ks)))else none) rfl |>.trans (if_pos (jB hz (by decide)))
theorem j8t (x:Str):cmpT σ .NotIn (.str x) (.loc l)=some (!S.contains x,σ):=by
 have e1:q0r σ (.loc l)=none:=by show(match σ[l]? with|some (.list xs)=>some xs|_=>none)=_;rw[h]
 have e2:z9l σ (.loc l)=some S:=by show(match σ[l]? with|some (.set xs)=>some xs|_=>none)=_;rw[h]
 show(((((q0r σ (.loc l)).bind λ ys=>(q1f ys).map (·.contains x)).orElse λ _=>((z9l σ (.loc l)).map λ ks=>ks.contains x).orElse λ _=>(q0k σ (.loc l)).map λ kvs=>(kvs.map (·.1)).contains x).map (!·)).bind λ v=>some (v,σ))=_
 rw[e1,e2]
 rfl
end
noncomputable abbrev vQ (d:Nat) (q u t:Str) (ps p5 p6:Option AV):Vs:=[some (.obj d),some (.str q),some (.str u),some (.str t),ps,p5,p6]
noncomputable abbrev qR (p t u:Str):AV:=.tup [.str (tg p t),.str t,.str u]
section
variable (C:q0a) {σ:Store} {d l:Nat} {S:List Str} {q u t a p:Str} {o5 o6:Option AV}
theorem q_eq:q3d C (q0c (a,p)) (vQ d q u t (some (.loc l)) o5 o6) σ=sq (ifn (vQ d q u t (some (.loc l)) (some (.str a)) (some (.str p))) (andT (some (decide (a=u),σ)) λ s=>andT (cmpT s .NotIn (.str p) (.loc l)) λ s=>some (true,s)) (q6v C (vQ d q u t (some (.loc l)) (some (.str a)) (some (.str p))))) λ v s=>sq (q8j C v s) λ v s=>some (.next,v,s):=nr (by kernel_rfl)
theorem j1h (h:σ[l]? = some (.set S)) (hu:a≠u) (hz:S.length<4000):q3d C (q0c (a,p)) (vQ d q u t (some (.loc l)) o5 o6) σ=some (.next,vQ d q u t (some (.loc l)) (some (.str a)) (some (.str p)),σ.set l (.set (addK p S))):=by
 have e:=q_eq C (σ:=σ) (d:=d) (l:=l) (q:=q) (u:=u) (t:=t) (a:=a) (p:=p) (o5:=o5) (o6:=o6)
 rw[decide_eq_false hu]at e
 refine(stq (k3t rfl) _ e).trans (stq ?_ _ rfl)
 have e2:q8j C (vQ d q u t (some (.loc l)) (some (.str a)) (some (.str p))) σ=es (vQ d q u t (some (.loc l)) (some (.str a)) (some (.str p))) ((q0l T σ (.loc l) (Str.ofString "add")).bind λ m=>cal C m (some (.str p,σ))):=nr (by kernel_rfl)
 rw[e2]
 exact es_n (stb (j8j h) (λ m=>cal C m (some (.str p,σ))) rfl |>.trans (q3o rfl (j6r h hz)))
theorem v1m (h:σ[l]? = some (.set S)) (hp:S.contains p=false) (h0:(p.length !=0)=true) (hz:p.length+t.length<=1000) :
  q3d C (q0c (u,p)) (vQ d q u t (some (.loc l)) o5 o6) σ=some (.ret (qR p t u),vQ d q u t (some (.loc l)) (some (.str u)) (some (.str p)),σ):=by
 have e:=q_eq C (σ:=σ) (d:=d) (l:=l) (q:=q) (u:=u) (t:=t) (a:=u) (p:=p) (o5:=o5) (o6:=o6)
 rw[decide_eq_true rfl]at e
 have e2:q6v C (vQ d q u t (some (.loc l)) (some (.str u)) (some (.str p))) σ=sq (bnd (bnd (evC (bnd (some (p.length !=0,σ)) λ c s=>if c=true then bnd (qtag p t s) λ r s=>some (.str r,s)else some (.str t,s)) λ s=>some ([.str t,.str u],s)) λ xs s=>if xs.length<=sizeLine then some (.tup xs,s)else none) λ x s=>some (.ret x,vQ d q u t (some (.loc l)) (some (.str u)) (some (.str p)),s)) λ v s=>some (.next,v,s):=nr (by kernel_rfl)
 rw[h0,q0d,if_pos rfl,k5n hz]at e2
 refine strr (k8i ?_ |>.trans (e2.trans (nr (by kernel_rfl)))) _ e
 rw[k7f,j8t h,hp]
 exact k7f ..
theorem j1i:∀(ps:List (Str×Str)) {σ:Store} {S:List Str} {o5 o6:Option AV},σ[l]? = some (.set S)->(∀p∈ps,p.1≠u)->S.length+ps.length<4000->
  ∃o5' o6',forA (q3d C) (ps.map q0c) (vQ d q u t (some (.loc l)) o5 o6) σ=some (.next,vQ d q u t (some (.loc l)) o5' o6',σ.set l (.set (q1i S (ps.map (·.2)))))
 | [],σ,S,o5,o6,h,_,_=>⟨o5,o6,by
  have:σ.set l (.set S)=σ:=by
   obtain⟨h1,h2⟩:=List.getElem?_eq_some_iff.mp h
   rw[<-h2,List.set_getElem_self]
  exact congrArg (λ z=>some (q0b.next,vQ d q u t (some (.loc l)) o5 o6,z)) this.symm⟩
 | (a,p)::ps,σ,S,o5,o6,h,hu,hz=>by
  have hl:l<σ.length:=(List.getElem?_eq_some_iff.mp h).1
  have hS:(addK p S).length<=S.length+1:=by unfold addK;split<;>simp
  rw[List.length_cons]at hz
  obtain⟨x5,x6,e⟩:=j1i ps (σ:=σ.set l (.set (addK p S))) (S:=addK p S) (o5:=some (.str a)) (o6:=some (.str p)) (by rw[List.getElem?_set_self hl]) (λ z hz'=>hu z (jK _ hz')) (jB (jA (Nat.add_le_add_right hS _) (jE (Nat.add_right_comm _ 1 _))) hz)
  rw[List.set_set]at e
  exact⟨x5,x6,(stq (j1h C h (hu (a,p) (jL ..)) (jB (jG _ _) (jC hz (by decide)))) _ rfl).trans e⟩
theorem k5k (h0:(p.length !=0)=true) (h1:p.length+t.length<=1000):∀(ps:List (Str×Str)) {σ:Store} {S:List Str} {o5 o6:Option AV},σ[l]? = some (.set S)->(u,p)∈ps->(ps.map (·.1)).Nodup->(ps.map (·.2)).Nodup->(∀z∈ps,z.2∉S)->S.length+ps.length<4000->
  ∃o5' o6' S',forA (q3d C) (ps.map q0c) (vQ d q u t (some (.loc l)) o5 o6) σ=some (.ret (qR p t u),vQ d q u t (some (.loc l)) o5' o6',σ.set l (.set S'))
 | [],_,_,_,_,_,hm,_,_,_,_=>nomatch hm
 | (a,b)::ps,σ,S,o5,o6,h,hm,n1,n2,hS,hz=>by
  have hl:l<σ.length:=(List.getElem?_eq_some_iff.mp h).1
  obtain⟨m1,m2⟩:=List.nodup_cons.mp n1
  obtain⟨m3,m4⟩:=List.nodup_cons.mp n2
  by_cases hu:a=u
  ·subst hu
   have hb:b=p:=by
    rcases List.mem_cons.mp hm with e|hm
    ·exact(Prod.mk.inj e).2.symm
    ·exact absurd (List.mem_map_of_mem (f:=(·.1)) hm) m1
   subst hb
   have:σ.set l (.set S)=σ:=by
    obtain⟨h1,h2⟩:=List.getElem?_eq_some_iff.mp h
    rw[<-h2,List.set_getElem_self]
   exact⟨_,_,S,by rw[this];exact strr (v1m C h (by simpa using hS _ (jL ..)) h0 h1) _ rfl⟩
  ·have hA:(addK b S).length<=S.length+1:=by unfold addK;split<;>simp
   rw[List.length_cons]at hz
   obtain⟨x5,x6,S',e⟩:=k5k h0 h1 ps (σ:=σ.set l (.set (addK b S))) (S:=addK b S) (o5:=some (.str a)) (o6:=some (.str b)) (by rw[List.getElem?_set_self hl])
    ((List.mem_cons.mp hm).resolve_left λ e=>hu (Prod.mk.inj e).1.symm) m2 m4 (λ z hz' hc=>by
     unfold addK at hc
     split at hc
     ·exact hS z (jK _ hz') hc
     ·rcases List.mem_append.mp hc with hc|hc
      ·exact hS z (jK _ hz') hc
      ·exact m3 (jJ hc▸List.mem_map_of_mem (f:=(·.2)) hz')) (jB (jA (Nat.add_le_add_right hA _) (jE (Nat.add_right_comm _ 1 _))) hz)
   rw[List.set_set]at e
   exact⟨x5,x6,S',(stq (j1h C h hu (jB (jG _ _) (jC hz (by decide)))) _ rfl).trans e⟩
end
theorem w2b {σ:Store} {v:AV} {L:List AV} (c:Store) (h:q0r σ v=some L):q0r (σ++c) v=some L:=by
 induction v using AV.casesOn with
 | fl xs=>exact h
 | loc l=>
  refine k4d h λ xs hl e=>?_
  show(match (σ++c)[l]? with|some (.list xs)=>some xs|_=>none)=_
  rw[List.getElem?_append_left (List.getElem?_eq_some_iff.mp hl).1,hl]
  exact e
 | _=>exact nope h
theorem w1w.grow {σ:Store} {dl:List AV} (h:w1w σ dl) (c:Store):w1w (σ++c) dl:=λ v hv=>let ⟨h1,L,h2,h3⟩:=h v hv;⟨h1,L,w2b c h2,h3⟩
theorem z6f {σ σ':Store} {dl:List AV} (h:∀v∈dl,w5k σ' v=w5k σ v):q3v σ' dl=q3v σ dl:=by
 unfold q3v
 rw[List.flatMap_def,List.flatMap_def,List.map_congr_left λ v hv=>h v (List.mem_reverse.mp hv)]
theorem k0j {σ:Store} {dl:List AV} (h:w1w σ dl) (c:Store):q3v (σ++c) dl=q3v σ dl:=z6f λ v hv=>by
 obtain⟨_,L,h2,_⟩:=h v hv
 unfold w5k
 rw[h2,w2b c h2]
noncomputable def Nm (q u t:Str):Prop:=∀(C:q0a) (d:Nat) (σ:Store),q3k C [some (.obj d),some (.str q),some .none,none,none,none,none] σ=some (.next,vQ d q u t none none none,σ)
structure Wk (ps:List (Str×Str)):Prop where
 n1:(ps.map (·.1)).Nodup
 n2:(ps.map (·.2)).Nodup
 z:ps.length<3000
 l:∀p∈ps,(p.2.length !=0)=true/\p.2.length<=500
section
variable (w:Who->W) (nd pa:List AV) (x:Store) (i:Who) (a:W) {q u t p:Str}
theorem x_at (j:Nat):(Bw w nd pa x i a)[j+34]? = x[j]?:=nr rfl
theorem j5s (j:Nat) (o:AObj):(Bw w nd pa x i a).set (j+34) o=Bw w nd pa (x.set j o) i a:=nr rfl
theorem z5t (o:AObj):(Bw w nd pa (x++[o]) i a)[x.length+34]? = some o:=(x_at ..).trans (by simp)
theorem w9e (o o':AObj):(Bw w nd pa (x++[o]) i a).set (x.length+34) o'=Bw w nd pa (x++[o']) i a:=by rw[j5s];simp
theorem q_1 (C:q0a):∀i,q9k C (vQ (obA i) q u t none none none) (Bw w nd pa x i a)=some (.next,vQ (obA i) q u t (some (.loc (x.length+34))) none none,Bw w nd pa (x++[.set []]) i a):=tri (nr (by kernel_rfl))
theorem q_2 (C:q0a) (l:AV):∀i,q9l C (vQ (obA i) q u t (some l) none none) (Bw w nd pa x i a)=bnd (C 173 [.loc (dlA i)] [] (Bw w nd pa x i a)) λ v s=>if frozen v=true then(q2g s v).bind λ xs=>forA (q3d C) xs (vQ (obA i) q u t (some l) none none) s else none:=tri (nr (by kernel_rfl))
theorem q_dl:∀i,q1j (Bw w nd pa x i a) (dlA i)=some a.dl:=tri (nr (by kernel_rfl))
theorem k5l (n:Nat) (hN:Nm q u t) (hl:w1w (Bw w nd pa x i a) a.dl) (ps:List (Str×Str)) (hp:q3v (Bw w nd pa x i a) a.dl=ps.map q0c) (hz:ps.length<3000) :
  w3k (q0e T (n+1)) [some (.obj (obA i)),some (.str q),some .none,none,none,none,none] (Bw w nd pa x i a)=sq (forA (q3d (q0e T (n+1))) (ps.map q0c) (vQ (obA i) q u t (some (.loc (x.length+34))) none none) (Bw w nd pa (x++[.set []]) i a)) λ v s=>q4g (q0e T (n+1)) v s:=by
 have e1:=stq (q_1 w nd pa x a (q0e T (n+1)) i) _ (stq (hN (q0e T (n+1)) (obA i) (Bw w nd pa x i a)) (λ v s=>w0y (q0e T (n+1)) v s) rfl)
 refine e1.trans (congrArg (λ m=>sq m λ v s=>q4g (q0e T (n+1)) v s) ((q_2 w nd pa (x++[.set []]) a (q0e T (n+1)) _ i).trans ?_))
 have hP:q3v (Bw w nd pa (x++[.set []]) i a) a.dl=ps.map q0c:=(k0j hl [.set []]).trans hp
 have hw:=j5r n (q_dl w nd pa (x++[.set []]) a i) (show w1w (Bw w nd pa (x++[.set []]) i a) a.dl from hl.grow [.set []]) (by rw[hP,List.length_map];exact jA ‹_› (by decide))
 simp only[hw,hP]
 rfl
theorem z2t (n:Nat) (hN:Nm q u t) (hl:w1w (Bw w nd pa x i a) a.dl) (ps:List (Str×Str)) (hp:q3v (Bw w nd pa x i a) a.dl=ps.map q0c) (hk:Wk ps) (hu:(u,p)∈ps) (ht:t.length<=400) :
  ∃S,q0e T (n+2) 90 [.obj (obA i),.str q] [] (Bw w nd pa x i a)=some (qR p t u,Bw w nd pa (x++[.set S]) i a):=by
 obtain⟨x5,x6,S,e⟩:=k5k (q0e T (n+1)) (d:=obA i) (q:=q) (t:=t) (u:=u) (p:=p) (l:=x.length+34) (hk.l _ hu).1 (by have:=(hk.l _ hu).2;show p.length+_<=_;have h2:p.length<=500:=this;exact jA (jH ‹_› ‹_›) (by decide)) ps (S:=[]) (o5:=none) (o6:=none) (z5t w nd pa x i a (.set [])) hu hk.n1 hk.n2 (λ _ _ h=>nomatch h) (Nat.lt_trans (by simpa using hk.z) (by decide))
 simp only[w9e]at e
 exact⟨S,j3r (w2g ..) ((k5l w nd pa x i a n hN hl ps hp hk.z).trans (strr e _ rfl))⟩
noncomputable def nP (k:Nat):Str:=Str.ofString "n"++q1e (k:Int)
noncomputable abbrev q0p (p:Str×Str):Str×AV:=(p.1,.str p.2)
set_option tactic.hygienic true in theorem q_b4 (C:q0a) (l:AV) (o5 o6:Option AV):∀i,q4g C (vQ (obA i) q u t (some l) o5 o6) (Bw w nd pa x i a)=sq (sq (iff (some ((a.map.map (·.1)).contains u,Bw w nd pa x i a)) (q4e C (vQ (obA i) q u t (some l) o5 o6)) (q4f C (vQ (obA i) q u t (some l) o5 o6))) λ v s=>sq (q2v C v s) λ v s=>sq (q2w C v s) λ v s=>some (.next,v,s)) λ v s=>w0z C v s:=tri (nr (by kernel_rfl))
theorem q_b5 (C:q0a) (l:AV) (o5 o6:Option AV):∀i,q4e C (vQ (obA i) q u t (some l) o5 o6) (Bw w nd pa x i a)=sq (asg (vQ (obA i) q u t (some l) o5 o6) 6 ((q0t u a.map).bind λ v=>some (norm v,Bw w nd pa x i a))) λ v s=>some (.next,v,s):=tri (nr (by kernel_rfl))
noncomputable def b6K (V:Vs) (y:AV) (s:Store):ResS:=bnd (bnd (some (setI V 6 y,s)) λ vs s=>bnd (bnd (bnd (nm vs 0 s) λ x s=>q1b s x (Str.ofString "_prefix_map")) λ m s=>bnd (nm vs 2 s) λ k s=>putS m k y vs s) λ vs s=>some (vs,s)) λ vs s=>some (.next,vs,s)
theorem q_b6 (C:q0a) (l:AV) (o5 o6:Option AV):∀i,q4f C (vQ (obA i) q u t (some l) o5 o6) (Bw w nd pa x i a)=sq (bnd (bnd ((if(a.map.length:Int).natAbs<10 ^ 10 then some (q1e (a.map.length:Int))else none).bind λ s=>(catA (Str.ofString "n") s).bind λ p=>q1l p (Bw w nd pa x i a)) λ r s=>some (.str r,s)) (b6K (vQ (obA i) q u t (some l) o5 o6))) λ v s=>some (.next,v,s):=tri (nr (by kernel_rfl))
theorem q_6K (l:AV) (o5 o6:Option AV):∀i,b6K (vQ (obA i) q u t (some l) o5 o6) (.str p) (Bw w nd pa x i a)=bnd (bnd (if a.map.length<sizeLine then some (vQ (obA i) q u t (some l) o5 (some (.str p)),Bw w nd pa x i (a.wm (q1a u (.str p) a.map)))else none) λ v s=>some (v,s)) λ v s=>some (.next,v,s):=tri (nr (by kernel_rfl))
theorem v1k (C:q0a) (l:AV) (o5:Option AV):∀i,q2v C (vQ (obA i) q u t (some l) o5 (some (.str p))) (Bw w nd pa x i a)=es (vQ (obA i) q u t (some l) o5 (some (.str p))) (bnd (getR (Bw w nd pa x i a) (.loc (dlA i)) (.int (-1))) λ v s=>(q0l T s v (Str.ofString "append")).bind λ m=>cal C m (bnd (evC (some (.str u,s)) λ s=>evC (some (.str p,s)) λ s=>some ([],s)) λ xs s=>if xs.length<=sizeLine then some (.tup xs,s)else none)):=tri (nr (by kernel_rfl))
theorem v1l (C:q0a) (l:AV) (o5:Option AV) {σ:Store} (d:Nat):q2w C (vQ d q u t (some l) o5 (some (.str p))) σ=bnd (bnd (evC (bnd (qtag p t σ) λ r s=>some (.str r,s)) λ s=>some ([.str t,.str u],s)) λ xs s=>if xs.length<=sizeLine then some (.tup xs,s)else none) λ x s=>some (.ret x,vQ d q u t (some l) o5 (some (.str p)),s):=nr (by kernel_rfl)
end
theorem k8f (n:Nat):idxA (n+1) (-1)=some n:=(if_pos (by decide)).trans (seqIndex?_neg_one (Nat.succ_pos n))
theorem w9a {σ:Store} {l:Nat} {D:List AV} {v:AV} (h:q1j σ l=some (D++[v])):getR σ (.loc l) (.int (-1))=some (norm v,σ):=by
 show((q1j σ l).bind λ xs=>(idxA xs.length (-1)).bind (xs[·]?)).bind (λ v=>some (norm v,σ))=_
 rw[h]
 show((idxA (D++[v]).length (-1)).bind ((D++[v])[·]?)).bind _=_
 rw[List.length_append,show D.length + [v].length=D.length+1 from rfl,k8f]
 show((D++[v])[D.length]?).bind _=_
 rw[List.getElem?_concat_length]
 rfl
theorem k2a {σ:Store} {l:Nat} {xs:List AV} {v:AV} (h:σ[l]? = some (.list xs)) (hz:xs.length<100000):biA .lAppend [.loc l,v] σ=some (.none,σ.set l (.list (xs++[v]))):=
 stb (q3r h) (λ xs=>if xs.length<sizeLine then some (AV.none,σ.set l (.list (xs++[v])))else none) rfl |>.trans (if_pos (few (Nat.lt_trans hz (by decide))))
theorem k4l {σ:Store} {l:Nat} {xs:List AV} (h:σ[l]? = some (.list xs)):q0l T σ (.loc l) (Str.ofString "append")=some (.bi .lAppend (.loc l)):=by
 show optC (q1j σ l) _ _=_
 rw[q3r h]
 kernel_rfl
theorem w2p (u:Str):∀kvs:List (Str×AV),(kvs.map (·.1)).contains u=(q0t u kvs).isSome
 | []=>rfl
 | (k,v)::r=>by
  simp only[List.map_cons,List.contains_cons,w2p u r]
  show _=(if k=u then some v else q0t u r).isSome
  by_cases h:k=u
  ·rw[if_pos h,h,beq_self_eq_true];rfl
  ·rw[if_neg h,beq_false_of_ne λ e=>h e.symm];rfl
theorem z4q {u:Str} {v:AV} {kvs:List (Str×AV)} (h:q0t u kvs=none):q1a u v kvs=kvs++[(u,v)]:=by
 have hc:=w2p u kvs
 rw[h]at hc
 refine if_neg λ q=>?_
 obtain⟨kv,h1,h2⟩:=List.any_eq_true.mp q
 rw[<-of_decide_eq_true h2]at hc
 exact absurd (List.contains_iff_mem.mpr (List.mem_map_of_mem (f:=(·.1)) h1)) (by rw[hc];exact Bool.false_ne_true)
noncomputable def Given (m:List (Str×AV)) (u p:Str) (m':List (Str×AV)):Prop:=(q0t u m=some (.str p)/\m'=m)\/(q0t u m=none/\p=nP m.length/\m'=m++[(u,.str p)])
section
variable (w:Who->W) (nd pa:List AV) (x:Store) (i:Who) (a:W) {q u t p:Str}
theorem j9b (C:q0a) (l:AV) (o5 o6:Option AV) (m':List (Str×AV)) (hm:Given a.map u p m') (hz:a.map.length<1000) (hp:p.length<=500) :
  iff (some ((a.map.map (·.1)).contains u,Bw w nd pa x i a)) (q4e C (vQ (obA i) q u t (some l) o5 o6)) (q4f C (vQ (obA i) q u t (some l) o5 o6))=some (.next,vQ (obA i) q u t (some l) o5 (some (.str p)),Bw w nd pa x i (a.wm m')):=by
 rw[w2p]
 rcases hm with⟨h1,rfl⟩|⟨h1,rfl,rfl⟩
 ·rw[h1]
  refine(q_b5 w nd pa x a C l o5 o6 i).trans ?_
  rw[h1]
  exact(tri (nr (by kernel_rfl)):∀i,sq (asg (vQ (obA i) q u t (some l) o5 o6) 6 (some (.str p,Bw w nd pa x i a))) (λ v s=>some (.next,v,s))=some (.next,vQ (obA i) q u t (some l) o5 (some (.str p)),Bw w nd pa x i (a.wm a.map))) i
 ·rw[h1]
  have hl:(Str.ofString "n").length+(q1e (a.map.length:Int)).length<=500:=by rw[<-q6r];exact hp
  refine(q_b6 w nd pa x a C l o5 o6 i).trans ?_
  rw[if_pos (show((a.map.length:Nat):Int).natAbs<10 ^ 10 by exact jA ‹_› (by decide))]
  have e1:=stb (z7n (jA hl (by decide))) (λ p=>q1l p (Bw w nd pa x i a)) rfl |>.trans (if_pos (show(nP a.map.length).length<=sizeLine by rw[sizeLine_eq];exact jA ‹_› (by decide)))
  have e2:=(q_6K w nd pa x a l o5 o6 i (p:=nP a.map.length) (q:=q) (u:=u) (t:=t)).trans (by rw[if_pos (few (Nat.lt_trans hz (by decide))),z4q h1])
  exact stq (stk (stk e1 (λ r s=>some (AV.str r,s)) rfl) (b6K (vQ (obA i) q u t (some l) o5 o6)) rfl |>.trans e2) _ rfl
theorem q_41 (C:q0a) (l:AV) (o5:Option AV) {D lv:List AV} {j:Nat} (hD:a.dl=D++[.loc (j+34)]) (hj:x[j]? = some (.list lv)) (hlv:lv.length<1000) :
  q2v C (vQ (obA i) q u t (some l) o5 (some (.str p))) (Bw w nd pa x i a)=some (.next,vQ (obA i) q u t (some l) o5 (some (.str p)),Bw w nd pa (x.set j (.list (lv++[q0c (u,p)]))) i a):=by
 have h1:=w9a ((q_dl w nd pa x a i).trans (congrArg some hD))
 have h2:(Bw w nd pa x i a)[j+34]? = some (.list lv):=(x_at ..).trans hj
 have h3:=k2a (v:=q0c (u,p)) h2 (Nat.lt_trans hlv (by decide))
 rw[j5s]at h3
 have h4:=k4l h2
 rw[v1k w nd pa x a C l o5 i,h1]
 generalize Bw w nd pa x i a=σ at h2 h3 h4 ⊢
 refine es_n (v:=.none) ?_
 show((q0l T σ (.loc (j+34)) (Str.ofString "append")).bind _)=_
 rw[h4]
 exact q3o (v:=q0c (u,p)) (σ:=σ) (nr (by kernel_rfl)) h3
theorem q_42 (C:q0a) (l:AV) (o5:Option AV) {σ:Store} (d:Nat) (h:p.length+t.length<=1000):q2w C (vQ d q u t (some l) o5 (some (.str p))) σ=some (.ret (qR p t u),vQ d q u t (some l) o5 (some (.str p)),σ):=by
 rw[v1l,k5n h]
 exact nr (by kernel_rfl)
theorem k5m (n:Nat) (hN:Nm q u t) (hl:w1w (Bw w nd pa x i a) a.dl) (ps:List (Str×Str)) (hp:q3v (Bw w nd pa x i a) a.dl=ps.map q0c) (hz:ps.length<3000) (hu:∀p∈ps,p.1≠u) (ht:t.length<=400)
  {D lv:List AV} {j:Nat} (hD:a.dl=D++[.loc (j+34)]) (hj:x[j]? = some (.list lv)) (hlv:lv.length<1000) {m':List (Str×AV)} (hm:Given a.map u p m') (hmz:a.map.length<1000) (hpz:p.length<=500) :
  ∃S,q0e T (n+2) 90 [.obj (obA i),.str q] [] (Bw w nd pa x i a)=some (qR p t u,Bw w nd pa ((x++[AObj.set S]).set j (.list (lv++[q0c (u,p)]))) i (a.wm m')):=by
 generalize hC:q0e T (n+1)=C
 rcases _:j1i C (d:=obA i) (q:=q) (t:=t) (u:=u) (l:=x.length+34) ps (S:=[]) (o5:=none) (o6:=none) (z5t w nd pa x i a (AObj.set [])) hu (Nat.lt_trans (by simpa using hz) (by decide))with⟨x5,x6,e⟩
 rw[w9e]at e
 have e0:=k5l w nd pa x i a n hN hl ps hp hz
 rw[hC]at e0
 have e1:=stq e _ e0
 generalize q1i [] (ps.map (·.2))=S at *
 have hj':(x++[AObj.set S])[j]? = some (.list lv):=by rw[List.getElem?_append_left (List.getElem?_eq_some_iff.mp hj).1];exact hj
 refine⟨S,j3r (V:=vQ (obA i) q u t (some (.loc (x.length+34))) x5 (some (.str p))) (w2g ..) ?_⟩
 rw[hC]
 have e2:=q_b4 w nd pa (x++[AObj.set S]) a C (.loc (x.length+34)) x5 x6 i (q:=q) (u:=u) (t:=t)
 rw[j9b w nd pa (x++[AObj.set S]) i a C (.loc (x.length+34)) x5 x6 m' hm hmz hpz (q:=q) (t:=t),q0v,q_41 w nd pa (x++[AObj.set S]) i (a.wm m') C (.loc (x.length+34)) x5 hD hj' hlv (q:=q) (t:=t) (u:=u) (p:=p),q0v,q_42 C (.loc (x.length+34)) x5 (obA i) (by exact jA (jH ‹_› ‹_›) (by decide)) (q:=q) (t:=t) (u:=u) (p:=p),z8z,z8z]at e2
 exact e1.trans e2
end
noncomputable def px (M:List Str) (u:Str):Str:=if u=xmlS then Str.ofString "xml" else nP (M.idxOf u)
noncomputable def mp (M:List Str):List (Str×AV):=M.zipIdx.map λ p=>(p.1,.str (nP p.2))
noncomputable def prs (M L:List Str):List (Str×Str):=L.map λ u=>(u,px M u)
theorem j1b:((List.range 200).map nP).Nodup/\∀p∈(List.range 200).map nP,(p.length !=0)=true/\p.length<=400/\p≠Str.ofString "xml":=by decide +kernel
theorem j4r {k:Nat} (h:k<200):(nP k).length !=0/\(nP k).length<=400/\nP k≠Str.ofString "xml":=j1b.2 _ (List.mem_map_of_mem (List.mem_range.mpr h))
theorem j8n {j k:Nat} (hj:j<200) (hk:k<200) (h:nP j=nP k):j=k:=by
 have:=(List.getElem?_inj (i:=j) (j:=k) (l:=(List.range 200).map nP) (by simpa using hj) j1b.1).mp (by rw[List.getElem?_map,List.getElem?_map,List.getElem?_range hj,List.getElem?_range hk];exact congrArg some h)
 exact this
section
variable {M L:List Str} {u v:Str}
theorem w7n (h:u∈M):M.idxOf u<M.length:=List.idxOf_lt_length_of_mem h
set_option tactic.hygienic true in theorem w3f (hM:M.length<=190) (h:u=xmlS\/u∈M):((px M u).length !=0)=true/\(px M u).length<=400:=by
 unfold px
 split
 ·exact⟨rfl,by decide⟩
 ·rename_i q
  obtain⟨h1,h2,_⟩:=j4r (jC (w7n (h.resolve_left q)) (jA hM (by decide)))
  exact⟨h1,h2⟩
theorem j9a (hM:M.length<=190) (hu:u=xmlS\/u∈M) (hv:v=xmlS\/v∈M) (h:px M u=px M v):u=v:=by
 have z:∀{u},u∈M->M.idxOf u<200:=λ h=>jC (w7n h) (jA hM (by decide))
 unfold px at h
 by_cases h1:u=xmlS<;>by_cases h2:v=xmlS
 ·rw[h1,h2]
 ·rw[if_pos h1,if_neg h2]at h
  exact absurd h.symm (j4r (z (hv.resolve_left h2))).2.2
 ·rw[if_neg h1,if_pos h2]at h
  exact absurd h (j4r (z (hu.resolve_left h1))).2.2
 ·rw[if_neg h1,if_neg h2]at h
  have e:=j8n (z (hu.resolve_left h1)) (z (hv.resolve_left h2)) h
  rw[<-List.getElem_idxOf (w7n (hu.resolve_left h1)),<-List.getElem_idxOf (w7n (hv.resolve_left h2))]
  congr 1
set_option tactic.hygienic true in theorem k5j (h:u=xmlS\/u∈M):px (M++[v]) u=px M u:=by
 unfold px
 split
 ·rfl
 ·rename_i q
  rw[List.idxOf_append,if_pos (h.resolve_left q)]
theorem k9q (h:∀u∈L,u=xmlS\/u∈M):prs (M++[v]) L=prs M L:=List.map_congr_left λ u hu=>by rw[k5j (h u hu)]
theorem j4w:(prs M L).map (·.1)=L:=by rw[prs,List.map_map];exact List.map_id' L
theorem j1f (hM:M.length<=190) (hn:L.Nodup) (h:∀u∈L,u=xmlS\/u∈M) (hz:L.length<3000):Wk (prs M L) where
 n1:=by rw[j4w];exact hn
 n2:=by
  rw[prs,List.map_map]
  refine List.pairwise_map.mpr (hn.imp_of_mem λ ha hb hne e=>hne (j9a hM (h _ ha) (h _ hb) e))
 z:=by rw[prs,List.length_map];exact hz
 l:=λ p hp=>by
  obtain⟨u,hu,rfl⟩:=List.mem_map.mp hp
  obtain⟨h1,h2⟩:=w3f hM (h u hu)
  exact⟨h1,jA h2 (by decide)⟩
theorem z8a (u:Str):∀(M:List Str) (k:Nat),q0t u ((M.zipIdx k).map λ p=>(p.1,AV.str (nP p.2)))=if u∈M then some (.str (nP (k+M.idxOf u)))else none
 | [],k=>rfl
 | a::M,k=>by
  show(if a=u then some (AV.str (nP k))else q0t u ((M.zipIdx (k+1)).map λ p=>(p.1,AV.str (nP p.2))))=_
  by_cases h:a=u
  ·subst h;rw[if_pos rfl,if_pos (jL ..),List.idxOf_cons_self,Nat.add_zero]
  ·rw[if_neg h,z8a u M (k+1),List.idxOf_cons,beq_false_of_ne h]
   by_cases hm:u∈M
   ·rw[if_pos hm,if_pos (jK _ hm),Nat.add_assoc,Nat.add_comm 1];rfl
   ·rw[if_neg hm,if_neg (λ q=>hm ((List.mem_cons.mp q).resolve_left λ e=>h e.symm))]
theorem j3t (u:Str) (M:List Str):q0t u (mp M)=if u∈M then some (.str (nP (M.idxOf u)))else none:=by rw[mp,z8a,Nat.zero_add]
theorem j4p:mp (M++[u])=mp M++[(u,.str (nP M.length))]:=by
 unfold mp
 rw[List.zipIdx_append,List.map_append,Nat.zero_add]
 rfl
theorem j0z:(mp M).length=M.length:=by rw[mp,List.length_map,List.length_zipIdx]
noncomputable def need (M:List Str) (u:Str):List Str:=if u∈M then M else M++[u]
theorem w9m (M:List Str) (u:Str):u∈need M u:=by unfold need;split<;>simp_all
theorem w9n {M:List Str} {v:Str} (u:Str) (h:v∈M):v∈need M u:=by unfold need;split<;>simp[h]
theorem lj (hu:u≠xmlS):Given (mp M) u (px (need M u) u) (mp (need M u)):=by
 delta need Given px
 rw[j3t,if_neg hu,j0z]
 by_cases h:u∈M
 ·rw[if_pos h,if_pos h];exact .inl ⟨rfl,rfl⟩
 ·have e:(M++[u]).idxOf u=M.length:=by rw[List.idxOf_append,if_neg h,List.idxOf_cons_self,Nat.zero_add]
  rw[if_neg h,if_neg h,e]
  exact .inr ⟨rfl,rfl,j4p⟩
theorem z8w (h:∀u∈L,u=xmlS\/u∈M) (v:Str):prs (need M v) L=prs M L:=by
 unfold need
 split
 ·rfl
 ·exact k9q h
theorem j4y (h:u=xmlS\/u∈M) (v:Str):px (need M v) u=px M u:=by
 unfold need
 split
 ·rfl
 ·exact k5j h
end
noncomputable abbrev zP:AV:=q0c (Str.ofString "z",Str.ofString "n0")
noncomputable def lvN (x:Store) (a:Nat):Option (List AV):=if a=5\/a=14\/a=26 then some [xmlP]else if a=20 then some [zP]else if 34<=a then q1j x (a - 34)else none
noncomputable def lvA (x:Store):AV->Option (List AV) | .loc a=>lvN x a|_=>none
inductive Lv (x:Store) (M:List Str):List AV->List Str->Prop
 | nil:Lv x M [] []
 | cons {v:AV} {dl:List AV} {L P:List Str} (h:lvA x v=some ((prs M L).map q0c)) (r:Lv x M dl P):Lv x M (v::dl) (L++P)
set_option tactic.hygienic true in theorem j8f (w:Who->W) (nd pa:List AV) (x:Store) (i:Who) (a:W) {v:AV} {L:List AV} (h:lvA x v=some L):(∃l,v = .loc l)/\q0r (Bw w nd pa x i a) v=some L:=by
 induction v using AV.casesOn with
 | loc l=>
  refine⟨⟨l,rfl⟩,?_⟩
  have h:lvN x l=some L:=h
  unfold lvN at h
  split at h
  ·rename_i q
   obtain rfl:=jI h
   rcases q with rfl|rfl|rfl<;>rfl
  ·split at h
   ·rename_i q
    subst q
    obtain rfl:=jI h
    rfl
   ·refine q0o h λ q h=>?_
    obtain⟨j,rfl⟩:∃j,l=j+34:=⟨l - 34,(Nat.sub_add_cancel q).symm⟩
    rw[Nat.add_sub_cancel]at h
    exact h
 | _=>exact nope h
set_option tactic.hygienic true in theorem w3a {x:Store} {v:AV} {L:List AV} (c:Store) (h:lvA x v=some L):lvA (x++c) v=some L:=by
 induction v using AV.casesOn with
 | loc l=>
  have h:lvN x l=some L:=h
  show lvN (x++c) l=some L
  unfold lvN at h ⊢
  split
  ·rename_i q;rw[if_pos q]at h;exact h
  ·rename_i q
   rw[if_neg q]at h
   split
   ·rename_i q;rw[if_pos q]at h;exact h
   ·rename_i q
    rw[if_neg q]at h
    refine q0o h λ q h=>?_
    rw[if_pos q]
    have e:=w2z h
    exact q3r (by rw[List.getElem?_append_left (List.getElem?_eq_some_iff.mp e).1];exact e)
 | _=>exact nope h
theorem Lv.grow {x:Store} {M:List Str} {d:List AV} {P:List Str} (h:Lv x M d P) (c:Store):Lv (x++c) M d P:=by
 induction h with
 | nil=>exact .nil
 | cons h _ ih=>exact .cons (w3a c h) ih
theorem Lv.need {x:Store} {M:List Str} {d:List AV} {P:List Str} (h:Lv x M d P) (v:Str) (hs:∀u∈P,u=xmlS\/u∈M):Lv x (need M v) d P:=by
 induction h with
 | nil=>exact .nil
 | cons h _ ih=>
  refine .cons ?_ (ih λ u hu=>hs u (List.mem_append_right _ hu))
  rw[z8w λ u hu=>hs u (List.mem_append_left _ hu)]
  exact h
theorem Lv.walk {x:Store} {M:List Str} {d:List AV} {P:List Str} (h:Lv x M d P) (w:Who->W) (nd pa:List AV) (i:Who) (a:W) :
  w1w (Bw w nd pa x i a) d/\d.flatMap (w5k (Bw w nd pa x i a))=(prs M P).map q0c:=by
 induction h with
 | nil=>exact⟨(λ _ h=>nomatch h),rfl⟩
 | cons h _ ih=>
  obtain⟨h1,h2⟩:=j8f w nd pa _ i a h
  refine⟨λ v hv=>?_,?_⟩
  ·rcases List.mem_cons.mp hv with rfl|hv
   ·exact⟨h1,_,h2,_,rfl⟩
   ·exact ih.1 v hv
  ·simp only[List.flatMap_cons,ih.2,prs,prs,List.map_append,List.map_append]
   congr 1
   unfold w5k
   rw[h2]
   rfl
structure Nst (x0:Store) (D:List AV) (P M L:List Str):Prop where
 lv:Lv x0 M D.reverse P
 nd:(L++P).Nodup
 sub:∀u∈L++P,u=xmlS\/u∈M
 xm:xmlS∈P
 mz:M.length<=180
 lz:L.length<=100
 pz:P.length<=900
noncomputable def nM (P M L:List Str) (u:Str):List Str:=if u∈L++P then M else need M u
noncomputable def nL (P L:List Str) (u:Str):List Str:=if u∈L++P then L else L++[u]
theorem z8m (x0 y:Store) (L:List AV):lvA (x0++AObj.list L::y) (.loc (x0.length+34))=some L:=by
 show lvN _ _=_
 unfold lvN
 rw[if_neg (by lia),if_neg (by lia),if_pos (by exact Nat.le_add_left _ _),Nat.add_sub_cancel]
 exact q3r (by simp)
section
variable (w:Who->W) (nd pa:List AV) (x0 y:Store) (i:Who) (a:W) {D:List AV} {P M L:List Str} {q u t:Str}
noncomputable abbrev Sn (M L:List Str) (y:Store):Store:=Bw w nd pa (x0++.list ((prs M L).map q0c)::y) i (a.wm (mp M))
theorem k4v (n:Nat) (hD:a.dl=D++[.loc (x0.length+34)]) (H:Nst x0 D P M L) (hN:Nm q u t) (ht:t.length<=400) :
  ∃S,q0e T (n+2) 90 [.obj (obA i),.str q] [] (Sn w nd pa x0 i a M L y)=some (qR (px (nM P M L u) u) t u,Sn w nd pa x0 i a (nM P M L u) (nL P L u) (y++[AObj.set S]))/\(u=xmlS\/u∈nM P M L u):=by
 have hl:Lv (x0++.list ((prs M L).map q0c)::y) M a.dl.reverse (L++P):=by
  rw[hD,List.reverse_append]
  exact .cons (z8m ..) (H.lv.grow _)
 obtain⟨h1,h2⟩:=hl.walk w nd pa i (a.wm (mp M))
 have h1:w1w (Sn w nd pa x0 i a M L y) a.dl:=λ v hv=>h1 v (List.mem_reverse.mpr hv)
 have hz:(L++P).length<3000:=by rw[List.length_append];exact jB (jH H.lz H.pz) (by decide)
 have hM:M.length<=190:=jA H.mz (by decide)
 by_cases hu:u∈L++P
 ·rcases _:z2t w nd pa _ i (a.wm (mp M)) n hN h1 (prs M (L++P)) h2 (j1f hM H.nd H.sub hz) (p:=px M u) (List.mem_map.mpr ⟨u,hu,rfl⟩) ht with⟨S,e⟩
  refine⟨S,?_,?_⟩
  ·simp only[nM,nL,if_pos hu,if_pos hu]
   refine e.trans ?_
   rw[List.append_assoc]
   rfl
  ·rw[nM,if_pos hu];exact H.sub u hu
 ·have hx:u≠xmlS:=λ e=>hu (List.mem_append_right _ (e▸H.xm))
  have hnz:(need M u).length<=190:=by unfold need;have:=H.mz;split<;>simp<;>(first|assumption|exact jA ‹_› (by decide))
  obtain⟨S,e⟩:=k5m w nd pa (x0++.list ((prs M L).map q0c)::y) i (a.wm (mp M)) n hN h1 (prs M (L++P)) h2 (by rw[prs,List.length_map];exact hz) (λ p hp e=>hu (by obtain⟨v,hv,rfl⟩:=List.mem_map.mp hp;exact e▸hv)) ht
   (D:=D) (lv:=(prs M L).map q0c) (j:=x0.length) hD (by simp) (by simp only[List.length_map,prs,List.length_map];exact jB H.lz (by decide)) (lj hx) (by show(mp M).length<_;rw[j0z];exact jB H.mz (by decide)) (jA (w3f hnz (.inr (w9m M u))).2 (by decide))
  refine⟨S,?_,?_⟩
  ·simp only[nM,nL,if_neg hu,if_neg hu]
   refine e.trans ?_
   have e1:(prs M L).map q0c++[q0c (u,px (need M u) u)]=(prs (need M u) (L++[u])).map q0c:=by
    rw[<-z8w (M:=M) (λ v hv=>H.sub v (List.mem_append_left _ hv)) u,prs,prs,List.map_append,List.map_append];rfl
   simp only[e1,List.append_assoc,List.set_append_right _ _ (jD _),Nat.sub_self]
   rfl
  ·rw[nM,if_neg hu];exact .inr (w9m M u)
theorem Nst.step (H:Nst x0 D P M L) (u:Str) (hm:(nM P M L u).length<=180) (hl:(nL P L u).length<=100):Nst x0 D P (nM P M L u) (nL P L u):=by
 by_cases hu:u∈L++P
 ·rw[nM,nL,if_pos hu,if_pos hu];exact H
 ·rw[nM,nL,if_neg hu,if_neg hu]at *
  refine⟨H.lv.need u λ v hv=>H.sub v (List.mem_append_right _ hv),?_,λ v hv=>?_,H.xm,hm,hl,H.pz⟩
  ·rw[List.append_assoc]
   refine List.nodup_append.mpr ?_
   obtain⟨n1,n2,n3⟩:=List.nodup_append.mp H.nd
   rw[List.mem_append,not_or]at hu
   refine⟨n1,List.nodup_cons.mpr ⟨hu.2,n2⟩,λ b hb c hc=>?_⟩
   rcases List.mem_cons.mp hc with rfl|hc
   ·exact λ e=>hu.1 (e▸hb)
   ·exact n3 b hb c hc
  ·rcases List.mem_append.mp hv with hv|hv
   ·rcases List.mem_append.mp hv with hv|hv
    ·exact(H.sub v (List.mem_append_left _ hv)).imp id (w9n u)
    ·rw[jJ hv];exact .inr (w9m M u)
   ·exact(H.sub v (List.mem_append_right _ hv)).imp id (w9n u)
end
noncomputable abbrev vS (d:Nat) (q:Str) (av:AV) (nl:Nat) (ws:List Str) (k v an pq uri al aq sb wr:Option AV):Vs:=
 [some (.obj d),some (.str q),some av,some (.loc nl),some .none,k,v,some (.ws ws),some (.fd [] []),none,some .none,an,none,some (.mt 90 (.obj d)),pq,uri,al,aq,sb,wr]
noncomputable abbrev vS0 (d:Nat) (q:Str) (av:AV) (nl:Nat) (ws:List Str):Vs:=vS d q av nl ws none none none none none none none none none
theorem j1a (P M L:List Str) (u:Str):(nM P M L u).length<=M.length+1:=by delta nM need;split;exact Nat.le_succ _;split<;>simp
theorem k4t (P L:List Str) (u:Str):(nL P L u).length<=L.length+1:=by unfold nL;split<;>simp
noncomputable def nst (U:Str->Str) (P:List Str) (s:List Str×List Str) (q:Str):List Str×List Str:=(nM P s.1 s.2 (U q),nL P s.2 (U q))
noncomputable def accO (U Tt:Str->Str) (M my:List Str):List (Str×AV):=my.map λ q=>(q,qR (px M (U q)) (Tt q) (U q))
theorem w1o (U Tt:Str->Str) (M:List Str) (q:Str):∀my:List Str,q0t q (accO U Tt M my)=if q∈my then some (qR (px M (U q)) (Tt q) (U q))else none
 | []=>rfl
 | a::my=>by
  show(if a=q then some (qR (px M (U a)) (Tt a) (U a))else q0t q (accO U Tt M my))=_
  by_cases h:a=q
  ·subst h;rw[if_pos rfl,if_pos (jL ..)]
  ·rw[if_neg h,w1o U Tt M q my]
   by_cases hm:q∈my
   ·rw[if_pos hm,if_pos (jK _ hm)]
   ·rw[if_neg hm,if_neg λ z=>hm ((List.mem_cons.mp z).resolve_left λ e=>h e.symm)]
theorem v1j {P M L:List Str} {v:Str} (h:v=xmlS\/v∈M) (u:Str):px (nM P M L u) v=px M v:=by
 unfold nM
 split
 ·rfl
 ·exact j4y h u
section
variable (C:q0a) (w:Who->W) (nd pa:List AV) (x0:Store) (i:Who) (a:W) {D:List AV} (U Tt:Str->Str) {V:Vs}
theorem v2e {d:Nat} {q tg:Str} {av:AV} {nl:Nat} {ws:List Str} {o1 o2:Option AV} {fr:List (Str×AV)} {σ:Store} :
  q2e C (.str q) (o1::o2::vS0 d tg av nl ws,fr) σ=bnd (bnd (calA C (.mt 90 (.obj d)) (some (.str q,σ))) λ x s=>w5f fr (.str q) x s) λ r s=>some ((o1::some (.str q)::vS0 d tg av nl ws,r),s):=nr (by kernel_rfl)
theorem z8p (n:Nat) (hD:a.dl=D++[.loc (x0.length+34)]) {P:List Str} (tg:Str) (av:AV) (nl:Nat) (ws:List Str):∀(fm my:List Str) (M L:List Str) (y:Store) (o1 o2:Option AV),
  Nst x0 D P M L->M.length+fm.length<=180->L.length+fm.length<=100->my.length+fm.length<=100->(∀q∈fm,Nm q (U q) (Tt q)/\(Tt q).length<=400)->(my++fm).Nodup->(∀q∈my,U q=xmlS\/U q∈M)->
  ∃o1' o2' y',z5y (q2e (q0e T (n+2))) (fm.map .str) (o1::o2::vS0 (obA i) tg av nl ws,accO U Tt M my) (Sn w nd pa x0 i a M L y)
   = some ((o1' :: o2' :: vS0 (obA i) tg av nl ws,accO U Tt (fm.foldl (nst U P) (M,L)).1 (my++fm)),Sn w nd pa x0 i a (fm.foldl (nst U P) (M,L)).1 (fm.foldl (nst U P) (M,L)).2 y')
   /\Nst x0 D P (fm.foldl (nst U P) (M,L)).1 (fm.foldl (nst U P) (M,L)).2/\∀q∈my++fm,U q=xmlS\/U q∈(fm.foldl (nst U P) (M,L)).1
 | [],my,M,L,y,o1,o2,H,_,_,_,_,_,h6=>⟨o1,o2,y,by rw[List.append_nil];rfl,H,by rw[List.append_nil];exact h6⟩
 | q::fm,my,M,L,y,o1,o2,H,h1,h2,h3,h4,h5,h6=>by
  obtain⟨hN,ht⟩:=h4 q (jL ..)
  obtain⟨S,e,hu⟩:=k4v w nd pa x0 y i a n hD H hN ht
  rw[List.length_cons]at h1 h2 h3
  have hM:=j1a P M L (U q)
  have hL:=k4t P L (U q)
  have H':=H.step x0 (U q) (jA hM (jA (Nat.add_le_add_left (Nat.succ_le_succ (Nat.zero_le _)) _) h1)) (jA hL (jA (Nat.add_le_add_left (Nat.succ_le_succ (Nat.zero_le _)) _) h2))
  have hq:q∉my:=λ hq=>(List.nodup_append.mp h5).2.2 q hq q (jL ..) rfl
  have ea:accO U Tt (nM P M L (U q)) my=accO U Tt M my:=List.map_congr_left λ r hr=>by rw[v1j (h6 r hr)]
  (refine Classical.byContradiction λ kk0=>?_;obtain⟨o1',o2',y',e',H2⟩:=z8p n hD tg av nl ws fm (my++[q]) (nM P M L (U q)) (nL P L (U q)) (y++[AObj.set S]) o1 (some (.str q)) H' (jA (Nat.add_le_add_right hM _) (jA (jE (Nat.add_right_comm _ 1 _)) h1)) (jA (Nat.add_le_add_right hL _) (jA (jE (Nat.add_right_comm _ 1 _)) h2)) (by rw[List.length_append,List.length_singleton];exact jA (jE (Nat.add_right_comm _ 1 _)) h3)
    (λ r hr=>h4 r (jK _ hr)) (by rw[List.append_assoc];exact h5) (λ r hr=>by
     rcases List.mem_append.mp hr with hr|hr
     ·exact(h6 r hr).imp id λ h=>by unfold nM;split;exact h;exact w9n _ h
     ·rw[jJ hr];exact hu)<;>(refine kk0 ?_;clear kk0))
  rw[List.append_assoc]at H2
  refine⟨o1',o2',y',?_,H2⟩
  have e2:w5f (accO U Tt M my) (.str q) (qR (px (nM P M L (U q)) (U q)) (Tt q) (U q)) (Sn w nd pa x0 i a (nM P M L (U q)) (nL P L (U q)) (y++[AObj.set S]))=some (accO U Tt (nM P M L (U q)) (my++[q]),Sn w nd pa x0 i a (nM P M L (U q)) (nL P L (U q)) (y++[AObj.set S])):=by
   refine(if_pos (few (by rw[accO,List.length_map];exact jB (jA (jG _ _) h3) (by decide)))).trans ?_
   rw[z4q (by rw[w1o,if_neg hq]),<-ea,accO,accO,List.map_append]
   rfl
  have e3:q2e (q0e T (n+2)) (.str q) (o1::o2::vS0 (obA i) tg av nl ws,accO U Tt M my) (Sn w nd pa x0 i a M L y)=some ((o1::some (.str q)::vS0 (obA i) tg av nl ws,accO U Tt (nM P M L (U q)) (my++[q])),Sn w nd pa x0 i a (nM P M L (U q)) (nL P L (U q)) (y++[AObj.set S])):=by
   simp only[v2e,show calA (q0e T (n+2)) (.mt 90 (.obj (obA i))) (some (.str q,Sn w nd pa x0 i a M L y))=q0e T (n+2) 90 [.obj (obA i),.str q] [] (Sn w nd pa x0 i a M L y)from nr rfl,e,q0d,e2,q0d]
  simp only[List.map_cons,z5y,e3]
  rw[List.append_assoc]at e'
  exact e'
end
noncomputable abbrev vS1 (d:Nat) (q:Str) (av:AV) (nl:Nat):Vs:=[some (.obj d),some (.str q),some av,some (.loc nl),some .none,none,none,none,none,none,none,none,none,none,none,none,none,none,none,none]
structure DV (x0:Store) (av:AV) (kvs:List (Str×Str)):Prop where
 n:norm av=av
 d:∀(w:Who->W) (nd pa:List AV) (c:Store) (i:Who) (a:W),q0k (Bw w nd pa (x0++c) i a) av=some (kvs.map q0p)
 t:∀(w:Who->W) (nd pa:List AV) (c:Store) (i:Who) (a:W),trT (Bw w nd pa (x0++c) i a) av=some (!kvs.isEmpty,Bw w nd pa (x0++c) i a)
noncomputable def m0 (C:q0a) (σ:Store) (m:Option Callee):Res:=m.bind λ m=>bnd (some ([],σ)) λ xs s=>bnd (some ([],s)) λ kv s=>q0g T C m xs kv s
theorem j8g {C:q0a} {σ:Store} {m:Option Callee} {b:BI} {x:AV} {r:Res} (h:m=some (.bi b x)) (h2:biA b [x] σ=r):m0 C σ m=r:=by rw[h];exact h2
theorem add_str {x y:Str} {σ:Store} (h:x.length+y.length<=10000000):binR σ .Add (.str x) (.str y)=some (.str (x++y),σ):=
 (nr (by kernel_rfl):binR σ .Add (.str x) (.str y)=((catA x y).map .str).bind λ v=>some (v,σ)).trans (by rw[z7n h];rfl)
section
variable (C:q0a) (w:Who->W) (nd pa:List AV) (x:Store) (i:Who) (a:W) {q:Str} {av:AV} {nl al:Nat} {ws:List Str} {pq:AV}
theorem st_0:∀i,q9n C (vS1 (obA i) q av nl) (Bw w nd pa x i a)=some (.next,vS1 (obA i) q av nl,Bw w nd pa x i a):=tri (nr (by kernel_rfl))
theorem st_1 {σ:Store} (d:Nat):q9o C (vS1 d q av nl) σ=asg (vS1 d q av nl) 7 (set2 false (.str q) (norm av) σ):=nr (by kernel_rfl)
noncomputable abbrev vS3 (d:Nat) (q:Str) (av:AV) (nl:Nat) (ws:List Str) (rn qa pn:Option AV):Vs:=[some (.obj d),some (.str q),some av,some (.loc nl),some .none,none,none,some (.ws ws),rn,none,qa,none,none,pn,none,none,none,none,none,none]
theorem st_2 {σ:Store} (d:Nat):q9p C (vS3 d q av nl ws none none none) σ=some (.next,vS3 d q av nl ws (some (.fd [] [])) none none,σ):=nr (by kernel_rfl)
theorem st_3 {σ:Store} (d:Nat) (rn:Option AV):q9q C (vS3 d q av nl ws rn none none) σ=some (.next,vS3 d q av nl ws rn none none,σ):=nr (by kernel_rfl)
theorem st_4 (rn:Option AV):∀i,q9r C (vS3 (obA i) q av nl ws rn none none) (Bw w nd pa x i a)=some (.next,vS3 (obA i) q av nl ws rn (some .none) none,Bw w nd pa x i a):=tri (nr (by kernel_rfl))
theorem st_5 (rn qa:Option AV):∀i,q9s C (vS3 (obA i) q av nl ws rn qa none) (Bw w nd pa x i a)=some (.next,vS3 (obA i) q av nl ws rn qa (some (.mt 90 (.obj (obA i)))),Bw w nd pa x i a):=tri (nr (by kernel_rfl))
theorem st_a (h:set2 false (.str q) (norm av) (Bw w nd pa x i a)=some (.ws ws,Bw w nd pa x i a)):q6w C (vS1 (obA i) q av nl) (Bw w nd pa x i a)=q7a C (vS0 (obA i) q av nl ws) (Bw w nd pa x i a):=by
 delta q6w w1a
 rw[st_0,q0v]
 unfold w1b
 rw[st_1,q7t h,q0v]
 show q6z C (vS3 (obA i) q av nl ws none none none) _=_
 unfold q6z
 rw[st_2,q0v]
 unfold w1c
 rw[st_3,q0v]
 unfold w1d
 rw[st_4,q0v]
 unfold w1e
 rw[st_5,q0v]
theorem st_6 {σ:Store} (d:Nat):q7a C (vS0 d q av nl ws) σ=sq (asg (vS0 d q av nl ws) 14 (bnd (bnd (k1a (.ws ws) σ) λ v s=>bnd (if(!goN v)=true then none else q1h v (q2e C) ((none::none::vS0 d q av nl ws),[]) s) λ r s=>some (r.2,s)) λ fr s=>q1z false fr s)) λ v s=>q3a C v s:=nr (by kernel_rfl)
theorem j5e (h:ws.length<5):k1a (.ws ws) (Bw w nd pa x i a)=some (.fl ((q4b ws).map .str),Bw w nd pa x i a):=if_pos ⟨h,rfl⟩
noncomputable abbrev vS2 (d:Nat) (q:Str) (av:AV) (nl:Nat) (ws:List Str) (pq:AV) (k v an uri al aq sb wr:Option AV):Vs:=vS d q av nl ws k v an (some pq) uri al aq sb wr
theorem st_7 {σ:Store} (d:Nat):q3a C (vS2 d q av nl ws pq none none none none none none none none) σ=sq (iff (trT σ (.loc nl)) (q6x C (vS2 d q av nl ws pq none none none none none none none none)) (q6y C (vS2 d q av nl ws pq none none none none none none none none))) λ v s=>q3b C v s:=nr (by kernel_rfl)
theorem v2d:∀i,q6y C (vS2 (obA i) q av nl ws pq none none none none none none none none) (Bw w nd pa x i a)=some (.next,vS2 (obA i) q av nl ws pq none none none none (some (.loc (x.length+34))) none none none,Bw w nd pa (x++[.list []]) i a):=tri (nr (by kernel_rfl))
theorem v2c {σ:Store} (d:Nat):q6x C (vS2 d q av nl ws pq none none none none none none none none) σ=sq (asg (vS2 d q av nl ws pq none none none none none none none none) 16 (bnd (bnd (q1h (.loc nl) (q4h C) (none::none::none::vS2 d q av nl ws pq none none none none none none none none,[]) σ) λ r s=>some (r.2,s)) λ fr s=>q0j true fr s)) λ v s=>sq (q2x C v s) λ v s=>some (.next,v,s):=nr (by kernel_rfl)
theorem v1g (fr:List AV):∀i,q0j true fr (Bw w nd pa x i a)=some (.loc (x.length+34),Bw w nd pa (x++[.list fr]) i a):=tri (nr (by kernel_rfl))
theorem j9m {σ:Store} (d:Nat):q2x C (vS2 d q av nl ws pq none none none none (some (.loc al)) none none none) σ=es (vS2 d q av nl ws pq none none none none (some (.loc al)) none none none) (m0 C σ (q0l T σ (.loc al) (Str.ofString "sort"))):=nr (by kernel_rfl)
theorem v2f {σ:Store} {u p:Str} {d:Nat} {o0 o1 o2:Option AV} {fr:List AV}:q4h C (q0c (u,p)) (o0::o1::o2::vS2 d q av nl ws pq none none none none none none none none,fr) σ=bnd (q4c fr (bnd (evC (bnd (some (p.length !=0,σ)) λ c s=>if c=true then binR s .Add (.str (Str.ofString "xmlns:")) (.str p)else some (.str (Str.ofString "xmlns"),s)) λ s=>evC (some (.str u,s)) λ s=>some ([],s)) λ xs s=>if xs.length<=sizeLine then some (.tup xs,s)else none)) λ r s=>some ((o0::some (.str u)::some (.str p)::vS2 d q av nl ws pq none none none none none none none none,r),s):=nr (by kernel_rfl)
end
theorem j4o {σ:Store} {l:Nat} {xs:List AV} (h:σ[l]? = some (.list xs)):q0l T σ (.loc l) (Str.ofString "sort")=some (.bi .lSort (.loc l)):=by
 show optC (q1j σ l) _ _=_
 rw[q3r h]
 kernel_rfl
theorem j2w {σ:Store} {l:Nat} {ps:List (Str×Str)} (h:σ[l]? = some (.list (ps.map q0c))) (hz:ps.length<5):biA .lSort [.loc l] σ=some (.none,σ.set l (.list ((q0u ps).map q0c))):=
 stb (q3r h) (λ xs=>(w9r xs).bind λ ps=>if ps.length<5 then some (AV.none,σ.set l (.list ((q0u ps).map q0c)))else none) rfl |>.trans (stb (q9g ps) (λ ps=>if ps.length<5 then some (AV.none,σ.set l (.list ((q0u ps).map q0c)))else none) rfl |>.trans (if_pos hz))
noncomputable abbrev bmw (i:Who):AV:=.bm .lAppend (.loc (ouA i))
section
variable (C:q0a) (w:Who->W) (nd pa:List AV) (x:Store) (i:Who) (a:W) {q:Str} {av:AV} {nl al:Nat} {ws:List Str} {pq:AV} {k v an uri aq sb wr:Option AV}
noncomputable abbrev vT (d:Nat) (q:Str) (av:AV) (nl:Nat) (ws:List Str) (pq:AV) (al:Nat) (k v an uri aq sb wr:Option AV):Vs:=vS2 d q av nl ws pq k v an uri (some (.loc al)) aq sb wr
theorem st_8 {σ:Store} (d:Nat):q3b C (vT d q av nl ws pq al k v an uri aq sb wr) σ=sq (ifn (vT d q av nl ws pq al k v an uri aq sb wr) (trT σ (norm av)) (q5u C (vT d q av nl ws pq al k v an uri aq sb wr))) λ v s=>q3c C v s:=nr (by kernel_rfl)
theorem j9k {σ:Store} (d:Nat):q5u C (vT d q av nl ws pq al k v an uri aq sb wr) σ=sq (bnd (calA C (.bf .sorted) (m0 C σ (q0l T σ (norm av) (Str.ofString "items")))) λ y s=>if frozen y=true then(q2g s y).bind λ xs=>forA (q5h C) xs (vT d q av nl ws pq al k v an uri aq sb wr) s else none) λ v s=>some (.next,v,s):=nr (by kernel_rfl)
theorem j9j {σ:Store} (d:Nat) (mh val:Str):q5h C (q0c (mh,val)) (vT d q av nl ws pq al k v an uri aq sb wr) σ=sq (q7d C (vT d q av nl ws pq al (some (.str mh)) (some (.str val)) an uri aq sb wr) σ) λ v s=>sq (q7e C v s) λ v s=>some (.next,v,s):=nr (by kernel_rfl)
noncomputable def unp (d:Nat) (q:Str) (av:AV) (nl:Nat) (ws:List Str) (pq:AV) (al:Nat) (k v an uri aq sb wr:Option AV) (y:AV) (s:Store):ResS:=
 bnd (bnd ((q1n s y).bind λ xs=>(asC xs λ y r=>bnd (some (setI (vT d q av nl ws pq al k v an uri aq sb wr) 17 y,s)) λ vs s=>(asC r λ y r=>bnd (some (setI vs 11 y,s)) λ vs s=>(asC r λ y r=>bnd (some (setI vs 15 y,s)) λ vs s=>(asE r vs s))))) λ vs s=>some (vs,s)) λ vs s=>some (.next,vs,s)
theorem j5f {σ:Store} (d:Nat) (mh:Str):q7d C (vT d q av nl ws (norm pq) al (some (.str mh)) v an uri aq sb wr) σ=bnd (getR σ (norm (norm pq)) (.str mh)) (unp d q av nl ws (norm pq) al (some (.str mh)) v an uri aq sb wr):=nr (by kernel_rfl)
theorem j9n {σ:Store} (d:Nat) (f t u:Str):unp d q av nl ws pq al k v an uri aq sb wr (.tup [.str f,.str t,.str u]) σ=some (.next,vT d q av nl ws pq al k v (some (.str t)) (some (.str u)) (some (.str f)) sb wr,σ):=nr (by kernel_rfl)
theorem j5g {σ:Store} (d:Nat) (f t u val:Str):q7e C (vT d q av nl ws pq al k (some (.str val)) (some (.str t)) (some (.str u)) (some (.str f)) sb wr) σ=es (vT d q av nl ws pq al k (some (.str val)) (some (.str t)) (some (.str u)) (some (.str f)) sb wr) ((q0l T σ (.loc al) (Str.ofString "append")).bind λ m=>cal C m (bnd (evC (bnd (some (u.length !=0,σ)) λ c s=>if c=true then some (.str f,s)else some (.str t,s)) λ s=>evC (some (.str val,s)) λ s=>some ([],s)) λ xs s=>if xs.length<=sizeLine then some (.tup xs,s)else none)):=nr (by kernel_rfl)
theorem st_9 {σ:Store} (d:Nat):q3c C (vT d q av nl ws pq al k v an uri aq sb wr) σ=sq (asg (vT d q av nl ws pq al k v an uri aq sb wr) 18 ((q0l T σ (norm av) (Str.ofString "get")).bind λ m=>cal C m (some (.str (Str.ofString "{http://www.w3.org/XML/1998/namespace}space"),σ)))) λ v s=>q3l C v s:=nr (by kernel_rfl)
theorem v1u:∀i,q3l C (vT (obA i) q av nl ws pq al k v an uri aq (some .none) wr) (Bw w nd pa x i a)=sq (es (vT (obA i) q av nl ws pq al k v an uri aq (some .none) wr) (cal C (.bi .lAppend (.loc (prA i))) (getR (Bw w nd pa x i a) (.loc (prA i)) (.int (-1))))) λ v s=>q5w C v s:=tri (nr (by kernel_rfl))
theorem v1v:∀i,q7u C (vT (obA i) q av nl ws pq al k v an uri aq sb none) (Bw w nd pa x i a)=some (.next,vT (obA i) q av nl ws pq al k v an uri aq sb (some (bmw i)),Bw w nd pa x i a):=tri (nr (by kernel_rfl))
theorem v1w {σ:Store} (d:Nat) (i:Who):q2i C (vT d q av nl ws pq al k v an uri aq sb (some (bmw i))) σ=sq (es (vT d q av nl ws pq al k v an uri aq sb (some (bmw i))) (calA C (bmw i) (bnd (bnd (getR σ (norm pq) (.str q)) λ x s=>getR s x (.int 0)) λ y s=>binR s .Add (.str (Str.ofString "<")) y))) λ v s=>q2j C v s:=nr (by kernel_rfl)
theorem v1x {σ:Store} (d:Nat) (i:Who):q2j C (vT d q av nl ws pq al k v an uri aq sb (some (bmw i))) σ=sq (ifn (vT d q av nl ws pq al k v an uri aq sb (some (bmw i))) (trT σ (.loc al)) (q5v C (vT d q av nl ws pq al k v an uri aq sb (some (bmw i))))) λ v s=>q2k C v s:=nr (by kernel_rfl)
theorem j9l {σ:Store} (d:Nat) (i:Who):q5v C (vT d q av nl ws pq al k v an uri aq sb (some (bmw i))) σ=sq (es (vT d q av nl ws pq al k v an uri aq sb (some (bmw i))) (calA C (bmw i) (cal C (.bi .sJoin (.str (Str.ofString ""))) (bnd (bnd (q1h (.loc al) (q4i C) (none::none::none::vT d q av nl ws pq al k v an uri aq sb (some (bmw i)),[]) σ) λ r s=>some (r.2,s)) λ fr s=>q0j false fr s)))) λ v s=>some (.next,v,s):=nr (by kernel_rfl)
noncomputable def attF (C:q0a) (k v:Str) (σ:Store):Option (Str×Store):=(catA Str.empty (Str.ofString " ")).bind λ a=>bnd (some (AV.str k,σ)) λ x s=>q5o a x λ a=>(catA a (Str.ofString "=\"")).bind λ a=>bnd (calA C (.fn 168) (some (.str v,s))) λ x s=>q5o a x λ a=>(catA a (Str.ofString "\"")).bind λ a=>q1l a s
theorem v2g {σ:Store} {ke va:Str} {o0 o1 o2:Option AV} {fr:List AV} {V:Vs}:q4i C (q0c (ke,va)) (o0::o1::o2::V,fr) σ=bnd (q4c fr (bnd (attF C ke va σ) λ r s=>some (.str r,s))) λ r s=>some ((o0::some (.str ke)::some (.str va)::V,r),s):=nr (by kernel_rfl)
theorem v1y {σ:Store} (d:Nat) (i:Who):q2k C (vT d q av nl ws pq al k v an uri aq sb (some (bmw i))) σ=sq (es (vT d q av nl ws pq al k v an uri aq sb (some (bmw i))) (calA C (bmw i) (some (.str (Str.ofString ">"),σ)))) λ v s=>q5x C v s:=nr (by kernel_rfl)
theorem v1z {σ:Store} (d:Nat):q7v C (vT d q av nl ws pq al k v an uri aq sb wr) σ=some (.next,vT d q av nl ws pq al k v an uri aq sb wr,σ):=nr (by kernel_rfl)
theorem v2a:∀i,q7w C (vT (obA i) q av nl ws pq al k v an uri aq sb wr) (Bw w nd pa x i a)=some (.next,vT (obA i) q av nl ws pq al k v an uri aq sb wr,Bw w nd pa x i (a.ws true a.done)):=tri (nr (by kernel_rfl))
theorem v2b:∀i,q7x C (vT (obA i) q av nl ws pq al k v an uri aq sb wr) (Bw w nd pa x i a)=es (vT (obA i) q av nl ws pq al k v an uri aq sb wr) (cal C (.bi .lAppend (.loc (nlA i))) (some (.loc (x.length+34),Bw w nd pa (x++[.list []]) i a))):=tri (nr (by kernel_rfl))
end
theorem j5d {q:Str} {av:AV} {kvs:List (Str×Str)} {σ:Store} (hv:q0k σ av=some (kvs.map q0p)) (h3:kvs.length<=3):set2 false (.str q) av σ=some (.ws (q1i [q] (kvs.map (·.1))),σ):=by
 refine stb hv (λ kvs=>if kvs.length<=3 then k9h false (q1i [q] (kvs.map (·.1))) σ else none) rfl |>.trans ?_
 rw[if_pos (by rw[List.length_map];exact h3),List.map_map]
 have h:=q7k (kvs.map (·.1)) [q]
 rw[List.length_map,List.length_singleton]at h
 exact if_pos (jB h (jB (Nat.add_le_add_left h3 1) (by decide)))
theorem k4m {σ:Store} {av:AV} {kvs:List (Str×AV)} (h:q0k σ av=some kvs):q0l T σ av (Str.ofString "items")=some (.bi .dItems av)/\q0l T σ av (Str.ofString "get")=some (.bi .dGet av):=by
 induction av using AV.casesOn with
 | fd ks xs=>exact⟨nr (by kernel_rfl),nr (by kernel_rfl)⟩
 | loc l=>
  have e:=z5j (show w0c σ l=some kvs from h)
  have h1:q1j σ l=none:=by unfold q1j;rw[e]
  have h2:setC σ l=none:=by unfold setC;rw[e]
  have h3:w0c σ l=some kvs:=h
  constructor
  ·show optC (q1j σ l) _ (optC (setC σ l) _ _)=_
   rw[h1,h2,h3];kernel_rfl
  ·show optC (q1j σ l) _ (optC (setC σ l) _ _)=_
   rw[h1,h2,h3];kernel_rfl
 | _=>exact nope h
theorem k6u {σ:Store} {l:Nat} {xs:List AV} (h:σ[l]? = some (.list xs)):trT σ (.loc l)=some (!xs.isEmpty,σ):=by
 dsimp only[trT,q3g]
 rw[h]
 rfl
theorem q2f {β:Type} (f:β->AV):∀L:List β,(L.flatMap λ u=>[f u])=L.map f
 | []=>rfl
 | u::L=>by simp only[List.flatMap_cons,q2f f L];rfl
noncomputable def xmlns (M:List Str) (u:Str):Str×Str:=(Str.ofString "xmlns:"++px M u,u)
theorem j8u (p:Str):(Str.ofString "xmlns:"++p).length=6+p.length:=q6r ..
section
variable (C:q0a) (w:Who->W) (nd pa:List AV) (x0:Store) (i:Who) (a:W) {q:Str} {av:AV} {ws:List Str} {pq:AV}
theorem k8z (y:Store) (M L:List Str) (hM:M.length<=190) (hs:∀u∈L,u=xmlS\/u∈M) (h5:L.length<5) :
  q3a C (vS2 (obA i) q av (x0.length+34) ws pq none none none none none none none none) (Bw w nd pa (x0++.list ((prs M L).map q0c)::y) i a)
   = q3b C (vT (obA i) q av (x0.length+34) ws pq (x0.length+1+y.length+34) none none none none none none none) (Bw w nd pa (x0++.list ((prs M L).map q0c)::y++[.list ((q0u (L.map (xmlns M))).map q0c)]) i a):=by
 have hlen:(x0++.list ((prs M L).map q0c)::y).length=x0.length+1+y.length:=by simp only[List.length_append,List.length_cons];exact(Nat.succ_add _ _).symm
 have ha:q0r (Bw w nd pa (x0++.list ((prs M L).map q0c)::y) i a) (.loc (x0.length+34))=some ((prs M L).map q0c):=(j8f w nd pa _ i a (z8m x0 y _)).2
 generalize hx:x0++AObj.list ((prs M L).map q0c)::y=x at *
 rw[st_7]
 have ht:trT (Bw w nd pa x i a) (.loc (x0.length+34))=some (!L.isEmpty,Bw w nd pa x i a):=(k6u (w2z (show q1j (Bw w nd pa x i a) (x0.length+34)=_ from ha))).trans (by simp only[List.isEmpty_map,prs,List.isEmpty_map])
 by_cases h0:L=[]
 ·subst h0
  rw[k8g ht,v2d,q0v,hlen,show q0u (([]:List Str).map (xmlns M))=[]from List.mergeSort_nil]
  rfl
 ·simp only[k8h (ht.trans (by rw[List.isEmpty_eq_false_iff.mpr h0];rfl)),v2c]
  have g:Got (own3 (vS2 (obA i) q av (x0.length+34) ws pq none none none none none none none none)) (q1h (.loc (x0.length+34)) (q4h C) (none::none::none::vS2 (obA i) q av (x0.length+34) ws pq none none none none none none none none,[]) (Bw w nd pa x i a)) (L.foldl (app λ u=>[q0c (xmlns M u)]) []) (Bw w nd pa x i a):=by
   refine w5i (e:=λ u=>q0c (u,px M u)) (by simp only[ha,prs,List.map_map];rfl) (λ my u fm vs ex h=>?_) ⟨_,_,_,rfl⟩
   obtain⟨o0,o1,o2,rfl⟩:=h
   obtain⟨z1,z2⟩:=w3f hM (hs u (by rw[ex];simp))
   have hz:(my.foldl (app λ u=>[q0c (xmlns M u)]) []).length<100000:=by
    have:=congrArg List.length ex
    simp only[q1d,q2f,List.nil_append,List.length_map]
    rw[List.length_append,List.length_cons]at this
    exact jB (jA (jG _ _) (jE this.symm)) (Nat.lt_trans h5 (by decide))
   refine⟨_,⟨o0,some (.str u),some (.str (px M u)),rfl⟩,?_⟩
   rw[v2f,z1,q0d,if_pos rfl,add_str (by rw[show(Str.ofString "xmlns:").length=6 from rfl];exact jA (Nat.add_le_add_left ‹_› _) (by decide))]
   exact stk (em_n (v:=q0c (xmlns M u)) (nr (by kernel_rfl)) hz) _ rfl
  obtain⟨vs',_,e⟩:=g
  simp only[q1d,q2f,List.nil_append,show L.map (λ u=>q0c (xmlns M u))=(L.map (xmlns M)).map q0c from by rw[List.map_map];rfl]at e
  have h4:(L.map (xmlns M)).length<5:=by rw[List.length_map];exact h5
  have hc:(Bw w nd pa (x++[.list ((L.map (xmlns M)).map q0c)]) i a)[x.length+34]? = some (.list ((L.map (xmlns M)).map q0c)):=z5t ..
  have hb:=j2w hc h4
  rw[w9e]at hb
  simp only[e,q0d,q0d,q7t (v1g w nd pa x a _ i),q0v]
  show sq (sq (q2x C (vS2 (obA i) q av (x0.length+34) ws pq none none none none (some (.loc (x.length+34))) none none none) _) _) _=_
  rw[j9m,es_n (j8g (j4o hc) hb),q0v,q0v,hlen]
end
noncomputable abbrev pqV (fr:List (Str×AV)):AV:=.fd (fr.map (·.1)) (fr.map (·.2))
theorem q1u:∀ts:List Str,q1f (ts.map AV.str)=some ts
 | []=>rfl
 | t::r=>by
  show(q1f (r.map AV.str)).map (t :: ·)=_
  rw[q1u r]
  rfl
theorem z1a:∀fr:List (Str×AV),(fr.map (·.1)).zip (fr.map (·.2))=fr
 | []=>rfl
 | p::fr=>by rw[List.map_cons,List.map_cons,List.zip_cons_cons,z1a fr]
theorem j0q {fr:List (Str×AV)} {k f t u:Str} (h:q0t k fr=some (.tup [.str f,.str t,.str u])) (σ:Store):getR σ (pqV fr) (.str k)=some (.tup [.str f,.str t,.str u],σ):=by
 show(q0t k ((fr.map (·.1)).zip (fr.map (·.2)))).bind _=_
 rw[z1a,h]
 rfl
noncomputable def at1 (U Tt:Str->Str) (M:List Str) (kv:Str×Str):Str×Str:=(if(U kv.1).length=0 then Tt kv.1 else tg (px M (U kv.1)) (Tt kv.1),kv.2)
section
variable (C:q0a) (w:Who->W) (nd pa:List AV) (i:Who) (a:W) {q:Str} {av:AV} {nl j d:Nat} {ws:List Str} {fr:List (Str×AV)} (U Tt:Str->Str) (M:List Str)
theorem j2h {x:Store} {B:List AV} (hj:x[j]? = some (.list B)) (hB:B.length<1000) (kv:Str×Str) (hf:q0t kv.1 fr=some (qR (px M (U kv.1)) (Tt kv.1) (U kv.1))) (k v an uri aq sb wr:Option AV) :
  q5h C (q0c kv) (vT d q av nl ws (pqV fr) (j+34) k v an uri aq sb wr) (Bw w nd pa x i a)=some (.next,vT d q av nl ws (pqV fr) (j+34) (some (.str kv.1)) (some (.str kv.2)) (some (.str (Tt kv.1))) (some (.str (U kv.1))) (some (.str (tg (px M (U kv.1)) (Tt kv.1)))) sb wr,
   Bw w nd pa (x.set j (.list (B++[q0c (at1 U Tt M kv)]))) i a):=by
 have h2:(Bw w nd pa x i a)[j+34]? = some (.list B):=(x_at ..).trans hj
 have h3:=k2a (v:=q0c (at1 U Tt M kv)) h2 (Nat.lt_trans hB (by decide))
 rw[j5s]at h3
 have e1:=(j5f C (q:=q) (av:=av) (nl:=nl) (al:=j+34) (ws:=ws) (pq:=pqV fr) (v:=some (.str kv.2)) (an:=an) (uri:=uri) (aq:=aq) (sb:=sb) (wr:=wr) (σ:=Bw w nd pa x i a) d kv.1).trans (stk (j0q hf _) _ rfl |>.trans (j9n ..))
 refine(j9j ..).trans (stq e1 _ rfl |>.trans (stq ?_ _ rfl))
 rw[show(norm (pqV fr))=pqV fr from rfl,j5g]
 refine es_n (v:=.none) (stb (k4l h2) _ rfl |>.trans (q3o (v:=q0c (at1 U Tt M kv)) (σ:=Bw w nd pa x i a) ?_ h3))
 unfold at1
 by_cases h0:(U kv.1).length=0
 ·rw[if_pos h0,h0];exact nr (by kernel_rfl)
 ·rw[if_neg h0,show((U kv.1).length !=0)=true from bne_iff_ne.mpr h0];exact nr (by kernel_rfl)
theorem k1x:∀(kvs:List (Str×Str)) (x:Store) (B:List AV),x[j]? = some (.list B)->B.length+kvs.length<1000->(∀kv∈kvs,q0t kv.1 fr=some (qR (px M (U kv.1)) (Tt kv.1) (U kv.1)))->∀(k v an uri aq sb wr:Option AV),
  ∃k' v' an' uri' aq',forA (q5h C) (kvs.map q0c) (vT d q av nl ws (pqV fr) (j+34) k v an uri aq sb wr) (Bw w nd pa x i a)=some (.next,vT d q av nl ws (pqV fr) (j+34) k' v' an' uri' aq' sb wr,Bw w nd pa (x.set j (.list (B++(kvs.map (at1 U Tt M)).map q0c))) i a)
 | [],x,B,hj,_,_,k,v,an,uri,aq,sb,wr=>⟨k,v,an,uri,aq,by
  obtain⟨h1,h2⟩:=List.getElem?_eq_some_iff.mp hj
  have:x.set j (.list (B++(([]:List (Str×Str)).map (at1 U Tt M)).map q0c))=x:=by simp only[List.map_nil,List.map_nil,List.append_nil,<-h2,List.set_getElem_self]
  rw[this];rfl⟩
 | kv::kvs,x,B,hj,hz,hf,k,v,an,uri,aq,sb,wr=>by
  have hl:=(List.getElem?_eq_some_iff.mp hj).1
  rw[List.length_cons]at hz
  rcases _:k1x kvs (x.set j (.list (B++[q0c (at1 U Tt M kv)]))) (B++[q0c (at1 U Tt M kv)]) (by rw[List.getElem?_set_self hl]) (by rw[List.length_append,List.length_singleton,Nat.add_right_comm];exact hz) (λ z hz=>hf z (jK _ hz)) (some (.str kv.1)) (some (.str kv.2)) (some (.str (Tt kv.1))) (some (.str (U kv.1))) (some (.str (tg (px M (U kv.1)) (Tt kv.1)))) sb wr with⟨k',v',an',uri',aq',e⟩
  simp only[List.set_set,List.append_assoc]at e
  exact⟨k',v',an',uri',aq',(stq (j2h C w nd pa i a U Tt M hj (jB (jG _ _) hz) kv (hf kv (jL ..)) k v an uri aq sb wr) _ rfl).trans e⟩
theorem k6k {σ:Store} {kvs:List (Str×Str)} (hd:q0k σ av=some (kvs.map q0p)) (h3:kvs.length<=3):z6x (.iv av) σ=some (.fl ((q0u kvs).map q0c),σ):=by
 have e:z1y (kvs.map q0p)=some kvs:=by
  unfold z1y
  rw[List.map_map,List.map_map,show(kvs.map ((·.2) ∘ q0p))=(kvs.map (·.2)).map .str by rw[List.map_map];rfl,q1u]
  show some ((kvs.map (·.1)).zip (kvs.map (·.2)))=_
  rw[<-List.unzip_fst,<-List.unzip_snd,List.zip_unzip]
 show((q0k σ av).bind λ kvs=>(z1y kvs).bind λ ps=>if ps.length<5 then some (AV.fl ((q0u ps).map q0c),σ)else none)=_
 rw[hd]
 show((z1y (kvs.map q0p)).bind _)=_
 rw[e]
 exact if_pos (jB h3 (by decide))
end
theorem q5l {C:q0a} {b:BI} {m r:Res} {v:AV} {σ:Store} (h:m=some (v,σ)) (h2:biA b [v] σ=r):calA C (.bf b) m=r:=by rw[h];exact h2
noncomputable def lt1:Str:=Str.ofString "<"
noncomputable def gt1:Str:=Str.ofString ">"
noncomputable def atS (kv:Str×Str):Str:=Str.ofString " "++kv.1++Str.ofString "=\""++escA kv.2++Str.ofString "\""
theorem j0j (kv:Str×Str) (h1:kv.1.length<=1000) (h2:kv.2.length<=50):(atS kv).length<=2334000:=by
 exact jA (catB (catB (catB (catB l_bl h1) l_eq) (k3h h2)) l_qu) (by decide)
theorem j2i {C:q0a} {σ:Store} (k v:Str) (h1:k.length<=1000) (h2:v.length<=50) (hC:C 168 [.str v] [] σ=some (.str (escA v),σ)):attF C k v σ=some (atS (k,v),σ):=by
 have h3:=k3h h2
 have hA:calA C (.fn 168) (some (.str v,σ))=some (.str (escA v),σ):=(k2f rfl).trans hC
 have e0:attF C k v σ=(catA (Str.ofString " ") k).bind λ a=>(catA a (Str.ofString "=\"")).bind λ a=>bnd (calA C (.fn 168) (some (.str v,σ))) λ x s=>q5o a x λ a=>(catA a (Str.ofString "\"")).bind λ a=>q1l a s:=nr (by kernel_rfl)
 have e1:=stb (catO l_bl h1 (by decide)) _ e0
 have e2:=stb (catO (catB l_bl h1) l_eq (by decide)) _ e1
 have e3:=stk hA _ e2
 have e4:=stb (catO (x:=Str.ofString " "++k++Str.ofString "=\"") (y:=escA v) (catB (catB l_bl h1) l_eq) h3 (by decide)) (λ a=>(catA a (Str.ofString "\"")).bind λ a=>q1l a σ) e3
 have e5:=stb (catO (catB (catB (catB l_bl h1) l_eq) h3) l_qu (by decide)) _ e4
 exact e5.trans (if_pos (jA (j0j (k,v) h1 h2) (by rw[sizeLine_eq];decide)))
section
variable (C:q0a) (w:Who->W) (nd pa:List AV) (i:Who) (a:W) {q:Str} {av:AV} {nl j:Nat} {ws:List Str} {fr:List (Str×AV)} (U Tt:Str->Str) (M:List Str)
theorem k7k {x:Store} {B:List AV} (hn:norm av=av) (hj:x[j]? = some (.list B)) (kvs:List (Str×Str)) (hd:q0k (Bw w nd pa x i a) av=some (kvs.map q0p)) (ht:trT (Bw w nd pa x i a) av=some (!kvs.isEmpty,Bw w nd pa x i a)) (h3:kvs.length<=3) (hB:B.length<900)
  (hf:∀kv∈kvs,q0t kv.1 fr=some (qR (px M (U kv.1)) (Tt kv.1) (U kv.1))) :
  ∃k v an uri aq,q3b C (vT (obA i) q av nl ws (pqV fr) (j+34) none none none none none none none) (Bw w nd pa x i a)
   = q3c C (vT (obA i) q av nl ws (pqV fr) (j+34) k v an uri aq none none) (Bw w nd pa (x.set j (.list (B++((q0u kvs).map (at1 U Tt M)).map q0c))) i a):=by
 simp only[st_8,hn,ht]
 by_cases h0:kvs=[]
 ·subst h0
  obtain⟨h1,h2⟩:=List.getElem?_eq_some_iff.mp hj
  refine⟨none,none,none,none,none,?_⟩
  simp only[show q0u ([]:List (Str×Str))=[]from List.mergeSort_nil,List.map_nil,List.map_nil,List.append_nil,<-h2,List.set_getElem_self]
  exact stq (k3t rfl) _ rfl
 ·have hp:=List.mergeSort_perm kvs w0v
  rcases _:k1x C w nd pa i a (q:=q) (av:=av) (nl:=nl) (d:=obA i) (ws:=ws) (fr:=fr) U Tt M (q0u kvs) x B hj (by rw[show(q0u kvs).length=kvs.length from hp.length_eq];exact jC (Nat.add_lt_add_of_lt_of_le hB h3) (by decide)) (λ kv hk=>hf kv (hp.mem_iff.mp hk)) none none none none none none none with⟨k,v,an,uri,aq,e⟩
  refine⟨k,v,an,uri,aq,stq (V:=vT (obA i) q av nl ws (pqV fr) (j+34) k v an uri aq none none) (k8i (by rw[List.isEmpty_eq_false_iff.mpr h0];rfl) |>.trans ?_) _ rfl⟩
  simp only[j9k,hn,q5l (j8g (k4m hd).1 (show biA .dItems [av] (Bw w nd pa x i a)=some (.iv av,Bw w nd pa x i a)from stb hd (λ _=>some (AV.iv av,Bw w nd pa x i a)) (Option.map_eq_bind ..))) (show biA .sorted [.iv av] (Bw w nd pa x i a)=_ from k6k hd h3),q0d]
  exact stq e _ rfl
theorem v2k {x:Store} {k v an uri aq:Option AV} {al:Nat} {pq:AV} (hn:norm av=av) (kvs:List (Str×Str)) (hd:q0k (Bw w nd pa x i a) av=some (kvs.map q0p)) (hs:q0t (Str.ofString "{http://www.w3.org/XML/1998/namespace}space") (kvs.map q0p)=none) {p:List AV} {b:Bool} (hp:a.pres=p++[.bool b]) (hz:a.pres.length<100000) :
  q3c C (vT (obA i) q av nl ws pq al k v an uri aq none none) (Bw w nd pa x i a)=q2i C (vT (obA i) q av nl ws pq al k v an uri aq (some .none) (some (bmw i))) (Bw w nd pa x i (a.wp (a.pres++[.bool b]))):=by
 have e1:(q0l T (Bw w nd pa x i a) av (Str.ofString "get")).bind (λ m=>cal C m (some (.str (Str.ofString "{http://www.w3.org/XML/1998/namespace}space"),Bw w nd pa x i a)))=some (.none,Bw w nd pa x i a):=
  stb (k4m hd).2 _ rfl |>.trans (q3o rfl (show(q0k (Bw w nd pa x i a) av).map (λ kvs=>((q0t (Str.ofString "{http://www.w3.org/XML/1998/namespace}space") kvs).getD .none,Bw w nd pa x i a))=_ from by simp only[hd,Option.map_some,hs];rfl))
 rw[st_9,hn,q7t e1,q0v]
 show q3l C (vT (obA i) q av nl ws pq al k v an uri aq (some .none) none) _=_
 have e2:getR (Bw w nd pa x i a) (.loc (prA i)) (.int (-1))=some (.bool b,Bw w nd pa x i a):=w9a ((tri (nr (by kernel_rfl)):∀i,q1j (Bw w nd pa x i a) (prA i)=some a.pres) i |>.trans (congrArg some hp))
 rw[v1u,es_n (q3o e2 (j8y w nd pa x a (.bool b) i hz)),q0v]
 unfold q5w
 rw[v1v,q0v]
end
noncomputable def jn (ts:List Str):Str:=Txt.join (Str.ofString "") ts
theorem z4z {σ:Store} {v:AV} {ts:List Str} (h:q0r σ v=some (ts.map .str)) (hz:(ts.map (·.length)).sum<=16500000):biA .sJoin [.str (Str.ofString ""),v] σ=some (.str (jn ts),σ):=
 stb h (λ xs=>(q1f xs).bind λ ts=>if(ts.map (·.length)).sum+ts.length * (Str.ofString "").length<=sizeLine then some (AV.str (Txt.join (Str.ofString "") ts),σ)else none) rfl |>.trans
  (stb (q1u ts) (λ ts=>if(ts.map (·.length)).sum+ts.length * (Str.ofString "").length<=sizeLine then some (AV.str (Txt.join (Str.ofString "") ts),σ)else none) rfl |>.trans (if_pos (by
   skip;exact jA hz (by decide))))
theorem z9b {α:Type} (f:α->Nat) (m:Nat):∀xs:List α,(∀x∈xs,f x<=m)->(xs.map f).sum<=xs.length * m
 | [],_=>Nat.zero_le _
 | x::xs,h=>by
  rw[List.map_cons,List.sum_cons,List.length_cons,Nat.add_mul,Nat.one_mul,Nat.add_comm]
  exact jH (z9b f m xs λ y hy=>h y (jK _ hy)) (h x (jL ..))
noncomputable def opens (nm:Str) (AL:List (Str×Str)):List AV:=[.str (lt1++nm)]++(if AL=[]then[]else[.str (jn (AL.map atS))])++[.str gt1]
section
variable (n:Nat) (w:Who->W) (nd pa:List AV) (i:Who) (a:W) {q:Str} {av:AV} {nl j:Nat} {ws:List Str} {fr:List (Str×AV)}
theorem v2l {x:Store} {k v an uri aq:Option AV} {AL:List (Str×Str)} {f t u:Str} (hq:q0t q fr=some (.tup [.str f,.str t,.str u])) (hf:f.length<=2000) (hj:x[j]? = some (.list (AL.map q0c))) (hA:AL.length<=7) (hl:∀kv∈AL,kv.1.length<=1000/\kv.2.length<=50) (ho:a.out.length<90000) (hnl:a.nl.length<100000) :
  q2i (q0e T (n+2)) (vT (obA i) q av nl ws (pqV fr) (j+34) k v an uri aq (some .none) (some (bmw i))) (Bw w nd pa x i a)
   = some (.next,vT (obA i) q av nl ws (pqV fr) (j+34) k v an uri aq (some .none) (some (bmw i)),Bw w nd pa (x++[.list []]) i ⟨a.out++opens f AL,a.data,a.dl,a.nl++[.loc (x.length+34)],a.n0,a.map,a.pres,true,a.done⟩):=by
 generalize hV:vT (obA i) q av nl ws (pqV fr) (j+34) k v an uri aq (some .none) (some (bmw i))=V
 have l1:lt1.length=1:=rfl
 have e1:bnd (bnd (getR (Bw w nd pa x i a) (pqV fr) (.str q)) λ x s=>getR s x (.int 0)) (λ y s=>binR s .Add (.str lt1) y)=some (.str (lt1++f),Bw w nd pa x i a):=by
  simp only[j0q hq,q0d,(nr (by kernel_rfl):getR (Bw w nd pa x i a) (.tup [.str f,.str t,.str u]) (.int 0)=some (.str f,Bw w nd pa x i a)),q0d]
  exact add_str (by exact jA (Nat.add_le_add_left ‹_› _) (by decide))
 have s12:q2i (q0e T (n+2)) V (Bw w nd pa x i a)=q2j (q0e T (n+2)) V (Bw w nd pa x i (a.wo (a.out++[.str (lt1++f)]))):=by
  rw[<-hV]
  exact stq (es_n (k2g e1 (k5f w nd pa x a _ i (Nat.lt_trans ho (by decide))))) _ (v1w ..)
 have hc:∀a,(Bw w nd pa x i a)[j+34]? = some (.list (AL.map q0c)):=λ a=>(x_at ..).trans hj
 have s13:∀a:W,a.out.length<95000->q2j (q0e T (n+2)) V (Bw w nd pa x i a)=q2k (q0e T (n+2)) V (Bw w nd pa x i (a.wo (a.out++if AL=[]then[]else[.str (jn (AL.map atS))]))):=by
  intro a ho
  have ht:=k6u (hc a)
  have h13:=v1x (q0e T (n+2)) (q:=q) (av:=av) (nl:=nl) (al:=j+34) (ws:=ws) (pq:=pqV fr) (k:=k) (v:=v) (an:=an) (uri:=uri) (aq:=aq) (sb:=some .none) (σ:=Bw w nd pa x i a) (obA i) i
  have hb:=j9l (q0e T (n+2)) (q:=q) (av:=av) (nl:=nl) (al:=j+34) (ws:=ws) (pq:=pqV fr) (k:=k) (v:=v) (an:=an) (uri:=uri) (aq:=aq) (sb:=some .none) (σ:=Bw w nd pa x i a) (obA i) i
  rw[hV]at h13 hb
  by_cases h0:AL=[]
  ·rw[if_pos h0,List.append_nil]
   refine(stq (k3t (ht.trans (by rw[h0];rfl))) _ h13).trans ?_
   cases a;rfl
  ·rw[if_neg h0]
   have g:Got (own3 V) (q1h (.loc (j+34)) (q4i (q0e T (n+2))) (none::none::none::V,[]) (Bw w nd pa x i a)) (AL.foldl (app λ kv=>[AV.str (atS kv)]) []) (Bw w nd pa x i a):=by
    refine w5i (e:=q0c) (show q0r (Bw w nd pa x i a) (.loc (j+34))=_ from q3r (hc a)) (λ my kv fm vs ex h=>?_) ⟨_,_,_,rfl⟩
    obtain⟨o0,o1,o2,rfl⟩:=h
    obtain⟨z1,z2⟩:=hl kv (by rw[ex];simp)
    refine⟨o0::some (.str kv.1)::some (.str kv.2)::V,⟨_,_,_,rfl⟩,(v2g ..).trans ?_⟩
    rw[j2i kv.1 kv.2 z1 z2 (j3o (n+1) kv.2 z2 _),q0d]
    refine stk (em_n rfl ?_) _ rfl
    have:=congrArg List.length ex
    simp only[q1d,q2f,List.nil_append,List.length_map]
    rw[List.length_append,List.length_cons]at this
    lia
   obtain⟨vs',_,e⟩:=g
   simp only[q1d,q2f,List.nil_append,show AL.map (λ kv=>AV.str (atS kv))=(AL.map atS).map .str by rw[List.map_map];rfl]at e
   have hj':=z4z (σ:=Bw w nd pa x i a) (v:=.fl ((AL.map atS).map .str)) (ts:=AL.map atS) rfl (by
    rw[List.map_map]
    refine jA (z9b _ 2334000 AL λ kv hk=>j0j kv (hl kv hk).1 (hl kv hk).2) (jA (Nat.mul_le_mul_right _ hA) (by decide)))
   refine(stq (k8i (ht.trans (by rw[List.isEmpty_map,List.isEmpty_eq_false_iff.mpr h0];rfl)) |>.trans (hb.trans ?_)) _ h13)
   rw[e,q0d,q0d]
   exact stq (es_n (k2g (q3o rfl hj') (k5f w nd pa x a _ i (Nat.lt_trans ho (by decide))))) _ rfl
 have s14:∀a:W,a.out.length<99000->q2k (q0e T (n+2)) V (Bw w nd pa x i a)=q3m (q0e T (n+2)) V (Bw w nd pa x i ((a.wo (a.out++[.str gt1])).ws true a.done)):=by
  intro a ho
  rw[<-hV]
  refine(stq (es_n (k2g rfl (k5f w nd pa x a (.str gt1) i (Nat.lt_trans ho (by decide))))) _ (v1y ..)).trans ?_
  unfold q5x
  rw[v1z,q0v]
  unfold q9m
  rw[v2a,q0v]
  rfl
 have s17:∀a:W,a.nl.length<100000->q3m (q0e T (n+2)) V (Bw w nd pa x i a)=some (.next,V,Bw w nd pa (x++[.list []]) i (a.wn (a.nl++[.loc (x.length+34)]))):=by
  intro a hn
  rw[<-hV]
  unfold q3m
  rw[v2b,es_n (q3o rfl (nl_a w nd pa (x++[AObj.list []]) a (.loc (x.length+34)) i hn)),q0v]
 have o2:∀b:List AV,b.length<=2->(a.out++b).length<95000:=λ b hb=>by rw[List.length_append];exact jC (Nat.add_lt_add_of_lt_of_le ho hb) (by decide)
 have hX:(if AL=[]then[]else[AV.str (jn (AL.map atS))]).length<=1:=by split<;>simp
 rw[s12,s13 _ (o2 _ (by simp)),s14 _ (by
  have h1:=o2 [AV.str (lt1++f)] (by simp)
  show((a.out++[AV.str (lt1++f)])++(if AL=[]then[]else[AV.str (jn (AL.map atS))])).length<_
  rw[List.length_append];exact jC (Nat.add_lt_add_of_lt_of_le h1 hX) (by decide)),s17 _ (by exact hnl)]
 unfold opens
 rw[<-List.append_assoc,<-List.append_assoc]
 rfl
end
set_option tactic.hygienic true in theorem q6m:∀(xs ks:List Str),ks.Nodup->(q1i ks xs).Nodup/\∀r,r∈q1i ks xs↔r∈ks\/r∈xs
 | [],ks,h=>⟨h,λ r=>by simp[q1i]⟩
 | x::xs,ks,h=>by
  have e:∀r,r∈addK x ks↔r∈ks\/r=x:=λ r=>by unfold addK;split<;>rename_i q<;>simp_all
  have hn:(addK x ks).Nodup:=by
   unfold addK
   split
   ·exact h
   ·rename_i q
    refine List.nodup_append.mpr ⟨h,by simp,λ a ha b hb e=>q (List.contains_iff_mem.mpr ?_)⟩
    rw[jJ hb]at e
    exact e▸ha
  obtain⟨h1,h2⟩:=q6m xs (addK x ks) hn
  refine⟨h1,λ r=>(h2 r).trans ?_⟩
  rw[e,List.mem_cons,or_assoc]
noncomputable def lf (q:Str) (kvs:List (Str×Str)):List Str:=q4b (q1i [q] (kvs.map (·.1)))
theorem q2z {q r:Str} {kvs:List (Str×Str)}:r∈lf q kvs↔r=q\/r∈kvs.map (·.1):=by
 rw[lf,q4b,List.mem_mergeSort,(q6m _ _ (by simp)).2,List.mem_singleton]
theorem z6c (q:Str) (kvs:List (Str×Str)):(lf q kvs).Nodup:=(List.mergeSort_perm _ _).nodup_iff.mpr (q6m _ _ (by simp)).1
theorem j1e (q:Str) (kvs:List (Str×Str)):(q1i [q] (kvs.map (·.1))).length<=kvs.length+1:=by
 have:=q7k (kvs.map (·.1)) [q]
 rw[List.length_map,List.length_singleton]at this
 exact jA this (jE (Nat.add_comm _ _))
theorem k4w (q:Str) (kvs:List (Str×Str)):(lf q kvs).length<=kvs.length+1:=by
 simp only[lf,q4b,List.length_mergeSort]
 exact j1e q kvs
theorem z8b (U:Str->Str) (P:List Str):∀(ns:List Str) (s:List Str×List Str),(ns.foldl (nst U P) s).2.length<=s.2.length+ns.length
 | [],s=>jD _
 | q::ns,s=>by
  have h1:=z8b U P ns (nst U P s q)
  have h2:=k4t P s.2 (U q)
  exact jA h1 (jA (Nat.add_le_add_right h2 _) (jE (by rw[List.length_cons,Nat.add_assoc,Nat.add_comm 1])))
theorem z8c (U:Str->Str) (P:List Str):∀(ns:List Str) (s:List Str×List Str) (u:Str),u∈(ns.foldl (nst U P) s).2->u∈s.2\/∃r,r∈ns/\u=U r
 | [],s,u,h=>.inl h
 | q::ns,s,u,h=>by
  rcases z8c U P ns (nst U P s q) u h with h|⟨r,hr,e⟩
  ·have h:u∈nL P s.2 (U q):=h
   unfold nL at h
   split at h
   ·exact .inl h
   ·exact(List.mem_append.mp h).imp id λ h=>⟨q,jL ..,jJ h⟩
  ·exact .inr ⟨r,jK _ hr,e⟩
noncomputable def attL (U Tt:Str->Str) (M L:List Str) (kvs:List (Str×Str)):List (Str×Str):=q0u (L.map (xmlns M))++(q0u kvs).map (at1 U Tt M)
structure k7b (U Tt:Str->Str) (q:Str) (kvs:List (Str×Str)):Prop where
 n:∀r,r=q\/r∈kvs.map (·.1)->Nm r (U r) (Tt r)/\(Tt r).length<=400/\(U r).length<=50
 v:∀kv∈kvs,kv.2.length<=50
 l:kvs.length<=3
 s:q0t (Str.ofString "{http://www.w3.org/XML/1998/namespace}space") (kvs.map q0p)=none
section
variable (n:Nat) (w:Who->W) (nd pa:List AV) (x0:Store) (i:Who) (a:W) {D:List AV} {P M:List Str} (U Tt:Str->Str) {q:Str} {av:AV} {kvs:List (Str×Str)}
theorem j0a (hD:a.dl=D++[.loc (x0.length+34)]) (H:Nst x0 D P M []) (hV:DV x0 av kvs) (hN:k7b U Tt q kvs) (hm:M.length<=170) {p:List AV} {b:Bool} (hp:a.pres=p++[.bool b]) (hpz:a.pres.length<100000) (ho:a.out.length<90000) (hnl:a.nl.length<100000)
  {s:List Str×List Str} (hs:(lf q kvs).foldl (nst U P) (M,[])=s) :
  ∃y,q0e T (n+3) 126 [.obj (obA i),.str q,av,.loc (x0.length+34)] [] (Sn w nd pa x0 i a M [] [])=some (.none,Bw w nd pa (x0++(.list ((prs s.1 s.2).map q0c)::(y++[.list []]))) i
   ⟨a.out++opens (tg (px s.1 (U q)) (Tt q)) (attL U Tt s.1 s.2 kvs),a.data,a.dl,a.nl++[.loc (x0.length+1+y.length+34)],a.n0,mp s.1,a.pres++[.bool b],true,a.done⟩)/\Nst x0 D P s.1 s.2:=by
 have hl:=k4w q kvs
 have h3:=hN.l
 have hl4:=jA hl (Nat.succ_le_succ h3)
 generalize hC:q0e T (n+2)=C
 (refine Classical.byContradiction λ kk0=>?_;obtain⟨o1,o2,y,e6,H',hU⟩:=z8p w nd pa x0 i a U Tt n hD q av (x0.length+34) (q1i [q] (kvs.map (·.1))) (lf q kvs) [] M [] [] none none H (jA (jH hm hl4) (by decide)) (jA (jE (Nat.zero_add _)) (jA hl4 (by decide))) (jA (jE (Nat.zero_add _)) (jA hl4 (by decide)))
   (λ r hr=>⟨(hN.n r (q2z.mp hr)).1,(hN.n r (q2z.mp hr)).2.1⟩) (z6c q kvs) (λ _ h=>nomatch h)<;>(refine kk0 ?_;clear kk0))
 have hs2:=z8b U P (lf q kvs) (M,[])
 rw[hs]at e6 H' hs2 hU
 obtain⟨M',L'⟩:=s
 have hL5:L'.length<5:=Nat.lt_succ_of_le (jA hs2 (jA (jE (Nat.zero_add _)) (jA hl (Nat.succ_le_succ h3))))
 have hM:M'.length<=190:=jA H'.mz (by decide)
 have hsub:∀u∈L',u=xmlS\/u∈M':=λ u hu=>H'.sub u (List.mem_append_left _ hu)
 have e0:q6w C (vS1 (obA i) q av (x0.length+34)) (Sn w nd pa x0 i a M [] [])=q3a C (vS2 (obA i) q av (x0.length+34) (q1i [q] (kvs.map (·.1))) (pqV (accO U Tt M' (lf q kvs))) none none none none none none none none) (Sn w nd pa x0 i a M' L' y):=by
  rw[st_a C w nd pa _ i _ (by rw[hV.n];exact j5d (hV.d ..) h3),st_6,j5e _ _ _ _ _ _ (Nat.lt_succ_of_le (jA (j1e q kvs) (Nat.succ_le_succ h3))),q0d,if_neg (by exact Bool.false_ne_true)]
  have e7:q1h (.fl ((lf q kvs).map .str)) (q2e C) (none::none::vS0 (obA i) q av (x0.length+34) (q1i [q] (kvs.map (·.1))),[]) (Sn w nd pa x0 i a M [] [])=some ((o1::o2::vS0 (obA i) q av (x0.length+34) (q1i [q] (kvs.map (·.1))),accO U Tt M' (lf q kvs)),Sn w nd pa x0 i a M' L' y):=by
   rw[<-hC];exact e6
  simp only[show q4b (q1i [q] (kvs.map (·.1)))=lf q kvs from rfl,e7,q0d,q0d]
  exact stq (q7t (show q1z false (accO U Tt M' (lf q kvs)) (Sn w nd pa x0 i a M' L' y)=some (pqV (accO U Tt M' (lf q kvs)),Sn w nd pa x0 i a M' L' y)from rfl)) _ rfl
 have e1:=k8z C w nd pa x0 i (a.wm (mp M')) (q:=q) (av:=av) (ws:=q1i [q] (kvs.map (·.1))) (pq:=pqV (accO U Tt M' (lf q kvs))) y M' L' hM hsub hL5
 rw[List.append_assoc]at e1
 have hxl:(x0++AObj.list ((prs M' L').map q0c)::y).length=x0.length+1+y.length:=by rw[List.length_append,List.length_cons,Nat.add_assoc,Nat.add_comm 1]
 have hj:(x0++(AObj.list ((prs M' L').map q0c)::y++[AObj.list ((q0u (L'.map (xmlns M'))).map q0c)]))[x0.length+1+y.length]? = some (.list ((q0u (L'.map (xmlns M'))).map q0c)):=by
  rw[<-List.append_assoc,List.getElem?_append_right (by rw[hxl];exact jD _),hxl,Nat.sub_self]
  rfl
 have hset:∀o,(x0++(AObj.list ((prs M' L').map q0c)::y++[AObj.list ((q0u (L'.map (xmlns M'))).map q0c)])).set (x0.length+1+y.length) o=x0++(AObj.list ((prs M' L').map q0c)::(y++[o])):=λ o=>by
  rw[<-List.append_assoc,List.set_append_right _ _ (by rw[hxl];exact jD _),hxl,Nat.sub_self,List.append_assoc]
  rfl
 have hpl:(q0u (L'.map (xmlns M'))).length=L'.length:=by simp only[q0u,List.length_mergeSort,List.length_map]
 have hkl:(q0u kvs).length=kvs.length:=by rw[q0u,List.length_mergeSort]
 obtain⟨k,v,an,uri,aq,e2⟩:=k7k C w nd pa i (a.wm (mp M')) (q:=q) (nl:=x0.length+34) (ws:=q1i [q] (kvs.map (·.1))) U Tt M' hV.n hj kvs (hV.d ..) (hV.t ..) h3 (by rw[List.length_map,hpl];exact jA ‹_› (by decide)) (fr:=accO U Tt M' (lf q kvs)) λ kv hk=>by
  rw[w1o,if_pos (q2z.mpr (.inr (List.mem_map_of_mem (f:=(·.1)) hk)))]
 rw[hset,<-List.map_append,show q0u (L'.map (xmlns M'))++(q0u kvs).map (at1 U Tt M')=attL U Tt M' L' kvs from rfl]at e2
 have e3:=v2k C w nd pa i (a.wm (mp M')) (q:=q) (nl:=x0.length+34) (ws:=q1i [q] (kvs.map (·.1))) (k:=k) (v:=v) (an:=an) (uri:=uri) (aq:=aq) (al:=x0.length+1+y.length+34) (pq:=pqV (accO U Tt M' (lf q kvs)))
  hV.n kvs (hV.d w nd pa (.list ((prs M' L').map q0c)::(y++[.list ((attL U Tt M' L' kvs).map q0c)])) i _) hN.s hp hpz
 have pl:∀u,u=xmlS\/u∈M'->(px M' u).length<=400:=λ u hu=>(w3f hM hu).2
 have hf:∀r,r∈lf q kvs->(tg (px M' (U r)) (Tt r)).length<=900:=λ r hr=>by
  have h1:=pl _ (hU r hr)
  have h2:=(hN.n r (q2z.mp hr)).2.1
  exact jA (catB (catB h1 l_co) h2) (by decide)
 have hq:q∈lf q kvs:=q2z.mpr (.inl rfl)
 have hl2:∀kv∈attL U Tt M' L' kvs,kv.1.length<=1000/\kv.2.length<=50:=λ kv hk=>by
  rcases List.mem_append.mp hk with hk|hk
  ·obtain⟨u,hu,rfl⟩:=List.mem_map.mp (List.mem_mergeSort.mp hk)
   have h1:=pl u (hsub u hu)
   refine⟨by show(Str.ofString "xmlns:"++_).length<=_;rw[j8u];exact jA (Nat.add_le_add_left ‹_› _) (by decide),?_⟩
   have:=z8c U P (lf q kvs) (M,[]) u (by rw[hs];exact hu)
   rcases this with h|⟨r,hr,rfl⟩
   ·exact nomatch h
   ·exact(hN.n r (q2z.mp hr)).2.2
  ·obtain⟨kv,hk',rfl⟩:=List.mem_map.mp hk
   have hk:=List.mem_mergeSort.mp hk'
   have hr:kv.1∈lf q kvs:=q2z.mpr (.inr (List.mem_map_of_mem (f:=(·.1)) hk))
   refine⟨?_,hN.v kv hk⟩
   show(if(U kv.1).length=0 then Tt kv.1 else tg (px M' (U kv.1)) (Tt kv.1)).length<=_
   split
   ·exact jA (hN.n _ (q2z.mp hr)).2.1 (by decide)
   ·exact jA (hf _ hr) (by decide)
 have hj2:(x0++(AObj.list ((prs M' L').map q0c)::(y++[AObj.list ((attL U Tt M' L' kvs).map q0c)])))[x0.length+1+y.length]? = some (.list ((attL U Tt M' L' kvs).map q0c)):=by
  rw[<-hset,List.getElem?_set_self (List.getElem?_eq_some_iff.mp hj).1]
 have e4:=v2l n w nd pa i ((a.wm (mp M')).wp (a.pres++[.bool b])) (q:=q) (av:=av) (nl:=x0.length+34) (ws:=q1i [q] (kvs.map (·.1))) (fr:=accO U Tt M' (lf q kvs)) (j:=x0.length+1+y.length) (k:=k) (v:=v) (an:=an) (uri:=uri) (aq:=aq)
  (f:=tg (px M' (U q)) (Tt q)) (t:=Tt q) (u:=U q) (by rw[w1o,if_pos hq]) (jA (hf q hq) (by decide)) hj2 (by simp only[attL,List.length_append,List.length_map,hpl,hkl];exact jH (Nat.le_of_lt_succ hL5) h3) hl2 ho hnl
 rw[hC]at e4
 have e5:=e0.trans (e1.trans (e2.trans (e3.trans e4)))
 have hlen:(x0++(AObj.list ((prs M' L').map q0c)::(y++[AObj.list ((attL U Tt M' L' kvs).map q0c)]))).length=x0.length+1+(y++[AObj.list ((attL U Tt M' L' kvs).map q0c)]).length:=by
  rw[List.length_append,List.length_cons];exact(Nat.succ_add _ _).symm
 rw[hlen,List.append_assoc x0]at e5
 exact⟨y++[.list ((attL U Tt M' L' kvs).map q0c)],z9t (z5e ..) (by rw[hC];exact e5),H'⟩
end
inductive Fl (a:W):W->Prop
 | no (h:a.data=[]):Fl a a
 | yes (ts:List Str) (h:q1f a.data=some ts) (h0:a.data≠[]) (hz:(ts.map (·.length)).sum<=5000) (hl:(jn ts).length<=5000) (hn:((jn ts).length !=0)=true) (hs:a.seen=true) (ho:a.out.length<80000):Fl a ((a.wd []).wo (a.out++[.str (escC (jn ts))]))
section
variable (n:Nat) (C:q0a) (w:Who->W) (nd pa:List AV) (x:Store) (i:Who) (a:W) {V:Vs}
theorem j5p:∀i,trT (Bw w nd pa x i a) (.loc (daA i))=some (!a.data.isEmpty,Bw w nd pa x i a):=tri (nr (by kernel_rfl))
theorem j3u {a':W} {F:Store->ResS} (h:Fl a a') (hF:F (Bw w nd pa x i a)=sq (es V (q0e T (n+2) 106 [.obj (obA i)] [] (Bw w nd pa x i a))) λ v s=>some (.next,v,s)):ifn V (trT (Bw w nd pa x i a) (.loc (daA i))) F=some (.next,V,Bw w nd pa x i a'):=by
 rw[j5p]
 cases h with
 | no h=>rw[h];exact k3t rfl
 | yes ts h h0 hz hl hn hs ho=>
  refine(k8i (by rw[List.isEmpty_eq_false_iff.mpr h0];rfl)).trans (hF.trans ?_)
  exact stq (es_n (k8c w nd pa x i a n ts h hz (jn ts) rfl hl hn hs (Nat.lt_trans ho (by decide)))) _ rfl
noncomputable abbrev vB (i:Who) (q:Str) (av:AV) (nn:Option AV):Vs:=[some (.obj (obA i)),some (.str q),some av,nn]
theorem sa_0 (q:Str) (av:AV):∀i,z0j C (vB i q av none) (Bw w nd pa x i a)=q8l C (vB i q av none) (Bw w nd pa x i a):=tri (nr (by kernel_rfl))
theorem sa_1 (q:Str) (av:AV):∀i,q8l C (vB i q av none) (Bw w nd pa x i a)=sq (ifn (vB i q av none) (trT (Bw w nd pa x i a) (.loc (daA i))) (q8k C (vB i q av none))) λ v s=>q8m C v s:=tri (nr (by kernel_rfl))
theorem v1p (q:Str) (av:AV):∀i,q8k C (vB i q av none) (Bw w nd pa x i a)=sq (es (vB i q av none) (C 106 [.obj (obA i)] [] (Bw w nd pa x i a))) λ v s=>some (.next,v,s):=tri (nr (by kernel_rfl))
theorem sa_2 (q:Str) (av:AV):∀i,q8m C (vB i q av none) (Bw w nd pa x i a)=q8n C (vB i q av (some (.loc (x.length+34)))) (Bw w nd pa (x++[.list []]) i a):=tri (nr (by kernel_rfl))
theorem sa_3 (q:Str) (av l:AV):∀i,q8n C (vB i q av (some (norm l))) (Bw w nd pa x i a)=sq (es (vB i q av (some (norm l))) (cal C (.bi .lAppend (.loc (dlA i))) (some (norm (norm l),Bw w nd pa x i a)))) λ v s=>q8o C v s:=tri (nr (by kernel_rfl))
theorem sa_4 (q:Str) (av:AV) (l:Nat):∀i,q8o C (vB i q av (some (.loc l))) (Bw w nd pa x i a)=q8p C (vB i q av (some (.loc l))) (Bw w nd pa x i a):=tri (nr (by kernel_rfl))
theorem sa_5 (q:Str) (av:AV) (l:Nat):∀i,q8p C (vB i q av (some (.loc l))) (Bw w nd pa x i a)=sq (es (vB i q av (some (.loc l))) (C 126 [.obj (obA i),.str q,norm av,.loc l] [] (Bw w nd pa x i a))) λ v s=>some (.next,v,s):=tri (nr (by kernel_rfl))
end
section
variable (n:Nat) (w:Who->W) (nd pa:List AV) (x:Store) (i:Who) (a:W) {P M:List Str} (U Tt:Str->Str) {q:Str} {av:AV} {kvs:List (Str×Str)}
theorem k2y {a1:W} (hf:Fl a a1) (hm:a1.map=mp M) (H:Nst x a1.dl P M []) (hV:DV x av kvs) (hN:k7b U Tt q kvs) (hmz:M.length<=170) {p:List AV} {b:Bool} (hp:a1.pres=p++[.bool b]) (hpz:a1.pres.length<100000) (ho:a1.out.length<90000) (hnl:a1.nl.length<100000) (hdl:a1.dl.length<100000)
  {s:List Str×List Str} (hs:(lf q kvs).foldl (nst U P) (M,[])=s) :
  ∃y,q0e T (n+4) 120 [.obj (obA i),.str q,av] [] (Bw w nd pa x i a)=some (.none,Bw w nd pa (x++(.list ((prs s.1 s.2).map q0c)::(y++[.list []]))) i
   ⟨a1.out++opens (tg (px s.1 (U q)) (Tt q)) (attL U Tt s.1 s.2 kvs),a1.data,a1.dl++[.loc (x.length+34)],a1.nl++[.loc (x.length+1+y.length+34)],a1.n0,mp s.1,a1.pres++[.bool b],true,a1.done⟩)/\Nst x a1.dl P s.1 s.2:=by
 obtain⟨y,e,H'⟩:=j0a n w nd pa x i (a1.wl (a1.dl++[.loc (x.length+34)])) U Tt (q:=q) (kvs:=kvs) (av:=av) rfl H hV hN hmz hp hpz ho hnl hs
 have ea:(a1.wl (a1.dl++[.loc (x.length+34)])).wm (mp M)=a1.wl (a1.dl++[.loc (x.length+34)]):=by rw[<-hm];rfl
 rw[Sn,ea]at e
 refine⟨y,z9t (V:=vB i q av (some (.loc (x.length+34)))) (z9n ..) ?_,H'⟩
 generalize hC:q0e T (n+3)=C at e ⊢
 rw[sa_0,sa_1,j3u (n+1) w nd pa x i a hf (by rw[v1p,<-hC]),q0v,sa_2]
 have e1:=es_n (V:=vB i q av (some (.loc (x.length+34)))) (q3o (C:=C) rfl (dl_a w nd pa (x++[.list []]) a1 (.loc (x.length+34)) i hdl))
 have e2:=sa_3 C w nd pa (x++[.list []]) a1 q av (.loc (x.length+34)) i
 have e3:=stq e1 _ e2
 refine e3.trans ?_
 rw[sa_4,sa_5,hV.n]
 exact stq (es_n e) _ rfl
end
section
variable (n:Nat) (C:q0a) (w:Who->W) (nd pa:List AV) (x:Store) (i:Who) (a:W) {q u t p:Str}
noncomputable abbrev vN (i:Who) (p u:Str):Vs:=[some (.obj (obA i)),some (.str p),some (.str u)]
theorem sn_0:∀i,q8q C (vN i p u) (Bw w nd pa x i a)=sq (ifn (vN i p u) (trT (Bw w nd pa x i a) (.loc (daA i))) (q5b C (vN i p u))) λ v s=>q5c C v s:=tri (nr (by kernel_rfl))
theorem v1s:∀i,q5b C (vN i p u) (Bw w nd pa x i a)=sq (es (vN i p u) (C 106 [.obj (obA i)] [] (Bw w nd pa x i a))) λ v s=>some (.next,v,s):=tri (nr (by kernel_rfl))
theorem sn_2:∀i,q5c C (vN i p u) (Bw w nd pa x i a)=sq (es (vN i p u) (bnd (getR (Bw w nd pa x i a) (.loc (nlA i)) (.int (-1))) λ l s=>(q0l T s l (Str.ofString "append")).bind λ m=>cal C m (some (q0c (u,p),s)))) λ v s=>some (.next,v,s):=tri (nr (by kernel_rfl))
theorem v1i:∀i,q1j (Bw w nd pa x i a) (nlA i)=some a.nl:=tri (nr (by kernel_rfl))
theorem j8v {a1:W} (hf:Fl a a1) {N B:List AV} {l:Nat} (hN:a1.nl=N++[.loc l]) (hl:(Bw w nd pa x i a1)[l]? = some (.list B)) (hB:B.length<100000) :
  q0e T (n+3) 113 [.obj (obA i),.str p,.str u] [] (Bw w nd pa x i a)=some (.none,(Bw w nd pa x i a1).set l (.list (B++[q0c (u,p)]))):=by
 refine z9t (V:=vN i p u) (w8t ..) ?_
 simp only[sn_0,j3u n w nd pa x i a hf (v1s ..),q0v,sn_2,w9a ((v1i ..).trans (congrArg some hN)),q0d]
 exact stq (es_n (stb (k4l hl) (λ m=>cal (q0e T (n+2)) m (some (q0c (u,p),Bw w nd pa x i a1))) rfl |>.trans (q3o rfl (k2a hl hB)))) _ rfl
noncomputable abbrev vE (i:Who) (q:Str):Vs:=[some (.obj (obA i)),some (.str q)]
theorem en_0:∀i,k5v C (vE i q) (Bw w nd pa x i a)=w3q C (vE i q) (Bw w nd pa x i a):=tri (nr (by kernel_rfl))
theorem en_1:∀i,w3q C (vE i q) (Bw w nd pa x i a)=sq (ifn (vE i q) (trT (Bw w nd pa x i a) (.loc (daA i))) (w3p C (vE i q))) λ v s=>w3r C v s:=tri (nr (by kernel_rfl))
theorem v0s:∀i,w3p C (vE i q) (Bw w nd pa x i a)=sq (es (vE i q) (C 106 [.obj (obA i)] [] (Bw w nd pa x i a))) λ v s=>some (.next,v,s):=tri (nr (by kernel_rfl))
noncomputable def enF (m:Res):Res:=bnd ((catA Str.empty (Str.ofString "</")).bind λ a=>bnd (bnd m λ x s=>bnd (some (.int 0,s)) λ y s=>getR s x y) λ x s=>q5o a x λ a=>(catA a (Str.ofString ">")).bind λ a=>q1l a s) λ r s=>some (.str r,s)
theorem en_2:∀i,w3r C (vE i q) (Bw w nd pa x i a)=sq (es (vE i q) (cal C (.val (bmw i)) (enF (C 90 [.obj (obA i),.str q] [] (Bw w nd pa x i a))))) λ v s=>w3s C v s:=tri (nr (by kernel_rfl))
theorem en_3:∀i,w3s C (vE i q) (Bw w nd pa x i a)=sq (es (vE i q) ((popA a.pres).map λ p=>(p.2,Bw w nd pa x i (a.wp p.1)))) λ v s=>w3t C v s:=tri (nr (by kernel_rfl))
theorem en_4:∀i,w3t C (vE i q) (Bw w nd pa x i a)=w3u C (vE i q) (Bw w nd pa x i (a.ws a.seen (decide ((a.pres.length:Int)=1)))):=tri (nr (by kernel_rfl))
theorem en_5:∀i,w3u C (vE i q) (Bw w nd pa x i a)=sq (es (vE i q) ((popA a.dl).map λ p=>(p.2,Bw w nd pa x i (a.wl p.1)))) λ v s=>w3v C v s:=tri (nr (by kernel_rfl))
theorem en_6:∀i,w3v C (vE i q) (Bw w nd pa x i a)=sq (es (vE i q) ((popA a.nl).map λ p=>(p.2,Bw w nd pa x i (a.wn p.1)))) λ v s=>some (.next,v,s):=tri (nr (by kernel_rfl))
end
theorem w1u (xs:List AV) (v:AV):popA (xs++[v])=some (xs,v):=by unfold popA;rw[List.getLast?_concat,List.dropLast_concat]
noncomputable def closes (nm:Str):Str:=Str.ofString "</"++nm++gt1
theorem j7j {f t u:Str} {m:Res} {σ:Store} (h:m=some (.tup [.str f,.str t,.str u],σ)) (hf:f.length<=5000):enF m=some (.str (closes f),σ):=by
 have l1:(Str.ofString "</").length<=2:=jD 2
 have l2:gt1.length<=1:=jD 1
 have e0:enF (some (.tup [.str f,.str t,.str u],σ))=bnd ((catA (Str.ofString "</") f).bind λ a=>(catA a gt1).bind λ a=>q1l a σ) λ r s=>some (.str r,s):=nr (by kernel_rfl)
 have e1:((catA (Str.ofString "</") f).bind λ a=>(catA a gt1).bind λ a=>q1l a σ)=some (closes f,σ):=
  stb (catO l1 hf (by decide)) (λ a=>(catA a gt1).bind λ a=>q1l a σ) rfl |>.trans (stb (catO (catB l1 hf) l2 (by decide)) (λ a=>q1l a σ) rfl |>.trans (if_pos (jA (catB (catB l1 hf) l2) (by rw[sizeLine_eq];decide))))
 simp only[h,e0,e1,q0d]
section
variable (n:Nat) (w:Who->W) (nd pa:List AV) (x:Store) (i:Who) (a:W) {q u t:Str} {M P:List Str}
theorem j7k {a1:W} (hf:Fl a a1) (hN:Nm q u t) (ht:t.length<=400) (hl:Lv x M a1.dl.reverse P) (hn:P.Nodup) (hs:∀u∈P,u=xmlS\/u∈M) (hM:M.length<=190) (hP:P.length<3000) (hu:u∈P) (ho:a1.out.length<90000) {pr D N:List AV} {b d l:AV} (h1:a1.pres=pr++[b]) (h2:a1.dl=D++[d]) (h3:a1.nl=N++[l]) :
  ∃S,q0e T (n+3) 133 [.obj (obA i),.str q] [] (Bw w nd pa x i a)=some (.none,Bw w nd pa (x++[AObj.set S]) i ⟨a1.out++[.str (closes (tg (px M u) t))],a1.data,D,N,a1.n0,a1.map,pr,a1.seen,decide ((pr.length:Int)=1)⟩):=by
 obtain⟨k1,k2⟩:=hl.walk w nd pa i a1
 obtain⟨S,e⟩:=z2t w nd pa x i a1 n hN (λ v hv=>k1 v (List.mem_reverse.mpr hv)) (prs M P) k2 (j1f hM hn hs hP) (p:=px M u) (List.mem_map.mpr ⟨u,hu,rfl⟩) ht
 have hz:(tg (px M u) t).length<=5000:=jA (catB (catB (w3f hM (hs u hu)).2 l_co) ht) (by decide)
 refine⟨S,z9t (V:=vE i q) (k7q ..) ?_⟩
 rw[en_0,en_1,j3u n w nd pa x i a hf (v0s ..),q0v,en_2,es_n (j0m (j7j e hz) (k5f w nd pa (x++[AObj.set S]) a1 _ i (Nat.lt_trans ho (by decide)))),q0v,en_3,
  es_n (show(popA (a1.wo (a1.out++[.str (closes (tg (px M u) t))])).pres).map _=some (b,Bw w nd pa (x++[AObj.set S]) i ((a1.wo (a1.out++[.str (closes (tg (px M u) t))])).wp pr))from by simp only[show(a1.wo (a1.out++[.str (closes (tg (px M u) t))])).pres=a1.pres from rfl,h1,w1u];rfl),q0v,en_4,en_5]
 refine stq (V:=vE i q) (es_n (v:=d) (show(popA a1.dl).map _=_ from by simp only[h2,w1u];rfl)) _ rfl |>.trans ?_
 rw[en_6]
 exact stq (V:=vE i q) (es_n (v:=l) (show(popA a1.nl).map _=_ from by simp only[h3,w1u];rfl)) _ rfl
end
noncomputable def w0:Who->W
 | .t=>⟨[],[],[.loc 5],[.loc 8],[],[],[.bool false],false,false⟩
 | .e=>⟨[.str (Str.ofString "<n0:z"),.str (Str.ofString " xmlns:n0=\"z\""),.str (Str.ofString ">")],[],[.loc 14,.loc 20],[.loc 17,.loc 23],[],[(Str.ofString "z",.str (Str.ofString "n0"))],[.bool false,.bool false],true,false⟩
 | .s=>⟨[],[],[.loc 26],[.loc 29],[],[],[.bool false],false,false⟩
noncomputable def B0:Store:=Bs w0 [] [] []
noncomputable def att0 (i:Who):AObj:=
 .attrs [some (.bm .lAppend (.loc (ouA i))),some (.loc (daA i)),some (.bool false),some (.bool false),some .none,some .none,some (.bool true),some .none,some .none,
  some (.loc (dlA i)),some (.loc (nlA i)),some (.loc (maA i)),some (.loc (prA i)),some .none,some (.bool false),some (.bool false),some (.int 0),none]
noncomputable def blk (i:Who) (a:AObj):Store:=[a,.list [],.list [xmlP],.list [.loc (daA i+1)],.list [.loc (nlA i+1)],.list [],.dict [],.list [.bool false]]
noncomputable def att1 (i:Who):AObj:=att i ⟨[],[],[],[],[],[],[],false,false⟩
noncomputable def S1:Store:=[.code,.list [],.list []]
noncomputable def S2 (a e:AObj):Store:=S1++blk .t a++[.list []]++blk .e e
noncomputable def S3 (a:AObj):Store:=S1++blk .t a++(B0.drop 11).take 13
noncomputable abbrev vL (sc:AV) (xml uris plain other target early second needed path mw moves:Option AV) (r:Vs):Vs:=some sc::xml::none::uris::plain::other::target::early::second::needed::path::mw::moves::r
noncomputable abbrev q2c:Vs:=[none,none,none,none,none,none,none,none,none,none,none,none,none,none,none,none]
noncomputable def q6f:List AV:=[.lit (Str.ofString ""),.str xmlS]++(List.range 11).map (λ k=>.str (Str.ofString "k"++q1e (k:Int)))++[.lit (Str.ofString "k&\"<\r")]
section
variable (n:Nat) (C:q0a) (sc:AV) (xml uris p o t e s nd pa mw:Option AV)
theorem su_0 {σ:Store}:w7y C (vL sc none none none none none none none none none none none q2c) σ=some (.next,vL sc (some (.str xmlS)) none none none none none none none none none none q2c,σ):=nr (by kernel_rfl)
theorem su_1 {σ:Store}:w7z C (vL sc (some (.str xmlS)) none none none none none none none none none none q2c) σ=some (.next,vL sc (some (.str xmlS)) (some (.fl q6f)) none none none none none none none none none q2c,σ):=nr (by kernel_rfl)
theorem su_2:w8a C (vL sc xml uris none none none none none none none none none q2c) [.code]=some (.next,vL sc xml uris (some (.loc 1)) (some (.loc 2)) none none none none none none none q2c,S1):=nr (by kernel_rfl)
theorem su_3:w8b (q0e T (n+1)) (vL sc xml uris (some (.loc 1)) o none none none none none none none q2c) S1=some (.next,vL sc xml uris (some (.loc 1)) o (some (.obj 3)) none none none none none none q2c,S1++blk .t (att0 .t)):=nr (by kernel_rfl)
theorem su_4:w8c (q0e T (n+1)) (vL sc xml uris p o t none none none none none none q2c) (S1++blk .t (att0 .t))=some (.next,vL sc xml uris p o t (some (.obj 12)) none none none none none q2c,S2 (att0 .t) (att0 .e)):=nr (by kernel_rfl)
theorem su_5:w8d C (vL sc xml uris p o t (some (.obj 12)) none none none none none q2c) (S2 (att0 .t) (att0 .e))=some (.next,vL sc xml uris p o t (some (.obj 12)) none none none none none q2c,S2 (att0 .t) (att1 .e)):=nr (by kernel_rfl)
theorem su_6:w8e (q0e T (n+5)) (vL sc xml uris p o t (some (.obj 12)) none none none none none q2c) (S2 (att0 .t) (att1 .e))=some (.next,vL sc xml uris p o t (some (.obj 12)) none none none none none q2c,S3 (att0 .t)):=nr (by kernel_rfl)
theorem su_7:w8f (q0e T (n+1)) (vL sc xml uris p (some (.loc 2)) t e none none none none none q2c) (S3 (att0 .t))=some (.next,vL sc xml uris p (some (.loc 2)) t e (some (.obj 24)) none none none none q2c,S3 (att0 .t)++blk .s (att0 .s)):=nr (by kernel_rfl)
theorem su_8:w8g C (vL sc xml uris p o (some (.obj 3)) e s none none none none q2c) (S3 (att0 .t)++blk .s (att0 .s))=some (.next,vL sc xml uris p o (some (.obj 3)) e s none none none none q2c,S3 (att1 .t)++blk .s (att0 .s)):=nr (by kernel_rfl)
theorem su_9:w8h C (vL sc xml uris p o t e (some (.obj 24)) none none none none q2c) (S3 (att1 .t)++blk .s (att0 .s))=some (.next,vL sc xml uris p o t e (some (.obj 24)) none none none none q2c,S3 (att1 .t)++blk .s (att1 .s)):=nr (by kernel_rfl)
theorem v2h:w4m C (vL sc xml uris p o t e s none none none none q2c) (S3 (att1 .t)++blk .s (att1 .s))=some (.next,vL sc xml uris p o t e s (some (.loc 32)) (some (.loc 33)) (some (.str (Str.ofString ""))) none q2c,B0):=nr (by kernel_rfl)
end
noncomputable abbrev mv (m:Int×Int):AV:=.tup [.int m.1,.int m.2]
noncomputable def q3t (xs:List Int):List (Int×Int):=(0,(xs.take 1).sum)::(xs.drop 1).map (λ x=>(x.fmod 4,x.fdiv 4))++List.replicate xs.length (2,0)++[(4,0)]
theorem w7o:∀xs:List Int,w0r (xs.map AV.int)=some xs
 | []=>rfl
 | x::xs=>by show(w0r (xs.map AV.int)).map (x :: ·)=_;rw[w7o xs];rfl
theorem k5q (x:AV):∀n,q3w [x] n=List.replicate n x
 | 0=>rfl
 | n+1=>by simp only[q3w,k5q x n];rfl
section
variable (C:q0a) {σ:Store}
theorem z7h {xs ys:List AV} (h:xs.length+ys.length<=10000):binR σ .Add (.fl xs) (.fl ys)=some (.fl (xs++ys),σ):=by
 show((k8b (xs++ys)).map AV.fl).bind (λ v=>some (v,σ))=_
 unfold k8b
 rw[if_pos (by rw[List.length_append,sizeLine_eq];exact jA h (by decide))]
 rfl
theorem j8m {x:AV} {n:Nat} (h:n<=1000):binR σ .Mult (.fl [x]) (.int n)=some (.fl (List.replicate n x),σ):=by
 show(if 1 * n<=sizeLine/\n<2 ^ 30 then some (AV.fl (q3w [x] n))else none).bind (λ v=>some (v,σ))=_
 rw[if_pos ⟨by rw[Nat.one_mul,sizeLine_eq];exact jA h (by decide),jB h (by decide)⟩,k5q]
 rfl
theorem j3b (x:Int) (o0 o1:Option AV) (V:Vs) (fr:List AV) (h:fr.length<100000):q7c C (.int x) (o0::o1::V,fr) σ=some ((o0::some (.int x)::V,fr++[mv (x.fmod 4,x.fdiv 4)]),σ):=
 stk (em_n rfl h) _ (nr (by kernel_rfl):q7c C (.int x) (o0::o1::V,fr) σ=bnd (q4c fr (some (mv (x.fmod 4,x.fdiv 4),σ))) λ r s=>some ((o0::some (.int x)::V,r),s))
noncomputable def hd11 (L:List AV):Res:=bnd (evC (bnd (evC (some (.int 0,σ)) λ s=>evC (calA C (.bf .sum) (q2l s (.fl L) .none (.int 1) .none)) λ s=>some ([],s)) λ xs s=>if xs.length<=sizeLine then some (.tup xs,s)else none) λ s=>some ([],s)) λ xs s=>if xs.length<=sizeLine then q0j false xs s else none
theorem j6x (L:List AV):L.take (clipAt L.length (1:Nat))=L.take 1/\L.drop (clipAt L.length (1:Nat))=L.drop 1:=by
 rw[clipAt_nat]
 cases L with
 | nil=>exact⟨rfl,rfl⟩
 | cons a r=>rw[show min 1 (a::r).length=1 from Nat.min_eq_left (Nat.succ_le_succ (Nat.zero_le _))];exact⟨rfl,rfl⟩
theorem j9g (L:List AV):q2l σ (.fl L) .none (.int 1) .none=some (.fl (L.take 1),σ):=by
 show some (AV.fl ((L.take (clipAt L.length (1:Nat))).drop 0),σ)=_
 rw[(j6x L).1];rfl
theorem j9h (L:List AV):q2l σ (.fl L) (.int 1) .none .none=some (.fl (L.drop 1),σ):=by
 show some (AV.fl ((L.take L.length).drop (clipAt L.length (1:Nat))),σ)=_
 rw[List.take_length,(j6x L).2]
theorem j3y (xs:List Int):hd11 C (σ:=σ) (xs.map .int)=some (.fl [mv (0,(xs.take 1).sum)],σ):=by
 have e:biA .sum [.fl ((xs.map AV.int).take 1)] σ=some (.int (xs.take 1).sum,σ):=by
  show(w0r ((xs.map AV.int).take 1)).bind (λ is=>some (AV.int is.sum,σ))=_
  rw[<-List.map_take,w7o];rfl
 unfold hd11
 dsimp only[evC,q0d]
 rw[q0d,q5l (j9g _) e]
 exact nr (by kernel_rfl)
theorem v2i (xs:List Int) (hx:xs.length<=63) (xml uris p o t e s nd pa mw:Option AV):q3z C (vL (.fl (xs.map .int)) xml uris p o t e s nd pa mw none q2c) σ=some (.next,vL (.fl (xs.map .int)) xml uris p o t e s nd pa mw (some (.fl ((q3t xs).map mv))) q2c,σ):=by
 have e0:q3z C (vL (.fl (xs.map .int)) xml uris p o t e s nd pa mw none q2c) σ=asg (vL (.fl (xs.map .int)) xml uris p o t e s nd pa mw none q2c) 12 (bnd (bnd (bnd (hd11 C (σ:=σ) (xs.map .int)) λ x z=>bnd (bnd (bnd (q2l z (.fl (xs.map .int)) (.int 1) .none .none) λ v z=>bnd (if(!goN v)=true then none else q1h v (q7c C) (none::none::vL (.fl (xs.map .int)) xml uris p o t e s nd pa mw none q2c,[]) z) λ r s=>some (r.2,s)) λ fr s=>q0j false fr s) λ y s=>binR s .Add x y) λ x s=>bnd (binR s .Mult (.fl [mv (2,0)]) (.int (xs.map AV.int).length)) λ y s=>binR s .Add x y) λ x s=>binR s .Add x (.fl [mv (4,0)])):=nr (by kernel_rfl)
 have g:Got (λ V'=>∃a b,V'=a::b::vL (.fl (xs.map .int)) xml uris p o t e s nd pa mw none q2c) (q1h (.fl ((xs.drop 1).map .int)) (q7c C) (none::none::vL (.fl (xs.map .int)) xml uris p o t e s nd pa mw none q2c,[]) σ) ((xs.drop 1).foldl (app λ x=>[mv (x.fmod 4,x.fdiv 4)]) []) σ:=by
  refine w5i (e:=AV.int) rfl (λ my x fm vs ex h=>?_) ⟨_,_,rfl⟩
  obtain⟨a,b,rfl⟩:=h
  refine⟨_,⟨a,some (.int x),rfl⟩,j3b C x a b _ _ ?_⟩
  have:=congrArg List.length ex
  simp only[q1d,q2f,List.nil_append,List.length_map]
  rw[List.length_append,List.length_cons,List.length_drop]at this
  exact jB (jA (jG _ _) (jE this.symm)) (jB (jA (Nat.sub_le _ _) hx) (by decide))
 obtain⟨V',_,e1⟩:=g
 simp only[q1d,q2f,List.nil_append]at e1
 have hl:((xs.drop 1).map λ x=>mv (x.fmod 4,x.fdiv 4)).length<=63:=by rw[List.length_map,List.length_drop];exact jA (Nat.sub_le _ _) hx
 rw[e0,j3y,q0d,j9h,q0d,<-List.map_drop,show(!goN (.fl ((xs.drop 1).map AV.int)))=false from rfl,if_neg Bool.false_ne_true,e1,q0d,q0d,show q0j false ((xs.drop 1).map λ x=>mv (x.fmod 4,x.fdiv 4)) σ=some (.fl ((xs.drop 1).map λ x=>mv (x.fmod 4,x.fdiv 4)),σ)from rfl,q0d,
  z7h (by rw[List.length_singleton];exact jA (Nat.add_le_add_left ‹_› _) (by decide)),q0d,List.length_map,j8m (by exact jA ‹_› (by decide)),q0d,z7h (by simp only[List.length_append,List.length_replicate,List.length_singleton];omega),q0d,q7t (z7h (by simp only[List.length_append,List.length_append,List.length_replicate,List.length_singleton,List.length_singleton];omega))]
 rw[show(q3t xs).map mv=[mv (0,(xs.take 1).sum)]++(xs.drop 1).map (λ x=>mv (x.fmod 4,x.fdiv 4))++List.replicate xs.length (mv (2,0))++[mv (4,0)] by
  simp only[q3t,List.map_append,List.map_append,List.map_replicate,List.map_cons,List.map_map];rfl]
 rfl
end
noncomputable def bad:Str:=Str.ofString "k&\"<\r"
noncomputable def j0e:List Str:=[Str.ofString "",xmlS]++(List.range 11).map (λ(k:Nat)=>Str.ofString "k"++q1e (k:Int))++[bad]
noncomputable def uS (k:Nat):Str:=j0e.getD k Str.empty
noncomputable def lS (l:Nat):Str:=if l=0 then Str.ofString "a" else Str.ofString "b"
noncomputable def kU (k:Nat):Str:=uS (k % 14)
noncomputable def kL (k:Nat):Str:=lS (k / 14)
noncomputable def kS (k:Nat):Str:=if(kU k).length=0 then kL k else Str.ofString "{"++kU k++Str.ofString "}"++kL k
noncomputable def vS' (j:Nat):Str:=bad++q1e (j:Int)
noncomputable abbrev R28:List Nat:=List.range 28
theorem forN {α:Type} {f g:Nat->α} (n:Nat) (h:(List.range n).map f=(List.range n).map g) {k:Nat} (hk:k<n):f k=g k:=List.map_inj_left.mp h k (List.mem_range.mpr hk)
theorem k3n {α:Type} {f g:Nat->α} (h:R28.map f=R28.map g) {k:Nat} (hk:k<28):f k=g k:=List.map_inj_left.mp h k (List.mem_range.mpr hk)
section
variable (n:Nat) (C:q0a) (σ:Store) {k:Nat} (hk:k<28)
include hk
theorem j8b:q0e T (n+1) 180 [.str (kU k),.str (kL k)] [] σ=some (.str (kS k),σ):=k3n (f:=λ k=>q0e T (n+1) 180 [.str (kU k),.str (kL k)] [] σ) (g:=λ k=>some (.str (kS k),σ)) (nr (by kernel_rfl)) hk
theorem z9g:q0e T (n+1) 187 [.str (kS k)] [] σ=some (.str (kU k),σ):=k3n (f:=λ k=>q0e T (n+1) 187 [.str (kS k)] [] σ) (g:=λ k=>some (.str (kU k),σ)) (nr (by kernel_rfl)) hk
theorem j8r:Nm (kS k) (kU k) (kL k):=λ C d σ=>k3n (f:=λ k=>q3k C [some (.obj d),some (.str (kS k)),some .none,none,none,none,none] σ) (g:=λ k=>some (.next,vQ d (kS k) (kU k) (kL k) none none none,σ)) (nr (by kernel_rfl)) hk
end
noncomputable def spl (C:q0a) (x:AV) (σ:Store):Res:=bnd ((q0l T σ x (Str.ofString "split")).bind λ m=>cal C m (some (.str (Str.ofString "}"),σ))) λ y s=>bnd (negE (some (.int 1,s))) λ z s=>getR s y z
noncomputable def isB (x:AV) (σ:Store):ResT:=bnd (q2l σ x .none (.int 1) .none) λ y s=>cmpT s .Eq y (.str (Str.ofString "{"))
noncomputable def q1c:Str:=Str.ofString "k&amp;&quot;&lt;&#xD;"
noncomputable def rp (s:Str):Str:=Txt.replace s bad q1c
section
variable (n:Nat) (C:q0a) (σ:Store)
theorem j1o {k:Nat} (hk:k<28):spl C (.str (kS k)) σ=some (.str (kL k),σ):=k3n (f:=λ k=>spl C (.str (kS k)) σ) (g:=λ k=>some (.str (kL k),σ)) (nr (by kernel_rfl)) hk
theorem j7y {k:Nat} (hk:k<28):isB (.str (kS k)) σ=some ((kU k).length !=0,σ):=k3n (f:=λ k=>isB (.str (kS k)) σ) (g:=λ k=>some ((kU k).length !=0,σ)) (nr (by kernel_rfl)) hk
theorem getU {u:Nat} (hu:u<14):getR σ (.fl q6f) (.int (u:Int))=some (.str (uS u),σ):=forN (f:=λ(u:Nat)=>getR σ (.fl q6f) (.int (u:Int))) (g:=λ u=>some (.str (uS u),σ)) 14 (nr (by kernel_rfl)) hu
end
theorem rp_u:∀u<14,escA (uS u)=rp (uS u)/\(uS u).length<=40:=by decide +kernel
theorem rp_v:∀j<3,escA (vS' j)=rp (vS' j)/\(vS' j).length<=40:=by decide +kernel
theorem k_len:∀k<28,(kS k).length<=60/\(kL k).length=1/\(kU k).length<=40:=by decide +kernel
theorem j7z:(R28.map kS).Nodup:=by decide +kernel
noncomputable def SNk:List Nat:=[0,14,1,15,13,27,2,16,3,17,12,26,4,18,5,19,6,20,7,21,8,22,9,23,10,24,11,25]
theorem k1q:(SNk.map kS).Pairwise λ a b=>k3w a b=true:=by decide +kernel
noncomputable def SUk:List Nat:=[0,1,13,2,3,12,4,5,6,7,8,9,10,11]
theorem k1r:(SUk.map uS).Pairwise λ a b=>decide (a.cps.toList<=b.cps.toList)=true:=by decide +kernel
theorem j1z:q5k j0e=SUk.map uS:=(q9f (O:=q0s) (ko:=q1q) (λ a b=>(q3u _ _).symm) q2y (List.isPerm_iff.mp (by decide +kernel:(SUk.map uS).isPerm j0e=true)) k1r).symm
noncomputable abbrev vM (sc mf:AV) (mw move rest k mr mx lw lj mh ml lf ly lh mq lk lm lx lr:Option AV):Vs:=
 [some sc,some (.str xmlS),k,some (.fl q6f),some (.loc 1),some (.loc 2),some (.obj 3),some (.obj 12),some (.obj 24),some (.loc 32),some (.loc 33),mw,some mf,move,rest,mr,mx,lw,lj,mh,ml,lf,ly,lh,mq,lk,lm,lx,lr]
noncomputable def ix (r:Int):Nat:=(r.fmod 14).toNat+14 * ((r.fdiv 14).fmod 2).toNat
theorem z1t (r:Int) {b:Int} (hb:0<b):∃m:Nat,r.fmod b=m/\m<b.toNat:=by
 have h1:=Int.fmod_nonneg_of_pos r hb
 have h2:=Int.fmod_lt_of_pos r hb
 exact⟨(r.fmod b).toNat,(Int.toNat_of_nonneg h1).symm,(Int.toNat_lt_toNat hb).mpr h2⟩
theorem j4d (r:Int):ix r<28:=by
 obtain⟨a,h1,h2⟩:=z1t r (b:=14) (by decide)
 obtain⟨b,h3,h4⟩:=z1t (r.fdiv 14) (b:=2) (by decide)
 unfold ix
 rw[h1,h3]
 simp only[Int.toNat_natCast]at *
 exact jC (Nat.add_lt_add_of_lt_of_le (show a<14 from h2) (Nat.mul_le_mul_left 14 (Nat.le_of_lt_succ (show b<2 from h4)))) (jD 28)
noncomputable def k9g (C:q0a) (r:Int) (σ:Store):Res:=
 bnd (evC (getR σ (.fl q6f) (.int (r.fmod 14))) λ s=>evC (getR s (.fl [.str (Str.ofString "a"),.str (Str.ofString "b")]) (.int ((r.fdiv 14).fmod 2))) λ s=>some ([],s)) λ xs s=>bnd (some ([],s)) λ kv s=>q0i T C (.fn 180) xs kv s
theorem z8o (n:Nat) (r:Int) (σ:Store):k9g (q0e T (n+1)) r σ=some (.str (kS (ix r)),σ):=by
 obtain⟨a,h1,h2⟩:=z1t r (b:=14) (by decide)
 obtain⟨b,h3,h4⟩:=z1t (r.fdiv 14) (b:=2) (by decide)
 have h2:a<14:=h2
 have h4:b<2:=h4
 have e1:ix r=a+14 * b:=by unfold ix;rw[h1,h3];rfl
 have e2:getR σ (.fl [.str (Str.ofString "a"),.str (Str.ofString "b")]) (.int (b:Int))=some (.str (lS b),σ):=forN (f:=λ(b:Nat)=>getR σ (.fl [.str (Str.ofString "a"),.str (Str.ofString "b")]) (.int (b:Int))) (g:=λ b=>some (.str (lS b),σ)) 2 (nr (by kernel_rfl)) h4
 unfold k9g
 rw[h1,h3,getU σ h2]
 change bnd (bnd (evC (getR σ (.fl [.str (Str.ofString "a"),.str (Str.ofString "b")]) (.int (b:Int))) λ s=>some ([],s)) λ xs s=>some (AV.str (uS a)::xs,s)) _=_
 rw[e2]
 have e3:=j8b n σ (j4d r)
 rw[e1,show kU (a+14 * b)=uS a by unfold kU;rw[Nat.add_mul_mod_self_left,Nat.mod_eq_of_lt h2],show kL (a+14 * b)=lS b by unfold kL;rw[Nat.add_mul_div_left _ _ (by decide),Nat.div_eq_of_lt h2,Nat.zero_add]]at e3
 rw[e1]
 exact e3
section
variable (n:Nat) (C:q0a) (sc mf:AV) (mw mo k mr mx lw lj mh ml lf ly lh mq lk lm lx lr:Option AV) (r:Int) {σ:Store}
theorem b_0:w3w C (vM sc mf mw mo (some (.int r)) k mr mx lw lj mh ml lf ly lh mq lk lm lx lr) σ=asg (vM sc mf mw mo (some (.int r)) k mr mx lw lj mh ml lf ly lh mq lk lm lx lr) 15 (k9g C r σ):=nr (by kernel_rfl)
end
section
variable (n:Nat) (C:q0a) (w:Who->W) (nd pa:List AV) (x:Store) (sc mf:AV) (mw mo k mr mx lw lj mh ml lf ly lh mq lk lm lx lr:Option AV) (r:Int) {σ:Store}
theorem b_1:w3x C (vM sc mf mw mo (some (.int r)) k mr mx lw lj mh ml lf ly lh mq lk lm lx lr) (Bs w nd pa x)=some (.next,vM sc mf mw mo (some (.int r)) k mr (some (.loc (x.length+34))) lw lj mh ml lf ly lh mq lk lm lx lr,Bs w nd pa (x++[.dict []])):=nr (by kernel_rfl)
theorem b_2:q8f C (vM sc mf mw mo (some (.int r)) k mr mx lw lj mh ml lf ly lh mq lk lm lx lr) σ=(q2g σ (.rng 0 ((r.fdiv 28).fmod 4))).bind λ xs=>forA (q5i C) xs (vM sc mf mw mo (some (.int r)) k mr mx lw lj mh ml lf ly lh mq lk lm lx lr) σ:=nr (by kernel_rfl)
noncomputable def q9j (r:Int) (j:Nat):Int:=r.fdiv 112+(if r.fmod 2=0 then 5 else 14) * j
theorem b_20 (j:Nat):q5i C (.int (j:Int)) (vM sc mf mw mo (some (.int r)) k mr mx lw lj mh ml lf ly lh mq lk lm lx lr) σ=sq (asg (vM sc mf mw mo (some (.int r)) (some (.int (j:Int))) mr mx lw lj mh ml lf ly lh mq lk lm lx lr) 17 (bnd (bnd (getR σ (.fl [.int 5,.int 14]) (.int (r.fmod 2))) λ y s=>binR s .Mult y (.int (j:Int))) λ y s=>binR s .Add (.int (r.fdiv 112)) y)) λ v s=>sq (q7f C v s) λ v s=>some (.next,v,s):=nr (by kernel_rfl)
theorem b_21 (j:Nat) (l:Nat) (sd:Int):q7f C (vM sc mf mw mo (some (.int r)) (some (.int (j:Int))) mr (some (.loc l)) (some (.int sd)) lj mh ml lf ly lh mq lk lm lx lr) σ=bnd (bnd (if(j:Int).natAbs<10 ^ 6 then some (.str (q1e (j:Int)),σ)else none) λ y s=>binR s .Add (.str bad) y) λ v s=>bnd (bnd (bnd (k9g C sd s) λ y s=>putS (.loc l) y v (vM sc mf mw mo (some (.int r)) (some (.int (j:Int))) mr (some (.loc l)) (some (.int sd)) lj mh ml lf ly lh mq lk lm lx lr) s) λ vs s=>some (vs,s)) λ vs s=>some (.next,vs,s):=nr (by kernel_rfl)
end
structure At (kvs:List (Str×Str)):Prop where
 l:kvs.length<=3
 n:(kvs.map (·.1)).Nodup
 k:∀kv∈kvs,∃k,k<28/\kv.1=kS k
 v:∀kv∈kvs,∃j,j<3/\kv.2=vS' j
noncomputable def sto (k v:Str) (kvs:List (Str×Str)):List (Str×Str):=if kvs.any (λ kv=>kv.1=k)then kvs.map (λ kv=>if kv.1=k then(kv.1,v)else kv)else kvs++[(k,v)]
theorem k6o (k v:Str) (kvs:List (Str×Str)):q1a k (.str v) (kvs.map q0p)=(sto k v kvs).map q0p:=by
 unfold q1a sto
 rw[show(kvs.map q0p).any (λ kv=>decide (kv.1=k))=kvs.any (λ kv=>decide (kv.1=k)) by rw[List.any_map];rfl]
 by_cases h:kvs.any (λ kv=>decide (kv.1=k))=true
 ·rw[if_pos h,if_pos h,List.map_map,List.map_map]
  refine List.map_congr_left λ kv _=>?_
  show(if kv.1=k then(kv.1,AV.str v)else q0p kv)=q0p (if kv.1=k then(kv.1,v)else kv)
  split<;>rfl
 ·rw[if_neg h,if_neg h,List.map_append];rfl
theorem j9p {mh v:Str} {kvs:List (Str×Str)} {j:Nat} (h:At kvs) (hl:kvs.length<=j) (hj:j<3) (hk:∃k,k<28/\mh=kS k) (hv:v=vS' j):At (sto mh v kvs)/\(sto mh v kvs).length<=j+1:=by
 unfold sto
 by_cases q:kvs.any (λ kv=>decide (kv.1=mh))=true
 ·rw[if_pos q]
  have e:(kvs.map λ kv=>if kv.1=mh then(kv.1,v)else kv).map (·.1)=kvs.map (·.1):=by
   rw[List.map_map]
   refine List.map_congr_left λ kv _=>?_
   show(if kv.1=mh then(kv.1,v)else kv).1=_
   split<;>rfl
  refine⟨⟨by rw[List.length_map];exact h.l,by rw[e];exact h.n,λ kv hm=>?_,λ kv hm=>?_⟩,by rw[List.length_map];exact Nat.le_succ_of_le hl⟩
  ·obtain⟨z,hz,rfl⟩:=List.mem_map.mp hm
   split<;>exact h.k z hz
  ·obtain⟨z,hz,rfl⟩:=List.mem_map.mp hm
   split
   ·exact⟨j,hj,hv⟩
   ·exact h.v z hz
 ·rw[if_neg q]
  refine⟨⟨by rw[List.length_append];exact jA (Nat.add_le_add_right hl 1) hj,?_,λ kv hm=>?_,λ kv hm=>?_⟩,by rw[List.length_append];exact Nat.add_le_add_right hl 1⟩
  ·rw[List.map_append]
   refine List.nodup_append.mpr ⟨h.n,by simp,λ a ha b hb e=>q ?_⟩
   obtain⟨z,hz,rfl⟩:=List.mem_map.mp ha
   rw[jJ hb]at e
   exact List.any_eq_true.mpr ⟨z,hz,decide_eq_true e⟩
  ·rcases List.mem_append.mp hm with hm|hm
   ·exact h.k kv hm
   ·rw[jJ hm];exact hk
  ·rcases List.mem_append.mp hm with hm|hm
   ·exact h.v kv hm
   ·rw[jJ hm];exact⟨j,hj,hv⟩
section
variable (n:Nat) (w:Who->W) (nd pa:List AV) (x:Store) (sc mf:AV) (mw mo mr lj mh ml lf ly lh mq lk lm lx lr:Option AV) (r:Int)
theorem j5b (j:Nat) (hj:j<3) (σ:Store):(bnd (bnd (getR σ (.fl [.int 5,.int 14]) (.int (r.fmod 2))) λ y s=>binR s .Mult y (.int (j:Int))) λ y s=>binR s .Add (.int (r.fdiv 112)) y)=some (.int (q9j r j),σ):=by
 obtain⟨b,h3,h4⟩:=z1t r (b:=2) (by decide)
 have h4:b<2:=h4
 unfold q9j
 rw[h3]
 have e:(bnd (getR σ (.fl [.int 5,.int 14]) (.int (b:Int))) λ y s=>binR s .Mult y (.int (j:Int)))=some (.int ((if(b:Int)=0 then 5 else 14) * j),σ):=by
  exact forN (f:=λ j:Nat=>bnd (getR σ (.fl [.int 5,.int 14]) (.int (b:Int))) λ y s=>binR s .Mult y (.int (j:Int))) (g:=λ j:Nat=>some (.int ((if(b:Int)=0 then 5 else 14) * (j:Int)),σ)) 3 (forN (f:=λ b:Nat=>(List.range 3).map λ j:Nat=>bnd (getR σ (.fl [.int 5,.int 14]) (.int (b:Int))) λ y s=>binR s .Mult y (.int (j:Int))) (g:=λ b:Nat=>(List.range 3).map λ j:Nat=>some (.int ((if(b:Int)=0 then 5 else 14) * (j:Int)),σ)) 2 (nr (by kernel_rfl)) h4) hj
 rw[e]
 exact nr (by kernel_rfl)
theorem j6h {kvs:List (Str×Str)} {j:Nat} (h:At kvs) (hl:kvs.length<=j) (hj:j<3) (k lw:Option AV) :
  q5i (q0e T (n+1)) (.int (j:Int)) (vM sc mf mw mo (some (.int r)) k mr (some (.loc (x.length+34))) lw lj mh ml lf ly lh mq lk lm lx lr) (Bs w nd pa (x++[.dict (kvs.map q0p)]))
   = some (.next,vM sc mf mw mo (some (.int r)) (some (.int (j:Int))) mr (some (.loc (x.length+34))) (some (.int (q9j r j))) lj mh ml lf ly lh mq lk lm lx lr,Bs w nd pa (x++[.dict ((sto (kS (ix (q9j r j))) (vS' j) kvs).map q0p)])):=by
 have hc:(Bs w nd pa (x++[AObj.dict (kvs.map q0p)]))[x.length+34]? = some (.dict (kvs.map q0p)):=(nr rfl:(Bs w nd pa (x++[AObj.dict (kvs.map q0p)]))[x.length+34]? = (x++[AObj.dict (kvs.map q0p)])[x.length]?).trans (by simp)
 have hs:∀o,(Bs w nd pa (x++[AObj.dict (kvs.map q0p)])).set (x.length+34) o=Bs w nd pa (x++[o]):=λ o=>(nr rfl:(Bs w nd pa (x++[AObj.dict (kvs.map q0p)])).set (x.length+34) o=Bs w nd pa ((x++[AObj.dict (kvs.map q0p)]).set x.length o)).trans (by simp)
 have hd:w0c (Bs w nd pa (x++[AObj.dict (kvs.map q0p)])) (x.length+34)=some (kvs.map q0p):=by unfold w0c;rw[hc]
 have hv:=(rp_v j hj).2
 refine(b_20 ..).trans (stq (q7t (j5b r j hj _)) _ rfl |>.trans (stq (V:=vM sc mf mw mo (some (.int r)) (some (.int (j:Int))) mr (some (.loc (x.length+34))) (some (.int (q9j r j))) lj mh ml lf ly lh mq lk lm lx lr) ?_ _ rfl))
 refine(b_21 ..).trans ?_
 rw[if_pos (by exact jA ‹_› (by decide)),q0d,add_str (x:=bad) (y:=q1e (j:Int)) (by rw[<-q6r];exact jA hv (by decide)),q0d,z8o,q0d]
 refine(stk (stk (v:=vM sc mf mw mo (some (.int r)) (some (.int (j:Int))) mr (some (.loc (x.length+34))) (some (.int (q9j r j))) lj mh ml lf ly lh mq lk lm lx lr) ?_ (λ vs s=>some (vs,s)) rfl) (λ vs s=>some (q0b.next,vs,s)) rfl)
 refine stb hd (λ kvs'=>if kvs'.length<sizeLine then some (_,(Bs w nd pa (x++[AObj.dict (kvs.map q0p)])).set (x.length+34) (.dict (q1a (kS (ix (q9j r j))) (.str (bad++q1e (j:Int))) kvs')))else none) rfl |>.trans ?_
 rw[if_pos (few (by rw[List.length_map];have:=h.l;exact jB ‹_› (by decide))),hs,k6o]
 rfl
theorem j0k:∀(c j:Nat) {kvs:List (Str×Str)},At kvs->kvs.length<=j->j+c<=3->∀k lw:Option AV,∃kvs' k' seed',At kvs'/\
  forA (q5i (q0e T (n+1))) ((List.range' j c).map λ(k:Nat)=>AV.int (0+(k:Int))) (vM sc mf mw mo (some (.int r)) k mr (some (.loc (x.length+34))) lw lj mh ml lf ly lh mq lk lm lx lr) (Bs w nd pa (x++[.dict (kvs.map q0p)]))
   = some (.next,vM sc mf mw mo (some (.int r)) k' mr (some (.loc (x.length+34))) seed' lj mh ml lf ly lh mq lk lm lx lr,Bs w nd pa (x++[.dict (kvs'.map q0p)]))
 | 0,j,kvs,h,_,_,k,lw=>⟨kvs,k,lw,h,rfl⟩
 | c+1,j,kvs,h,hl,hj,k,lw=>by
  obtain⟨h1,h2⟩:=j9p h hl (by decreasing_trivial) ⟨ix (q9j r j),j4d _,rfl⟩ rfl
  rcases _:j0k c (j+1) h1 h2 (jA (jE (Nat.add_right_comm j 1 c)) hj) (some (.int (j:Int))) (some (.int (q9j r j)))with⟨kvs',k',seed',h3,e⟩
  refine⟨kvs',k',seed',h3,?_⟩
  rw[List.range'_succ,List.map_cons,Int.zero_add]
  exact(stq (j6h n w nd pa x sc mf mw mo mr lj mh ml lf ly lh mq lk lm lx lr r h hl (by decreasing_trivial) k lw) _ rfl).trans e
theorem j6k (k lw:Option AV):∃kvs k' seed',At kvs/\q8f (q0e T (n+1)) (vM sc mf mw mo (some (.int r)) k mr (some (.loc (x.length+34))) lw lj mh ml lf ly lh mq lk lm lx lr) (Bs w nd pa (x++[.dict []]))
   = some (.next,vM sc mf mw mo (some (.int r)) k' mr (some (.loc (x.length+34))) seed' lj mh ml lf ly lh mq lk lm lx lr,Bs w nd pa (x++[.dict (kvs.map q0p)])):=by
 obtain⟨m,h1,h2⟩:=z1t (r.fdiv 28) (b:=4) (by decide)
 have h2:m<4:=h2
 rcases _:j0k n w nd pa x sc mf mw mo mr lj mh ml lf ly lh mq lk lm lx lr r m 0 (kvs:=[]) ⟨Nat.zero_le _,List.nodup_nil,(λ _ h=>nomatch h),(λ _ h=>nomatch h)⟩ (jD _) (jA (jE (Nat.zero_add _)) (Nat.le_of_lt_succ h2)) k lw with⟨kvs,k',seed',h3,e⟩
 refine⟨kvs,k',seed',h3,(b_2 ..).trans ?_⟩
 rw[h1]
 have ei:q2g (Bs w nd pa (x++[.dict []])) (.rng 0 (m:Int))=some ((List.range' 0 m).map λ(k:Nat)=>AV.int (0+(k:Int))):=(if_pos ⟨by decide,by exact jA ‹_› (by decide)⟩).trans (by unfold z2u;rw[List.range_eq_range',show((m:Int) - 0).toNat=m by rfl])
 rw[ei]
 exact e
end
noncomputable def cal2 (C:q0a) (f:Callee) (m:Res) (k:Store->Res):Res:=bnd (evC m λ s=>evC (k s) λ s=>some ([],s)) λ xs s=>bnd (some ([],s)) λ kv s=>q0g T C f xs kv s
theorem z5b {C:q0a} {a:Addr} {u v v':AV} {m:Res} {k:Store->Res} {σ σ' σ'':Store} {r:Res} (h:m=some (v,σ)) (h1:k σ=some (v',σ')) (h2:C a [u,v,v'] [] σ'=r):cal2 C (.fn a u) m k=r:=by
 rw[h]
 show bnd (bnd (evC (k σ) λ s=>some ([],s)) λ xs s=>some (v::xs,s)) _=_
 rw[h1]
 exact h2
noncomputable def strI (a:Str) (i:Int) (σ:Store):Res:=bnd (if i.natAbs<10 ^ 6 then some (.str (q1e i),σ)else none) λ y s=>binR s .Add (.str a) y
theorem z7c {a:Str} {i:Nat} {σ:Store} (h:i<1000) (ha:a.length<=100):strI a (i:Int) σ=some (.str (a++q1e (i:Int)),σ):=by
 unfold strI
 have:=len_str_of_int (i:Int)
 rw[if_pos (by exact jA ‹_› (by decide)),q0d]
 exact add_str (by unfold q1e;lia)
section
variable (n:Nat) (C:q0a) (w:Who->W) (nd pa:List AV) (x:Store) (sc mf:AV) (mw mo k lw lj mh ml lf ly lh mq lk lm lx lr:Option AV) (r:Int) (q:Str) (A G:Nat) {σ:Store}
noncomputable abbrev vK (q:Str) (A:Nat) (lj ml lf ly lh mq lk:Option AV):Vs:=vM sc mf mw mo (some (.int r)) k (some (.str q)) (some (.loc A)) lw lj mh ml lf ly lh mq lk lm lx lr
theorem b_3:q8g C (vK sc mf mw mo k lw mh lm lx lr r q A lj ml lf ly lh mq lk) (Bs w nd pa x)=asg (vK sc mf mw mo k lw mh lm lx lr r q A lj ml lf ly lh mq lk) 18 (calA C (.bf .dict) (some (.loc A,Bs w nd pa x))):=nr (by kernel_rfl)
theorem b_4:q8h C (vK sc mf mw mo k lw mh lm lx lr r q A (some (.loc G)) ml lf ly lh mq lk) (Bs w nd pa x)=es (vK sc mf mw mo k lw mh lm lx lr r q A (some (.loc G)) ml lf ly lh mq lk) (C 120 [.obj 3,.str q,.loc G] [] (Bs w nd pa x)):=nr (by kernel_rfl)
theorem b_5:q5y C (vK sc mf mw mo k lw mh lm lx lr r q A (some (.loc G)) ml lf ly lh mq lk) σ=ifn (vK sc mf mw mo k lw mh lm lx lr r q A (some (.loc G)) ml lf ly lh mq lk) (cmpT σ .NotEq (.loc G) (.loc A)) (z3z C (vK sc mf mw mo k lw mh lm lx lr r q A (some (.loc G)) ml lf ly lh mq lk)):=nr (by kernel_rfl)
theorem b_6:q5z C (vK sc mf mw mo k lw mh lm lx lr r q A lj ml lf ly lh mq lk) (Bs w nd pa x)=es (vK sc mf mw mo k lw mh lm lx lr r q A lj ml lf ly lh mq lk) (cal2 C (.fn 113 (.obj 24)) (strI (Str.ofString "n") (r.fmod 5) (Bs w nd pa x)) λ s=>C 187 [.str q] [] s):=nr (by kernel_rfl)
theorem b_7:q6a C (vK sc mf mw mo k lw mh lm lx lr r q A lj ml lf ly lh mq lk) (Bs w nd pa x)=es (vK sc mf mw mo k lw mh lm lx lr r q A lj ml lf ly lh mq lk) (cal2 C (.fn 120 (.obj 12)) (bnd (strI (Str.ofString "{y") (pa.length:Int) (Bs w nd pa x)) λ y s=>binR s .Add y (.str (Str.ofString "}y"))) λ s=>some (.fd [] [],s)):=nr (by kernel_rfl)
theorem b_8:q6b C (vK sc mf mw mo k lw mh lm lx lr r q A lj ml lf ly lh mq lk) (Bs w nd pa x)=es (vK sc mf mw mo k lw mh lm lx lr r q A lj ml lf ly lh mq lk) (cal2 C (.fn 120 (.obj 24)) (some (.str q,Bs w nd pa x)) λ s=>bnd (bnd (bnd (calA C (.bf .list) (some (.loc A,s))) λ x s=>q2l s x .none .none (.int (-1))) λ v s=>bnd (if(!goN v)=true then none else q1h v (q9u C) (none::none::vK sc mf mw mo k lw mh lm lx lr r q A lj ml lf ly lh mq lk,[]) s) λ r s=>some (r.2,s)) λ fr s=>q1z false fr s):=nr (by kernel_rfl)
theorem c_3 (key':Str) (o0 o1:Option AV) (fr:List (Str×AV)):q9u C (.str key') (o0::o1::vK sc mf mw mo k lw mh lm lx lr r q A lj ml lf ly lh mq lk,fr) σ=bnd (bnd (getR σ (.loc A) (.str key')) λ y s=>w5f fr (.str key') y s) λ r' s=>some ((o0::some (.str key')::vK sc mf mw mo k lw mh lm lx lr r q A lj ml lf ly lh mq lk,r'),s):=nr (by kernel_rfl)
end
noncomputable def lc (m:Option ((Vs×List AV)×Store)):Res:=bnd (bnd m λ r s=>some (r.2,s)) λ fr s=>q0j false fr s
theorem k4a {P:Vs->Prop} {m:Option ((Vs×List AV)×Store)} {r:List AV} {σ:Store} (h:Got P m r σ):lc m=some (.fl r,σ):=by
 obtain⟨vs,_,e⟩:=h
 rw[e];rfl
noncomputable def adds (x:AV) (y:Str) (σ:Store):Res:=binR σ .Add x (.str y)
section
variable (n:Nat) (C:q0a) (w:Who->W) (nd pa:List AV) (x:Store) (sc mf:AV) (mw mo k lw lj mh ml lf ly lh mq lk lm lx lr:Option AV) (r:Int) (q:Str) (A B:Nat) {σ:Store}
noncomputable abbrev vJ (mw:Option AV) (lm mh ml lf ly lh mq lk:Option AV):Vs:=vM sc mf mw mo (some (.int r)) k (some (.str q)) (some (.loc A)) lw lj mh ml lf ly lh mq lk lm lx lr
theorem b_9:q6c C (vJ sc mf mo k lw lj lx lr r q A mw lm mh ml lf ly lh mq lk) σ=asg (vJ sc mf mo k lw lj lx lr r q A mw lm mh ml lf ly lh mq lk) 20 (bnd (bnd (bnd (calA C (.bf .list) (some (.loc A,σ))) λ y s=>binR s .Add (.fl [.str q]) y) λ v s=>bnd (if(!goN v)=true then none else q1h v (q9v C) (none::none::vJ sc mf mo k lw lj lx lr r q A mw lm mh ml lf ly lh mq lk,[]) s) λ r s=>some (r.2,s)) λ fr s=>q0j false fr s):=nr (by kernel_rfl)
theorem c_4 {V:Vs} (u:Str) (o0 o1:Option AV) (fr:List AV):q9v C (.str u) (o0::o1::V,fr) σ=bnd (q4c fr (calA C (.fn 187) (some (.str u,σ)))) λ r s=>some ((o0::some (.str u)::V,r),s):=nr (by kernel_rfl)
theorem b_10 (us:List AV):q4j C (vJ sc mf mo k lw lj lx lr r q A mw lm mh (some (.fl us)) lf ly lh mq lk) σ=asg (vJ sc mf mo k lw lj lx lr r q A mw lm mh (some (.fl us)) lf ly lh mq lk) 20 (bnd (calA C (.bf .sorted) (some (.fl q6f,σ))) λ v s=>if(!goN v)=true then none else lc (q1h v (w4i C) (none::none::vJ sc mf mo k lw lj lx lr r q A mw lm mh (some (.fl us)) lf ly lh mq lk,[]) s)):=nr (by kernel_rfl)
theorem c_5 (u:Str) (us:List AV) (o0 o1:Option AV) (fr:List AV):w4i C (.str u) (o0::o1::vJ sc mf mo k lw lj lx lr r q A mw lm mh (some (.fl us)) lf ly lh mq lk,fr) σ=bnd (bnd (andT (cmpT σ .In (.str u) (.fl us)) λ s=>andT (some (!decide (u=xmlS),s)) λ s=>some (true,s)) λ b s=>if b=true then some (true,s)else some (false,s)) λ ok s=>if ok=true then bnd (q4c fr (some (.str u,s))) λ r' s=>some ((o0::some (.str u)::vJ sc mf mo k lw lj lx lr r q A mw lm mh (some (.fl us)) lf ly lh mq lk,r'),s)else some ((o0::some (.str u)::vJ sc mf mo k lw lj lx lr r q A mw lm mh (some (.fl us)) lf ly lh mq lk,fr),s):=nr (by kernel_rfl)
theorem b_11 (us:List AV):q4k C (vJ sc mf mo k lw lj lx lr r q A mw lm mh (some (.fl us)) lf ly lh mq lk) (Bs w nd pa x)=es (vJ sc mf mo k lw lj lx lr r q A mw lm mh (some (.fl us)) lf ly lh mq lk) (cal C (.bi .lExtend (.loc 32)) (lc (q1h (.fl us) (w4j C) (none::none::vJ sc mf mo k lw lj lx lr r q A mw lm mh (some (.fl us)) lf ly lh mq lk,[]) (Bs w nd pa x)))):=nr (by kernel_rfl)
theorem c_6 (u:Str) (o0 o1:Option AV) (fr:List AV):w4j C (.str u) (o0::o1::vJ sc mf mo k lw lj lx lr r q A mw lm mh ml lf ly lh mq lk,fr) σ=bnd (bnd (cmpT σ .NotIn (.str u) (.loc 32)) λ b s=>if b=true then some (true,s)else some (false,s)) λ ok s=>if ok=true then bnd (q4c fr (some (.str u,s))) λ r' s=>some ((o0::some (.str u)::vJ sc mf mo k lw lj lx lr r q A mw lm mh ml lf ly lh mq lk,r'),s)else some ((o0::some (.str u)::vJ sc mf mo k lw lj lx lr r q A mw lm mh ml lf ly lh mq lk,fr),s):=nr (by kernel_rfl)
theorem b_12:q4l C (vJ sc mf mo k lw lj lx lr r q A mw lm mh ml lf ly lh mq lk) σ=asg (vJ sc mf mo k lw lj lx lr r q A mw lm mh ml lf ly lh mq lk) 21 (bnd (bnd (q1h (.loc 32) (q9w C) (none::none::vJ sc mf mo k lw lj lx lr r q A mw lm mh ml lf ly lh mq lk,[]) σ) λ r s=>some (r.2,s)) λ fr s=>q1z true fr s):=nr (by kernel_rfl)
theorem c_7 (u:Str) (o0 o1:Option AV) (fr:List (Str×AV)):q9w C (.str u) (o0::o1::vJ sc mf mo k lw lj lx lr r q A mw lm mh ml lf ly lh mq lk,fr) (Bs w nd pa x)=bnd (bnd (bnd (calA C (.bf .str) (cal C (.bi .lIndex (.loc 32)) (some (.str u,Bs w nd pa x)))) λ y s=>binR s .Add (.str (Str.ofString "n")) y) λ y s=>w5f fr (.str u) y s) λ r' s=>some ((o0::some (.str u)::vJ sc mf mo k lw lj lx lr r q A mw lm mh ml lf ly lh mq lk,r'),s):=nr (by kernel_rfl)
theorem b_13:q4m C (vJ sc mf mo k lw lj lx lr r q A mw lm mh ml (some (.loc B)) ly lh mq lk) σ=bnd (bnd (putS (.loc B) (.str xmlS) (.str (Str.ofString "xml")) (vJ sc mf mo k lw lj lx lr r q A mw lm mh ml (some (.loc B)) ly lh mq lk) σ) λ vs s=>some (vs,s)) λ vs s=>some (.next,vs,s):=nr (by kernel_rfl)
theorem b_14:q4n C (vJ sc mf mo k lw lj lx lr r q A mw lm mh ml lf ly lh mq lk) σ=asg (vJ sc mf mo k lw lj lx lr r q A mw lm mh ml lf ly lh mq lk) 23 (lc (q1h (.loc 33) (w4l C) (none::none::none::none::none::vJ sc mf mo k lw lj lx lr r q A mw lm mh ml lf ly lh mq lk,[]) σ)):=nr (by kernel_rfl)
noncomputable abbrev entV (e:Str×Str×List Str):AV:=.tup [.str e.1,.str e.2.1,.fl (e.2.2.map .str)]
theorem c_9 (e:Str×Str×List Str) {V:Vs} (o0 o1 o2 o3 o4:Option AV) (fr:List AV):w4l C (entV e) (o0::o1::o2::o3::o4::V,fr) σ=q1h (.fl (e.2.2.map .str)) (w4k C) (o0::some (.str e.1)::some (.str e.2.1)::some (.fl (e.2.2.map .str))::o4::V,fr) σ:=nr (by kernel_rfl)
theorem c_8 (u:Str) {V:Vs} (o0 o1 o2 o3 o4:Option AV) (fr:List AV):w4k C (.str u) (o0::o1::o2::o3::o4::V,fr) σ=bnd (q4c fr (some (.str u,σ))) λ r s=>some ((o0::o1::o2::o3::some (.str u)::V,r),s):=nr (by kernel_rfl)
theorem b_15 (us:List AV):q4o C (vJ sc mf mo k lw lj lx lr r q A mw lm mh (some (.fl us)) lf ly lh mq lk) σ=asg (vJ sc mf mo k lw lj lx lr r q A mw lm mh (some (.fl us)) lf ly lh mq lk) 24 (calA C (.bf .sorted) (lc (q1h (.fl us) (q7p C) (none::none::vJ sc mf mo k lw lj lx lr r q A mw lm mh (some (.fl us)) lf ly lh mq lk,[]) σ))):=nr (by kernel_rfl)
theorem c_10 (u:Str) (ab:List AV) (o0 o1:Option AV) (fr:List AV):q7p C (.str u) (o0::o1::vJ sc mf mo k lw lj lx lr r q A mw lm mh ml (some (.loc B)) ly (some (.fl ab)) mq lk,fr) σ=bnd (bnd (cmpT σ .NotIn (.str u) (.fl ab)) λ b s=>if b=true then some (true,s)else some (false,s)) λ ok s=>if ok=true then bnd (q4c fr (bnd (evC (getR s (.loc B) (.str u)) λ s=>evC (some (.str u,s)) λ s=>some ([],s)) λ xs s=>if xs.length<=sizeLine then some (.tup xs,s)else none)) λ r' s=>some ((o0::some (.str u)::vJ sc mf mo k lw lj lx lr r q A mw lm mh ml (some (.loc B)) ly (some (.fl ab)) mq lk,r'),s)else some ((o0::some (.str u)::vJ sc mf mo k lw lj lx lr r q A mw lm mh ml (some (.loc B)) ly (some (.fl ab)) mq lk,fr),s):=nr (by kernel_rfl)
theorem b_16:q4p C (vJ sc mf mo k lw lj lx lr r q A mw lm mh ml (some (.loc B)) ly lh mq lk) σ=asg (vJ sc mf mo k lw lj lx lr r q A mw lm mh ml (some (.loc B)) ly lh mq lk) 22 (bnd (bnd (bnd (C 187 [.str q] [] σ) λ y s=>getR s (.loc B) y) λ y s=>adds y (Str.ofString ":") s) λ y s=>bnd (spl C (.str q) s) λ z s=>binR s .Add y z):=nr (by kernel_rfl)
theorem b_17 (nm:Str) (us:List Str):q4q C (vJ sc mf mo k lw lj lx lr r q A mw lm mh (some (.fl (us.map .str))) lf (some (.str nm)) lh mq lk) (Bs w nd pa x)=es (vJ sc mf mo k lw lj lx lr r q A mw lm mh (some (.fl (us.map .str))) lf (some (.str nm)) lh mq lk) (cal C (.bi .lAppend (.loc 33)) (some (entV (q,nm,us),Bs w nd pa x))):=nr (by kernel_rfl)
theorem b_18:q7b C (vJ sc mf mo k lw lj lx lr r q A mw lm mh ml lf ly lh mq lk) σ=some (.next,vJ sc mf mo k lw lj lx lr r q A mw lm mh ml lf ly lh mq (some (.lit q1c)),σ):=nr (by kernel_rfl)
end
noncomputable def aug (V:Vs) (d:Str) (m:Res):ResS:=bnd m λ y s=>(augA .Add (.str d) y).bind λ z=>some (.next,setI V 11 z,s)
theorem w2d {V:Vs} {d t:Str} {m:Res} {σ:Store} (h:m=some (.str t,σ)) (hz:d.length+t.length<=10000000):aug V d m=some (.next,setI V 11 (.str (d++t)),σ):=by
 rw[h]
 exact stb (show augA .Add (.str d) (.str t)=some (.str (d++t))from by show(catA d t).map AV.str=_;rw[z7n hz];rfl) (λ z=>some (q0b.next,setI V 11 z,σ)) rfl
section
variable (n:Nat) (C:q0a) (w:Who->W) (nd pa:List AV) (x:Store) (sc mf:AV) (mo k lw lj lm mh ml lf ly lh mq lx lr:Option AV) (r:Int) (q:Str) (A B:Nat) {σ:Store} (d:Str) (L:List AV)
theorem b_19 (nm:Str):q4r C (vJ sc mf mo k lw lj lx lr r q A (some (.str d)) lm mh ml lf (some (.str nm)) lh (some (.fl L)) (some (.lit q1c))) σ=aug (vJ sc mf mo k lw lj lx lr r q A (some (.str d)) lm mh ml lf (some (.str nm)) lh (some (.fl L)) (some (.lit q1c))) d (bnd (binR σ .Add (.str lt1) (.str nm)) λ y s=>bnd (cal C (.bi .sJoin (.str (Str.ofString ""))) (lc (q1h (.fl L) (q7q C) (none::none::none::vJ sc mf mo k lw lj lx lr r q A (some (.str d)) lm mh ml lf (some (.str nm)) lh (some (.fl L)) (some (.lit q1c)),[]) s))) λ z s=>binR s .Add y z):=nr (by kernel_rfl)
theorem c_11 (p u:Str) (o0 o1 o2 mw:Option AV) (fr:List AV):q7q C (q0c (p,u)) (o0::o1::o2::vJ sc mf mo k lw lj lx lr r q A mw lm mh ml lf ly lh mq (some (.lit q1c)),fr) σ=bnd (q4c fr (bnd (bnd (bnd (binR σ .Add (.str (Str.ofString " xmlns:")) (.str p)) λ y s=>adds y (Str.ofString "=\"") s) λ y s=>bnd (k5r (.str u) (some bad) (some q1c) s) λ z s=>binR s .Add y z) λ y s=>adds y (Str.ofString "\"") s)) λ r' s=>some ((o0::some (.str p)::some (.str u)::vJ sc mf mo k lw lj lx lr r q A mw lm mh ml lf ly lh mq (some (.lit q1c)),r'),s):=nr (by kernel_rfl)
theorem v0l:q4s C (vJ sc mf mo k lw lj lx lr r q A (some (.str d)) lm mh ml lf ly lh mq (some (.lit q1c))) σ=bnd (calA C (.bf .sorted) (some (.loc A,σ))) λ v s=>if frozen v=true then(q2g s v).bind λ xs=>forA (q5j C) xs (vJ sc mf mo k lw lj lx lr r q A (some (.str d)) lm mh ml lf ly lh mq (some (.lit q1c))) s else none:=nr (by kernel_rfl)
theorem v0n (ky:Str):q5j C (.str ky) (vJ sc mf mo k lw lj lx lr r q A (some (.str d)) lm mh ml (some (.loc B)) ly lh mq (some (.lit q1c))) σ=sq (asg (vJ sc mf mo k lw lj lx lr r q A (some (.str d)) lm (some (.str ky)) ml (some (.loc B)) ly lh mq (some (.lit q1c))) 26 (bnd (isB (.str ky) σ) λ c s=>if c=true then bnd (bnd (C 187 [.str ky] [] s) λ y s=>getR s (.loc B) y) λ y s=>adds y (Str.ofString ":") s else some (.str (Str.ofString ""),s))) λ v s=>sq (q7g C v s) λ v s=>some (.next,v,s):=nr (by kernel_rfl)
theorem j6j (ky p:Str):q7g C (vJ sc mf mo k lw lj lx lr r q A (some (.str d)) (some (.str p)) (some (.str ky)) ml (some (.loc B)) ly lh mq (some (.lit q1c))) σ=aug (vJ sc mf mo k lw lj lx lr r q A (some (.str d)) (some (.str p)) (some (.str ky)) ml (some (.loc B)) ly lh mq (some (.lit q1c))) d (bnd (bnd (bnd (bnd (binR σ .Add (.str (Str.ofString " ")) (.str p)) λ y s=>bnd (spl C (.str ky) s) λ z s=>binR s .Add y z) λ y s=>adds y (Str.ofString "=\"") s) λ y s=>bnd (bnd (getR s (.loc A) (.str ky)) λ z s=>k5r z (some bad) (some q1c) s) λ z s=>binR s .Add y z) λ y s=>adds y (Str.ofString "\"") s):=nr (by kernel_rfl)
theorem v0m:q4t C (vJ sc mf mo k lw lj lx lr r q A (some (.str d)) lm mh ml lf ly lh mq (some (.lit q1c))) σ=aug (vJ sc mf mo k lw lj lx lr r q A (some (.str d)) lm mh ml lf ly lh mq (some (.lit q1c))) d (some (.str gt1,σ)):=nr (by kernel_rfl)
end
section
variable (n:Nat) (C:q0a) (w:Who->W) (nd pa:List AV) (x:Store) (sc mf:AV) (mw mo re k mr mx lw lj mh ml lf ly lh mq lk lm lx lr:Option AV) (d q nm tx:Str) (r m:Int) {σ:Store}
noncomputable abbrev vE' (mr ml ly:Option AV) (mw:Option AV) (lx lr:Option AV):Vs:=vM sc mf mw mo re k mr mx lw lj mh ml lf ly lh mq lk lm lx lr
theorem m_0 (e:Str×Str×List Str) (P:List AV):q8i C (vE' sc mf mo re k mx lw lj mh lf lh mq lk lm mr ml ly mw lx lr) (Bs w nd (P++[entV e]) x)=bnd ((popA (P++[entV e])).map λ p=>(p.2,Bs w nd p.1 x)) λ y s=>bnd (bnd ((q1n s y).bind λ xs=>(asC xs λ y r'=>bnd (some (setI (vE' sc mf mo re k mx lw lj mh lf lh mq lk lm mr ml ly mw lx lr) 15 y,s)) λ vs s=>(asC r' λ y r'=>bnd (some (setI vs 22 y,s)) λ vs s=>(asC r' λ y r'=>bnd (some (setI vs 20 y,s)) λ vs s=>(asE r' vs s))))) λ vs s=>some (vs,s)) λ vs s=>some (.next,vs,s):=nr (by kernel_rfl)
theorem j8h (e:Str×Str×List Str) (P:List AV):q8i C (vE' sc mf mo re k mx lw lj mh lf lh mq lk lm mr ml ly mw lx lr) (Bs w nd (P++[entV e]) x)=some (.next,vE' sc mf mo re k mx lw lj mh lf lh mq lk lm (some (.str e.1)) (some (.fl (e.2.2.map .str))) (some (.str e.2.1)) mw lx lr,Bs w nd P x):=by
 simp only[m_0,w1u]
 exact nr (by kernel_rfl)
theorem m_1:w4a C (vE' sc mf mo re k mx lw lj mh lf lh mq lk lm (some (.str q)) ml ly mw lx lr) (Bs w nd pa x)=es (vE' sc mf mo re k mx lw lj mh lf lh mq lk lm (some (.str q)) ml ly mw lx lr) (C 133 [.obj 3,.str q] [] (Bs w nd pa x)):=nr (by kernel_rfl)
theorem m_2:w4b C (vE' sc mf mo re k mx lw lj mh lf lh mq lk lm (some (.str q)) ml ly mw lx lr) (Bs w nd pa x)=es (vE' sc mf mo re k mx lw lj mh lf lh mq lk lm (some (.str q)) ml ly mw lx lr) (C 133 [.obj 24,.str q] [] (Bs w nd pa x)):=nr (by kernel_rfl)
theorem m_3:w4c C (vE' sc mf mo re k mx lw lj mh lf lh mq lk lm mr ml (some (.str nm)) (some (.str d)) lx lr) σ=aug (vE' sc mf mo re k mx lw lj mh lf lh mq lk lm mr ml (some (.str nm)) (some (.str d)) lx lr) d (bnd (binR σ .Add (.str (Str.ofString "</")) (.str nm)) λ y s=>adds y gt1 s):=nr (by kernel_rfl)
theorem t_0:w4e C (vM sc mf mw mo (some (.int r)) k mr mx lw lj mh ml lf ly lh mq lk lm lx lr) σ=asg (vM sc mf mw mo (some (.int r)) k mr mx lw lj mh ml lf ly lh mq lk lm lx lr) 27 (bnd (calA C (.bf .chr) (some (.int (97+r.fmod 26),σ))) λ y s=>binR s .Add (.str lt1) y):=nr (by kernel_rfl)
theorem t_1:w4f C (vE' sc mf mo re k mx lw lj mh lf lh mq lk lm mr ml ly mw (some (.str tx)) lr) (Bs w nd pa x)=es (vE' sc mf mo re k mx lw lj mh lf lh mq lk lm mr ml ly mw (some (.str tx)) lr) (C 97 [.obj 3,.str tx] [] (Bs w nd pa x)):=nr (by kernel_rfl)
theorem v2j (sg:Str):q7r C (.str sg) (vE' sc mf mo re k mx lw lj mh lf lh mq lk lm mr ml ly mw lx lr) (Bs w nd pa x)=sq (es (vE' sc mf mo re k mx lw lj mh lf lh mq lk lm mr ml ly mw lx (some (.str sg))) (C 97 [.obj 24,.str sg] [] (Bs w nd pa x))) λ v s=>some (.next,v,s):=nr (by kernel_rfl)
theorem t_2 (c:Nat):w4g C (vE' sc mf mo re k mx lw lj mh lf lh mq lk lm mr ml ly mw (some (.str (⟨#[60,c]⟩:Str))) lr) σ=forA (q7r C) [.str lt1,.str (q1y c)] (vE' sc mf mo re k mx lw lj mh lf lh mq lk lm mr ml ly mw (some (.str (⟨#[60,c]⟩:Str))) lr) σ:=nr (by kernel_rfl)
theorem t_3 (c:Nat):w4h C (vE' sc mf mo re k mx lw lj mh lf lh mq lk lm mr ml ly (some (.str d)) (some (.str (⟨#[60,c]⟩:Str))) lr) σ=aug (vE' sc mf mo re k mx lw lj mh lf lh mq lk lm mr ml ly (some (.str d)) (some (.str (⟨#[60,c]⟩:Str))) lr) d (binR σ .Add (.str (Str.ofString "&lt;")) (.str (q1y c))):=nr (by kernel_rfl)
theorem v_0 (a b:Int):q2r C (mv (a,b)) (vM sc mf mw mo re k mr mx lw lj mh ml lf ly lh mq lk lm lx lr) (Bs w nd pa x)=sq (iff (some (decide (a<2),Bs w nd pa x)) (q9t C (vM sc mf mw (some (.int a)) (some (.int b)) k mr mx lw lj mh ml lf ly lh mq lk lm lx lr)) (w3y C (vM sc mf mw (some (.int a)) (some (.int b)) k mr mx lw lj mh ml lf ly lh mq lk lm lx lr))) λ v s=>some (.next,v,s):=nr (by kernel_rfl)
theorem v_1 (a:Int):w3y C (vM sc mf mw (some (.int a)) re k mr mx lw lj mh ml lf ly lh mq lk lm lx lr) (Bs w nd pa x)=sq (iff (orT (some (decide (a=4),Bs w nd pa x)) λ s=>orT (andT (some (decide (a=2),s)) λ s=>andT (bnd (calA C (.bf .len) (some (.loc 33,s))) λ y s=>cmpT s .Gt y (.int 1)) λ s=>some (true,s)) λ s=>some (false,s)) (w3z C (vM sc mf mw (some (.int a)) re k mr mx lw lj mh ml lf ly lh mq lk lm lx lr)) (w4d C (vM sc mf mw (some (.int a)) re k mr mx lw lj mh ml lf ly lh mq lk lm lx lr))) λ v s=>some (.next,v,s):=nr (by kernel_rfl)
theorem s_12 (L:List AV):q6d C (vM sc (.fl L) mw mo re k mr mx lw lj mh ml lf ly lh mq lk lm lx lr) σ=forA (q2r C) L (vM sc (.fl L) mw mo re k mr mx lw lj mh ml lf ly lh mq lk lm lx lr) σ:=nr (by kernel_rfl)
theorem s_13:q4a C (vM sc mf (some (.str d)) mo re k mr mx lw lj mh ml lf ly lh mq lk lm lx lr) σ=bnd (andE (bnd (cal C (.bi .sJoin (.str (Str.ofString ""))) (some (.loc 1,σ))) λ y s=>cmpR s .Eq y (.str d)) λ s=>bnd (cal C (.bi .sJoin (.str (Str.ofString ""))) (some (.loc 2,s))) λ y s=>cmpR s .Eq y (.str d)) λ v s=>some (.ret v,vM sc mf (some (.str d)) mo re k mr mx lw lj mh ml lf ly lh mq lk lm lx lr,s):=nr (by kernel_rfl)
end
noncomputable def Uo (s:Str):Str:=kU ((R28.map kS).idxOf s)
noncomputable def Lo (s:Str):Str:=kL ((R28.map kS).idxOf s)
theorem j7w {k:Nat} (hk:k<28):(R28.map kS).idxOf (kS k)=k:=by
 have h1:kS k∈R28.map kS:=List.mem_map_of_mem (List.mem_range.mpr hk)
 have h2:=w7n h1
 have h3:(R28.map kS)[(R28.map kS).idxOf (kS k)]? = some (kS k):=by rw[List.getElem?_eq_getElem h2,List.getElem_idxOf]
 have h4:(R28.map kS)[k]? = some (kS k):=by rw[List.getElem?_map,List.getElem?_range hk];rfl
 exact(List.getElem?_inj h2 j7z).mp (h3.trans h4.symm)
theorem Uo_k {k:Nat} (hk:k<28):Uo (kS k)=kU k:=by rw[Uo,j7w hk]
theorem Lo_k {k:Nat} (hk:k<28):Lo (kS k)=kL k:=by rw[Lo,j7w hk]
noncomputable def IsK (s:Str):Prop:=∃k,k<28/\s=kS k
noncomputable def w1m (q:Str) (kvs:List (Str×Str)):List Str:=(q::kvs.map (·.1)).map Uo
noncomputable def SU:List Str:=SUk.map uS
noncomputable def ml (q:Str) (kvs:List (Str×Str)):List Str:=SU.filter λ u=>(w1m q kvs).contains u&&!decide (u=xmlS)
theorem z5m {β:Type} (p:β->Bool) (g:β->AV):∀L:List β,(L.flatMap λ u=>if p u=true then[g u]else[])=(L.filter p).map g
 | []=>rfl
 | u::L=>by
  rw[List.flatMap_cons,z5m p g L]
  by_cases h:p u=true
  ·rw[if_pos h,List.filter_cons_of_pos h];rfl
  ·rw[if_neg h,List.filter_cons_of_neg h];rfl
theorem v0w (σ:Store) (us:List Str) (u:Str):cmpT σ .In (.str u) (.fl (us.map .str))=some (us.contains u,σ):=by
 show(((q1f (us.map AV.str)).map (·.contains u)).orElse _).bind _=_
 rw[q1u];rfl
theorem j8q (σ:Store) (us:List Str) (u:Str):cmpT σ .NotIn (.str u) (.fl (us.map .str))=some (!us.contains u,σ):=by
 show((((q1f (us.map AV.str)).map (·.contains u)).orElse _).map (!·)).bind _=_
 rw[q1u];rfl
theorem j4s {σ:Store} {l:Nat} {us:List Str} (h:q0r σ (.loc l)=some (us.map .str)) (u:Str):cmpT σ .NotIn (.str u) (.loc l)=some (!us.contains u,σ):=by
 show((((q0r σ (.loc l)).bind λ ys=>(q1f ys).map (·.contains u)).orElse _).map (!·)).bind _=_
 rw[h]
 show((((q1f (us.map AV.str)).map (·.contains u)).orElse _).map (!·)).bind _=_
 rw[q1u];rfl
noncomputable abbrev own2 (V:Vs) (vs:Vs):Prop:=∃a b,vs=a::b::V
section
variable {C:q0a} {σ:Store} {V:Vs} {f:AV->Vs×List AV->Store->Option ((Vs×List AV)×Store)}
theorem w8y {v:AV} {us:List Str} {p:Str->Bool} {g:Str->AV} (hv:q0r σ v=some (us.map .str)) (hz:us.length<10000)
  (hf:∀u fr o0 o1,u∈us->fr.length<10000->f (.str u) (o0::o1::V,fr) σ=some ((o0::some (.str u)::V,if p u=true then fr++[g u]else fr),σ)):Got (own2 V) (q1h v f (none::none::V,[]) σ) ((us.filter p).map g) σ:=by
 have e:us.foldl (app λ u=>if p u=true then[g u]else[]) []=(us.filter p).map g:=by simp only[q1d,z5m,List.nil_append]
 rw[<-e]
 refine w5i (e:=AV.str) hv (λ my u fm vs ex h=>?_) ⟨_,_,rfl⟩
 obtain⟨o0,o1,rfl⟩:=h
 refine⟨_,⟨o0,some (.str u),rfl⟩,(hf u _ o0 o1 (by rw[ex];simp) ?_).trans ?_⟩
 ·simp only[q1d,z5m,List.nil_append,List.length_map]
  exact jB (List.length_filter_le ..) (jB (by rw[ex,List.length_append];exact jG ..) hz)
 ·show some ((_,if p u=true then _ else _),σ)=some ((_,_++if p u=true then _ else _),σ)
  by_cases h:p u=true
  ·rw[if_pos h,if_pos h]
  ·rw[if_neg h,if_neg h,List.append_nil]
end
section
variable (n:Nat) (C:q0a) (w:Who->W) (nd pa:List AV) (x:Store) (sc mf:AV) (mo k lw lj mj lf ly lh mq lk lm lx lr mw:Option AV) (r:Int) (q:Str) (A B:Nat) {σ:Store} {kvs:List (Str×Str)}
theorem j6q (hq:IsK q) (hk:∀kv∈kvs,IsK kv.1) (h3:kvs.length<=3) (hd:q0k σ (.loc A)=some (kvs.map q0p)) (us:Option AV) :
  q6c (q0e T (n+1)) (vJ sc mf mo k lw lj lx lr r q A mw lm mj us lf ly lh mq lk) σ=some (.next,vJ sc mf mo k lw lj lx lr r q A mw lm mj (some (.fl ((w1m q kvs).map .str))) lf ly lh mq lk,σ):=by
 have hl:biA .list [.loc A] σ=some (.fl ((kvs.map (·.1)).map .str),σ):=by
  show((q0k σ (.loc A)).bind λ kvs=>some (AV.fl (kvs.map λ kv=>.str kv.1),σ))=_
  rw[hd,List.map_map]
  show some (AV.fl ((kvs.map q0p).map _),σ)=_
  rw[List.map_map];rfl
 have g:=w8y (σ:=σ) (V:=vJ sc mf mo k lw lj lx lr r q A mw lm mj us lf ly lh mq lk) (f:=q9v (q0e T (n+1))) (v:=.fl ((q::kvs.map (·.1)).map .str)) (us:=q::kvs.map (·.1)) (p:=λ _=>true) (g:=λ u=>.str (Uo u)) rfl (by simp only[List.length_cons,List.length_map];decreasing_trivial) λ u fr o0 o1 hu hz=>by
  have:IsK u:=by
   rcases List.mem_cons.mp hu with rfl|hu
   ·exact hq
   ·obtain⟨kv,h,rfl⟩:=List.mem_map.mp hu;exact hk kv h
  obtain⟨i,hi,rfl⟩:=this
  rw[c_4,Uo_k hi]
  exact stk (em_n (z9g n σ hi) (Nat.lt_trans hz (by decide))) _ rfl
 obtain⟨V',_,e⟩:=g
 have e0:(q::kvs.map (·.1)).filter (λ _=>true)=q::kvs.map (·.1):=List.filter_eq_self.mpr λ _ _=>rfl
 rw[e0,show(q::kvs.map (·.1)).map (λ u=>AV.str (Uo u))=(w1m q kvs).map .str by rw[w1m,List.map_map];rfl]at e
 rw[b_9,q5l rfl hl,q0d,z7h (by simp only[List.length_singleton,List.length_map,List.length_map];exact jA (Nat.add_le_add_left ‹_› _) (by decide)),q0d]
 rw[show(!goN (.fl ([AV.str q]++(kvs.map (·.1)).map .str)))=false from rfl,if_neg Bool.false_ne_true,show[AV.str q]++(kvs.map (·.1)).map .str=(q::kvs.map (·.1)).map .str from rfl,e]
 rfl
end
theorem z6y (C:q0a) (σ:Store):calA C (.bf .sorted) (some (.fl q6f,σ))=some (.fl (SU.map .str),σ):=by
 have e:calA C (.bf .sorted) (some (.fl q6f,σ))=some (.fl ((q5k j0e).map .str),σ):=nr (by kernel_rfl)
 rw[e,j1z];rfl
theorem w8z {g:Str->AV}:∀(us my:List Str),(my++us).Nodup->us.foldl (λ fr u=>q1a u (g u) fr) (my.map λ u=>(u,g u))=(my++us).map λ u=>(u,g u)
 | [],my,_=>by rw[List.append_nil];rfl
 | u::us,my,h=>by
  have h2:=(List.nodup_append.mp h).2.2
  have e:q1a u (g u) (my.map λ u=>(u,g u))=(my++[u]).map λ u=>(u,g u):=by
   unfold q1a
   rw[if_neg λ q=>?_,List.map_append];rfl
   obtain⟨kv,hm,e⟩:=List.any_eq_true.mp q
   obtain⟨v,hv,rfl⟩:=List.mem_map.mp hm
   exact h2 v hv u (jL ..) (of_decide_eq_true e)
  simp only[List.foldl_cons,e,w8z us (my++[u]) (by rw[List.append_assoc];exact h),List.append_assoc];rfl
theorem z7z {g:Str->AV} (u:Str):∀M:List Str,u∈M->q0t u (M.map λ u=>(u,g u))=some (g u)
 | a::M,h=>by
  show(if a=u then some (g a)else q0t u (M.map λ u=>(u,g u)))=_
  by_cases e:a=u
  ·rw[if_pos e,e]
  ·rw[if_neg e];exact z7z u M ((List.mem_cons.mp h).resolve_left λ q=>e q.symm)
theorem z1s (u k:Str) (v:AV):∀M:List (Str×AV),q0t u (M++[(k,v)])=(q0t u M).or (if k=u then some v else none)
 | []=>rfl
 | (a,w)::M=>by
  show(if a=u then some w else q0t u (M++[(k,v)]))=(if a=u then some w else q0t u M).or _
  by_cases e:a=u
  ·rw[if_pos e,if_pos e];rfl
  ·rw[if_neg e,if_neg e];exact z1s u k v M
section
variable {C:q0a} {σ:Store} {V:Vs} {f:AV->Vs×List (Str×AV)->Store->Option ((Vs×List (Str×AV))×Store)}
theorem k2q {v:AV} {us:List Str} {g:Str->AV} (hv:q0r σ v=some (us.map .str)) (hn:us.Nodup) (hz:us.length<10000)
  (hf:∀u fr o0 o1,u∈us->fr.length<10000->f (.str u) (o0::o1::V,fr) σ=some ((o0::some (.str u)::V,q1a u (g u) fr),σ)):Got (own2 V) (q1h v f (none::none::V,[]) σ) (us.map λ u=>(u,g u)) σ:=by
 have e:=w8z (g:=g) us [] hn
 refine(show us.foldl (λ fr u=>q1a u (g u) fr) []=us.map λ u=>(u,g u)from e)▸w5i (e:=AV.str) hv (λ my u fm vs ex h=>?_) ⟨_,_,rfl⟩
 obtain⟨o0,o1,rfl⟩:=h
 refine⟨_,⟨o0,some (.str u),rfl⟩,hf u _ o0 o1 (by rw[ex];simp) ?_⟩
 have e2:=w8z (g:=g) my [] (by rw[ex]at hn;exact(List.nodup_append.mp hn).1)
 rw[show my.foldl (λ fr u=>q1a u (g u) fr) []=my.map λ u=>(u,g u)from e2,List.length_map]
 rw[ex,List.length_append]at hz
 exact jB (jG ..) hz
end
noncomputable def ndS (nd us:List Str):List Str:=nd++us.filter λ u=>!nd.contains u
section
variable (n:Nat) (C:q0a) (w:Who->W) (pa:List AV) (x:Store) (sc mf:AV) (mo k lw lj mj mm lf ly lh mq lk lm lx lr mw:Option AV) (r:Int) (q:Str) (A B:Nat) {σ:Store} (nd us:List Str)
set_option tactic.hygienic true in theorem j2l:q4j C (vJ sc mf mo k lw lj lx lr r q A mw lm mj (some (.fl (us.map .str))) lf ly lh mq lk) σ=some (.next,vJ sc mf mo k lw lj lx lr r q A mw lm mj (some (.fl ((SU.filter λ u=>us.contains u&&!decide (u=xmlS)).map .str))) lf ly lh mq lk,σ):=by
 simp only[b_10,z6y,q0d]
 refine q7t (k4a (P:=own2 _) (w8y (us:=SU) (p:=λ u=>us.contains u&&!decide (u=xmlS)) rfl (by decide) λ u fr o0 o1 hu hz=>?_))
 rw[c_5,v0w]
 cases us.contains u with
 | false=>rfl
 | true=>
  rw[k7f]
  cases decide (u=xmlS)with
  | true=>rfl
  | false=>
   rw[show(!false)=true from rfl,k7f,q0d,if_pos rfl,q0d,if_pos rfl,em_n rfl (Nat.lt_trans hz (by decide)),q0d];rfl
theorem j2m (hz:nd.length<=200) (hu:us.length<=14):q4k C (vJ sc mf mo k lw lj lx lr r q A mw lm mj (some (.fl (us.map .str))) lf ly lh mq lk) (Bs w (nd.map .str) pa x)=some (.next,vJ sc mf mo k lw lj lx lr r q A mw lm mj (some (.fl (us.map .str))) lf ly lh mq lk,Bs w ((ndS nd us).map .str) pa x):=by
 have e:∀ys:List AV,biA .lExtend [.loc 32,.fl ys] (Bs w (nd.map .str) pa x)=if(nd.map AV.str).length+ys.length<=sizeLine then some (.none,Bs w (nd.map .str++ys) pa x)else none:=λ ys=>nr (by kernel_rfl)
 simp only[b_11]
 refine es_n (v:=.none) (q3o (v:=.fl ((us.filter λ u=>!nd.contains u).map .str)) (k4a (P:=own2 _) (w8y (us:=us) (p:=λ u=>!nd.contains u) (g:=.str) rfl (jB hu (by decide)) λ u fr o0 o1 hu hz=>?_)) ((e _).trans ((if_pos ?_).trans ?_)))
 ·rw[c_6,j4s (us:=nd) rfl]
  cases nd.contains u with
  | true=>rfl
  | false=>
   rw[show(!false)=true from rfl,q0d,if_pos rfl,q0d,if_pos rfl,em_n rfl (Nat.lt_trans hz (by decide)),q0d];rfl
 ·simp only[List.length_map,List.length_map,sizeLine_eq]
  exact jA (jH hz (jA (List.length_filter_le ..) hu)) (by decide)
 ·simp only[ndS,List.map_append]
noncomputable def nmD (nd:List Str):List (Str×AV):=nd.map λ u=>(u,.str (nP (nd.idxOf u)))
theorem j2n (hn:nd.Nodup) (hz:nd.length<=200):q4l C (vJ sc mf mo k lw lj lx lr r q A mw lm mj mm lf ly lh mq lk) (Bs w (nd.map .str) pa x)=some (.next,vJ sc mf mo k lw lj lx lr r q A mw lm mj mm (some (.loc (x.length+34))) ly lh mq lk,Bs w (nd.map .str) pa (x++[.dict (nmD nd)])):=by
 rw[b_12]
 obtain⟨V',_,e⟩:=k2q (σ:=Bs w (nd.map .str) pa x) (V:=vJ sc mf mo k lw lj lx lr r q A mw lm mj mm lf ly lh mq lk) (f:=q9w C) (v:=.loc 32) (us:=nd) (g:=λ u=>.str (nP (nd.idxOf u))) rfl hn (jB hz (by decide)) λ u fr o0 o1 hu hz=>by
  have e1:biA .lIndex [.loc 32,.str u] (Bs w (nd.map .str) pa x)=some (.int (nd.idxOf u:Nat),Bs w (nd.map .str) pa x):=by
   show((q1f (nd.map AV.str)).bind λ ts=>if ts.contains u then some (AV.int (ts.idxOf u:Nat),Bs w (nd.map .str) pa x)else none)=_
   rw[q1u]
   exact if_pos (List.contains_iff_mem.mpr hu)
  have hi:nd.idxOf u<1000:=jC (w7n hu) (jA ‹nd.length<=200› (by decide))
  have e2:calA C (.bf .str) (cal C (.bi .lIndex (.loc 32)) (some (.str u,Bs w (nd.map .str) pa x)))=some (.str (q1e (nd.idxOf u:Nat)),Bs w (nd.map .str) pa x):=q5l (q3o rfl e1) (show(if _ then _ else _)=_ from if_pos (by rw[Int.natAbs_natCast];exact Nat.lt_trans hi (by decide)))
  have e3:=z7c (σ:=Bs w (nd.map .str) pa x) hi (a:=Str.ofString "n") (by decide)
  unfold strI at e3
  rw[if_pos (by rw[Int.natAbs_natCast];exact Nat.lt_trans hi (by decide)),q0d]at e3
  simp only[c_7,e2,q0d,e3,q0d]
  have e4:∀v,w5f fr (.str u) v (Bs w (nd.map .str) pa x)=some (q1a u v fr,Bs w (nd.map .str) pa x):=λ v=>if_pos (Nat.lt_trans hz (by decide))
  exact stk (e4 _) _ rfl
 rw[e]
 exact q7t rfl
theorem j2o (hx:xmlS∉nd) (hz:nd.length<=200) (fq:List AV):q4m C (vJ sc mf mo k lw lj lx lr r q A mw lm mj mm (some (.loc (x.length+34))) ly lh mq lk) (Bs w fq pa (x++[.dict (nmD nd)]))=some (.next,vJ sc mf mo k lw lj lx lr r q A mw lm mj mm (some (.loc (x.length+34))) ly lh mq lk,Bs w fq pa (x++[.dict (nmD nd++[(xmlS,.str (Str.ofString "xml"))])])):=by
 have hd:w0c (Bs w fq pa (x++[AObj.dict (nmD nd)])) (x.length+34)=some (nmD nd):=by
  show(match (x++[AObj.dict (nmD nd)])[x.length]? with|some (.dict kvs)=>some kvs|_=>none)=_
  rw[List.getElem?_concat_length]
 have hs:∀o,(Bs w fq pa (x++[AObj.dict (nmD nd)])).set (x.length+34) o=Bs w fq pa (x++[o]):=λ o=>(nr rfl:(Bs w fq pa (x++[AObj.dict (nmD nd)])).set (x.length+34) o=Bs w fq pa ((x++[AObj.dict (nmD nd)]).set x.length o)).trans (by simp)
 have hk:q1a xmlS (.str (Str.ofString "xml")) (nmD nd)=nmD nd++[(xmlS,.str (Str.ofString "xml"))]:=by
  unfold q1a
  rw[if_neg λ q=>?_]
  obtain⟨kv,hm,e⟩:=List.any_eq_true.mp q
  obtain⟨v,hv,rfl⟩:=List.mem_map.mp hm
  exact hx (of_decide_eq_true e▸hv)
 rw[b_13]
 refine(stk (stk (v:=vJ sc mf mo k lw lj lx lr r q A mw lm mj mm (some (.loc (x.length+34))) ly lh mq lk) ?_ (λ vs s=>some (vs,s)) rfl) (λ vs s=>some (q0b.next,vs,s)) rfl)
 refine stb hd (λ kvs'=>if kvs'.length<sizeLine then some (_,(Bs w fq pa (x++[AObj.dict (nmD nd)])).set (x.length+34) (.dict (q1a xmlS (.str (Str.ofString "xml")) kvs')))else none) rfl |>.trans ?_
 rw[if_pos (few (by rw[nmD,List.length_map];exact jB hz (by decide))),hs,hk]
end
theorem v1h (w:Who->W) (fq pa:List AV) {x:Store} {j:Nat} {nd:List Str} (h:x[j]? = some (.dict (nmD nd++[(xmlS,.str (Str.ofString "xml"))]))) {u:Str} (hu:u=xmlS\/u∈nd) (hx:xmlS∉nd):getR (Bs w fq pa x) (.loc (j+34)) (.str u)=some (.str (px nd u),Bs w fq pa x):=by
 have e:q0t u (nmD nd++[(xmlS,.str (Str.ofString "xml"))])=some (.str (px nd u)):=by
  simp only[z1s,px]
  by_cases q:u=xmlS
  ·rw[if_pos q,q,if_pos rfl]
   have:q0t xmlS (nmD nd)=none:=by
    have h:=w2p xmlS (nmD nd)
    cases e:q0t xmlS (nmD nd)with
    | none=>rfl
    | some v=>
     rw[e,nmD,List.map_map]at h
     exact absurd (List.contains_iff_mem.mp h) (by rw[show(Prod.fst ∘ λ u=>(u,AV.str (nP (nd.idxOf u))))=id from rfl,List.map_id];exact hx)
   rw[this];rfl
  ·rw[if_neg q,nmD,z7z u nd (hu.resolve_left q)];rfl
 have ed:w0c (Bs w fq pa x) (j+34)=some (nmD nd++[(xmlS,.str (Str.ofString "xml"))]):=by
  show(match x[j]? with|some (.dict kvs)=>some kvs|_=>none)=_
  rw[h]
 show((w0c (Bs w fq pa x) (j+34)).bind λ kvs=>q0t u kvs).bind _=_
 rw[ed]
 show(q0t u _).bind _=_
 rw[e];rfl
theorem addB {x y:Str} {m k:Nat} {σ:Store} (hx:x.length<=m) (hy:y.length<=k) (h:m+k<=10000000):binR σ .Add (.str x) (.str y)=some (.str (x++y),σ):=add_str (jA (jH hx hy) h)
theorem l_lt:lt1.length<=1:=jD 1
theorem l_ns:(Str.ofString " xmlns:").length<=7:=jD 7
theorem w0t (i:Nat):(kL i).length<=1:=by unfold kL lS;split<;>exact jD _
theorem k5s:(∀u<14,(rp (uS u)).length<=100)/\∀j<3,(rp (vS' j)).length<=100:=by decide +kernel
theorem k1d (C:q0a) {σ:Store} (L:List (Str×Str)) (h:L.length<5):calA C (.bf .sorted) (some (.fl (L.map q0c),σ))=some (.fl ((q0u L).map q0c),σ):=by
 refine q5l rfl ?_
 cases L with
 | nil=>rw[show q0u []=[] by unfold q0u;simp];exact(nr (by kernel_rfl):biA .sorted [.fl []] σ=some (.fl ((q5k []).map .str),σ)).trans (by rw[show q5k []=[] by unfold q5k;kernel_rfl];rfl)
 | cons p L=>
  have e:biA .sorted [.fl ((p::L).map q0c)] σ=(w9r ((p::L).map q0c)).bind λ ps=>if ps.length<5 then some (.fl ((q0u ps).map q0c),σ)else none:=nr (by kernel_rfl)
  simp only[e,q9g]
  exact if_pos h
noncomputable abbrev own5 (V vs:Vs):Prop:=∃a b c d e,vs=a::b::c::d::e::V
noncomputable def abv (ps:List (Str×Str×List Str)):List Str:=ps.flatMap (·.2.2)
theorem w7t (ts:List Str):lst (jn ts)=(ts.map lst).flatten:=k8r ts
theorem z8h (ts:List Str):(jn ts).length=(ts.map (·.length)).sum:=by
 rw[<-q2q,w7t,List.length_flatten,List.map_map]
 exact congrArg List.sum (List.map_congr_left λ t _=>q2q t)
noncomputable def nsS (p:Str×Str):Str:=Str.ofString " xmlns:"++p.1++Str.ofString "=\""++rp p.2++Str.ofString "\""
theorem j1k {u:Str} {σ:Store} (h:u.length<=40):k5r (.str u) (some bad) (some q1c) σ=some (.str (rp u),σ):=if_pos ⟨by decide,by
 rw[sizeLine_eq,show q1c.length=21 from rfl];exact jA (jH h (Nat.mul_le_mul_right 21 (Nat.succ_le_succ h))) (by decide)⟩
section
variable (n:Nat) (C:q0a) (w:Who->W) (pa:List AV) (x:Store) (sc mf:AV) (mo k lw lj mj mm lf ly lh mq lk lm lx lr mw:Option AV) (r:Int) (q:Str) (A B:Nat) {σ:Store} (nd us:List Str)
theorem j2p (ps:List (Str×Str×List Str)) (fq:List AV) (hz:(abv ps).length<=1000):q4n C (vJ sc mf mo k lw lj lx lr r q A mw lm mj mm lf ly lh mq lk) (Bs w fq (ps.map entV) x)=some (.next,vJ sc mf mo k lw lj lx lr r q A mw lm mj mm lf ly (some (.fl ((abv ps).map .str))) mq lk,Bs w fq (ps.map entV) x):=by
 rw[b_14]
 have e0:ps.foldl (app λ e=>e.2.2.map .str) []=(abv ps).map .str:=by simp only[q1d,List.nil_append,abv,List.map_flatMap]
 rw[<-e0]
 refine q7t (k4a (P:=own5 _) (w5i (e:=entV) (ps:=ps) rfl (λ my e fm vs ex h=>?_) ⟨_,_,_,_,_,rfl⟩))
 obtain⟨o0,o1,o2,o3,o4,rfl⟩:=h
 rw[c_9]
 have hp:=z8v (g:=λ e=>e.2.2.map AV.str) ex (n:=1000) (by rw[<-List.map_flatMap,List.length_map];exact hz)
 rw[q1d,List.nil_append]
 generalize my.flatMap (λ e=>e.2.2.map AV.str)=fr at hp
 show Got _ _ (fr++e.2.2.map AV.str) _
 have e1:=q1d (λ u=>[AV.str u]) e.2.2 fr
 rw[q2f]at e1
 rw[<-e1]
 refine w5i (e:=AV.str) (ps:=e.2.2) rfl (λ my u fm vs ex h=>?_) ⟨_,_,_,_,_,rfl⟩
 obtain⟨o0,o1,o2,o3,o4,rfl⟩:=h
 refine⟨_,⟨o0,o1,o2,o3,some (.str u),rfl⟩,?_⟩
 have hq:=z8v (g:=λ u=>[AV.str u]) ex (n:=(e.2.2.map AV.str).length) (by rw[q2f];exact jD _)
 rw[c_8,em_n rfl (by rw[q1d,List.length_append];exact jB (jA (Nat.add_le_add_left (jA (jG ..) hq) _) hp) (by decide)),q0d]
 rfl
set_option tactic.hygienic true in theorem j2q (ab:List Str) (hz:us.length<10000) (h5:(us.filter λ u=>!ab.contains u).length<5) (hN:∀u∈us,getR σ (.loc B) (.str u)=some (.str (px nd u),σ)) :
  q4o C (vJ sc mf mo k lw lj lx lr r q A mw lm mj (some (.fl (us.map .str))) (some (.loc B)) ly (some (.fl (ab.map .str))) mq lk) σ=some (.next,vJ sc mf mo k lw lj lx lr r q A mw lm mj (some (.fl (us.map .str))) (some (.loc B)) ly (some (.fl (ab.map .str))) (some (.fl ((q0u ((us.filter λ u=>!ab.contains u).map λ u=>(px nd u,u))).map q0c))) lk,σ):=by
 have g:=k4a (w8y (σ:=σ) (V:=vJ sc mf mo k lw lj lx lr r q A mw lm mj (some (.fl (us.map .str))) (some (.loc B)) ly (some (.fl (ab.map .str))) mq lk) (f:=q7p C) (v:=.fl (us.map .str)) (us:=us) (p:=λ u=>!ab.contains u) (g:=λ u=>q0c (px nd u,u)) rfl hz λ u fr o0 o1 hu hz=>by
  rw[c_10,j8q]
  cases ab.contains u with
  | true=>rfl
  | false=>
   rw[show(!false)=true from rfl,q0d,if_pos rfl,q0d,if_pos rfl]
   have e:(bnd (evC (getR σ (.loc B) (.str u)) λ s=>evC (some (.str u,s)) λ s=>some ([],s)) λ xs s=>if xs.length<=sizeLine then some (AV.tup xs,s)else none)=some (q0c (px nd u,u),σ):=by
    rw[hN u hu]
    exact nr (by kernel_rfl)
   rw[em_n e (Nat.lt_trans hz (by decide)),q0d];rfl)
 simp only[b_15,g,show(us.filter λ u=>!ab.contains u).map (λ u=>q0c (px nd u,u))=((us.filter λ u=>!ab.contains u).map λ u=>(px nd u,u)).map q0c by rw[List.map_map];rfl]
 exact q7t (k1d C _ (by rw[List.length_map];exact h5))
theorem j2r {i:Nat} (hi:i<28) (hN:getR σ (.loc B) (.str (kU i))=some (.str (px nd (kU i)),σ)) (hl:(px nd (kU i)).length<=400) :
  q4p (q0e T (n+1)) (vJ sc mf mo k lw lj lx lr r (kS i) A mw lm mj mm (some (.loc B)) ly lh mq lk) σ=some (.next,vJ sc mf mo k lw lj lx lr r (kS i) A mw lm mj mm (some (.loc B)) (some (.str (tg (px nd (kU i)) (kL i)))) lh mq lk,σ):=by
 simp only[b_16,z9g n σ hi,q0d,hN,q0d]
 refine q7t ?_
 simp only[adds,addB hl l_co (by decide),q0d,j1o _ σ hi,q0d,addB (catB hl l_co) (w0t i) (by decide)]
 rfl
theorem j2s (nm:Str) (us:List Str) (ps:List (Str×Str×List Str)) (fq:List AV) (hz:ps.length<=1000):q4q C (vJ sc mf mo k lw lj lx lr r q A mw lm mj (some (.fl (us.map .str))) lf (some (.str nm)) lh mq lk) (Bs w fq (ps.map entV) x)=some (.next,vJ sc mf mo k lw lj lx lr r q A mw lm mj (some (.fl (us.map .str))) lf (some (.str nm)) lh mq lk,Bs w fq ((ps++[(q,nm,us)]).map entV) x):=by
 have e:∀v pa,biA .lAppend [.loc 33,v] (Bs w fq pa x)=if pa.length<sizeLine then some (.none,Bs w fq (pa++[v]) x)else none:=λ v pa=>nr (by kernel_rfl)
 simp only[b_17,List.map_append]
 exact es_n (q3o rfl ((e _ _).trans (if_pos (few (by rw[List.length_map];exact jB hz (by decide))))))
theorem j2t (nm d:Str) (L:List (Str×Str)) (hn:nm.length<=1000) (hd:d.length<=9000000) (hz:L.length<5) (hL:∀p∈L,p.1.length<=400/\∃j,j<14/\p.2=uS j) :
  q4r C (vJ sc mf mo k lw lj lx lr r q A (some (.str d)) lm mj mm lf (some (.str nm)) lh (some (.fl (L.map q0c))) (some (.lit q1c))) σ=some (.next,vJ sc mf mo k lw lj lx lr r q A (some (.str (d++(lt1++nm++jn (L.map nsS))))) lm mj mm lf (some (.str nm)) lh (some (.fl (L.map q0c))) (some (.lit q1c)),σ)/\(jn (L.map nsS)).length<=3000:=by
 have hs:∀p∈L,(nsS p).length<=600:=λ p hp=>by
  obtain⟨h1,j,hj,h2⟩:=hL p hp
  have h3:=k5s.1 j hj
  rw[<-h2]at h3
  exact jA (catB (catB (catB (catB l_ns h1) l_eq) h3) l_qu) (by decide)
 have hj:((L.map nsS).map (·.length)).sum<=3000:=by
  rw[List.map_map]
  exact jA (z9b (λ p=>(nsS p).length) 600 L hs) (jA (Nat.mul_le_mul_right 600 (jF hz)) (by decide))
 have g:Got (own3 (vJ sc mf mo k lw lj lx lr r q A (some (.str d)) lm mj mm lf (some (.str nm)) lh (some (.fl (L.map q0c))) (some (.lit q1c)))) (q1h (.fl (L.map q0c)) (q7q C) (none::none::none::vJ sc mf mo k lw lj lx lr r q A (some (.str d)) lm mj mm lf (some (.str nm)) lh (some (.fl (L.map q0c))) (some (.lit q1c)),[]) σ) (L.foldl (app λ p=>[.str (nsS p)]) []) σ:=by
  refine w5i (e:=q0c) rfl (λ my p fm vs ex h=>?_) ⟨_,_,_,rfl⟩
  obtain⟨o0,o1,o2,rfl⟩:=h
  refine⟨_,⟨o0,some (.str p.1),some (.str p.2),rfl⟩,?_⟩
  rcases _:hL p (by rw[ex];simp)with⟨h1,j,hj,h2⟩
  have h3:=(rp_u j hj).2
  have h4:=k5s.1 j hj
  rw[<-h2]at h3 h4
  rw[q1d,q2f,List.nil_append,c_11,addB l_ns h1 (by decide),q0d,adds,addB (catB l_ns h1) l_eq (by decide),q0d,j1k h3,q0d,addB (catB (catB l_ns h1) l_eq) h4 (by decide),q0d,adds,addB (catB (catB (catB l_ns h1) l_eq) h4) l_qu (by decide),
   em_n rfl (by rw[List.length_map];rw[ex,List.length_append]at hz;exact Nat.lt_trans (jB (jG ..) hz) (by decide)),q0d]
  rfl
 rw[q1d,q2f,List.nil_append]at g
 have e:=k4a g
 have ej:(jn (L.map nsS)).length<=3000:=by rw[z8h];exact hj
 refine⟨?_,ej⟩
 simp only[b_19]
 refine w2d ?_ (jA (jH hd (catB (catB l_lt hn) ej)) (by decide))
 simp only[addB l_lt hn (by decide),q0d,e,q3o (v:=.fl (L.map λ p=>AV.str (nsS p))) rfl (z4z (ts:=L.map nsS) (show some (L.map λ p=>AV.str (nsS p))=_ by rw[List.map_map];rfl) (jA hj (by decide))),q0d]
 exact addB (catB l_lt hn) ej (by decide)
end
noncomputable def vOf (k:Str):List (Str×Str)->Str
 | []=>Str.empty
 | (a,v)::r=>if a=k then v else vOf k r
theorem q9b (k:Str):∀kvs:List (Str×Str),k∈kvs.map (·.1)->q0t k (kvs.map q0p)=some (.str (vOf k kvs))/\(k,vOf k kvs)∈kvs
 | (a,v)::r,h=>by
  show(if a=k then some (AV.str v)else q0t k (r.map q0p))=some (.str (if a=k then v else vOf k r))/\(k,if a=k then v else vOf k r)∈_
  by_cases e:a=k
  ·rw[if_pos e,if_pos e,e];exact⟨rfl,jL ..⟩
  ·obtain⟨h1,h2⟩:=q9b k r ((List.mem_cons.mp h).resolve_left λ q=>e q.symm)
   rw[if_neg e,if_neg e,h1];exact⟨rfl,jK _ h2⟩
noncomputable def prK (nd:List Str) (k:Str):Str:=if(Uo k).length=0 then Str.ofString "" else px nd (Uo k)++Str.ofString ":"
noncomputable def atD (nd:List Str) (kv:Str×Str):Str:=Str.ofString " "++prK nd kv.1++Lo kv.1++Str.ofString "=\""++rp kv.2++Str.ofString "\""
theorem At.at {kvs:List (Str×Str)} (h:At kvs) {k:Str} (hk:k∈kvs.map (·.1)):IsK k/\(vOf k kvs).length<=40/\(rp (vOf k kvs)).length<=100/\escA (vOf k kvs)=rp (vOf k kvs):=by
 have h2:=(q9b k kvs hk).2
 obtain⟨j,hj,e⟩:=h.v _ h2
 rw[show vOf k kvs=vS' j from e]
 exact⟨h.k _ h2,(rp_v j hj).2,k5s.2 j hj,(rp_v j hj).1⟩
theorem k1w {nd:List Str} {k v:Str} (h1:(prK nd k).length<=500) (h2:IsK k) (h3:(rp v).length<=100):(atD nd (k,v)).length<=700:=by
 obtain⟨i,hi,rfl⟩:=h2
 show(Str.ofString " "++prK nd (kS i)++Lo (kS i)++Str.ofString "=\""++rp v++Str.ofString "\"").length<=_
 exact jA (catB (catB (catB (catB (catB l_bl h1) (Lo_k hi▸w0t i)) l_eq) h3) l_qu) (by decide)
section
variable (n:Nat) (C:q0a) (w:Who->W) (pa:List AV) (x:Store) (sc mf:AV) (mo k lw lj mj mm lf ly lh mq lk lm lx lr mw:Option AV) (r:Int) (q:Str) (A B:Nat) {σ:Store} (nd us:List Str) {kvs:List (Str×Str)}
theorem k7l (hA:At kvs) (hd:q0k σ (.loc A)=some (kvs.map q0p)) {ky:Str} (hk:ky∈kvs.map (·.1)) (hN:getR σ (.loc B) (.str (Uo ky))=some (.str (px nd (Uo ky)),σ)) (hl:(px nd (Uo ky)).length<=400) {d:Str} (hz:d.length<=9000000) :
  q5j (q0e T (n+1)) (.str ky) (vJ sc mf mo k lw lj lx lr r q A (some (.str d)) lm mj mm (some (.loc B)) ly lh mq (some (.lit q1c))) σ=some (.next,vJ sc mf mo k lw lj lx lr r q A (some (.str (d++atD nd (ky,vOf ky kvs)))) (some (.str (prK nd ky))) (some (.str ky)) mm (some (.loc B)) ly lh mq (some (.lit q1c)),σ)/\(prK nd ky).length<=500:=by
 obtain⟨hi,h2,h3,_⟩:=hA.at hk
 have hf:=(q9b ky kvs hk).1
 have lp:(prK nd ky).length<=500:=by
  unfold prK;split
  ·exact Nat.zero_le _
  ·exact jA (catB hl l_co) (by decide)
 have la:=k1w lp hi h3
 obtain⟨i,hi,rfl⟩:=hi
 have eg:getR σ (.loc A) (.str (kS i))=some (.str (vOf (kS i) kvs),σ):=by
  show((q0k σ (.loc A)).bind λ kvs=>q0t (kS i) kvs).bind _=_
  rw[hd]
  show(q0t (kS i) (kvs.map q0p)).bind _=_
  rw[hf];rfl
 have ep:(bnd (isB (.str (kS i)) σ) λ c s=>if c=true then bnd (bnd (q0e T (n+1) 187 [.str (kS i)] [] s) λ y s=>getR s (.loc B) y) λ y s=>adds y (Str.ofString ":") s else some (.str (Str.ofString ""),s))=some (.str (prK nd (kS i)),σ):=by
  simp only[j7y σ hi,q0d,z9g n σ hi,q0d,prK]
  rw[Uo_k hi]at hN hl ⊢
  by_cases q:(kU i).length=0
  ·rw[if_pos q,q];rfl
  ·rw[if_neg q,if_pos (by simpa using q),hN,q0d]
   exact addB hl l_co (by decide)
 refine⟨?_,lp⟩
 simp only[v0n,q7t ep,q0v]
 refine stq (V:=vJ sc mf mo k lw lj lx lr r q A (some (.str (d++atD nd (kS i,vOf (kS i) kvs)))) (some (.str (prK nd (kS i)))) (some (.str (kS i))) mm (some (.loc B)) ly lh mq (some (.lit q1c))) ?_ (λ v s=>some (.next,v,s)) rfl
 refine(j6j ..).trans (w2d ?_ (jA (jH hz la) (by decide)))
 simp only[addB l_bl lp (by decide),q0d,j1o _ σ hi,q0d,addB (catB l_bl lp) (w0t i) (by decide),q0d,adds,addB (catB (catB l_bl lp) (w0t i)) l_eq (by decide),q0d,eg,q0d,j1k h2,q0d,addB (catB (catB (catB l_bl lp) (w0t i)) l_eq) h3 (by decide),q0d,adds,addB (catB (catB (catB (catB l_bl lp) (w0t i)) l_eq) h3) l_qu (by decide),atD,Lo_k hi]
noncomputable def atsD (nd:List Str) (kvs:List (Str×Str)) (d:Str) (ks:List Str):Str:=ks.foldl (λ d k=>d++atD nd (k,vOf k kvs)) d
theorem z1e (hA:At kvs) (hd:q0k σ (.loc A)=some (kvs.map q0p)):∀(ks:List Str),(∀ky∈ks,ky∈kvs.map (·.1)/\getR σ (.loc B) (.str (Uo ky))=some (.str (px nd (Uo ky)),σ)/\(px nd (Uo ky)).length<=400)->∀(d:Str) (lm mj:Option AV),d.length+700 * ks.length<=9000000->
  ∃prefi' key',forA (q5j (q0e T (n+1))) (ks.map .str) (vJ sc mf mo k lw lj lx lr r q A (some (.str d)) lm mj mm (some (.loc B)) ly lh mq (some (.lit q1c))) σ=some (.next,vJ sc mf mo k lw lj lx lr r q A (some (.str (atsD nd kvs d ks))) prefi' key' mm (some (.loc B)) ly lh mq (some (.lit q1c)),σ)/\(atsD nd kvs d ks).length<=d.length+700 * ks.length
 | [],_,d,lm,mj,_=>⟨lm,mj,rfl,jD _⟩
 | ky::ks,hK,d,lm,mj,hz=>by
  obtain⟨h1,h2,h3⟩:=hK ky (jL ..)
  rw[List.length_cons]at hz
  rcases _:k7l n sc mf mo k lw lj mj mm ly lh mq lm lx lr r q A B nd hA hd h1 h2 h3 (d:=d) (jA (jG ..) hz)with⟨e,lp⟩
  obtain⟨hi,_,h5,_⟩:=hA.at h1
  have la:=k1w (nd:=nd) lp hi h5
  have hl:(d++atD nd (ky,vOf ky kvs)).length<=d.length+700:=by rw[q6r];exact Nat.add_le_add_left la _
  have e1:d.length+700+700 * ks.length=d.length+700 * (ks.length+1):=by rw[Nat.add_assoc,Nat.add_comm 700];rfl
  have hl2:=jA (Nat.add_le_add_right hl (700 * ks.length)) (jE e1)
  obtain⟨prefi',key',e',l'⟩:=z1e hA hd ks (λ y hy=>hK y (jK _ hy)) (d++atD nd (ky,vOf ky kvs)) (some (.str (prK nd ky))) (some (.str ky)) (jA hl2 hz)
  refine⟨prefi',key',(stq e _ rfl).trans e',?_⟩
  rw[List.length_cons]
  exact jA l' hl2
theorem j2u (hA:At kvs) (hd:q0k σ (.loc A)=some (kvs.map q0p)) (hN:∀ky∈kvs.map (·.1),getR σ (.loc B) (.str (Uo ky))=some (.str (px nd (Uo ky)),σ)/\(px nd (Uo ky)).length<=400) {d:Str} (hz:d.length<=8000000) :
  ∃prefi' key',q4s (q0e T (n+1)) (vJ sc mf mo k lw lj lx lr r q A (some (.str d)) lm mj mm (some (.loc B)) ly lh mq (some (.lit q1c))) σ=some (.next,vJ sc mf mo k lw lj lx lr r q A (some (.str (atsD nd kvs d (q5k (kvs.map (·.1)))))) prefi' key' mm (some (.loc B)) ly lh mq (some (.lit q1c)),σ)/\(atsD nd kvs d (q5k (kvs.map (·.1)))).length<=d.length+2100:=by
 have hp:(q5k (kvs.map (·.1))).Perm (kvs.map (·.1)):=List.mergeSort_perm ..
 have hl:(q5k (kvs.map (·.1))).length<=3:=by rw[hp.length_eq,List.length_map];exact hA.l
 rcases _:z1e n sc mf mo k lw lj mm ly lh mq lx lr r q A B nd hA hd (q5k (kvs.map (·.1))) (λ ky hy=>⟨hp.mem_iff.mp hy,hN ky (hp.mem_iff.mp hy)⟩) d lm mj (jA (jH hz (Nat.mul_le_mul_left 700 hl)) (by decide))with⟨prefi',key',e,l⟩
 refine⟨prefi',key',?_,jA l (Nat.add_le_add_left (Nat.mul_le_mul_left 700 hl) _)⟩
 have es:biA .sorted [.loc A] σ=some (.fl ((q5k (kvs.map (·.1))).map .str),σ):=by
  show(optC (q0k σ (.loc A)) (λ kvs=>if(kvs.map (·.1)).length<64 then some (AV.fl ((q5k (kvs.map (·.1))).map .str),σ)else none) _)=_
  rw[hd]
  show(if((kvs.map q0p).map (·.1)).length<64 then some (AV.fl ((q5k ((kvs.map q0p).map (·.1))).map .str),σ)else none)=_
  have:=hA.l
  rw[if_pos (by rw[List.length_map,List.length_map];exact jB this (by decide)),List.map_map];rfl
 simp only[v0l,q5l rfl es,q0d]
 exact e
theorem j2v {d:Str} (hz:d.length<=9000000):q4t C (vJ sc mf mo k lw lj lx lr r q A (some (.str d)) lm mj mm lf ly lh mq (some (.lit q1c))) σ=some (.next,vJ sc mf mo k lw lj lx lr r q A (some (.str (d++gt1))) lm mj mm lf ly lh mq (some (.lit q1c)),σ):=by
 rw[v0m]
 exact w2d rfl (jA (jH hz (show gt1.length<=1 from jD 1)) (by decide))
end
theorem j4x {α:Type} {O:KeyOrd} {ko:α->O.α} {le:α->α->Bool} (hle:∀a b,le a b = !O.blt (ko b) (ko a)) (xs:List α):(xs.mergeSort le).Pairwise λ a b=>le a b=true:=by
 have k:∀a b,le a b=true↔O.kle (ko a) (ko b):=λ a b=>by rw[hle,Bool.not_eq_true'];rfl
 refine List.pairwise_mergeSort (λ a b c h1 h2=>(k a c).mpr (KeyOrd.kle_trans ((k a b).mp h1) ((k b c).mp h2))) (λ a b=>?_) xs
 rw[hle,hle]
 cases q:O.blt (ko b) (ko a)with
 | false=>rfl
 | true=>rw[k1v (O:=O) q];rfl
theorem z0q {rs xs:List (Str×Str)} (hp:rs.Perm xs) (hs:rs.Pairwise λ a b=>w0v a b=true):rs=q0u xs:=q9f q7o z2o hp hs
theorem k0z {xs ys:List (Str×Str)} (h:xs.Perm ys):q0u xs=q0u ys:=z0q ((List.mergeSort_perm ..).trans h) (j4x q7o xs)
theorem z0y:∀{kvs:List (Str×Str)},(kvs.map (·.1)).Nodup->∀kv∈kvs,vOf kv.1 kvs=kv.2
 | (a,v)::r,h,kv,hm=>by
  obtain⟨h1,h2⟩:=List.nodup_cons.mp h
  show(if a=kv.1 then v else vOf kv.1 r)=_
  rcases List.mem_cons.mp hm with rfl|hm
  ·exact if_pos rfl
  ·rw[if_neg λ e=>h1 (List.mem_map.mpr ⟨kv,hm,e.symm⟩)]
   exact z0y h2 kv hm
theorem k6i {kvs:List (Str×Str)} (h:(kvs.map (·.1)).Nodup):q0u kvs=(q5k (kvs.map (·.1))).map λ k=>(k,vOf k kvs):=by
 refine(z0q ?_ ?_).symm
 ·have e:(kvs.map (·.1)).map (λ k=>(k,vOf k kvs))=kvs:=by
   rw[List.map_map]
   exact(List.map_congr_left (g:=id) λ kv hm=>show(kv.1,vOf kv.1 kvs)=kv from by rw[z0y h kv hm]).trans (List.map_id _)
  have:=(List.mergeSort_perm (kvs.map (·.1)) λ a b=>decide (a.cps.toList<=b.cps.toList)).map λ k=>(k,vOf k kvs)
  rw[e]at this
  exact this
 ·refine List.pairwise_map.mpr ((j4x (O:=q0s) (ko:=q1q) (λ a b=>(q3u _ _).symm) _).imp λ{a b} h=>?_)
  show(if a=b then decide ((vOf a kvs).cps.toList<=(vOf b kvs).cps.toList)else decide (a.cps.toList<=b.cps.toList))=true
  by_cases e:a=b
  ·rw[if_pos e,e];exact decide_eq_true (List.le_refl _)
  ·rw[if_neg e];exact h
theorem k9v (M L:List Str):q0u (L.map (xmlns M))=(q0u (L.map λ u=>(px M u,u))).map λ p=>(Str.ofString "xmlns:"++p.1,p.2):=by
 refine(z0q ?_ ?_).symm
 ·have:=(List.mergeSort_perm (L.map λ u=>(px M u,u)) w0v).map λ p=>(Str.ofString "xmlns:"++p.1,p.2)
  rw[List.map_map]at this
  exact this
 ·refine List.pairwise_map.mpr ((j4x q7o _).imp λ{a b} h=>?_)
  unfold w0v at h ⊢
  show(if Str.ofString "xmlns:"++a.1=Str.ofString "xmlns:"++b.1 then decide (a.2.cps.toList<=b.2.cps.toList)else decide ((Str.ofString "xmlns:"++a.1).cps.toList<=(Str.ofString "xmlns:"++b.1).cps.toList))=true
  by_cases e:a.1=b.1
  ·rw[if_pos e]at h;rw[if_pos (by rw[e])];exact h
  ·rw[if_neg e]at h
   rw[if_neg λ q=>e (q5s (List.append_cancel_left ((q0n _ _).symm.trans ((congrArg lst q).trans (q0n _ _)))))]
   refine decide_eq_true ?_
   show lst (_++_)<=lst (_++_)
   rw[q0n,q0n]
   exact List.append_left_le (of_decide_eq_true h)
theorem k9i {q:Str} {kvs:List (Str×Str)} (hk:∀r,r=q\/r∈kvs.map (·.1)->IsK r):lf q kvs=(SNk.map kS).filter λ r=>(q::kvs.map (·.1)).contains r:=by
 have hn:(SNk.map kS).Nodup:=(List.isPerm_iff.mp (by decide +kernel:(SNk.map kS).isPerm (R28.map kS)=true)).nodup_iff.mpr j7z
 refine(q9f z2a z8k ?_ (k1q.filter _)).symm
 refine(List.perm_ext_iff_of_nodup (hn.filter _) (q6m _ _ (List.nodup_cons.mpr ⟨List.not_mem_nil,List.nodup_nil⟩)).1).mpr λ r=>?_
 rw[(q6m _ _ (List.nodup_cons.mpr ⟨List.not_mem_nil,List.nodup_nil⟩)).2,List.mem_filter,List.contains_iff_mem,List.mem_cons,List.mem_singleton]
 refine⟨λ h=>h.2,λ h=>⟨?_,h⟩⟩
 obtain⟨k,h1,rfl⟩:=hk r h
 exact List.mem_map_of_mem ((List.isPerm_iff.mp (by decide +kernel:SNk.isPerm R28=true)).mem_iff.mpr (List.mem_range.mpr h1))
noncomputable def stp (P:List Str) (s:List Str×List Str) (v:Str):List Str×List Str:=(nM P s.1 s.2 v,nL P s.2 v)
theorem k6q {P M L:List Str} {v:Str} (h:v∈L++P):stp P (M,L) v=(M,L):=by unfold stp nM nL;rw[if_pos h,if_pos h]
theorem j9q (P M L:List Str) (v:Str):v∈(stp P (M,L) v).2++P:=by
 show v∈nL P L v++P
 unfold nL
 split
 ·assumption
 ·simp
theorem blocks (P:List Str) (p p':Str->Bool):∀(ks:List Nat) (s:List Str×List Str),(∀u∈ks,u<14/\p' (uS u)=(p (kS u)||p (kS (u+14))))->((ks.flatMap λ u=>[kS u,kS (u+14)]).filter p).foldl (nst Uo P) s=((ks.map uS).filter p').foldl (stp P) s
 | [],_,_=>rfl
 | u::ks,s,h=>by
  obtain⟨h1,h2⟩:=h u (jL ..)
  have e1:∀s,nst Uo P s (kS u)=stp P s (uS u):=λ s=>by unfold nst stp;simp only[Uo_k (Nat.lt_trans h1 (by decide)),kU,Nat.mod_eq_of_lt h1]
  have e2:∀s,nst Uo P s (kS (u+14))=stp P s (uS u):=λ s=>by unfold nst stp;simp only[Uo_k (Nat.add_lt_add_right h1 14),kU,Nat.add_mod_right,Nat.mod_eq_of_lt h1]
  have e3:stp P (stp P s (uS u)) (uS u)=stp P s (uS u):=k6q (j9q P s.1 s.2 (uS u))
  simp only[List.flatMap_cons,List.filter_append,List.foldl_append,blocks P p p' ks _ λ v hv=>h v (jK _ hv),List.map_cons,List.filter_cons,List.filter_cons,List.filter_cons,List.filter_nil,h2]
  cases p (kS u)<;>cases p (kS (u+14))
  ·rfl
  ·exact congrArg (List.foldl (stp P) · _) (e2 s)
  ·exact congrArg (List.foldl (stp P) · _) (e1 s)
  ·exact congrArg (List.foldl (stp P) · _) ((congrArg (nst Uo P · _) (e1 s)).trans ((e2 _).trans e3))
theorem z0r (P:List Str):∀(vs M L:List Str),vs.Nodup->(∀v∈vs,v∉L)->vs.foldl (stp P) (M,L)=(M++vs.filter (λ v=>!P.contains v&&!M.contains v),L++vs.filter λ v=>!P.contains v)
 | [],M,L,_,_=>by simp only[List.filter_nil,List.filter_nil,List.append_nil,List.append_nil];rfl
 | v::vs,M,L,hn,hd=>by
  obtain⟨n1,n2⟩:=List.nodup_cons.mp hn
  have hv:=hd v (jL ..)
  simp only[List.foldl_cons,List.filter_cons,List.filter_cons]
  by_cases hP:v∈P
  ·rw[k6q (List.mem_append_right _ hP),z0r P vs M L n2 λ u hu=>hd u (jK _ hu),List.contains_iff_mem.mpr hP];rfl
  ·have hc:P.contains v=false:=Bool.eq_false_iff.mpr λ q=>hP (List.contains_iff_mem.mp q)
   have hq:v∉L++P:=λ q=>(List.mem_append.mp q).elim hv hP
   have e:stp P (M,L) v=(need M v,L++[v]):=by unfold stp nM nL;rw[if_neg hq,if_neg hq]
   rw[e,z0r P vs (need M v) (L++[v]) n2 λ u hu q=>(List.mem_append.mp q).elim (hd u (jK _ hu)) λ q=>n1 (jJ q▸hu),hc]
   rw[show(!false)=true from rfl,if_pos rfl,List.append_assoc]
   refine Prod.ext ?_ rfl
   show need M v++_=M++_
   unfold need
   by_cases hM:v∈M
   ·rw[if_pos hM,List.contains_iff_mem.mpr hM];rfl
   ·have hm:M.contains v=false:=Bool.eq_false_iff.mpr λ q=>hM (List.contains_iff_mem.mp q)
    rw[if_neg hM,hm,List.append_assoc]
    refine congrArg (M++·) (congrArg (v :: ·) (List.filter_congr λ u hu=>?_))
    have:(M++[v]).contains u=M.contains u:=by
     rw[Bool.eq_iff_iff,List.contains_iff_mem,List.contains_iff_mem,List.mem_append,List.mem_singleton]
     exact⟨λ h=>h.resolve_right λ e=>n1 (e▸hu),.inl⟩
    rw[this]
theorem w8m:SU.Nodup:=by
 have:(SUk.map uS).Nodup:=by decide +kernel
 exact this
theorem k1p:SNk.map kS=SUk.flatMap λ u=>[kS u,kS (u+14)]:=by
 have:SNk=SUk.flatMap λ u=>[u,u+14]:=by decide +kernel
 rw[this,List.map_flatMap];rfl
theorem j8a:∀u<14,∀k<28,kU k=uS u->k=u\/k=u+14:=by decide +kernel
theorem k0h {q:Str} {kvs:List (Str×Str)} (hk:∀r,r=q\/r∈kvs.map (·.1)->IsK r) {P nd:List Str} (hx:xmlS∈P) (hP:∀u∈P,u=xmlS\/u∈nd) :
  (lf q kvs).foldl (nst Uo P) (nd,[])=(ndS nd (ml q kvs),(ml q kvs).filter λ u=>!P.contains u):=by
 rw[k9i hk,k1p,blocks P _ (λ u=>(w1m q kvs).contains u) SUk (nd,[]) λ u hu=>?_]
 ·rw[<-SU,z0r P _ nd [] (w8m.filter _) (λ _ _ h=>absurd h List.not_mem_nil),List.nil_append]
  show(nd++(SU.filter _).filter _,(SU.filter _).filter _)=_
  have cx:P.contains xmlS=true:=List.contains_iff_mem.mpr hx
  simp only[ndS,ml,List.filter_filter,List.filter_filter,List.filter_filter,List.filter_filter]
  refine congr (congrArg Prod.mk (congrArg (nd++·) (List.filter_congr λ u _=>?_))) (List.filter_congr λ u _=>?_)
  ·by_cases e:u=xmlS
   ·rw[e,cx,decide_eq_true rfl,Bool.and_assoc];simp
   ·have:nd.contains u=false->P.contains u=false:=λ h=>Bool.eq_false_iff.mpr λ q=>absurd (List.contains_iff_mem.mpr ((hP u (List.contains_iff_mem.mp q)).resolve_left e)) (by rw[h];exact Bool.false_ne_true)
    rw[decide_eq_false e]
    cases h:nd.contains u with
    | true=>simp
    | false=>rw[this h];simp
  ·by_cases e:u=xmlS
   ·rw[e,cx];rfl
   ·rw[decide_eq_false e];simp
 ·have h14:u<14:=(by decide:∀u∈SUk,u<14) u hu
  refine⟨h14,?_⟩
  have m:∀k,k<28->kU k=uS u->kS k∈q::kvs.map (·.1)->uS u∈w1m q kvs:=λ k hk e h=>List.mem_map.mpr ⟨kS k,h,by rw[Uo_k hk,e]⟩
  have e1:kU u=uS u:=by rw[kU,Nat.mod_eq_of_lt h14]
  have e2:kU (u+14)=uS u:=by rw[kU,Nat.add_mod_right,Nat.mod_eq_of_lt h14]
  rw[Bool.eq_iff_iff,Bool.or_eq_true,List.contains_iff_mem,List.contains_iff_mem,List.contains_iff_mem]
  refine⟨λ h=>?_,λ h=>h.elim (m u (Nat.lt_trans h14 (by decide)) e1) (m (u+14) (Nat.add_lt_add_right h14 14) e2)⟩
  obtain⟨r,hr,e⟩:=List.mem_map.mp h
  obtain⟨k,h1,rfl⟩:=hk r (List.mem_cons.mp hr)
  rw[Uo_k h1]at e
  rcases j8a u h14 k h1 e with rfl|rfl
  ·exact .inl hr
  ·exact .inr hr
theorem q9d (a b:List Str):jn (a++b)=jn a++jn b:=q5s (by rw[q0n,w7t,w7t,w7t,List.map_append,List.flatten_append])
theorem q9e (t:Str):jn [t]=t:=q5s (by rw[w7t];exact List.append_nil _)
theorem z8i:jn []=Str.empty:=q5s (w7t [])
theorem q3n (x:Str):x++Str.empty=x:=q5s (by rw[q0n];exact List.append_nil _)
theorem q1t (x y z:Str):x++y++z=x++(y++z):=q5s (by rw[q0n,q0n,q0n,q0n,List.append_assoc])
noncomputable def inc (nd:List Str) (nm:Str) (mq kvs:List (Str×Str)):Str:=lt1++nm++jn (mq.map nsS)++jn ((q0u kvs).map (atD nd))++gt1
theorem k1y (nd:List Str) (kvs:List (Str×Str)):∀(ks:List Str) (d:Str),atsD nd kvs d ks=d++jn (ks.map λ k=>atD nd (k,vOf k kvs))
 | [],d=>by rfl
 | k::ks,d=>by
  show atsD nd kvs (d++atD nd (k,vOf k kvs)) ks=_
  simp only[k1y nd kvs ks,List.map_cons,show atD nd (k,vOf k kvs)::ks.map (λ k=>atD nd (k,vOf k kvs))=[atD nd (k,vOf k kvs)]++ks.map (λ k=>atD nd (k,vOf k kvs))from rfl,q9d,q9e,q1t]
theorem j3j {nd:List Str} {kvs mq:List (Str×Str)} (hn:(kvs.map (·.1)).Nodup) (d nm:Str):atsD nd kvs (d++(lt1++nm++jn (mq.map nsS))) (q5k (kvs.map (·.1)))++gt1=d++inc nd nm mq kvs:=by
 rw[k1y,inc,k6i hn,List.map_map,q1t,q1t,q1t (lt1++nm++jn (mq.map nsS))]
 rfl
theorem j6g {p:Str×Str} (h:escA p.2=rp p.2):atS (Str.ofString "xmlns:"++p.1,p.2)=nsS p:=by
 unfold atS nsS
 rw[h,<-q1t]
 rfl
theorem j6f {nd:List Str} {kv:Str×Str} (h:escA kv.2=rp kv.2):atS (at1 Uo Lo nd kv)=atD nd kv:=by
 dsimp only[atS,atD,at1,prK]
 show Str.ofString " "++(if(Uo kv.1).length=0 then Lo kv.1 else tg (px nd (Uo kv.1)) (Lo kv.1))++Str.ofString "=\""++escA kv.2++Str.ofString "\"" = _
 rw[h]
 by_cases q:(Uo kv.1).length=0
 ·rw[if_pos q,if_pos q,show Str.ofString "" = Str.empty from rfl,q3n]
 ·rw[if_neg q,if_neg q,tg,<-q1t]
noncomputable abbrev pxs (nd us:List Str):List (Str×Str):=us.map λ u=>(px nd u,u)
theorem k5d {nd us:List Str} {kvs:List (Str×Str)} {nm:Str} (hu:∀u∈us,u∈SU) (hA:At kvs) :
  ∃ts:List Str,opens nm (attL Uo Lo nd us kvs)=ts.map .str/\jn ts=inc nd nm (q0u (pxs nd us)) kvs/\ts.length<=3:=by
 have e1:(attL Uo Lo nd us kvs).map atS=(q0u (pxs nd us)).map nsS++(q0u kvs).map (atD nd):=by
  unfold attL
  simp only[k9v,List.map_append,List.map_map,List.map_map]
  refine congr (congrArg _ (List.map_congr_left λ p hp=>j6g ?_)) (List.map_congr_left λ kv hm=>j6f ?_)
  ·obtain⟨u,h,rfl⟩:=List.mem_map.mp ((List.mergeSort_perm _ _).mem_iff.mp hp)
   obtain⟨k,hk,rfl⟩:=List.mem_map.mp (hu u h)
   exact(rp_u k ((by decide:∀u∈SUk,u<14) k hk)).1
  ·obtain⟨j,hj,e⟩:=hA.v kv ((List.mergeSort_perm _ _).mem_iff.mp hm)
   rw[e]
   exact(rp_v j hj).1
 have e2:jn ((attL Uo Lo nd us kvs).map atS)=jn ((q0u (pxs nd us)).map nsS)++jn ((q0u kvs).map (atD nd)):=by rw[e1,q9d]
 unfold opens
 by_cases q:attL Uo Lo nd us kvs=[]
 ·rw[if_pos q]
  refine⟨[lt1++nm,gt1],rfl,?_,Nat.le_succ 2⟩
  rw[q,List.map_nil,z8i]at e2
  simp only[show[lt1++nm,gt1]=[lt1++nm]++[gt1]from rfl,q9d,q9e,q9e,inc,q1t (lt1++nm),<-e2,q3n]
 ·rw[if_neg q]
  refine⟨[lt1++nm,jn ((attL Uo Lo nd us kvs).map atS),gt1],rfl,?_,jD 3⟩
  rw[show[lt1++nm,jn ((attL Uo Lo nd us kvs).map atS),gt1]=[lt1++nm]++([jn ((attL Uo Lo nd us kvs).map atS)]++[gt1])from rfl,q9d,q9d,q9e,q9e,q9e,e2,inc,<-q1t,<-q1t]
theorem z7w (a b:Str):escC (a++b)=escC a++escC b:=q5s (by
 unfold escC
 simp only[z7v,q0n,q8u])
theorem k7y:∀k<26,escC (q1y (97+k))=q1y (97+k)/\escC lt1=Str.ofString "&lt;":=by decide +kernel
theorem w1t:∀{l m:List Str},l.Nodup->(∀x∈l,x∈m)->l.length<=m.length
 | [],_,_,_=>Nat.zero_le _
 | a::l,m,hn,h=>by
  obtain⟨n1,n2⟩:=List.nodup_cons.mp hn
  have ha:=h a (jL ..)
  have k:=w1t (m:=m.erase a) n2 λ x hx=>(List.mem_erase_of_ne λ(e:x=a)=>n1 (e▸hx)).mpr (h x (jK _ hx))
  rw[List.length_erase_of_mem ha]at k
  exact jB k (Nat.sub_lt (List.length_pos_of_mem ha) Nat.one_pos)
abbrev Ent:Type:=Str×Str×List Str
noncomputable def Pof:List Ent->List Str
 | []=>[xmlS]
 | e::r=>(e.2.2.filter λ u=>!(Pof r).contains u)++Pof r
theorem q8a {u:Str}:∀{r:List Ent},u∈Pof r↔u=xmlS\/u∈abv r
 | []=>by delta Pof abv;simp
 | e::r=>by
  unfold Pof abv
  rw[List.mem_append,List.mem_filter,List.flatMap_cons,List.mem_append,q8a (r:=r),Bool.not_eq_true']
  refine⟨λ h=>h.elim (λ h=>.inr (.inl h.1)) (λ h=>h.imp id .inr),λ h=>?_⟩
  by_cases q:u∈Pof r
  ·exact .inr (q8a.mp q)
  ·have hc:(Pof r).contains u=false:=Bool.eq_false_iff.mpr λ z=>q (List.contains_iff_mem.mp z)
   rcases h with h|h|h
   ·exact .inr (.inl h)
   ·exact .inl ⟨h,hc⟩
   ·exact .inr (.inr h)
theorem k1o (r:List Ent):xmlS∈Pof r:=q8a.mpr (.inl rfl)
structure q3h (nd:List Str) (e:Ent):Prop where
 k:IsK e.1
 n:e.2.1=tg (px nd (Uo e.1)) (Lo e.1)
 u:∀u∈e.2.2,u≠xmlS/\u∈nd/\u∈SU
 m:Uo e.1=xmlS\/Uo e.1∈e.2.2
 l:e.2.2.length<=5
 d:e.2.2.Nodup
set_option tactic.hygienic true in theorem j1g {M L:List Str} {u:Str} (h:u=xmlS\/u∈M):px (M++L) u=px M u:=by
 unfold px
 split
 ·rfl
 ·rename_i q
  rw[List.idxOf_append,if_pos (h.resolve_left q)]
theorem q3h.grow {nd L:List Str} {e:Ent} (h:q3h nd e):q3h (nd++L) e:=
 ⟨h.k,by rw[j1g (h.m.imp id λ q=>(h.u _ q).2.1)];exact h.n,λ u hu=>⟨(h.u u hu).1,List.mem_append_left _ (h.u u hu).2.1,(h.u u hu).2.2⟩,h.m,h.l,h.d⟩
section
variable {nd:List Str} {r:List Ent} (h:∀e∈r,q3h nd e)
include h
theorem j0h {u:Str} (hu:u∈abv r):u≠xmlS/\u∈nd/\u∈SU:=by
 obtain⟨e,he,hu⟩:=List.mem_flatMap.mp hu
 exact(h e he).u u hu
theorem z4x:∀u∈Pof r,u=xmlS\/u∈nd:=λ u hu=>(q8a.mp hu).imp id λ q=>(j0h h q).2.1
end
theorem q8w {nd:List Str}:∀{r:List Ent},(∀e∈r,q3h nd e)->(Pof r).Nodup
 | [],_=>List.nodup_cons.mpr ⟨List.not_mem_nil,List.nodup_nil⟩
 | e::r,h=>by
  refine List.nodup_append.mpr ⟨(h e (jL ..)).d.filter _,q8w λ e he=>h e (jK _ he),λ a ha b hb e=>?_⟩
  have:=(List.mem_filter.mp ha).2
  rw[e,List.contains_iff_mem.mpr hb]at this
  exact absurd this (by decide)
theorem j9y:xmlS∈SU:=by
 have:xmlS∈SUk.map uS:=by decide +kernel
 exact this
theorem k1n {nd:List Str} {r:List Ent} (h:∀e∈r,q3h nd e):(Pof r).length<=14:=
 w1t (m:=SU) (q8w h) λ u hu=>(q8a.mp hu).elim (λ e=>e▸j9y) λ q=>(j0h h q).2.2
inductive Lvs (x:Store) (nd:List Str):List AV->List Ent->Prop
 | nil {a:AV} (h:lvA x a=some [xmlP]):Lvs x nd [a] []
 | cons {v:AV} {dl:List AV} {e:Ent} {r:List Ent} (h:lvA x v=some ((prs nd (e.2.2.filter λ u=>!(Pof r).contains u)).map q0c)) (t:Lvs x nd dl r):Lvs x nd (v::dl) (e::r)
theorem Lvs.lv {x:Store} {nd:List Str} {dl:List AV} {r:List Ent} (h:Lvs x nd dl r):Lv x nd dl (Pof r):=by
 induction h with
 | nil h=>
  have e:(prs nd [xmlS]).map q0c=[xmlP]:=by
   show[q0c (xmlS,px nd xmlS)]=_
   rw[px,if_pos rfl]
  exact .cons (L:=[xmlS]) (P:=[]) (h.trans (congrArg some e.symm)) .nil
 | cons h _ ih=>exact .cons h ih
theorem Lvs.len {x:Store} {nd:List Str} {dl:List AV} {r:List Ent} (h:Lvs x nd dl r):dl.length=r.length+1:=by
 induction h with
 | nil _=>rfl
 | cons _ _ ih=>rw[List.length_cons,List.length_cons,ih]
noncomputable abbrev w0a (x x':Store) (d:List AV):Prop:=∀v∈d,∀L,lvA x v=some L->lvA x' v=some L
theorem q1w (x c:Store) (d:List AV):w0a x (x++c) d:=λ _ _ _ h=>w3a c h
theorem Lvs.mono {x x':Store} {nd L:List Str} {dl:List AV} {r:List Ent} (h:Lvs x nd dl r):w0a x x' dl->(∀e∈r,q3h nd e)->Lvs x' (nd++L) dl r:=by
 induction h with
 | nil h=>exact λ k _=>.nil (k _ (jL ..) _ h)
 | cons h _ ih=>
  intro k he
  refine .cons ?_ (ih (λ v hv=>k v (jK _ hv)) λ e h=>he e (jK _ h))
  rw[k _ (jL ..) _ h]
  refine congrArg (λ l=>some (List.map q0c l)) (List.map_congr_left λ u hu=>?_)
  rw[j1g (.inr ((he _ (jL ..)).u u (List.mem_filter.mp hu).1).2.1)]
theorem Lv.mono {x x':Store} {M:List Str} {d:List AV} {P:List Str} (h:Lv x M d P):w0a x x' d->Lv x' M d P:=by
 induction h with
 | nil=>exact λ _=>.nil
 | cons h _ ih=>exact λ k=>.cons (k _ (jL ..) _ h) (ih λ v hv=>k v (jK _ hv))
theorem z8j {x x':Store} {d:List AV} (h:w0a x x' d):w0a x x' d.reverse:=λ v hv=>h v (List.mem_reverse.mp hv)
theorem Nst.mono {x x':Store} {D:List AV} {P M L:List Str} (h:Nst x D P M L) (k:w0a x x' D):Nst x' D P M L:=⟨h.lv.mono (z8j k),h.nd,h.sub,h.xm,h.mz,h.lz,h.pz⟩
theorem j4l {x:Store} {nd:List Str} {d:List AV} {r:List Ent} (h:Lvs x nd d.reverse r) (he:∀e∈r,q3h nd e) (hz:nd.length<=14):Nst x d (Pof r) nd []:=
 ⟨h.lv,q8w he,z4x he,k1o r,jA hz (by decide),Nat.zero_le _,jA (k1n he) (by decide)⟩
theorem Nst.next {x y:Store} {D:List AV} {P M L:List Str} (h:Nst x D P M L) (hz:(L++P).length<=900):Nst (x++(.list ((prs M L).map q0c)::y)) (D++[.loc (x.length+34)]) (L++P) M []:=by
 refine⟨?_,h.nd,h.sub,List.mem_append_right _ h.xm,h.mz,Nat.zero_le _,hz⟩
 rw[List.reverse_append]
 exact .cons (z8m ..) (h.lv.grow _)
theorem k9d {x y:Store} {nd L:List Str} {d:List AV} {e:Ent} {r:List Ent} (h:Lvs x nd d.reverse r) (he:∀e∈r,q3h nd e) :
  Lvs (x++(.list ((prs (nd++L) (e.2.2.filter λ u=>!(Pof r).contains u)).map q0c)::y)) (nd++L) (d++[AV.loc (x.length+34)]).reverse (e::r):=by
 rw[List.reverse_append]
 exact .cons (z8m ..) (h.mono (λ _ _ _ h=>w3a _ h) he)
inductive Tx (k m:Nat) (d:Str) (a:W):Prop
 | mk (ts ds:List Str) (o:a.out=ts.map .str) (q:a.data=ds.map .str) (e:jn ts++escC (jn ds)=d) (lo:ts.length<=k) (ld:ds.length<=m) (h:∀t∈ds,t.length=1\/t.length=2) (sn:ds≠[]->a.seen=true)
structure Wi (k m:Nat) (x:Store) (nd:List Str) (r:List Ent) (d:Str) (a:W):Prop where
 map:a.map=mp nd
 lv:Lvs x nd a.dl.reverse r
 pres:a.pres=List.replicate (r.length+1) (.bool false)
 nl:a.nl.length=r.length+1
 sn:r≠[]->a.seen=true
 tx:Tx k m d a
theorem q2p:escC (jn [])=Str.empty:=by rw[z8i];decide +kernel
inductive Dry (k:Nat) (d:Str) (a a1:W):Prop
 | mk (f:Fl a a1) (ts:List Str) (o:a1=⟨ts.map .str,[],a.dl,a.nl,a.n0,a.map,a.pres,a.seen,a.done⟩) (e:jn ts=d) (l:ts.length<=k)
theorem W.same (a:W) (h:a.data=[]):a=⟨a.out,[],a.dl,a.nl,a.n0,a.map,a.pres,a.seen,a.done⟩:=by rw[<-h]
theorem Tx.dry {k m:Nat} {d:Str} {a:W} (h:Tx k m d a) (hk:k<=1000) (hm:m<=1000):∃a1,Dry (k+1) d a a1:=by
 obtain⟨ts,ds,o,q,e,lo,ld,h,sn⟩:=h
 by_cases z:ds=[]
 ·subst z
  rw[q2p,q3n]at e
  refine⟨a,.no q,ts,?_,e,Nat.le_succ_of_le lo⟩
  rw[<-o]
  exact W.same a q
 ·have hs:(ds.map (·.length)).sum<=ds.length * 2:=z9b (·.length) 2 ds λ t ht=>(h t ht).elim (λ e=>e▸by decide) λ e=>jE e
  have hb:ds.length * 2<=5000:=jA (Nat.mul_le_mul_right 2 (jA ld hm)) (by decide)
  have hp:((jn ds).length !=0)=true:=by
   rw[z8h]
   cases ds with
   | nil=>exact absurd rfl z
   | cons t ds=>
    have:=h t (jL ..)
    rw[List.map_cons,List.sum_cons,bne_iff_ne]
    exact Nat.ne_of_gt (jC (this.elim (λ e=>by rw[e];decide) λ e=>by rw[e];decide) (jG _ _))
  refine⟨(a.wd []).wo (a.out++[.str (escC (jn ds))]),.yes ds (by rw[q];exact q1u ds) (by rw[q];exact λ e=>z (List.map_eq_nil_iff.mp e)) (jA hs hb) (by rw[z8h];exact jA hs hb) hp (sn z) (by rw[o,List.length_map];exact jB (jA lo hk) (by decide)),ts++[escC (jn ds)],?_,?_,?_⟩
  ·rw[List.map_append,<-o];rfl
  ·rw[q9d,q9e,e]
  ·rw[List.length_append];exact Nat.add_le_add_right lo 1
theorem j9z {n:Nat} (h:0<n) (v:AV):List.replicate n v=List.replicate (n - 1) v++[v]:=by
 rw[<-List.replicate_succ',Nat.sub_add_cancel h]
theorem k9k:∀k<28,kS k≠Str.ofString "{http://www.w3.org/XML/1998/namespace}space":=by decide +kernel
theorem k3l {k:Str} {kvs:List (Str×AV)} (h:k∉kvs.map (·.1)):q0t k kvs=none:=by
 have e:=w2p k kvs
 rw[Bool.eq_false_iff.mpr λ q=>h (List.contains_iff_mem.mp q)]at e
 exact Option.isSome_eq_false_iff.mp e.symm |> Option.isNone_iff_eq_none.mp
theorem At.isK {kvs:List (Str×Str)} {q:Str} (h:At kvs) (hq:IsK q):∀r,r=q\/r∈kvs.map (·.1)->IsK r:=λ r hr=>hr.elim (λ e=>e▸hq) λ hm=>by
 obtain⟨kv,h1,rfl⟩:=List.mem_map.mp hm
 exact h.k kv h1
theorem j8s {kvs:List (Str×Str)} {q:Str} (h:At kvs) (hq:IsK q):k7b Uo Lo q kvs where
 n:=λ r hr=>by
  obtain⟨k,hk,rfl⟩:=h.isK hq r hr
  rw[Uo_k hk,Lo_k hk]
  exact⟨j8r hk,by unfold kL lS;split<;>decide,jA (rp_u (k % 14) (Nat.mod_lt _ (by decide))).2 (by decide)⟩
 v:=λ kv hm=>by obtain⟨j,hj,e⟩:=h.v kv hm;rw[e];exact jA (rp_v j hj).2 (by decide)
 l:=h.l
 s:=k3l λ hm=>by
  obtain⟨kv,h1,e⟩:=List.mem_map.mp hm
  obtain⟨z,h2,rfl⟩:=List.mem_map.mp h1
  obtain⟨k,hk,e2⟩:=h.k z h2
  exact k9k k hk (e2.symm.trans e)
theorem q4w {q:Str} {kvs:List (Str×Str)} {u:Str} (h:u∈ml q kvs):u∈w1m q kvs/\u≠xmlS/\u∈SU:=by
 obtain⟨h1,h2⟩:=List.mem_filter.mp h
 obtain⟨h3,h4⟩:=(Bool.and_eq_true ..).mp h2
 exact⟨List.contains_iff_mem.mp h3,λ e=>by rw[decide_eq_true e]at h4;exact absurd h4 (by decide),h1⟩
theorem v1a:∀k<28,kU k∈SUk.map uS:=by decide +kernel
theorem j1r {q r:Str} {kvs:List (Str×Str)} (hr:r=q\/r∈kvs.map (·.1)) (hk:IsK r):Uo r=xmlS\/Uo r∈ml q kvs:=by
 by_cases e:Uo r=xmlS
 ·exact .inl e
 ·refine .inr (List.mem_filter.mpr ⟨?_,?_⟩)
  ·obtain⟨k,hk,rfl⟩:=hk
   rw[Uo_k hk];exact v1a k hk
  ·rw[decide_eq_false e,List.contains_iff_mem.mpr (show Uo r∈w1m q kvs from List.mem_map_of_mem (List.mem_cons.mpr hr))];rfl
theorem z9h {q:Str} {kvs:List (Str×Str)} (h:kvs.length<=3):(ml q kvs).length<=4:=
 jA (w1t (w8m.filter _) λ u hu=>(q4w hu).1) (by rw[w1m,List.length_map,List.length_cons,List.length_map];exact Nat.succ_le_succ h)
theorem w0j (q:Str) (kvs:List (Str×Str)):(ml q kvs).Nodup:=w8m.filter _
theorem w9l {nd us:List Str} {u:Str} (h:u∈us):u∈ndS nd us:=by
 unfold ndS
 by_cases q:u∈nd
 ·exact List.mem_append_left _ q
 ·exact List.mem_append_right _ (List.mem_filter.mpr ⟨h,by rw[Bool.eq_false_iff.mpr λ z=>q (List.contains_iff_mem.mp z)];rfl⟩)
noncomputable def mkE (nd:List Str) (q:Str) (kvs:List (Str×Str)):Ent:=(q,tg (px (ndS nd (ml q kvs)) (Uo q)) (Lo q),ml q kvs)
theorem j0y {nd:List Str} {q:Str} {kvs:List (Str×Str)} (hq:IsK q) (h:kvs.length<=3):q3h (ndS nd (ml q kvs)) (mkE nd q kvs):=
 ⟨hq,rfl,λ u hu=>⟨(q4w hu).2.1,w9l hu,(q4w hu).2.2⟩,j1r (.inl rfl) hq,Nat.le_succ_of_le (z9h h),w0j q kvs⟩
noncomputable def incE (nd:List Str) (r:List Ent) (q:Str) (kvs:List (Str×Str)):Str:=
 inc (ndS nd (ml q kvs)) (mkE nd q kvs).2.1 (q0u (pxs (ndS nd (ml q kvs)) ((ml q kvs).filter λ u=>!(Pof r).contains u))) kvs
section
variable (n:Nat) (w:Who->W) (fq pa:List AV) (x:Store) (i:Who) {k m:Nat} {nd:List Str} {r:List Ent} {d:Str} {q:Str} {av:AV} {kvs:List (Str×Str)}
theorem z9j:Bw w fq pa x i (w i)=Bs w fq pa x:=by rw[Bw,j9x]
theorem z9i (H:Wi k m x nd r d (w i)) (he:∀e∈r,q3h nd e) (hz:nd.length<=14) (hr:r.length<=1000) (hk:k<=1000) (hm:m<=1000) (hq:IsK q) (hA:At kvs) (hV:DV x av kvs) :
  ∃y a' j,q0e T (n+4) 120 [.obj (obA i),.str q,av] [] (Bs w fq pa x)=some (.none,Bs (upd w i a') fq pa (x++y))/\Wi (k+4) m (x++y) (ndS nd (ml q kvs)) (mkE nd q kvs::r) (d++incE nd r q kvs) a'
   /\a'.nl=(w i).nl++[.loc (j+34)]/\(x++y)[j]? = some (.list [])/\x.length<j/\a'.dl=(w i).dl++[.loc (x.length+34)]/\a'.n0=(w i).n0:=by
 obtain⟨a1,f,ts,o,e,l⟩:=H.tx.dry hk hm
 have hn:=k0h (hA.isK hq) (k1o r) (z4x he)
 have hl:=H.lv.len
 rw[List.length_reverse]at hl
 have hnl:=H.nl
 have hr1:r.length+1<100000:=jB (Nat.succ_le_succ hr) (by decide)
 (refine Classical.byContradiction λ kk0=>?_;obtain⟨y,ec,hN⟩:=k2y n w fq pa x i (w i) Uo Lo (q:=q) (av:=av) (kvs:=kvs) (M:=nd) (P:=Pof r) f (by rw[o];exact H.map) (by rw[o];exact j4l H.lv he hz) hV (j8s hA hq) (jA hz (by decide))
   (p:=List.replicate r.length (.bool false)) (b:=false) (by rw[o];show(w i).pres=_;rw[H.pres,List.replicate_succ']) (by rw[o];show(w i).pres.length<_;rw[H.pres,List.length_replicate];exact hr1) (by rw[o];show(ts.map AV.str).length<_;rw[List.length_map];exact jB (jA l (Nat.succ_le_succ hk)) (by decide))
   (by rw[o];show(w i).nl.length<_;rw[hnl];exact hr1) (by rw[o];show(w i).dl.length<_;rw[hl];exact hr1) hn<;>(refine kk0 ?_;clear kk0))
 rw[z9j]at ec
 obtain⟨us,eo,ej,el⟩:=k5d (nd:=ndS nd (ml q kvs)) (us:=(ml q kvs).filter λ u=>!(Pof r).contains u) (nm:=(mkE nd q kvs).2.1) (λ u hu=>(q4w (List.mem_filter.mp hu).1).2.2) hA
 refine⟨_,_,x.length+1+y.length,ec,⟨rfl,?_,?_,?_,λ _=>rfl,ts++us,[],?_,?_,?_,?_,Nat.zero_le _,(λ _ h=>absurd h List.not_mem_nil),λ h=>absurd rfl h⟩,by rw[o],?_,jC (Nat.lt_succ_self _) (jG _ _),by rw[o],by rw[o]⟩
 ·rw[o]
  exact k9d (e:=mkE nd q kvs) (L:=(ml q kvs).filter λ u=>!nd.contains u) H.lv he
 ·rw[o]
  show(w i).pres++_=_
  rw[H.pres,<-List.replicate_succ'];rfl
 ·rw[o]
  show((w i).nl++_).length=_
  rw[List.length_append,hnl];rfl
 ·rw[o,List.map_append]
  exact congrArg _ eo
 ·rw[o];rfl
 ·simp only[q2p,q3n,q9d,e,ej];rfl
 ·rw[List.length_append];exact jA (jH l el) (jD (k+4))
 ·rw[List.getElem?_append_right (jA (Nat.le_succ _) (jG _ _)),show x.length+1+y.length - x.length=y.length+1 from(by rw[Nat.add_assoc,Nat.add_sub_cancel_left,Nat.add_comm]),List.getElem?_cons_succ,List.getElem?_concat_length]
end
theorem Tx.le {k m k' m':Nat} {d:Str} {a:W} (h:Tx k m d a) (hk:k<=k') (hm:m<=m'):Tx k' m' d a:=by
 obtain⟨ts,ds,o,q,e,lo,ld,h,sn⟩:=h
 exact⟨ts,ds,o,q,e,jA lo hk,jA ld hm,h,sn⟩
theorem Wi.le {k m k' m':Nat} {x:Store} {nd:List Str} {r:List Ent} {d:Str} {a:W} (h:Wi k m x nd r d a) (hk:k<=k') (hm:m<=m'):Wi k' m' x nd r d a:=⟨h.map,h.lv,h.pres,h.nl,h.sn,h.tx.le hk hm⟩
theorem z8n {x x':Store} {nd:List Str} {d:List AV} {r:List Ent} (h:Lvs x nd d.reverse r) (k:w0a x x' d) (he:∀e∈r,q3h nd e):Lvs x' nd d.reverse r:=by
 have:=h.mono (L:=[]) (z8j k) he
 rw[List.append_nil]at this
 exact this
theorem Wi.keep {k m:Nat} {x x':Store} {nd:List Str} {r:List Ent} {d:Str} {a:W} (h:Wi k m x nd r d a) (kk:w0a x x' a.dl) (he:∀e∈r,q3h nd e):Wi k m x' nd r d a:=⟨h.map,z8n h.lv kk he,h.pres,h.nl,h.sn,h.tx⟩
theorem Wi.wz {k m:Nat} {x:Store} {nd:List Str} {r:List Ent} {d:Str} {a:W} (h:Wi k m x nd r d a) (l:List AV):Wi k m x nd r d (a.wz l):=by
 obtain⟨h1,h2,h3,h4,h5,ts,ds,o,q,e,lo,ld,h,sn⟩:=h
 exact⟨h1,h2,h3,h4,h5,ts,ds,o,q,e,lo,ld,h,sn⟩
theorem Wi.dry {k m:Nat} {x:Store} {nd:List Str} {r:List Ent} {d:Str} {a a1:W} (h:Wi k m x nd r d a) (D:Dry k d a a1):Wi k m x nd r d a1:=by
 obtain⟨f,ts,o,e,l⟩:=D
 subst o
 exact⟨h.map,h.lv,h.pres,h.nl,h.sn,ts,[],rfl,rfl,by rw[q2p,q3n,e],l,Nat.zero_le _,(λ _ h=>absurd h List.not_mem_nil),λ h=>absurd rfl h⟩
section
variable (n:Nat) (w:Who->W) (fq pa:List AV) (x:Store) (i:Who) {k m:Nat} {nd:List Str} {r:List Ent} {d:Str} {e:Ent}
set_option tactic.hygienic true in theorem j4m {a:List AV} (h:Lvs x nd a.reverse (e::r)):∃D v,a=D++[v]/\Lvs x nd D.reverse r:=by
 generalize hg:a.reverse=b at h
 rcases h with _|⟨h,t⟩
 rename_i v dl
 refine⟨dl.reverse,v,?_,by rw[List.reverse_reverse];exact t⟩
 rw[<-List.reverse_reverse a,hg,List.reverse_cons]
theorem j1t (H:Wi k m x nd (e::r) d (w i)) (he:∀e'∈e::r,q3h nd e') (hz:nd.length<=14) (hk:k<=1000) (hm:m<=1000) :
  ∃y a' l,q0e T (n+3) 133 [.obj (obA i),.str e.1] [] (Bs w fq pa x)=some (.none,Bs (upd w i a') fq pa (x++y))/\Wi (k+2) 0 (x++y) nd r (d++closes e.2.1) a'
   /\(w i).nl=a'.nl++[l]/\(∀v∈a'.dl,v∈(w i).dl)/\a'.n0=(w i).n0:=by
 obtain⟨a1,D0⟩:=H.tx.dry hk hm
 obtain⟨f,ts,o,et,lt⟩:=D0
 obtain⟨D,v,ed,hd⟩:=j4m x H.lv
 have hE:=he e (jL ..)
 have hE':∀e'∈r,q3h nd e':=λ e' h=>he e' (jK _ h)
 obtain⟨j,hj,ej⟩:=hE.k
 have hnl:=H.nl
 have e3:(w i).nl=(w i).nl.dropLast++[(w i).nl.getLast (λ z=>by rw[z]at hnl;exact absurd hnl (Nat.succ_ne_zero _).symm)]:=(List.dropLast_concat_getLast _).symm
 obtain⟨S,ec⟩:=j7k n w fq pa x i (w i) (q:=e.1) (u:=Uo e.1) (t:=Lo e.1) (M:=nd) (P:=Pof (e::r)) f (by rw[ej,Uo_k hj,Lo_k hj];exact j8r hj) (by rw[ej,Lo_k hj];unfold kL lS;split<;>decide) (by rw[o];exact H.lv.lv) (q8w he) (z4x he) (jA hz (by decide)) (jB (k1n he) (by decide))
  (q8a.mpr (hE.m.imp id λ h=>List.mem_append_left _ h)) (by rw[o];show(ts.map AV.str).length<_;rw[List.length_map];exact jB (jA lt (Nat.succ_le_succ hk)) (by decide)) (pr:=List.replicate (r.length+1) (.bool false)) (b:=.bool false) (by rw[o];show(w i).pres=_;rw[H.pres,<-List.replicate_succ'];rfl) (by rw[o];exact ed) (by rw[o];exact e3)
 rw[z9j]at ec
 refine⟨_,_,_,ec,⟨by rw[o];exact H.map,z8n hd (λ _ _ _ h=>w3a _ h) hE',rfl,?_,λ _=>by rw[o];exact H.sn (λ h=>nomatch h),ts++[closes e.2.1],[],?_,by rw[o];rfl,?_,?_,Nat.zero_le _,(λ _ h=>absurd h List.not_mem_nil),λ h=>absurd rfl h⟩,e3,λ v hv=>?_,by rw[o]⟩
 ·show(w i).nl.dropLast.length=_
  rw[List.length_dropLast,hnl];rfl
 ·rw[o,List.map_append]
  show ts.map AV.str++[.str (closes (tg (px nd (Uo e.1)) (Lo e.1)))]=_
  rw[<-hE.n];rfl
 ·simp only[q2p,q3n,q9d,q9e,et]
 ·rw[List.length_append];exact Nat.succ_le_succ lt
 ·rw[ed];exact List.mem_append_left _ hv
theorem z7e {t:Str} (H:Wi k m x nd r d (w i)) (hr:r≠[]) (hm:m<=1000) (ht:t.length=1\/t.length=2) :
  ∃a',q0e T (n+1) 97 [.obj (obA i),.str t] [] (Bs w fq pa x)=some (.none,Bs (upd w i a') fq pa x)/\Wi k (m+1) x nd r (d++escC t) a'/\a'.dl=(w i).dl/\a'.nl=(w i).nl/\a'.n0=(w i).n0:=by
 obtain⟨ts,ds,o,q,et,lo,ld,h,sn⟩:=H.tx
 have ec:=j3f w fq pa x i (w i) n t (by rw[q,List.length_map];exact jB (jA ld hm) (by decide))
 rw[z9j]at ec
 refine⟨_,ec,⟨H.map,H.lv,H.pres,H.nl,H.sn,ts,ds++[t],o,?_,?_,lo,?_,λ s hs=>?_,λ _=>H.sn hr⟩,rfl,rfl,rfl⟩
 ·show(w i).data++_=_
  rw[q,List.map_append];rfl
 ·simp only[q9d,q9e,z7w,<-et,q1t]
 ·rw[List.length_append];exact Nat.succ_le_succ ld
 ·rcases List.mem_append.mp hs with hs|hs
  ·exact h s hs
  ·rw[jJ hs];exact ht
end
theorem q6s {a b:Nat} (h:AV.loc a=AV.loc b):a=b:=by injection h
theorem k9a {a b:List AV} (h:AObj.list a=AObj.list b):a=b:=by injection h
noncomputable def NsAt (c:Nat) (x:Store) (z:List AV) (v:AV):Prop:=(v = .loc 29/\z.length<=c)\/∃j B,v = .loc (j+34)/\x[j]? = some (.list B)/\B.length<=c
structure Sp (c:Nat) (x:Store) (w:Who->W):Prop where
 f:∀v∈(w .s).nl,∀i,v∉(w i).dl
 a:∀v∈(w .s).nl,NsAt c x (w .s).n0 v
theorem w0o {x:Store} {j:Nat} {o:AObj} (y:Store) (h:x[j]? = some o):(x++y)[j]? = some o:=by rw[List.getElem?_append_left (List.getElem?_eq_some_iff.mp h).1];exact h
theorem NsAt.app {c c':Nat} {x:Store} {z:List AV} {v:AV} (y:Store) (hc:c<=c') (h:NsAt c x z v):NsAt c' (x++y) z v:=by
 rcases h with⟨h1,h2⟩|⟨j,B,h1,h2,h3⟩
 ·exact .inl ⟨h1,jA h2 hc⟩
 ·exact .inr ⟨j,B,h1,w0o y h2,jA h3 hc⟩
theorem NsAt.new {c:Nat} {x:Store} {z:List AV} {v:AV} (h:NsAt c x z v):v≠.loc (x.length+34):=by
 rcases h with⟨h1,h2⟩|⟨j,B,h1,h2,h3⟩
 ·rw[h1]
  exact λ e=>absurd (q6s e) (Nat.ne_of_lt (jC (show 29<34 by decide) (Nat.le_add_left 34 _)))
 ·rw[h1]
  have:=(List.getElem?_eq_some_iff.mp h2).1
  exact λ e=>absurd (Nat.add_right_cancel (q6s e)) (Nat.ne_of_lt this)
theorem Sp.other {c c':Nat} {x:Store} {w:Who->W} (h:Sp c x w) (y:Store) (hc:c<=c') {i:Who} {a:W} (hi:i≠.s) (hd:∀v∈a.dl,v∈(w i).dl\/v = .loc (x.length+34)):Sp c' (x++y) (upd w i a):=by
 have e:upd w i a .s=w .s:=z9f w a hi
 refine⟨λ v hv j=>?_,λ v hv=>?_⟩
 ·rw[e]at hv
  by_cases q:i=j
  ·subst q
   rw[q4v]
   exact λ hm=>(hd v hm).elim (h.f v hv i) (h.a v hv).new
  ·rw[z9f w a q];exact h.f v hv j
 ·rw[e]at hv ⊢
  exact(h.a v hv).app y hc
theorem Sp.self {c c':Nat} {x:Store} {w:Who->W} (h:Sp c x w) (y:Store) (hc:c<=c') {a:W} (hz:a.n0=(w .s).n0) (hd:∀v∈a.dl,v∈(w .s).dl\/v = .loc (x.length+34)) (hn:∀v∈a.nl,v∈(w .s).nl\/(∃j,v = .loc (j+34)/\x.length<j/\(x++y)[j]? = some (.list [])/\∀i,∀l∈(w i).dl,∃b,l = .loc b/\b<x.length+34)):Sp c' (x++y) (upd w .s a):=by
 refine⟨λ v hv i=>?_,λ v hv=>?_⟩
 ·rw[q4v]at hv
  have mh:∀l,(l∈(w i).dl\/l = .loc (x.length+34))->v≠l:=λ l hl e=>by
   rcases hn v hv with k|⟨j,e1,k1,_,k2⟩
   ·exact hl.elim (λ hl=>h.f v k i (e▸hl)) λ hl=>(h.a v k).new (e.trans hl)
   ·rcases hl with hl|hl
    ·obtain⟨b,eb,hb⟩:=k2 i l hl
     exact absurd (q6s (eb.symm.trans (e.symm.trans e1))) (Nat.ne_of_lt (jC hb (Nat.add_le_add_right (jF k1) 34)))
    ·exact absurd (Nat.add_right_cancel (q6s (hl.symm.trans (e.symm.trans e1)))) (Nat.ne_of_lt k1)
  by_cases q:i = .s
  ·subst q
   rw[q4v]
   exact λ hm=>mh v (hd v hm) rfl
  ·rw[z9f w a (Ne.symm q)];exact λ hm=>mh v (.inl hm) rfl
 ·rw[q4v]at hv ⊢
  rw[hz]
  rcases hn v hv with k|⟨j,e1,_,k1,_⟩
  ·exact(h.a v k).app y hc
  ·exact .inr ⟨j,[],e1,k1,Nat.zero_le _⟩
set_option tactic.hygienic true in theorem k8t {x:Store} {j:Nat} {o:AObj} {d:List AV} (h:AV.loc (j+34)∉d):w0a x (x.set j o) d:=λ v hv L e=>by
 induction v using AV.casesOn with
 | loc l=>
  have e:lvN x l=some L:=e
  show lvN (x.set j o) l=some L
  unfold lvN at e ⊢
  split
  ·rename_i q;rw[if_pos q]at e;exact e
  ·rename_i q
   rw[if_neg q]at e
   split
   ·rename_i q;rw[if_pos q]at e;exact e
   ·rename_i q
    rw[if_neg q]at e
    refine q0o e λ q e=>?_
    rw[if_pos q]
    have hne:j≠l - 34:=λ z=>h (by rw[z,Nat.sub_add_cancel q];exact hv)
    exact q3r (by rw[List.getElem?_set_ne hne];exact w2z e)
 | _=>exact nope e
section
variable (n:Nat) (w:Who->W) (fq pa:List AV) (x:Store) {k m c:Nat} {nd:List Str} {r:List Ent} {d p u:Str}
theorem v2n (H:Wi k m x nd r d (w .s)) (hS:Sp c x w) (he:∀e∈r,q3h nd e) (hk:k<=1000) (hm:m<=1000) (hc:c<=1000) :
  ∃x' a',q0e T (n+3) 113 [.obj 24,.str p,.str u] [] (Bs w fq pa x)=some (.none,Bs (upd w .s a') fq pa x')/\Wi (k+1) m x' nd r d a'/\Sp (c+1) x' (upd w .s a')/\x'.length=x.length/\(∀i,w0a x x' (w i).dl)
   /\(∀(j:Nat) kvs,x[j]? = some (AObj.dict kvs)->x'[j]? = some (AObj.dict kvs))/\a'.dl=(w .s).dl:=by
 obtain⟨a1,D0⟩:=H.tx.dry hk hm
 have H1:Wi (k+1) m x nd r d a1:=(H.le (Nat.le_succ k) (jD m)).dry D0
 obtain⟨f,ts,o,et,lt⟩:=D0
 have hnl:=H.nl
 (refine Classical.byContradiction λ kk0=>?_;obtain⟨N,v,en⟩:∃N v,(w .s).nl=N++[v]:=⟨_,_,(List.dropLast_concat_getLast (λ z=>by rw[z]at hnl;exact absurd hnl (Nat.succ_ne_zero _).symm)).symm⟩<;>(refine kk0 ?_;clear kk0))
 have hv:v∈(w .s).nl:=by rw[en];simp
 have hn1:a1.nl=(w .s).nl:=by rw[o]
 have hd1:a1.dl=(w .s).dl:=by rw[o]
 have hz1:a1.n0=(w .s).n0:=by rw[o]
 have sf:∀a',a'.dl=(w .s).dl->a'.nl=(w .s).nl->∀v∈(upd w .s a' .s).nl,∀i,v∉(upd w .s a' i).dl:=λ a' e1 e2 v hv i=>by
  rw[q4v,e2]at hv
  by_cases q:i = .s
  ·subst q;rw[q4v,e1];exact hS.f v hv .s
  ·rw[z9f w a' (Ne.symm q)];exact hS.f v hv i
 rcases hS.a v hv with⟨e1,e2⟩|⟨j,B,e1,e2,e3⟩
 ·subst e1
  have e:=j8v n w fq pa x .s (w .s) (p:=p) (u:=u) f (N:=N) (l:=29) (B:=a1.n0) (hn1.trans en) rfl (by rw[hz1];exact jB (jA e2 hc) (by decide))
  rw[z9j]at e
  refine⟨x,a1.wz (a1.n0++[q0c (u,p)]),e,H1.wz _,⟨sf _ hd1 hn1,λ v' hv'=>?_⟩,rfl,λ i v _ L h=>h,λ _ _ h=>h,hd1⟩
  rw[q4v]at hv' ⊢
  rcases hS.a v' (hn1▸hv')with⟨k1,k2⟩|⟨j,B,k1,k2,k3⟩
  ·exact .inl ⟨k1,by show(a1.n0++_).length<=_;rw[List.length_append,hz1];exact Nat.succ_le_succ k2⟩
  ·exact .inr ⟨j,B,k1,k2,Nat.le_succ_of_le k3⟩
 ·subst e1
  have e:=j8v n w fq pa x .s (w .s) (p:=p) (u:=u) f (N:=N) (l:=j+34) (B:=B) (hn1.trans en) e2 (jB (jA e3 hc) (by decide))
  rw[z9j]at e
  have hk:∀i,w0a x (x.set j (.list (B++[q0c (u,p)]))) (w i).dl:=λ i=>k8t (hS.f _ hv i)
  refine⟨x.set j (.list (B++[q0c (u,p)])),a1,e,H1.keep (by rw[hd1];exact hk .s) he,⟨sf _ hd1 hn1,λ v' hv'=>?_⟩,List.length_set ..,hk,λ j' kvs h=>?_,hd1⟩
  ·rw[q4v]at hv' ⊢
   rcases hS.a v' (hn1▸hv')with⟨k1,k2⟩|⟨j',B',k1,k2,k3⟩
   ·exact .inl ⟨k1,by rw[hz1];exact Nat.le_succ_of_le k2⟩
   ·by_cases q:j=j'
    ·subst q
     obtain rfl:=k9a (jI (e2.symm.trans k2))
     exact .inr ⟨j,B++[q0c (u,p)],k1,by rw[List.getElem?_set_self (List.getElem?_eq_some_iff.mp e2).1],by rw[List.length_append];exact Nat.succ_le_succ k3⟩
    ·exact .inr ⟨j',B',k1,by rw[List.getElem?_set_ne q];exact k2,Nat.le_succ_of_le k3⟩
  ·have q:j≠j':=λ q=>by subst q;exact absurd (jI (e2.symm.trans h)) (λ z=>nomatch z)
   rw[List.getElem?_set_ne q];exact h
end
theorem j7a {x:Store} {j:Nat} {kvs:List (Str×Str)} (h:x[j]? = some (.dict (kvs.map q0p))):DV x (.loc (j+34)) kvs where
 n:=rfl
 d:=λ w nd pa c i a=>by
  show(match (x++c)[j]? with|some (.dict kvs)=>some kvs|_=>none)=_
  rw[w0o c h]
 t:=λ w nd pa c i a=>by
  show(match (x++c)[j]? with|some (.list xs)=>some (!xs.isEmpty)|some (.dict kvs)=>some (!kvs.isEmpty)|_=>none).bind _=_
  rw[w0o c h]
  cases kvs<;>rfl
theorem j6z (x:Store) (kvs:List (Str×Str)):DV x (.fd ((kvs.map q0p).map (·.1)) ((kvs.map q0p).map (·.2))) kvs where
 n:=rfl
 d:=λ w nd pa c i a=>congrArg some (z1a _)
 t:=λ w nd pa c i a=>by cases kvs<;>rfl
inductive Ei (c:Nat) (x:Store) (a:W):Prop
 | mk (P M:List Str) (p:List AV) (b:Bool) (m:a.map=mp M) (n:Nst x a.dl P M []) (hm:M.length<=c) (hP:P.length<=c+1) (pr:a.pres=p++[.bool b]) (pl:a.pres.length<=c+5) (nl:a.nl.length<=c+5) (dl:a.dl.length<=c+5) (o:a.out.length<=5 * c+5) (q:a.data=[])
noncomputable def qE (k:Nat):Str:=Str.ofString "{y"++q1e (k:Int)++Str.ofString "}y"
noncomputable def uE (k:Nat):Str:=Str.ofString "y"++q1e (k:Int)
theorem nm_E {k:Nat} (hk:k<150):Nm (qE k) (uE k) (Str.ofString "y"):=λ C d σ=>forN (f:=λ k=>q3k C [some (.obj d),some (.str (qE k)),some .none,none,none,none,none] σ) (g:=λ k=>some (.next,vQ d (qE k) (uE k) (Str.ofString "y") none none none,σ)) 150 (nr (by kernel_rfl)) hk
theorem j9w:∀k<150,(uE k).length<=50:=by decide +kernel
theorem Ei.keep {c c':Nat} {x x':Store} {a:W} (h:Ei c x a) (hc:c<=c') (k:w0a x x' a.dl):Ei c' x' a:=by
 obtain⟨P,M,p,b,m,n,hm,hP,pr,pl,nl,dl,o,q⟩:=h
 exact⟨P,M,p,b,m,n.mono k,jA hm hc,jA hP (Nat.succ_le_succ hc),pr,jA pl (Nat.add_le_add_right hc 5),jA nl (Nat.add_le_add_right hc 5),jA dl (Nat.add_le_add_right hc 5),jA o (Nat.add_le_add_right (Nat.mul_le_mul_left 5 hc) 5),q⟩
section
variable (n:Nat) (w:Who->W) (fq pa:List AV) (x:Store) {c:Nat}
theorem k7w (H:Ei c x (w .e)) (hc:c<=150) {k:Nat} (hk:k<150) :
  ∃y a',q0e T (n+4) 120 [.obj 12,.str (qE k),.fd [] []] [] (Bs w fq pa x)=some (.none,Bs (upd w .e a') fq pa (x++y))/\Ei (c+1) (x++y) a'/\a'.dl=(w .e).dl++[.loc (x.length+34)]:=by
 obtain⟨P,M,p,b,m,hN,hm,hP,pr,pl,nl,dl,o,q⟩:=H
 have en:lf (qE k) []=[qE k]:=List.mergeSort_singleton _
 have hf:(lf (qE k) []).foldl (nst (λ _=>uE k) P) (M,[])=(nM P M [] (uE k),nL P [] (uE k)):=by rw[en];rfl
 have hU:k7b (λ _=>uE k) (λ _=>Str.ofString "y") (qE k) []:=⟨λ r hr=>by
  rcases hr with rfl|hr
  ·exact⟨nm_E hk,by decide,j9w k hk⟩
  ·exact absurd hr List.not_mem_nil,λ _ h=>absurd h List.not_mem_nil,Nat.zero_le _,rfl⟩
 have h5:∀{z},z<=c+5->z<100000:=λ h=>jB (jA h (Nat.add_le_add_right hc 5)) (by decide)
 rcases _:k2y n w fq pa x .e (w .e) (λ _=>uE k) (λ _=>Str.ofString "y") (q:=qE k) (av:=.fd [] []) (kvs:=[]) (M:=M) (P:=P) (.no q) m hN (j6z x []) hU (jA hm (jA hc (by decide))) pr (h5 pl) (jB (jA o (Nat.add_le_add_right (Nat.mul_le_mul_left 5 hc) 5)) (by decide)) (h5 nl) (h5 dl) hf with⟨y,e,hN'⟩
 dsimp only[z9j]at e
 have h1:=j1a P M [] (uE k)
 have h2:=k4t P [] (uE k)
 have hl:(nL P [] (uE k)++P).length<=c+2:=by rw[List.length_append,Nat.add_comm];exact jA (jH hP h2) (jD (c+2))
 have ho:(opens (tg (px (nM P M [] (uE k)) (uE k)) (Str.ofString "y")) (attL (λ _=>uE k) (λ _=>Str.ofString "y") (nM P M [] (uE k)) (nL P [] (uE k)) [])).length<=3:=by
  unfold opens
  split
  ·exact Nat.le_succ 2
  ·exact jD 3
 refine⟨_,_,e,⟨_,_,_,_,rfl,hN'.next (jA hl (jA (Nat.add_le_add_right hc 2) (by decide))),jA h1 (Nat.succ_le_succ hm),hl,rfl,?_,?_,?_,?_,q⟩,rfl⟩
 ·show((w .e).pres++_).length<=_;rw[List.length_append];exact Nat.succ_le_succ pl
 ·show((w .e).nl++_).length<=_;rw[List.length_append];exact Nat.succ_le_succ nl
 ·show((w .e).dl++_).length<=_;rw[List.length_append];exact Nat.succ_le_succ dl
 ·show((w .e).out++_).length<=_;rw[List.length_append];exact jA (jH o ho) (Nat.add_le_add_left (show 3<=5 by decide) (5 * c+5))
end
section
variable (n:Nat) (C:q0a) (w:Who->W) (nd pa:List AV) (x:Store) (sc mf:AV) (mw mo k lw lj mj mm lf ly lh mq lk lm lx lr:Option AV) (r:Int) (q:Str) (A G:Nat) {σ:Store} {kvs:List (Str×Str)}
theorem j6l (h3:kvs.length<=3) (hd:q0k (Bs w nd pa x) (.loc A)=some (kvs.map q0p)):q8g C (vK sc mf mw mo k lw mj lm lx lr r q A lj mm lf ly lh mq lk) (Bs w nd pa x)=some (.next,vK sc mf mw mo k lw mj lm lx lr r q A (some (.loc (x.length+34))) mm lf ly lh mq lk,Bs w nd pa (x++[.dict (kvs.map q0p)])):=by
 simp only[b_3]
 refine q7t (v:=.loc (x.length+34)) (q5l rfl ?_)
 show((q0k (Bs w nd pa x) (.loc A)).bind λ kvs=>if kvs.length<=15 then some (AV.loc (Bs w nd pa x).length,Bs w nd pa x++[AObj.dict kvs])else none)=_
 rw[hd]
 exact if_pos (by rw[List.length_map];exact jA h3 (by decide))
theorem k3g:∀r:List (Str×Str),(∀kv∈r,q0t kv.1 (kvs.map q0p)=some (.str kv.2))->eqDs (kvs.map q0p) (r.map q0p)=some true
 | [],_=>rfl
 | kv::r,h=>by
  show optC (q0t kv.1 (kvs.map q0p)) (λ y=>(z7u (.str kv.2) y).bind λ a=>(eqDs (kvs.map q0p) (r.map q0p)).map λ b=>a&&b) (some false)=_
  rw[h kv (jL ..),k3g r λ z hz=>h z (jK _ hz)]
  show some (decide (kv.2=kv.2)&&true)=_
  rw[decide_eq_true rfl];rfl
theorem j6m (hA:At kvs) (h1:q0k σ (.loc A)=some (kvs.map q0p)) (h2:q0k σ (.loc G)=some (kvs.map q0p)):q5y C (vK sc mf mw mo k lw mj lm lx lr r q A (some (.loc G)) mm lf ly lh mq lk) σ=some (.next,vK sc mf mw mo k lw mj lm lx lr r q A (some (.loc G)) mm lf ly lh mq lk,σ):=by
 simp only[b_5]
 refine k3t ?_
 have e:eqA σ (.loc G) (.loc A)=some true:=by
  show((q0k σ (.loc G)).bind λ ka=>(q0k σ (.loc A)).bind λ kb=>if ka.length=kb.length then eqDs kb ka else some false)=_
  rw[h1,h2]
  refine(if_pos rfl).trans (k3g kvs λ kv hm=>?_)
  rw[(q9b kv.1 kvs (List.mem_map_of_mem hm)).1,z0y hA.n kv hm]
 show((eqA σ (.loc G) (.loc A)).map (!·)).bind _=_
 rw[e];rfl
theorem j6n (hq:IsK q) (h:q0e T (n+1) 113 [.obj 24,.str (Str.ofString "n"++q1e (r.fmod 5)),.str (Uo q)] [] (Bs w nd pa x)=some (.none,σ)):q5z (q0e T (n+1)) (vK sc mf mw mo k lw mj lm lx lr r q A lj mm lf ly lh mq lk) (Bs w nd pa x)=some (.next,vK sc mf mw mo k lw mj lm lx lr r q A lj mm lf ly lh mq lk,σ):=by
 obtain⟨m,h1,h2⟩:=z1t r (b:=5) (by decide)
 have h2:m<5:=h2
 obtain⟨i,hi,rfl⟩:=hq
 rw[Uo_k hi,h1]at h
 simp only[b_6,h1]
 exact es_n (z5b (σ'':=σ) (z7c (Nat.lt_trans h2 (by decide)) (by decide)) (z9g n _ hi) h)
theorem j6o (hz:pa.length<150) (h:C 120 [.obj 12,.str (qE pa.length),.fd [] []] [] (Bs w nd pa x)=some (.none,σ)):q6a C (vK sc mf mw mo k lw mj lm lx lr r q A lj mm lf ly lh mq lk) (Bs w nd pa x)=some (.next,vK sc mf mw mo k lw mj lm lx lr r q A lj mm lf ly lh mq lk,σ):=by
 have l3:(q1e (pa.length:Int)).length<=50:=forN (f:=λ(k:Nat)=>decide ((q1e (k:Int)).length<=50)) (g:=λ _=>true) 150 (nr (by kernel_rfl)) hz |> of_decide_eq_true
 simp only[b_7]
 refine es_n (z5b (σ'':=σ) (v:=.str (qE pa.length)) (σ':=Bs w nd pa x) ?_ rfl h)
 rw[z7c (Nat.lt_trans hz (by decide)) (by decide),q0d,addB (catB (show(Str.ofString "{y").length<=2 from jD 2) l3) (show(Str.ofString "}y").length<=2 from jD 2) (by decide)]
 rfl
theorem At.rev (h:At kvs):At kvs.reverse:=⟨by rw[List.length_reverse];exact h.l,by rw[List.map_reverse];exact(List.reverse_perm _).nodup_iff.mpr h.n,λ kv hm=>h.k kv (List.mem_reverse.mp hm),λ kv hm=>h.v kv (List.mem_reverse.mp hm)⟩
theorem j6p (hA:At kvs) (hd:q0k (Bs w nd pa x) (.loc A)=some (kvs.map q0p)) (h:C 120 [.obj 24,.str q,.fd ((kvs.reverse.map q0p).map (·.1)) ((kvs.reverse.map q0p).map (·.2))] [] (Bs w nd pa x)=some (.none,σ)) :
  q6b C (vK sc mf mw mo k lw mj lm lx lr r q A lj mm lf ly lh mq lk) (Bs w nd pa x)=some (.next,vK sc mf mw mo k lw mj lm lx lr r q A lj mm lf ly lh mq lk,σ):=by
 have el:biA .list [.loc A] (Bs w nd pa x)=some (.fl ((kvs.map (·.1)).map .str),Bs w nd pa x):=by
  show((q0k (Bs w nd pa x) (.loc A)).bind λ kvs=>some (AV.fl (kvs.map λ kv=>.str kv.1),Bs w nd pa x))=_
  rw[hd,List.map_map]
  show some (AV.fl ((kvs.map q0p).map _),_)=_
  rw[List.map_map];rfl
 have hz:kvs.length<10000:=jB hA.l (by decide)
 obtain⟨V',_,e⟩:=k2q (σ:=Bs w nd pa x) (V:=vK sc mf mw mo k lw mj lm lx lr r q A lj mm lf ly lh mq lk) (f:=q9u C) (v:=.fl ((kvs.reverse.map (·.1)).map .str)) (us:=kvs.reverse.map (·.1)) (g:=λ u=>.str (vOf u kvs)) rfl hA.rev.n (by rw[List.length_map,List.length_reverse];exact hz) λ u fr o0 o1 hu ha=>by
  have hu:u∈kvs.map (·.1):=by rw[List.map_reverse]at hu;exact List.mem_reverse.mp hu
  have eg:getR (Bs w nd pa x) (.loc A) (.str u)=some (.str (vOf u kvs),Bs w nd pa x):=by
   show((q0k (Bs w nd pa x) (.loc A)).bind λ kvs=>q0t u kvs).bind _=_
   rw[hd]
   show(q0t u (kvs.map q0p)).bind _=_
   rw[(q9b u kvs hu).1];rfl
  have ee:∀v,w5f fr (.str u) v (Bs w nd pa x)=some (q1a u v fr,Bs w nd pa x):=λ v=>if_pos (Nat.lt_trans ha (by decide))
  simp only[c_3,eg,q0d,ee,q0d]
 have em:(kvs.reverse.map (·.1)).map (λ u=>(u,AV.str (vOf u kvs)))=kvs.reverse.map q0p:=by
  rw[List.map_map]
  exact List.map_congr_left λ kv hm=>show(kv.1,AV.str (vOf kv.1 kvs))=_ from by rw[z0y hA.n kv (List.mem_reverse.mp hm)]
 rw[em]at e
 rw[b_8]
 refine es_n (z5b (σ'':=σ) rfl ?_ h)
 simp only[q5l rfl el,q0d,show q2l (Bs w nd pa x) (.fl ((kvs.map (·.1)).map .str)) .none .none (.int (-1))=some (.fl ((kvs.reverse.map (·.1)).map .str),Bs w nd pa x)from(nr rfl:q2l (Bs w nd pa x) (.fl ((kvs.map (·.1)).map .str)) .none .none (.int (-1))=some (.fl ((kvs.map (·.1)).map .str).reverse,Bs w nd pa x)).trans (by rw[<-List.map_reverse,<-List.map_reverse]),q0d,
  show(!goN (.fl ((kvs.reverse.map (·.1)).map .str)))=false from rfl,if_neg Bool.false_ne_true,e,q0d,q0d]
 rfl
end
structure Inv4 (c:Nat) (w:Who->W) (x:Store) (nd:List Str) (ps:List Ent) (d:Str):Prop where
 t:Wi (5 * c) (2 * c) x nd ps.reverse d (w .t)
 s:Wi (5 * c) (2 * c) x nd ps.reverse d (w .s)
 e:Ei c x (w .e)
 sp:Sp c x w
 nn:nd.Nodup
 nx:∀u∈nd,u≠xmlS/\u∈SU
 en:∀e∈ps,q3h nd e
 pl:ps.length<=c
 dz:d.length<=7000 * c
theorem k9c {x:Store} {v:AV} {L:List AV} (h:lvA x v=some L):∃b,v = .loc b/\b<x.length+34:=by
 induction v using AV.casesOn with
 | loc l=>
  refine⟨l,rfl,?_⟩
  by_cases q:l<34
  ·exact jC q (Nat.le_add_left ..)
  ·have h:lvN x l=some L:=h
   unfold lvN at h
   have q:34<=l:=Nat.le_of_not_lt q
   rw[if_neg (λ z=>by rcases z with rfl|rfl|rfl<;>exact absurd q (by decide)),if_neg (λ z=>by subst z;exact absurd q (by decide)),if_pos q]at h
   have:=(List.getElem?_eq_some_iff.mp (w2z h)).1
   exact jB (jE (Nat.sub_add_cancel q).symm) (Nat.add_lt_add_right this 34)
 | _=>exact nope h
theorem Lv.small {x:Store} {M:List Str} {d:List AV} {P:List Str} (h:Lv x M d P):∀v∈d,∃b,v = .loc b/\b<x.length+34:=by
 induction h with
 | nil=>exact λ v h=>absurd h List.not_mem_nil
 | cons h _ ih=>
  intro v hv
  rcases List.mem_cons.mp hv with rfl|hv
  ·exact k9c h
  ·exact ih v hv
theorem Sp.app {c:Nat} {x:Store} {w:Who->W} (h:Sp c x w) (y:Store):Sp c (x++y) w:=⟨h.f,λ v hv=>(h.a v hv).app y (jD c)⟩
theorem asd {x:Store} {j:Nat} {kvs:List (Str×AV)} (w:Who->W) (fq pa:List AV) (h:x[j]? = some (.dict kvs)):q0k (Bs w fq pa x) (.loc (j+34))=some kvs:=by
 show(match x[j]? with|some (.dict kvs)=>some kvs|_=>none)=_
 rw[h]
theorem z0x (q:Str) (kvs:List (Str×Str)):ml q kvs.reverse=ml q kvs:=by
 refine List.filter_congr λ u _=>congrArg (·&&_) ?_
 rw[Bool.eq_iff_iff,List.contains_iff_mem,List.contains_iff_mem,w1m,w1m,List.map_cons,List.map_cons,List.mem_cons,List.mem_cons,List.map_map,List.map_map,List.map_reverse,List.mem_reverse]
theorem k4q (nd:List Str) (q:Str) (kvs:List (Str×Str)):mkE nd q kvs.reverse=mkE nd q kvs:=by rw[mkE,mkE,z0x]
theorem k8j (nd:List Str) (r:List Ent) (q:Str) (kvs:List (Str×Str)):incE nd r q kvs.reverse=incE nd r q kvs:=by
 simp only[incE,incE,z0x,k4q,inc,inc,k0z (List.reverse_perm kvs)]
noncomputable def b1T (C:q0a) (vs:Vs) (s:Store):ResS:=sq (q6c C vs s) λ v s=>sq (q4j C v s) λ v s=>sq (q4k C v s) λ v s=>sq (q4l C v s) λ v s=>sq (q4m C v s) λ v s=>sq (q4n C v s) λ v s=>sq (q4o C v s) λ v s=>sq (q4p C v s) λ v s=>sq (q4q C v s) λ v s=>sq (q7b C v s) λ v s=>sq (q4r C v s) λ v s=>sq (q4s C v s) λ v s=>sq (q4t C v s) λ v s=>some (.next,v,s)
noncomputable def b1S (C:q0a) (vs:Vs) (s:Store):ResS:=sq (q8h C vs s) λ v s=>sq (q5y C v s) λ v s=>sq (q5z C v s) λ v s=>sq (q6a C v s) λ v s=>sq (q6b C v s) λ v s=>b1T C v s
structure Mid (c:Nat) (w:Who->W) (x:Store) (nd:List Str) (r:List Ent) (d:Str):Prop where
 t:Wi (5 * (c+1)) (2 * (c+1)) x nd r d (w .t)
 s:Wi (5 * (c+1)) (2 * (c+1)) x nd r d (w .s)
 e:Ei (c+1) x (w .e)
 sp:Sp (c+1) x w
section
variable (n:Nat) (w:Who->W) (x:Store) (sc mf:AV) (mw mo k mr mx lw lj mj mm lf ly lh mq lk lm lx lr:Option AV) (r:Int) {c:Nat} {nd:List Str} {ps:List Ent} {d:Str}
theorem z8q (h1:nd.Nodup) (h2:∀u∈nd,u≠xmlS/\u∈SU):nd.length<=14:=w1t (m:=SU) h1 λ u hu=>(h2 u hu).2
theorem j5h (fq pa:List AV):∃q kvs k' seed',IsK q/\At kvs/\q9t (q0e T (n+4)) (vM sc mf mw mo (some (.int r)) k mr mx lw lj mj mm lf ly lh mq lk lm lx lr) (Bs w fq pa x)
  = b1S (q0e T (n+4)) (vK sc mf mw mo k' seed' mj lm lx lr r q (x.length+34) (some (.loc (x.length+1+34))) mm lf ly lh mq lk) (Bs w fq pa (x++[.dict (kvs.map q0p)]++[.dict (kvs.map q0p)])):=by
 generalize hC:q0e T (n+4)=C
 rcases _:j6k (n+3) w fq pa x sc mf mw mo (some (.str (kS (ix r)))) lj mj mm lf ly lh mq lk lm lx lr r k lw with⟨kvs,k',seed',hA,e2⟩
 have e3:=j6l C w fq pa (x++[.dict (kvs.map q0p)]) sc mf mw mo k' seed' lj mj mm lf ly lh mq lk lm lx lr r (kS (ix r)) (x.length+34) hA.l (asd w fq pa (by simp))
 have e0:=z8o (n+3) r (Bs w fq pa x)
 rw[hC]at e2 e0
 rw[show(x++[AObj.dict (kvs.map q0p)]).length=x.length+1 by simp]at e3
 refine⟨kS (ix r),kvs,k',seed',⟨ix r,j4d r,rfl⟩,hA,?_⟩
 refine(stq (V:=vM sc mf mw mo (some (.int r)) k (some (.str (kS (ix r)))) mx lw lj mj mm lf ly lh mq lk lm lx lr) ((b_0 ..).trans (q7t e0)) _ rfl).trans ?_
 refine(stq (b_1 C w fq pa x sc mf mw mo k (some (.str (kS (ix r)))) mx lw lj mj mm lf ly lh mq lk lm lx lr r) _ rfl).trans ?_
 exact(stq e2 _ rfl).trans (stq e3 _ rfl)
end
section
variable (n:Nat) (w:Who->W) (x:Store) (sc mf:AV) (mw mo k lw mj mm lf ly lh mq lk lm lx lr:Option AV) (r:Int) {c:Nat} {nd:List Str} {ps:List Ent} {d q:Str} {kvs:List (Str×Str)}
theorem j5i (fq:List AV) (H:Inv4 c w x nd ps d) (hc:c<=130) (hq:IsK q) (hA:At kvs):∃w' x',b1S (q0e T (n+4)) (vK sc mf mw mo k lw mj lm lx lr r q (x.length+34) (some (.loc (x.length+1+34))) mm lf ly lh mq lk) (Bs w fq (ps.map entV) (x++[.dict (kvs.map q0p)]++[.dict (kvs.map q0p)]))
   = b1T (q0e T (n+4)) (vK sc mf mw mo k lw mj lm lx lr r q (x.length+34) (some (.loc (x.length+1+34))) mm lf ly lh mq lk) (Bs w' fq (ps.map entV) x')
  /\x'[x.length]? = some (.dict (kvs.map q0p))/\Mid c w' x' (ndS nd (ml q kvs)) (mkE nd q kvs::ps.reverse) (d++incE nd ps.reverse q kvs):=by
 have hz:=z8q H.nn H.nx
 have he:∀e∈ps.reverse,q3h nd e:=λ e h=>H.en e (List.mem_reverse.mp h)
 have hr:ps.reverse.length<=1000:=by rw[List.length_reverse];exact jA H.pl (jA hc (by decide))
 have h5:5 * c<=1000:=jA (Nat.mul_le_mul_left 5 hc) (by decide)
 have h2:2 * c<=1000:=jA (Nat.mul_le_mul_left 2 hc) (by decide)
 have he':∀e∈mkE nd q kvs::ps.reverse,q3h (ndS nd (ml q kvs)) e:=λ e h=>(List.mem_cons.mp h).elim (λ h=>h▸j0y hq hA.l) λ h=>(he e h).grow
 generalize hx2:x++[AObj.dict (kvs.map q0p)]++[AObj.dict (kvs.map q0p)]=x2
 have a1:x2[x.length]? = some (.dict (kvs.map q0p)):=by rw[<-hx2];simp
 have a2:x2[x.length+1]? = some (.dict (kvs.map q0p)):=by rw[<-hx2];simp
 have k2:∀d,w0a x x2 d:=λ d v _ L h=>by rw[<-hx2,List.append_assoc];exact w3a _ h
 have s2:Sp c x2 w:=by rw[<-hx2,List.append_assoc];exact H.sp.app _
 have l2:x.length<=x2.length:=by rw[<-hx2];simp
 rcases _:z9i n w fq (ps.map entV) x2 .t (H.t.keep (k2 _) he) he hz hr h5 h2 hq hA (j7a a2)with⟨y1,at',j1,e4,t3,_,_,_,td,_⟩
 have s3:Sp c (x2++y1) (upd w .t at'):=s2.other y1 (jD c) (λ h=>nomatch h) λ v hv=>by rw[td]at hv;exact(List.mem_append.mp hv).imp id jJ
 have b1:=w0o y1 a1
 have b2:=w0o y1 a2
 have S3:Wi (5 * c) (2 * c) (x2++y1) nd ps.reverse d (upd w .t at' .s):=(H.s.keep (k2 _) he).keep (q1w x2 y1 _) he
 have E3:Ei c (x2++y1) (upd w .t at' .e):=(H.e.keep (jD c) (k2 _)).keep (jD c) (q1w x2 y1 _)
 have T3:Wi (5 * c+4) (2 * c) (x2++y1) (ndS nd (ml q kvs)) (mkE nd q kvs::ps.reverse) (d++incE nd ps.reverse q kvs) (upd w .t at' .t):=t3
 generalize upd w .t at'=w1 at e4 s3 S3 E3 T3
 generalize x2++y1=x3 at *
 obtain⟨x4,as',e6,S4,s4,l4,k4,kd,dl4⟩:=v2n (n+1) w1 fq (ps.map entV) x3 (p:=Str.ofString "n"++q1e (r.fmod 5)) (u:=Uo q) S3 s3 he h5 h2 (jA hc (by decide))
 have T4:Wi (5 * c+4) (2 * c) x4 (ndS nd (ml q kvs)) (mkE nd q kvs::ps.reverse) (d++incE nd ps.reverse q kvs) (upd w1 .s as' .t):=T3.keep (k4 .t) he'
 have E4:Ei c x4 (upd w1 .s as' .e):=E3.keep (jD c) (k4 .e)
 have S4':Wi (5 * c+1) (2 * c) x4 nd ps.reverse d (upd w1 .s as' .s):=S4
 generalize upd w1 .s as'=w2 at e6 s4 T4 E4 S4'
 have hp:(ps.map entV).length<150:=by rw[List.length_map];exact jB (jA H.pl hc) (by decide)
 obtain⟨y5,ae,e7,E5,ed⟩:=k7w n w2 fq (ps.map entV) x4 E4 (jA hc (by decide)) hp
 have T5:Wi (5 * c+4) (2 * c) (x4++y5) (ndS nd (ml q kvs)) (mkE nd q kvs::ps.reverse) (d++incE nd ps.reverse q kvs) (upd w2 .e ae .t):=T4.keep (q1w x4 y5 _) he'
 have S5:Wi (5 * c+1) (2 * c) (x4++y5) nd ps.reverse d (upd w2 .e ae .s):=S4'.keep (q1w x4 y5 _) he
 have s5:Sp (c+1) (x4++y5) (upd w2 .e ae):=s4.other y5 (jD _) (λ h=>nomatch h) λ v hv=>by rw[ed]at hv;exact(List.mem_append.mp hv).imp id jJ
 have c5:=w0o y5 (kd _ _ b1)
 have E5':Ei (c+1) (x4++y5) (upd w2 .e ae .e):=E5
 generalize upd w2 .e ae=w3 at e7 T5 S5 s5 E5'
 generalize x4++y5=x5 at *
 rcases _:z9i n w3 fq (ps.map entV) x5 .s S5 he hz hr (jA (Nat.succ_le_succ (Nat.mul_le_mul_left 5 hc)) (by decide)) h2 hq hA.rev (j6z x5 kvs.reverse)with⟨y6,as2,j6,e8,S6,n6,g6,h6,d6,z6⟩
 simp only[z0x,k4q,k8j]at S6
 have sm:∀i,∀l∈(w3 i).dl,∃b,l = .loc b/\b<x5.length+34:=λ i l hl=>by
  cases i with
  | t=>exact T5.lv.lv.small l (List.mem_reverse.mpr hl)
  | s=>exact S5.lv.lv.small l (List.mem_reverse.mpr hl)
  | e=>
   obtain⟨P,M,p,b,m,hN,_⟩:=E5'
   exact hN.lv.small l (List.mem_reverse.mpr hl)
 refine⟨upd w3 .s as2,x5++y6,?_,w0o y6 c5,T5.keep (q1w x5 y6 _) he' |>.le (Nat.le_succ _) (jG _ 2),S6.le (jD _) (jG _ 2),E5'.keep (jD _) (q1w x5 y6 _),s5.self y6 (jD _) z6 (λ v hv=>?_) λ v hv=>?_⟩
 ·refine(stq (V:=vK sc mf mw mo k lw mj lm lx lr r q (x.length+34) (some (.loc (x.length+1+34))) mm lf ly lh mq lk) ((b_4 ..).trans (es_n e4)) _ rfl).trans ?_
  refine(stq (j6m (q0e T (n+4)) sc mf mw mo k lw mj mm lf ly lh mq lk lm lx lr r q (x.length+34) (x.length+1+34) hA (asd w1 fq _ b1) (asd w1 fq _ b2)) _ rfl).trans ?_
  refine(stq (j6n (n+3) w1 fq (ps.map entV) x3 sc mf mw mo k lw (some (.loc (x.length+1+34))) mj mm lf ly lh mq lk lm lx lr r q (x.length+34) hq e6) _ rfl).trans ?_
  refine(stq (j6o (q0e T (n+4)) w2 fq (ps.map entV) x4 sc mf mw mo k lw (some (.loc (x.length+1+34))) mj mm lf ly lh mq lk lm lx lr r q (x.length+34) hp e7) _ rfl).trans ?_
  exact stq (j6p (q0e T (n+4)) w3 fq (ps.map entV) x5 sc mf mw mo k lw (some (.loc (x.length+1+34))) mj mm lf ly lh mq lk lm lx lr r q (x.length+34) hA (asd w3 fq _ c5) e8) _ rfl
 ·rw[d6]at hv;exact(List.mem_append.mp hv).imp id jJ
 ·rw[n6]at hv
  exact(List.mem_append.mp hv).imp id λ hv=>⟨j6,jJ hv,h6,g6,sm⟩
end
theorem j1c {nd us:List Str} (h1:nd.Nodup) (h2:∀u∈nd,u≠xmlS/\u∈SU) (h3:us.Nodup) (h4:∀u∈us,u≠xmlS/\u∈SU):(ndS nd us).Nodup/\∀u∈ndS nd us,u≠xmlS/\u∈SU:=by
 refine⟨List.nodup_append.mpr ⟨h1,h3.filter _,λ a ha b hb e=>?_⟩,λ u hu=>(List.mem_append.mp hu).elim (h2 u) λ hu=>h4 u (List.mem_filter.mp hu).1⟩
 have:=(List.mem_filter.mp hb).2
 rw[<-e,List.contains_iff_mem.mpr ha]at this
 exact absurd this (by decide)
theorem z9k {us:List Str} (ps:List Ent) (h:∀u∈us,u≠xmlS):(us.filter λ u=>!(abv ps).contains u)=us.filter λ u=>!(Pof ps.reverse).contains u:=by
 refine List.filter_congr λ u hu=>congrArg (!·) ?_
 rw[Bool.eq_iff_iff,List.contains_iff_mem,List.contains_iff_mem,q8a]
 have e:u∈abv ps.reverse↔u∈abv ps:=by
  unfold abv
  rw[List.mem_flatMap,List.mem_flatMap]
  exact⟨λ⟨e,h,k⟩=>⟨e,List.mem_reverse.mp h,k⟩,λ⟨e,h,k⟩=>⟨e,List.mem_reverse.mpr h,k⟩⟩
 rw[e]
 exact⟨.inr,λ q=>q.resolve_left (h u hu)⟩
theorem k1s:∀{ps:List Ent},(∀e∈ps,e.2.2.length<=5)->(abv ps).length<=5 * ps.length
 | [],_=>Nat.zero_le _
 | e::ps,h=>by
  have k:=k1s (ps:=ps) λ e he=>h e (jK _ he)
  have:=h e (jL ..)
  unfold abv at k ⊢
  simp only[List.flatMap_cons,List.length_append,List.length_cons]
  exact jA (jH this k) (jE (Nat.add_comm ..))
section
variable (n:Nat) (w:Who->W) (x:Store) (sc mf:AV) (mo k lw lj mj mm lf ly lh mq lk lm lx lr:Option AV) (r:Int) {c:Nat} {nd:List Str} {ps:List Ent} {d q:Str} {kvs:List (Str×Str)}
theorem j5j {j:Nat} (hc:c<=130) (h1:nd.Nodup) (h2:∀u∈nd,u≠xmlS/\u∈SU) (he:∀e∈ps,q3h nd e) (hp:ps.length<=c) (hd:d.length<=7000 * c) (hq:IsK q) (hA:At kvs) (hx:x[j]? = some (.dict (kvs.map q0p))) :
  ∃y key' used' names' name' above' new' signs' prefi',b1T (q0e T (n+4)) (vM sc mf (some (.str d)) mo (some (.int r)) k (some (.str q)) (some (.loc (j+34))) lw lj mj mm lf ly lh mq lk lm lx lr) (Bs w (nd.map .str) (ps.map entV) x)
   = some (.next,vM sc mf (some (.str (d++incE nd ps.reverse q kvs))) mo (some (.int r)) k (some (.str q)) (some (.loc (j+34))) lw lj key' used' names' name' above' new' signs' prefi' lx lr,Bs w ((ndS nd (ml q kvs)).map .str) ((ps++[mkE nd q kvs]).map entV) (x++y))
   /\(d++incE nd ps.reverse q kvs).length<=7000 * (c+1):=by
 have ul:=z9h (q:=q) hA.l
 obtain⟨n1,n2⟩:=j1c h1 h2 (w0j q kvs) λ u hu=>(q4w hu).2
 have z1:=z8q h1 h2
 have z2:=z8q n1 n2
 have nx:xmlS∉ndS nd (ml q kvs):=λ h=>(n2 _ h).1 rfl
 generalize hX:x++[AObj.dict (nmD (ndS nd (ml q kvs))++[(xmlS,.str (Str.ofString "xml"))])]=X
 have hB:X[x.length]? = some (.dict (nmD (ndS nd (ml q kvs))++[(xmlS,.str (Str.ofString "xml"))])):=by rw[<-hX];simp
 have hXj:X[j]? = some (.dict (kvs.map q0p)):=by rw[<-hX];exact w0o _ hx
 have nb:∀pa u,u=xmlS\/u∈ndS nd (ml q kvs)->getR (Bs w ((ndS nd (ml q kvs)).map .str) pa X) (.loc (x.length+34)) (.str u)=some (.str (px (ndS nd (ml q kvs)) u),Bs w ((ndS nd (ml q kvs)).map .str) pa X):=λ pa u hu=>v1h w _ pa hB hu nx
 have pl:∀u,u=xmlS\/u∈ndS nd (ml q kvs)->(px (ndS nd (ml q kvs)) u).length<=400:=λ u hu=>(w3f (jA z2 (by decide)) hu).2
 have ur:∀r,r=q\/r∈kvs.map (·.1)->Uo r=xmlS\/Uo r∈ndS nd (ml q kvs):=λ r hr=>(j1r hr (hA.isK hq r hr)).imp id w9l
 have ea:=z9k ps λ u (hu:u∈ml q kvs)=>(q4w hu).2.1
 have fl:((ml q kvs).filter λ u=>!(abv ps).contains u).length<5:=jB (List.length_filter_le ..) (Nat.succ_le_succ ul)
 obtain⟨i,hi,rfl⟩:=hq
 have nl:(mkE nd (kS i) kvs).2.1.length<=1000:=by
  show(tg (px (ndS nd (ml (kS i) kvs)) (Uo (kS i))) (Lo (kS i))).length<=_
  have:=pl _ (ur (kS i) (.inl rfl))
  rw[j1q];exact jA (jH (Nat.succ_le_succ this) (Lo_k hi▸w0t i)) (by decide)
 have eN:=ur (kS i) (.inl rfl)
 have sl:(q0u (pxs (ndS nd (ml (kS i) kvs)) ((ml (kS i) kvs).filter λ u=>!(abv ps).contains u))).length<5:=by simp only[q0u,(List.mergeSort_perm _ _).length_eq,List.length_map];exact fl
 obtain⟨e19,j3⟩:=j2t (q0e T (n+4)) sc mf mo k lw lj mj (some (.fl ((ml (kS i) kvs).map .str))) (some (.loc (x.length+34))) (some (.fl ((abv ps).map .str))) lm lx lr r (kS i) (j+34) (σ:=Bs w ((ndS nd (ml (kS i) kvs)).map .str) ((ps++[mkE nd (kS i) kvs]).map entV) X)
  (mkE nd (kS i) kvs).2.1 d (q0u (pxs (ndS nd (ml (kS i) kvs)) ((ml (kS i) kvs).filter λ u=>!(abv ps).contains u))) nl (jA hd (jA (Nat.mul_le_mul_left 7000 hc) (by decide))) sl λ p hp=>by
   obtain⟨u,hu,rfl⟩:=List.mem_map.mp ((List.mergeSort_perm _ _).mem_iff.mp hp)
   have hm:=(List.mem_filter.mp hu).1
   obtain⟨k,hk,e⟩:=List.mem_map.mp (q4w hm).2.2
   exact⟨pl u (.inr (w9l hm)),k,(by decide:∀u∈SUk,u<14) k hk,e.symm⟩
 have dl1:(d++(lt1++(mkE nd (kS i) kvs).2.1++jn ((q0u (pxs (ndS nd (ml (kS i) kvs)) ((ml (kS i) kvs).filter λ u=>!(abv ps).contains u))).map nsS))).length<=7000 * c+4001:=by
  exact catB hd (catB (catB l_lt nl) j3)
 have h8:7000 * c+4001<=8000000:=jA (Nat.add_le_add_right (Nat.mul_le_mul_left 7000 hc) 4001) (by decide)
 (refine Classical.byContradiction λ kk0=>?_;obtain⟨prefi',key',e20,dl2⟩:=j2u (n+3) sc mf mo k lw lj mj (some (.fl ((ml (kS i) kvs).map .str))) (some (.str (mkE nd (kS i) kvs).2.1)) (some (.fl ((abv ps).map .str))) (some (.fl ((q0u (pxs (ndS nd (ml (kS i) kvs)) ((ml (kS i) kvs).filter λ u=>!(abv ps).contains u))).map q0c))) lm lx lr r (kS i) (j+34) (x.length+34) (ndS nd (ml (kS i) kvs)) hA (σ:=Bs w ((ndS nd (ml (kS i) kvs)).map .str) ((ps++[mkE nd (kS i) kvs]).map entV) X)
   (asd w _ _ hXj) (λ ky hy=>⟨nb _ _ (ur ky (.inr hy)),pl _ (ur ky (.inr hy))⟩) (jA dl1 h8)<;>(refine kk0 ?_;clear kk0))
 have ed:=j3j (nd:=ndS nd (ml (kS i) kvs)) (mq:=q0u (pxs (ndS nd (ml (kS i) kvs)) ((ml (kS i) kvs).filter λ u=>!(abv ps).contains u))) hA.n d (mkE nd (kS i) kvs).2.1
 have ei:inc (ndS nd (ml (kS i) kvs)) (mkE nd (kS i) kvs).2.1 (q0u (pxs (ndS nd (ml (kS i) kvs)) ((ml (kS i) kvs).filter λ u=>!(abv ps).contains u))) kvs=incE nd ps.reverse (kS i) kvs:=by rw[incE,ea]
 rw[ei]at ed
 refine⟨[AObj.dict (nmD (ndS nd (ml (kS i) kvs))++[(xmlS,.str (Str.ofString "xml"))])],key',some (.fl ((ml (kS i) kvs).map .str)),some (.loc (x.length+34)),some (.str (mkE nd (kS i) kvs).2.1),some (.fl ((abv ps).map .str)),some (.fl ((q0u (pxs (ndS nd (ml (kS i) kvs)) ((ml (kS i) kvs).filter λ u=>!(abv ps).contains u))).map q0c)),some (.lit q1c),prefi',?_,?_⟩
 ·refine(stq (j6q (n+3) sc mf mo k lw lj mj lf ly lh mq lk lm lx lr (some (.str d)) r (kS i) (j+34) ⟨i,hi,rfl⟩ hA.k hA.l (asd w _ _ hx) mm) _ rfl).trans ?_
  refine(stq (j2l (q0e T (n+4)) sc mf mo k lw lj mj lf ly lh mq lk lm lx lr (some (.str d)) r (kS i) (j+34) (w1m (kS i) kvs)) _ rfl).trans ?_
  refine(stq (j2m (q0e T (n+4)) w (ps.map entV) x sc mf mo k lw lj mj lf ly lh mq lk lm lx lr (some (.str d)) r (kS i) (j+34) nd (ml (kS i) kvs) (jA z1 (by decide)) (jA ul (by decide))) _ rfl).trans ?_
  refine(stq (j2n (q0e T (n+4)) w (ps.map entV) x sc mf mo k lw lj mj (some (.fl ((ml (kS i) kvs).map .str))) lf ly lh mq lk lm lx lr (some (.str d)) r (kS i) (j+34) (ndS nd (ml (kS i) kvs)) n1 (jA z2 (by decide))) _ rfl).trans ?_
  refine(stq (j2o (q0e T (n+4)) w (ps.map entV) x sc mf mo k lw lj mj (some (.fl ((ml (kS i) kvs).map .str))) ly lh mq lk lm lx lr (some (.str d)) r (kS i) (j+34) (ndS nd (ml (kS i) kvs)) nx (jA z2 (by decide)) ((ndS nd (ml (kS i) kvs)).map .str)) _ rfl).trans ?_
  rw[hX]
  refine(stq (j2p (q0e T (n+4)) w X sc mf mo k lw lj mj (some (.fl ((ml (kS i) kvs).map .str))) (some (.loc (x.length+34))) ly lh mq lk lm lx lr (some (.str d)) r (kS i) (j+34) ps ((ndS nd (ml (kS i) kvs)).map .str) (jA (k1s λ e h=>(he e h).l) (jA (Nat.mul_le_mul_left 5 (jA hp hc)) (by decide)))) _ rfl).trans ?_
  refine(stq (j2q (q0e T (n+4)) sc mf mo k lw lj mj ly mq lk lm lx lr (some (.str d)) r (kS i) (j+34) (x.length+34) (ndS nd (ml (kS i) kvs)) (ml (kS i) kvs) (abv ps) (jB ul (by decide)) fl λ u hu=>nb _ u (.inr (w9l hu))) _ rfl).trans ?_
  refine(stq (j2r (n+3) sc mf mo k lw lj mj (some (.fl ((ml (kS i) kvs).map .str))) ly (some (.fl ((abv ps).map .str))) (some (.fl ((q0u (pxs (ndS nd (ml (kS i) kvs)) ((ml (kS i) kvs).filter λ u=>!(abv ps).contains u))).map q0c))) lk lm lx lr (some (.str d)) r (j+34) (x.length+34) (ndS nd (ml (kS i) kvs)) hi (Uo_k hi▸nb _ _ eN) (Uo_k hi▸pl _ eN)) _ rfl).trans ?_
  rw[show tg (px (ndS nd (ml (kS i) kvs)) (kU i)) (kL i)=(mkE nd (kS i) kvs).2.1 by unfold mkE;simp only[Uo_k hi,Lo_k hi]]
  refine(stq (j2s (q0e T (n+4)) w X sc mf mo k lw lj mj (some (.loc (x.length+34))) (some (.fl ((abv ps).map .str))) (some (.fl ((q0u (pxs (ndS nd (ml (kS i) kvs)) ((ml (kS i) kvs).filter λ u=>!(abv ps).contains u))).map q0c))) lk lm lx lr (some (.str d)) r (kS i) (j+34) (mkE nd (kS i) kvs).2.1 (ml (kS i) kvs) ps ((ndS nd (ml (kS i) kvs)).map .str) (jA hp (jA hc (by decide)))) _ rfl).trans ?_
  refine(stq (b_18 (q0e T (n+4)) sc mf (some (.str d)) mo k lw lj mj (some (.fl ((ml (kS i) kvs).map .str))) (some (.loc (x.length+34))) (some (.str (mkE nd (kS i) kvs).2.1)) (some (.fl ((abv ps).map .str))) (some (.fl ((q0u (pxs (ndS nd (ml (kS i) kvs)) ((ml (kS i) kvs).filter λ u=>!(abv ps).contains u))).map q0c))) lk lm lx lr r (kS i) (j+34)) _ rfl).trans ?_
  refine(stq e19 _ rfl).trans ((stq e20 _ rfl).trans ?_)
  have e21:=j2v (q0e T (n+4)) sc mf mo k lw lj key' (some (.fl ((ml (kS i) kvs).map .str))) (some (.loc (x.length+34))) (some (.str (mkE nd (kS i) kvs).2.1)) (some (.fl ((abv ps).map .str))) (some (.fl ((q0u (pxs (ndS nd (ml (kS i) kvs)) ((ml (kS i) kvs).filter λ u=>!(abv ps).contains u))).map q0c))) prefi' lx lr r (kS i) (j+34) (σ:=Bs w ((ndS nd (ml (kS i) kvs)).map .str) ((ps++[mkE nd (kS i) kvs]).map entV) X) (d:=atsD (ndS nd (ml (kS i) kvs)) kvs (d++(lt1++(mkE nd (kS i) kvs).2.1++jn ((q0u (pxs (ndS nd (ml (kS i) kvs)) ((ml (kS i) kvs).filter λ u=>!(abv ps).contains u))).map nsS))) (q5k (kvs.map (·.1)))) (jA dl2 (jA (Nat.add_le_add_right (jA dl1 h8) 2100) (by decide)))
  rw[ed]at e21
  exact stq e21 _ rfl
 ·rw[<-ed,q6r];exact jA (Nat.succ_le_succ (jA dl2 (Nat.add_le_add_right dl1 2100))) (Nat.add_le_add_left (show 6102<=7000 by decide) (7000 * c))
end
inductive Nxt (sc mf:AV) (Q:(Who->W)->Store->List Str->List Ent->Str->Prop) (m:ResS):Prop
 | mk (mo re k mr mx lw lj mh ml lf ly lh mq lk lm lx lr:Option AV) (w:Who->W) (x:Store) (nd:List Str) (ps:List Ent) (d:Str)
  (e:m=some (.next,vM sc mf (some (.str d)) mo re k mr mx lw lj mh ml lf ly lh mq lk lm lx lr,Bs w (nd.map .str) (ps.map entV) x)) (h:Q w x nd ps d)
theorem q9i (ps:List Ent) (e:Ent):(ps++[e]).reverse=e::ps.reverse:=by rw[List.reverse_append];rfl
section
variable (n:Nat) (w:Who->W) (x:Store) (sc mf:AV) (mo re k mr mx lw lj mh mm lf ly lh mq lk lm lx lr:Option AV) (r:Int) {c:Nat} {nd:List Str} {ps:List Ent} {d:Str}
theorem k8e (H:Inv4 c w x nd ps d) (hc:c<=130):Nxt sc mf (λ w x nd ps d=>Inv4 (c+1) w x nd ps d/\ps≠[]) (q9t (q0e T (n+4)) (vM sc mf (some (.str d)) mo (some (.int r)) k mr mx lw lj mh mm lf ly lh mq lk lm lx lr) (Bs w (nd.map .str) (ps.map entV) x)):=by
 obtain⟨q,kvs,k',seed',hq,hA,e1⟩:=j5h n w x sc mf (some (.str d)) mo k mr mx lw lj mh mm lf ly lh mq lk lm lx lr r (nd.map .str) (ps.map entV)
 obtain⟨w',x',e2,hx,M⟩:=j5i n w x sc mf (some (.str d)) mo k' seed' mh mm lf ly lh mq lk lm lx lr r (nd.map .str) H hc hq hA
 rcases _:j5j n w' x' sc mf mo k' seed' (some (.loc (x.length+1+34))) mh mm lf ly lh mq lk lm lx lr r hc H.nn H.nx H.en H.pl H.dz hq hA hx with⟨y,key',used',names',name',above',new',signs',prefi',e3,hd⟩
 obtain⟨n1,n2⟩:=j1c H.nn H.nx (w0j q kvs) λ u hu=>(q4w hu).2
 have he':∀e∈ps++[mkE nd q kvs],q3h (ndS nd (ml q kvs)) e:=λ e h=>(List.mem_append.mp h).elim (λ h=>(H.en e h).grow) λ h=>jJ h▸j0y hq hA.l
 have her:∀e∈mkE nd q kvs::ps.reverse,q3h (ndS nd (ml q kvs)) e:=λ e h=>he' e (by rw[<-q9i]at h;exact List.mem_reverse.mp h)
 refine⟨_,_,_,_,_,_,_,_,_,_,_,_,_,_,_,_,_,w',x'++y,_,_,_,e1.trans (e2.trans e3),⟨?_,?_,M.e.keep (jD _) (q1w x' y _),M.sp.app y,n1,n2,he',?_,hd⟩,by simp⟩
 ·rw[q9i];exact M.t.keep (q1w x' y _) her
 ·rw[q9i];exact M.s.keep (q1w x' y _) her
 ·rw[List.length_append];exact Nat.succ_le_succ H.pl
theorem j0r {e:Ent} (H:Inv4 c w x nd (ps++[e]) d) (hc:c<=130):Nxt sc mf (λ w x nd' ps' d=>Inv4 (c+1) w x nd' ps' d/\ps'=ps/\Tx (5 * (c+1)) 0 d (w .t)/\Tx (5 * (c+1)) 0 d (w .s)) (w3z (q0e T (n+4)) (vM sc mf (some (.str d)) mo re k mr mx lw lj mh mm lf ly lh mq lk lm lx lr) (Bs w (nd.map .str) ((ps++[e]).map entV) x)):=by
 have hz:=z8q H.nn H.nx
 have h5:5 * c<=1000:=jA (Nat.mul_le_mul_left 5 hc) (by decide)
 have h2:2 * c<=1000:=jA (Nat.mul_le_mul_left 2 hc) (by decide)
 have he:∀e'∈e::ps.reverse,q3h nd e':=λ e' h=>H.en e' (by rw[<-q9i]at h;exact List.mem_reverse.mp h)
 have he':∀e'∈ps.reverse,q3h nd e':=λ e' h=>he e' (jK _ h)
 obtain⟨Ht,Hs,He,hS,nn,nx,en,pl,dz⟩:=H
 rw[q9i]at Ht Hs
 obtain⟨y1,a1,l1,e1,T1,_,d1,_⟩:=j1t (n+1) w (nd.map .str) (ps.map entV) x .t Ht he hz h5 h2
 have T1':Wi (5 * c+2) 0 (x++y1) nd ps.reverse (d++closes e.2.1) (upd w .t a1 .t):=T1
 have S1:Wi (5 * c) (2 * c) (x++y1) nd (e::ps.reverse) d (upd w .t a1 .s):=Hs.keep (q1w x y1 _) he
 have E1:Ei (c+1) (x++y1) (upd w .t a1 .e):=He.keep (Nat.le_succ c) (q1w x y1 _)
 have s1:Sp c (x++y1) (upd w .t a1):=hS.other y1 (jD c) (λ h=>nomatch h) λ v hv=>.inl (d1 v hv)
 generalize upd w .t a1=w1 at e1 T1' S1 E1 s1
 generalize x++y1=x1 at *
 obtain⟨y2,a2,l2,e2,S2,n2,d2,z2⟩:=j1t (n+1) w1 (nd.map .str) (ps.map entV) x1 .s S1 he hz h5 h2
 have hE:=he e (jL ..)
 have hl:e.2.1.length<=1000:=by
  obtain⟨i,hi,ei⟩:=hE.k
  have h1:=(w3f (jA hz (by decide)) (hE.m.imp id λ h=>(hE.u _ h).2.1)).2
  have l5:(Lo e.1).length<=1:=by rw[ei,Lo_k hi];exact w0t i
  rw[hE.n,j1q];exact jA (jH (Nat.succ_le_succ h1) l5) (by decide)
 have lb:(Str.ofString "</").length<=2:=jD 2
 have lg:gt1.length<=1:=jD 1
 have lc:(closes e.2.1).length<=1003:=catB (catB lb hl) lg
 have c2:5 * c+2<=5 * (c+1):=Nat.add_le_add_left (show 2<=5 by decide) (5 * c)
 have hd:(d++closes e.2.1).length<=7000 * (c+1):=jA (catB dz lc) (Nat.add_le_add_left (show 1003<=7000 by decide) (7000 * c))
 refine⟨mo,re,k,some (.str e.1),mx,lw,lj,mh,some (.fl (e.2.2.map .str)),lf,some (.str e.2.1),lh,mq,lk,lm,lx,lr,upd w1 .s a2,x1++y2,nd,ps,d++closes e.2.1,?_,⟨(T1'.keep (q1w x1 y2 _) he').le c2 (Nat.zero_le _),S2.le c2 (Nat.zero_le _),E1.keep (jD _) (q1w x1 y2 _),s1.self y2 (Nat.le_succ c) z2 (λ v hv=>.inl (d2 v hv)) (λ v hv=>.inl (by rw[n2];exact List.mem_append_left _ hv)),nn,nx,λ e' h=>en e' (List.mem_append_left _ h),?_,hd⟩,rfl,T1'.tx.le c2 (jD _),S2.tx.le c2 (jD _)⟩
 ·have e0:=j8h (q0e T (n+4)) w (nd.map .str) x sc mf (some (.str d)) mo re k mr mx lw lj mh mm lf ly lh mq lk lm lx lr e (ps.map entV)
  simp only[List.map_append]
  refine(stq e0 _ rfl).trans ?_
  refine(stq (V:=vE' sc mf mo re k mx lw lj mh lf lh mq lk lm (some (.str e.1)) (some (.fl (e.2.2.map .str))) (some (.str e.2.1)) (some (.str d)) lx lr) ((m_1 ..).trans (es_n e1)) _ rfl).trans ?_
  refine(stq (V:=vE' sc mf mo re k mx lw lj mh lf lh mq lk lm (some (.str e.1)) (some (.fl (e.2.2.map .str))) (some (.str e.2.1)) (some (.str d)) lx lr) ((m_2 ..).trans (es_n e2)) _ rfl).trans ?_
  refine stq (V:=vE' sc mf mo re k mx lw lj mh lf lh mq lk lm (some (.str e.1)) (some (.fl (e.2.2.map .str))) (some (.str e.2.1)) (some (.str (d++closes e.2.1))) lx lr) ((m_3 ..).trans (w2d ?_ ?_)) _ rfl
  ·simp only[addB lb hl (by decide),q0d,adds,addB (catB lb hl) lg (by decide)];rfl
  ·exact jA (jH (jA dz (Nat.mul_le_mul_left 7000 hc)) lc) (by decide)
 ·rw[List.length_append]at pl;exact jA (jG ..) (Nat.le_succ_of_le pl)
theorem z4v (c:Nat):(⟨#[60,c]⟩:Str)=lt1++q1y c:=q5s (by rw[q0n];rfl)
theorem j3c (r:Int) (h:0<=r/\r<1114112) (σ:Store):biA .chr [.int r] σ=some (.str (q1y r.toNat),σ):=by
 show(if 0<=r/\r<1114112 then some (AV.str (q1y r.toNat),σ)else none)=_
 rw[if_pos h]
theorem j9v (C:q0a) {m:Nat} (hm:m<26) (σ:Store):(bnd (calA C (.bf .chr) (some (.int (97+(m:Int)),σ))) λ y s=>binR s .Add (.str lt1) y)=some (.str (⟨#[60,97+m]⟩:Str),σ):=by
 have e:biA .chr [.int (97+(m:Int))] σ=some (.str (q1y (97+m)),σ):=j3c (((97+m:Nat)):Int) ⟨Int.natCast_nonneg _,Int.ofNat_lt.mpr (Nat.lt_trans (Nat.add_lt_add_left hm 97) (by decide))⟩ σ
 rw[q5l rfl e,q0d,z4v]
 exact add_str (jA (show 1+1<=2 from jD 2) (by decide))
set_option tactic.hygienic true in theorem j3x (H:Inv4 c w x nd ps d) (hc:c<=130) (hp:ps≠[]):Nxt sc mf (λ w x nd ps d=>Inv4 (c+1) w x nd ps d/\ps≠[]) (w4d (q0e T (n+4)) (vM sc mf (some (.str d)) mo (some (.int r)) k mr mx lw lj mh mm lf ly lh mq lk lm lx lr) (Bs w (nd.map .str) (ps.map entV) x)):=by
 obtain⟨m,h1,h2⟩:=z1t r (b:=26) (by decide)
 have h2:m<26:=h2
 have h2c:2 * c<=1000:=jA (Nat.mul_le_mul_left 2 hc) (by decide)
 have hr:ps.reverse≠[]:=λ h=>hp (List.reverse_eq_nil_iff.mp h)
 have ht:=z4v (97+m)
 obtain⟨q1,q2⟩:=k7y m h2
 have et:escC (⟨#[60,97+m]⟩:Str)=Str.ofString "&lt;"++q1y (97+m):=by simp only[ht,z7w,q1,q2]
 obtain⟨Ht,Hs,He,hS,nn,nx,en,pl,dz⟩:=H
 obtain⟨a1,e1,T1,d1,n1,z1⟩:=z7e (n+3) w (nd.map .str) (ps.map entV) x .t (t:=⟨#[60,97+m]⟩) Ht hr h2c (.inr rfl)
 have T1':Wi (5 * c) (2 * c+1) x nd ps.reverse (d++escC (⟨#[60,97+m]⟩:Str)) (upd w .t a1 .t):=T1
 have S1:Wi (5 * c) (2 * c) x nd ps.reverse d (upd w .t a1 .s):=Hs
 have E1:Ei c x (upd w .t a1 .e):=He
 have s1:Sp c (x++[]) (upd w .t a1):=hS.other [] (jD c) (λ h=>nomatch h) λ v hv=>.inl (d1▸hv)
 generalize upd w .t a1=w1 at e1 T1' S1 E1 s1
 obtain⟨a2,e2,S2,d2,n2,z2⟩:=z7e (n+3) w1 (nd.map .str) (ps.map entV) x .s (t:=lt1) S1 hr h2c (.inl rfl)
 have T2':Wi (5 * c) (2 * c+1) x nd ps.reverse (d++escC (⟨#[60,97+m]⟩:Str)) (upd w1 .s a2 .t):=T1'
 have E2:Ei c x (upd w1 .s a2 .e):=E1
 have S2':Wi (5 * c) (2 * c+1) x nd ps.reverse (d++escC lt1) (upd w1 .s a2 .s):=S2
 have s2:Sp c (x++[]++[]) (upd w1 .s a2):=s1.self [] (jD c) z2 (λ v hv=>.inl (d2▸hv)) (λ v hv=>.inl (n2▸hv))
 generalize upd w1 .s a2=w2 at e2 T2' S2' E2 s2
 obtain⟨a3,e3,S3,d3,n3,z3⟩:=z7e (n+3) w2 (nd.map .str) (ps.map entV) x .s (t:=q1y (97+m)) S2' hr (jA (Nat.succ_le_succ (Nat.mul_le_mul_left 2 hc)) (by decide)) (.inl rfl)
 have s3:Sp c (x++[]++[]++[]) (upd w2 .s a3):=s2.self [] (jD c) z3 (λ v hv=>.inl (d3▸hv)) (λ v hv=>.inl (n3▸hv))
 rw[List.append_nil,List.append_nil,List.append_nil]at s3
 have s4:Sp (c+1) x (upd w2 .s a3):=⟨s3.f,λ v hv=>by have:=(s3.a v hv).app [] (Nat.le_succ c);rw[List.append_nil]at this;exact this⟩
 have lc:(q1y (97+m)).length<=1:=jD 1
 have ll:(Str.ofString "&lt;").length<=4:=jD 4
 rw[q1t,q1,q2]at S3
 rw[et]at T2'
 refine⟨mo,some (.int r),k,mr,mx,lw,lj,mh,mm,lf,ly,lh,mq,lk,lm,some (.str (⟨#[60,97+m]⟩:Str)),some (.str (q1y (97+m))),upd w2 .s a3,x,nd,ps,d++(Str.ofString "&lt;"++q1y (97+m)),?_,⟨T2'.le (jG _ 5) (Nat.le_succ _),S3.le (jG _ 5) (jD _),E2.keep (Nat.le_succ c) (λ _ _ _ h=>h),s4,nn,nx,en,Nat.le_succ_of_le pl,jA (catB dz (catB ll lc)) (Nat.add_le_add_left (show 5<=7000 by decide) (7000 * c))⟩,hp⟩
 have e0:=j9v (q0e T (n+4)) h2 (Bs w (nd.map .str) (ps.map entV) x)
 rw[<-h1]at e0
 refine(stq (V:=vE' sc mf mo (some (.int r)) k mx lw lj mh lf lh mq lk lm mr mm ly (some (.str d)) (some (.str (⟨#[60,97+m]⟩:Str))) lr) ((t_0 ..).trans (q7t e0)) _ rfl).trans ?_
 refine(stq (V:=vE' sc mf mo (some (.int r)) k mx lw lj mh lf lh mq lk lm mr mm ly (some (.str d)) (some (.str (⟨#[60,97+m]⟩:Str))) lr) ((t_1 ..).trans (es_n e1)) _ rfl).trans ?_
 have f1:∀(sg:Str) (lr:Option AV) (w w':Who->W),q0e T (n+4) 97 [.obj 24,.str sg] [] (Bs w (nd.map .str) (ps.map entV) x)=some (.none,Bs w' (nd.map .str) (ps.map entV) x)->q7r (q0e T (n+4)) (.str sg) (vE' sc mf mo (some (.int r)) k mx lw lj mh lf lh mq lk lm mr mm ly (some (.str d)) (some (.str (⟨#[60,97+m]⟩:Str))) lr) (Bs w (nd.map .str) (ps.map entV) x)=some (.next,vE' sc mf mo (some (.int r)) k mx lw lj mh lf lh mq lk lm mr mm ly (some (.str d)) (some (.str (⟨#[60,97+m]⟩:Str))) (some (.str sg)),Bs w' (nd.map .str) (ps.map entV) x):=λ sg lr w w' h=>by
  simp only[v2j,es_n h,q0v]
 refine(stq (V:=vE' sc mf mo (some (.int r)) k mx lw lj mh lf lh mq lk lm mr mm ly (some (.str d)) (some (.str (⟨#[60,97+m]⟩:Str))) (some (.str (q1y (97+m))))) ((t_2 ..).trans ((stq (f1 lt1 lr w1 w2 e2) _ rfl).trans (stq (f1 _ _ w2 _ e3) _ rfl))) _ rfl).trans ?_
 exact stq (V:=vE' sc mf mo (some (.int r)) k mx lw lj mh lf lh mq lk lm mr mm ly (some (.str (d++(Str.ofString "&lt;"++q1y (97+m))))) (some (.str (⟨#[60,97+m]⟩:Str))) (some (.str (q1y (97+m))))) ((t_3 ..).trans (w2d (addB ll lc (by decide)) (jA (jH (jA dz (Nat.mul_le_mul_left 7000 hc)) (catB ll lc)) (by decide)))) _ rfl
end
noncomputable abbrev Mv (sc mf:AV) (c:Nat) (m:ResS):Prop:=Nxt sc mf (λ w x nd ps d=>Inv4 c w x nd ps d/\ps≠[]) m
theorem j8e (C:q0a) (w:Who->W) (nd pa:List AV) (x:Store):(bnd (calA C (.bf .len) (some (.loc 33,Bs w nd pa x))) λ y s=>cmpT s .Gt y (.int 1))=some (decide ((pa.length:Int) > 1),Bs w nd pa x):=nr (by kernel_rfl)
section
variable (n:Nat) (w:Who->W) (x:Store) (sc mf:AV) (mo re k mr mx lw lj mh mm lf ly lh mq lk lm lx lr:Option AV) {c:Nat} {nd:List Str} {ps:List Ent} {d:Str}
theorem Nxt.sq {Q:(Who->W)->Store->List Str->List Ent->Str->Prop} {sc mf:AV} {m:ResS} (h:Nxt sc mf Q m):Nxt sc mf Q (sq m λ v s=>some (.next,v,s)):=by
 obtain⟨mo,re,k,mr,mx,lw,lj,mh,ml,lf,ly,lh,mq,lk,lm,lx,lr,w,x,nd,ps,d,e,h⟩:=h
 exact⟨_,_,_,_,_,_,_,_,_,_,_,_,_,_,_,_,_,w,x,nd,ps,d,by simp only[e];rfl,h⟩
theorem z7t {ps:List Ent} (h:ps≠[]):∃qs e,ps=qs++[e]:=⟨_,_,(List.dropLast_concat_getLast h).symm⟩
theorem k3s (a b:Int) (ha:a≠4) (H:Inv4 c w x nd ps d) (hc:c<=130) (hp:a<2\/ps≠[]):Mv sc mf (c+1) (q2r (q0e T (n+4)) (mv (a,b)) (vM sc mf (some (.str d)) mo re k mr mx lw lj mh mm lf ly lh mq lk lm lx lr) (Bs w (nd.map .str) (ps.map entV) x)):=by
 rw[v_0]
 by_cases h:a<2
 ·rw[k8h (show _=some (true,_)from by rw[decide_eq_true h])]
  exact(k8e n w x sc mf (some (.int a)) k mr mx lw lj mh mm lf ly lh mq lk lm lx lr b H hc).sq
 ·rw[k8g (show _=some (false,_)from by rw[decide_eq_false h]),v_1]
  have hp:=hp.resolve_left h
  refine Nxt.sq (Nxt.sq ?_)
  have e:(orT (some (decide (a=4),Bs w (nd.map .str) (ps.map entV) x)) λ s=>orT (andT (some (decide (a=2),s)) λ s=>andT (bnd (calA (q0e T (n+4)) (.bf .len) (some (.loc 33,s))) λ y s=>cmpT s .Gt y (.int 1)) λ s=>some (true,s)) λ s=>some (false,s))=some (decide (a=2)&&decide (((ps.map entV).length:Int) > 1),Bs w (nd.map .str) (ps.map entV) x):=by
   rw[decide_eq_false ha]
   by_cases q:a=2
   ·rw[decide_eq_true q]
    show(orT (andT (bnd (calA (q0e T (n+4)) (.bf .len) (some (.loc 33,Bs w (nd.map .str) (ps.map entV) x))) λ y s=>cmpT s .Gt y (.int 1)) λ s=>some (true,s)) λ s=>some (false,s))=_
    rw[j8e]
    cases decide (((ps.map entV).length:Int) > 1)<;>rfl
   ·rw[decide_eq_false q];rfl
  by_cases q:(decide (a=2)&&decide (((ps.map entV).length:Int) > 1))=true
  ·rw[k8h (e.trans (by rw[q]))]
   have ql:((ps.map entV).length:Int) > 1:=of_decide_eq_true ((Bool.and_eq_true ..).mp q).2
   obtain⟨qs,z,rfl⟩:=z7t hp
   obtain⟨mo,re,k,mr,mx,lw,lj,mh,ml,lf,ly,lh,mq,lk,lm,lx,lr,w,x,nd',ps',d',e,h1,h2,_⟩:=j0r n w x sc mf (some (.int a)) (some (.int b)) k mr mx lw lj mh mm lf ly lh mq lk lm lx lr H hc
   refine⟨_,_,_,_,_,_,_,_,_,_,_,_,_,_,_,_,_,w,x,nd',ps',d',e,h1,λ z=>?_⟩
   simp only[List.length_map,List.length_append,<-h2,z]at ql
   exact absurd ql (by show ¬ ((1:Nat):Int) > 1;decide)
  ·rw[k8g (e.trans (by rw[Bool.eq_false_iff.mpr q]))]
   exact j3x n w x sc mf (some (.int a)) k mr mx lw lj mh mm lf ly lh mq lk lm lx lr b H hc hp
noncomputable abbrev Done (sc mf:AV) (m:ResS):Prop:=Nxt sc mf (λ w x nd ps d=>Tx 1000 0 d (w .t)/\Tx 1000 0 d (w .s)/\d.length<=1000000) m
theorem j3w (H:Inv4 c w x nd ps d) (hc:c<=130) (hp:ps≠[]):Done sc mf (q2r (q0e T (n+4)) (mv (4,0)) (vM sc mf (some (.str d)) mo re k mr mx lw lj mh mm lf ly lh mq lk lm lx lr) (Bs w (nd.map .str) (ps.map entV) x)):=by
 rw[v_0,k8g (show _=some (false,_)from by rw[decide_eq_false (by decide)]),v_1]
 refine Nxt.sq (Nxt.sq ?_)
 have h5:5 * (c+1)<=1000:=jA (Nat.mul_le_mul_left 5 (Nat.succ_le_succ hc)) (by decide)
 rw[k8h (σ:=Bs w (nd.map .str) (ps.map entV) x) (by rw[decide_eq_true (by decide)];rfl)]
 obtain⟨qs,z,rfl⟩:=z7t hp
 obtain⟨mo,re,k,mr,mx,lw,lj,mh,ml,lf,ly,lh,mq,lk,lm,lx,lr,w,x,nd',ps',d',e,h1,_,h3,h4⟩:=j0r n w x sc mf (some (.int 4)) (some (.int 0)) k mr mx lw lj mh mm lf ly lh mq lk lm lx lr H hc
 exact⟨_,_,_,_,_,_,_,_,_,_,_,_,_,_,_,_,_,w,x,nd',ps',d',e,h3.le h5 (jD 0),h4.le h5 (jD 0),jA h1.dz (jA (Nat.mul_le_mul_left 7000 (Nat.succ_le_succ hc)) (by decide))⟩
theorem Nxt.step {sc mf:AV} {Q Q':(Who->W)->Store->List Str->List Ent->Str->Prop} {f:AV->Vs->Store->ResS} {a:AV} {L:List AV} {V:Vs} {σ:Store} (h:Nxt sc mf Q (f a V σ))
  (k:∀(mo re k mr mx lw lj mh ml lf ly lh mq lk lm lx lr:Option AV) (w:Who->W) (x:Store) (nd:List Str) (ps:List Ent) (d:Str),Q w x nd ps d->Nxt sc mf Q' (forA f L (vM sc mf (some (.str d)) mo re k mr mx lw lj mh ml lf ly lh mq lk lm lx lr) (Bs w (nd.map .str) (ps.map entV) x))):Nxt sc mf Q' (forA f (a::L) V σ):=by
 obtain⟨mo,re,kk,mr,mx,lw,lj,mh,ml,lf,ly,lh,mq,lk,lm,lx,lr,w,x,nd,ps,d,e,h⟩:=h
 have e2:forA f (a::L) V σ=forA f L (vM sc mf (some (.str d)) mo re kk mr mx lw lj mh ml lf ly lh mq lk lm lx lr) (Bs w (nd.map .str) (ps.map entV) x):=stq e _ rfl
 rw[e2]
 exact k _ _ _ _ _ _ _ _ _ _ _ _ _ _ _ _ _ w x nd ps d h
end
theorem z8e (n:Nat) (sc mf:AV):∀(L:List (Int×Int)) (c:Nat),(∀l∈L,l.1≠4)->c+L.length<=130->∀(mo re k mr mx lw lj mh ml lf ly lh mq lk lm lx lr:Option AV) (w:Who->W) (x:Store) (nd:List Str) (ps:List Ent) (d:Str),
  Inv4 c w x nd ps d/\ps≠[]->Done sc mf (forA (q2r (q0e T (n+4))) (L.map mv++[mv (4,0)]) (vM sc mf (some (.str d)) mo re k mr mx lw lj mh ml lf ly lh mq lk lm lx lr) (Bs w (nd.map .str) (ps.map entV) x))
 | [],c,_,hc,mo,re,k,mr,mx,lw,lj,mh,ml,lf,ly,lh,mq,lk,lm,lx,lr,w,x,nd,ps,d,H=>
  (j3w n w x sc mf mo re k mr mx lw lj mh ml lf ly lh mq lk lm lx lr H.1 hc H.2).step λ _ _ _ _ _ _ _ _ _ _ _ _ _ _ _ _ _ _ _ _ _ _ h=>⟨_,_,_,_,_,_,_,_,_,_,_,_,_,_,_,_,_,_,_,_,_,_,rfl,h⟩
 | l::L,c,h4,hc,mo,re,k,mr,mx,lw,lj,mh,ml,lf,ly,lh,mq,lk,lm,lx,lr,w,x,nd,ps,d,H=>by
  exact(k3s n w x sc mf mo re k mr mx lw lj mh ml lf ly lh mq lk lm lx lr l.1 l.2 (h4 l (jL ..)) H.1 (jA (jG ..) hc) (.inr H.2)).step (z8e n sc mf L (c+1) (λ z hz=>h4 z (jK _ hz)) (jA (jE (Nat.add_right_comm ..)) hc))
theorem v0x:Inv4 1 w0 [] [] [] (Str.ofString "") where
 t:=⟨rfl,.nil rfl,rfl,rfl,λ h=>absurd rfl h,[],[],rfl,rfl,by rw[q2p,z8i];rfl,Nat.zero_le _,Nat.zero_le _,(λ _ h=>absurd h List.not_mem_nil),λ h=>absurd rfl h⟩
 s:=⟨rfl,.nil rfl,rfl,rfl,λ h=>absurd rfl h,[],[],rfl,rfl,by rw[q2p,z8i];rfl,Nat.zero_le _,Nat.zero_le _,(λ _ h=>absurd h List.not_mem_nil),λ h=>absurd rfl h⟩
 e:=by
  have h1:lvA [] (.loc 14)=some ((prs [Str.ofString "z"] [xmlS]).map q0c):=by
   show some [xmlP]=some [q0c (xmlS,px _ xmlS)]
   rw[px,if_pos rfl]
  have h2:lvA [] (.loc 20)=some ((prs [Str.ofString "z"] [Str.ofString "z"]).map q0c):=nr (by kernel_rfl)
  have hN:Nst [] [.loc 14,.loc 20] [Str.ofString "z",xmlS] [Str.ofString "z"] []:=
   ⟨.cons (L:=[Str.ofString "z"]) h2 (.cons (L:=[xmlS]) (P:=[]) h1 .nil),by decide +kernel,λ u hu=>(List.mem_cons.mp hu).elim (λ e=>.inr (e▸jL ..)) λ h=>.inl (jJ h),jK _ (jL ..),by decide,Nat.zero_le _,by decide⟩
  exact⟨_,_,[.bool false],false,nr (by kernel_rfl),hN,jD _,jD _,rfl,by decide,by decide,by decide,by decide,rfl⟩
 sp:=⟨λ v hv i h=>by
  rw[jJ (show v∈[AV.loc 29]from hv)]at h
  cases i with
  | t=>exact absurd (q6s (jJ (show AV.loc 29∈[AV.loc 5]from h))) (by decide)
  | s=>exact absurd (q6s (jJ (show AV.loc 29∈[AV.loc 26]from h))) (by decide)
  | e=>exact(List.mem_cons.mp (show AV.loc 29∈[AV.loc 14,AV.loc 20]from h)).elim (λ h=>absurd (q6s h) (by decide)) λ h=>absurd (q6s (jJ h)) (by decide),
  λ v hv=>.inl ⟨jJ (show v∈[AV.loc 29]from hv),Nat.zero_le _⟩⟩
 nn:=List.nodup_nil
 nx:=λ _ h=>absurd h List.not_mem_nil
 en:=λ _ h=>absurd h List.not_mem_nil
 pl:=Nat.zero_le _
 dz:=Nat.zero_le _
theorem k6x {K:Nat} {d:Str} {a:W} {σ:Store} {v:AV} (h:Tx K 0 d a) (hv:q0r σ v=some a.out) (hd:d.length<=1000000) (C:q0a):cal C (.bi .sJoin (.str (Str.ofString ""))) (some (v,σ))=some (.str d,σ):=by
 obtain⟨ts,ds,o,q,e,lo,ld,_,_⟩:=h
 obtain rfl:ds=[]:=List.length_eq_zero_iff.mp (Nat.le_zero.mp ld)
 rw[q2p,q3n]at e
 subst e
 rw[o]at hv
 exact q3o rfl (z4z hv (by rw[<-z8h];exact jA hd (by decide)))
theorem z7o (d:Str) (σ:Store):cmpR σ .Eq (.str d) (.str d)=some (.bool true,σ):=by
 show some (AV.bool (decide (d=d)),σ)=_
 rw[decide_eq_true rfl]
end Mine
end
section
set_option tactic.hygienic false
set_option backward.match.sparseCases false
set_option maxHeartbeats 400000
namespace Mine
noncomputable def lawT (C:q0a) (vs:Vs) (s:Store):ResS:=sq (q3z C vs s) λ v s=>sq (q6d C v s) λ v s=>sq (q4a C v s) λ v s=>some (.next,v,s)
theorem k3z (n:Nat) (sc:AV):k5z (q0e T (n+5)) (vL sc none none none none none none none none none none none q2c) [.code]=lawT (q0e T (n+5)) (vL sc (some (.str xmlS)) (some (.fl q6f)) (some (.loc 1)) (some (.loc 2)) (some (.obj 3)) (some (.obj 12)) (some (.obj 24)) (some (.loc 32)) (some (.loc 33)) (some (.str (Str.ofString ""))) none q2c) B0:=by
 have e6:=su_6 n sc (some (.str xmlS)) (some (.fl q6f)) (some (.loc 1)) (some (.loc 2)) (some (.obj 3))
 generalize hC:q0e T (n+5)=C at *
 have e3:=su_3 (n+4) sc (some (.str xmlS)) (some (.fl q6f)) (some (.loc 2))
 have e4:=su_4 (n+4) sc (some (.str xmlS)) (some (.fl q6f)) (some (.loc 1)) (some (.loc 2)) (some (.obj 3))
 have e7:=su_7 (n+4) sc (some (.str xmlS)) (some (.fl q6f)) (some (.loc 1)) (some (.obj 3)) (some (.obj 12))
 rw[hC]at e3 e4 e7
 refine(stq (su_0 C sc) _ rfl).trans ?_
 refine(stq (su_1 C sc) _ rfl).trans ?_
 refine(stq (su_2 C sc (some (.str xmlS)) (some (.fl q6f))) _ rfl).trans ?_
 refine(stq e3 _ rfl).trans ?_
 refine(stq e4 _ rfl).trans ?_
 refine(stq (su_5 C sc (some (.str xmlS)) (some (.fl q6f)) (some (.loc 1)) (some (.loc 2)) (some (.obj 3))) _ rfl).trans ?_
 refine(stq e6 _ rfl).trans ?_
 refine(stq e7 _ rfl).trans ?_
 refine(stq (su_8 C sc (some (.str xmlS)) (some (.fl q6f)) (some (.loc 1)) (some (.loc 2)) (some (.obj 12)) (some (.obj 24))) _ rfl).trans ?_
 refine(stq (su_9 C sc (some (.str xmlS)) (some (.fl q6f)) (some (.loc 1)) (some (.loc 2)) (some (.obj 3)) (some (.obj 12))) _ rfl).trans ?_
 exact stq (v2h C sc (some (.str xmlS)) (some (.fl q6f)) (some (.loc 1)) (some (.loc 2)) (some (.obj 3)) (some (.obj 12)) (some (.obj 24))) _ rfl
theorem k8y {C:q0a} {V0 V1 V2:Vs} {σ σ1 σ2:Store} {v:AV} (h11:q3z C V0 σ=some (.next,V1,σ1)) (h12:q6d C V1 σ1=some (.next,V2,σ2)) (h13:q4a C V2 σ2=some (.ret v,V2,σ2)):fin (lawT C V0 σ)=some (v,σ2):=by
 unfold lawT
 simp only[h11,q0v,h12,q0v,h13,z8z,k3k]
theorem j4h (n:Nat) (xs:List Int) (hx:xs.length<=63):∃σ',q0e T (n+6) 192 [.fl (xs.map .int)] [] [.code]=some (.bool true,σ')/\σ'[0]? = some .code:=by
 rw[k7r]
 generalize hC:q0e T (n+5)=C
 have hm:∃L:List (Int×Int),q3t xs=(0,(xs.take 1).sum)::(L++[(4,0)])/\L.length<=126/\∀l∈L,l.1≠4:=by
  refine⟨(xs.drop 1).map (λ x=>(x.fmod 4,x.fdiv 4))++List.replicate xs.length (2,0),rfl,?_,λ l hl=>?_⟩
  ·rw[List.length_append,List.length_map,List.length_drop,List.length_replicate];exact jA (jH (jA (Nat.sub_le ..) hx) hx) (by decide)
  ·rcases List.mem_append.mp hl with hl|hl
   ·obtain⟨x,_,rfl⟩:=List.mem_map.mp hl
    exact λ e=>absurd (Int.fmod_lt_of_pos x (show(0:Int)<4 by decide)) (by rw[show x.fmod 4=4 from e];decide)
   ·rw[(List.mem_replicate.mp hl).2];decide
 obtain⟨L,eL,hL,h4⟩:=hm
 have g:Done (.fl (xs.map .int)) (.fl ((q3t xs).map mv)) (forA (q2r C) ((q3t xs).map mv) (vM (.fl (xs.map .int)) (.fl ((q3t xs).map mv)) (some (.str (Str.ofString ""))) none none none none none none none none none none none none none none none none none) (Bs w0 [] [] [])):=by
  generalize AV.fl ((q3t xs).map mv)=M
  rw[eL,List.map_cons,List.map_append,<-hC]
  exact(k3s (n+1) w0 [] (.fl (xs.map .int)) M none none none none none none none none none none none none none none none none none 0 _ (by decide) v0x (by decide) (.inl (by decide))).step (z8e (n+1) _ M L 2 h4 (jA (Nat.add_le_add_left hL 2) (by decide)))
 obtain⟨mo,re,k,mr,mx,lw,lj,mh,ml,lf,ly,lh,mq,lk,lm,lx,lr,w,x,nd,ps,d,e,t1,t2,hd⟩:=g
 have eE:q4a C (vM (.fl (xs.map .int)) (.fl ((q3t xs).map mv)) (some (.str d)) mo re k mr mx lw lj mh ml lf ly lh mq lk lm lx lr) (Bs w (nd.map .str) (ps.map entV) x)=some (.ret (.bool true),vM (.fl (xs.map .int)) (.fl ((q3t xs).map mv)) (some (.str d)) mo re k mr mx lw lj mh ml lf ly lh mq lk lm lx lr,Bs w (nd.map .str) (ps.map entV) x):=by
  rw[s_13,k6x t1 rfl hd,q0d,z7o]
  show bnd (bnd (cal C (.bi .sJoin (.str (Str.ofString ""))) (some (.loc 2,Bs w (nd.map .str) (ps.map entV) x))) λ y s=>cmpR s .Eq y (.str d)) _=_
  rw[k6x t2 rfl hd,q0d,z7o,q0d]
 subst hC
 have e12:=(s_12 (q0e T (n+5)) (.fl (xs.map .int)) (some (.str (Str.ofString ""))) none none none none none none none none none none none none none none none none none ((q3t xs).map mv) (σ:=B0)).trans e
 have e11:=v2i (q0e T (n+5)) (σ:=B0) xs hx (some (.str xmlS)) (some (.fl q6f)) (some (.loc 1)) (some (.loc 2)) (some (.obj 3)) (some (.obj 12)) (some (.obj 24)) (some (.loc 32)) (some (.loc 33)) (some (.str (Str.ofString "")))
 exact⟨_,(congrArg fin (k3z n (.fl (xs.map .int)))).trans (k8y e11 e12 eE),rfl⟩
end Mine
end
section
set_option tactic.hygienic false
set_option maxHeartbeats 400000
namespace Mine
theorem k3u {cx:Cx} {g:G}:∀{vs:List Value} {xs:List Int},IntsAre vs xs->VRs cx g (xs.map AV.int) vs
 | _,_,.nil=>.nil
 | _,_,.cons n t h=>.cons (by exact⟨t,rfl⟩) (k3u h)
section
variable {w:World} {s:Shared} {mg mb:Str->Option Value}
theorem run4 (KX:(hd.heap_1 w.params).In s.heap) (KT:s.heap.get? 123=some (tabObj #[])) (hg:s.heap.Ns mainGlobals mg) (hb:s.heap.Ns builtinsNs mb) (lim:s.heap.NoLimit) (bi:∀x:Str,x≠"__name__"->mb x=bootBuiltins x)
  (bm:∃bm ob,mg "__builtins__" = some (.ref bm)/\bm≠builtinsNs/\s.heap.get? bm=some ob/\ob.cls = .type "module"/\ob.dict=some builtinsNs/\ob.data = .plain)
  {fa l:Addr} (hfa:mg (Str.ofString "law")=some (.ref fa)) {vs:List Value} {xs:List Int} {m:Nat} (hl:s.heap.get? l=some { cls:=.type "list",data:=.seq vs.toArray m }) (hI:IntsAre vs xs) (hx:xs.length<=63) :
  wpAny (model PySem.Challenge.rw_dr0133_04.row.prog w) callerA (call (.ref fa) [.ref l]) (λ v s'=>v = .bool true/\OldK s.heap s'.heap/\s'.os=s.os/\s'.gens=s.gens) (λ _ _=>False) s:=by
 have W:=all4 KX hg hb lim bi bm
 have k3:(hd.heap_1 w.params).lookup mainGlobals=some (oAt (hd.heap_1 w.params) mainGlobals):=by kernel_rfl
 have e0:mg (Str.ofString "law")=some (.ref 192):=z8r KX hg k3 (by kernel_rfl)
 rw[e0]at hfa
 rcases hfa
 obtain⟨σ',e,c0⟩:=j4h 0 xs hx
 have hl123:(123:Addr)≠l:=λ q=>by
  simp only[<-q,KT]at hl
  exact absurd (show Value.none=Value.type "list" from congrArg Obj.cls (jI hl)) (λ z=>nomatch z)
 obtain⟨g0,hg0⟩:∃g0:G,g0=⟨(erase s.heap 123).get?,[123],λ _=>none⟩:=⟨_,rfl⟩
 have i0:Inv (cx4 (hd.heap_1 w.params) w s.heap mg mb) g0 [.code] { s with toks:=s.toks+1 }:=by
  subst hg0
  refine⟨λ a o e=>z1q e,λ a o e=>e,rfl,by simp,λ a ha=>?_,λ j o a ej ea=>?_,Nat.succ_le_succ (Nat.zero_le _),λ _ _ h=>nomatch h⟩
  ·rw[jJ ha];exact w0d _ _
  ·induction j with
   | zero=>
    obtain rfl:=jI ej
    obtain rfl:=jI ea
    exact⟨rfl,#[],KT,by trivial,.inl rfl⟩
   | succ j=>exact absurd (show(none:Option AObj)=some o from ej) (λ h=>nomatch h)
 have q0:VR (cx4 (hd.heap_1 w.params) w s.heap mg mb) g0 (.fl (xs.map AV.int)) (.ref l):=by
  refine⟨l,_,vs,rfl,by subst hg0;exact(q9a _ hl123).trans hl,⟨m,rfl⟩,k3u hI,by rw[List.length_map,sizeLine_eq];exact jA hx (by decide)⟩
 have hA:w8k 6 callerA:=⟨rfl,by trivial,by trivial⟩
 have e2:q0e T (5+1) 192 [.fl (xs.map .int)] [] [.code]=some (.bool true,σ'):=e
 have hA2:w8k (5+1) callerA:=hA
 clear e
 have run:=j9u (a:=192) (w:=.fl (xs.map .int)) (v:=.bool true) (σ:=[.code]) (σ':=σ') (f:=top "law") (y:=Str.ofString "script") W 5 (by kernel_rfl) (by kernel_rfl) (by kernel_rfl) (by kernel_rfl) (by kernel_rfl) (by kernel_rfl) e2 hA2 i0 q0
 (refine wpAny_mono (q2d (cx:=cx4 (hd.heap_1 w.params) w s.heap mg mb) run) (λ v s' zz0=>?_) λ _ _ x=>x.elim;obtain⟨g',a,i,r⟩:=zz0)
 refine⟨r,⟨λ b o eb=>?_,λ b o eb=>a.stay b o eb⟩,a.os,a.gens⟩
 by_cases hb:b=123
 ·subst hb
  rw[KT]at eb
  obtain rfl:=jI eb
  obtain⟨ρ',hρ⟩:=a.le.ρ
  have h0:g'.ρ[0]? = some 123:=by rw[hρ,hg0];rfl
  obtain⟨_,ps,hps,_⟩:=i.cells 0 .code 123 c0 h0
  rcases _:W.lam.code with⟨oc,fs,_,_,_,_,_,_,_,h1,h2,h3,h4,_⟩
  exact .inr (.inl ⟨⟨125,oc,fs,z1q h1,h2,h3,h4⟩,rfl,#[],ps,rfl,by rw[Array.empty_append];exact hps⟩)
 ·exact .inl (a.keep b o eb (by rw[hg0];simpa using hb) (by simp))
end
end Mine
end
section
set_option maxHeartbeats 8000000
theorem PySem.Challenge.cw_dr0133_04_holds : PySem.Challenge.rw_dr0133_04.Holds :=
 ⟨Mine.said, hd (by
 intro w s0 s₁ mg mb G Y fa o pm cd doc dV kV ho hdd hcd hD hmg hg args vals as hpre hlay hrd hwl hlo
 clear hD hcd hdd ho
 have KX := km_in_of Y
 have KT := km_tabs_of Y 123 (by decide)
 have Tp := G.T
 have hmg' : mg (Str.ofString "law") = some (.ref fa) := hmg
 clear hmg G Y
 wrow_args hpre hlay hrd hwl hlo
 rename_i xs _ _ _ _ _ _ _ l vs _ hL _ w1 _ hI _ hlen _
 obtain ⟨m, hl⟩ : ∃ m, s₁.heap.get? l = some { cls := .type "list", data := .seq vs.toArray m } := by
  rcases _ : hL with ⟨o, e1, e2, n, e3⟩
  have w2 : Well w.params s₁.heap (Value.ref l) (.list (ofPys (xs.map PyData.int))) := w1
  cases w2 with
  | list e4 _ =>
   rw [e1] at e4
   obtain rfl := Option.some.inj e4
   refine ⟨n, ?_⟩
   rw [e1]
   exact congrArg (λ d => some ({ cls := .type "list", data := d } : Obj)) e3
 refine wpAny_mono (Mine.run4 KX KT Tp.g Tp.b Tp.nolimit Tp.builtins Tp.bmain hmg' hl hI (by lia)) (λ v s' ⟨e, k, os, gs⟩ => ?_) λ _ _ x => x.elim
 subst e
 exact ⟨.inl ⟨.bool true, .bool true, [], rfl, raisesW_false (by wrow_none_raised), .bool true, by wrow_post, λ _ => ⟨List.nodup_nil, λ _ h => nomatch h⟩⟩, k, os, .of_eq (gs.trans hg)⟩)⟩
end
